/- Part of the proof that laws.FnRawTokens returns true for every argument. No conditions. -/
import Derived.Test.YtdjdjbpnbjdaaaaGreatDoorP14
set_option linter.all false
set_option maxHeartbeats 8000000
set_option maxRecDepth 100000
namespace Go.Proofs.YtdjdjbpnbjdaaaaGreatDoor
open Go Go.RowKit
abbrev MJ:Bs:=[33,45,45]
abbrev bcV:Value:=.string ⟨#[33,45,45]⟩
theorem Ip (j:Nat) (hj:j<3):MJ.take j++[MJ.getD j 0]=MJ.take (j+1):=by
 have:j=0∨j=1∨j=2:=by omega
 rcases this with rfl|rfl|rfl<;>rfl
def a0d (x:Cx) (c:DC) (w0:World) (v0:DV) (r:Bs) (bf:Bs) (i:Nat) (v4 v21 v22:Value) (k:Nat) (a:Act) (w:World):Prop:=
 ∃ f v j,a=fr 731 f [(0,bS x),(4,v4),(21,v21),(22,v22),(23,bcV),(24,.int .i64 (i:Nat)),(25,.int .i64 (j:Nat))]∧bX x c w v r none (bf++MJ.take j)∧cK x w0 v0 w v∧k=i-j∧j≤i
theorem Iq (x:Cx) (hx:x.All) (c:DC) (w:World) (v:DV) (r:Bs) (bf:Bs) (hl:bf.length≤10000000000000) (h:bX x c w v r none bf) (i:Nat) (hi:i≤2) (v4 v21:Value) (dp:Int) (nR:-3000000000≤dp) (FI:dp≤3000000000) (Q:Exit→Act→World→Prop)
  (pB:∀ f w' v',bX x c w' v' r none (bf++MJ.take i)→cK x w v w' v'→Q (.goto 0) (fr 731 f [(0,bS x),(4,v4),(21,v21),(22,.int .i64 (dp+1))]) w') (f:Nat→Value) :
  (dM 138).wp Tryz.prog Q (fr 731 f [(0,bS x),(4,v4),(21,v21),(22,.int .i64 dp),(23,bcV),(24,.int .i64 i)]) w:=by
 have HX:=Lh hx
 have DL:=Lh pB
 have H:=Lh h
 have HL:=Lh hl
 have hdp:IntKind.i64.wrap (dp+1)=dp+1:=by rw [IntKind.wrap_i64];omega
 clear hx pB h hl nR FI
 unfold dM
 conv=>arg 2;whnf
 (refine vg ?_;intro K hK)
 (refine cJ [0,4,21,22,23,24,25] fun f=>?_)
 have h0:bX x c w v r none (bf++MJ.take 0):=by rw [show MJ.take 0=[] from rfl,List.append_nil];exact H.out
 refine wp_loop_ghost_k (a0d x c w v r bf i v4 v21 (.int .i64 dp)) i ⟨f,v,0,rfl,h0,cK.refl x w v,rfl,Nat.zero_le _⟩ ?_
 clear h0
 rintro k _ w6 ⟨f,v6,j,rfl,h6,yX,hk,hj⟩ J K2 hJ cY
 have HJ:=Lh hJ
 have dN:=Lh cY
 have nD:=Lh yX
 have HK:=Lh hk
 have H6:=Lh h6
 clear hJ cY yX hk h6
 by_cases tF:j=i
 ·subst tF
  have bB:¬ ((j:Int)<(j:Int)):=by omega
  (revert K;refine vg ?_)
  refine wp_goto ?_
  (try simp only [Exit.then,Exit.inBlock])
  refine Qk [0,4,21,22] fun f=>?_
  exact DL.out f w6 v6 H6.out nD.out
 ·have bB:(j:Int)<(i:Int):=by omega
  have hj3:j<3:=by omega
  have a5Z:(j:Int)<3:=by omega
  have hj0:(0:Int)≤(j:Int):=by omega
  obtain ⟨p,hp⟩:∃ p,p=MJ.getD j 0:=⟨_,rfl⟩
  have Yd:∀ h,(⟨#[33,45,45]⟩:ByteArray)[j]'h=p:=by
   intro h;rw [hp];exact Yc MJ j h
  have hi1:IntKind.i64.wrap ((j:Int)+1)=((j+1:Nat):Int):=by rw [IntKind.wrap_i64];omega
  have GP:=Lh (show (bf++MJ.take j)++[p]=bf++MJ.take (j+1) by rw [List.append_assoc,hp,Ip j hj3])
  have HJI:=Lh (show j+1≤i by omega)
  have mZ:=Lh (fun kk=>gF x HX.out.toOk c (w6.drewN kk) v6 r none (bf++MJ.take j) (H6.out.drewN HX.out.toOk kk) p (by have:=HL.out;simp only [List.length_append,List.length_take,List.length_cons,List.length_nil];omega))
  clear hp hj hi tF
  (revert K;refine vg ?_;(repeat with_reducible intro K hK))
  (refine aI [0,0,0,0,0,0,2] [0,1,2,3,4,5,6] (by kernel_rfl) (by kernel_rfl) ?_;refine vP ?_;repeat with_reducible intro nq)
  (refine bK rfl rfl (fun nq K hK=>?_);go_simp)
  refine (mZ.out _).mono ?_
  rintro e8 w8 ⟨rfl,v8,⟨h8,LP,SP⟩,_⟩
  have xL:=Lh ((nD.out.drawn _).trans SP)
  have E6:=Lh h8
  clear h8 LP SP mZ
  (go_simp;refine hK.out _ _ ?_;clear hK K)
  (refine vP ?_;repeat with_reducible intro nq)
  ((repeat revert K);refine vg ?_;intro K hK)
  (refine Kk [0,4,21,22,23,24,25] fun f=>?_)
  refine dN.out _ _ ⟨i-(j+1),by rw [HK.out];omega,HJ.out _ _ _ ⟨f,v8,j+1,rfl,?_,xL.out.drawn _,rfl,HJI.out⟩⟩
  have:=E6.out.drewN HX.out.toOk nq
  rw [GP.out] at this
  exact this
def fF (f:Bool) (inq:UInt8) (dp:Int) (buf:Bs) (i:Nat) (rest:Bs):Except EK (Bs×Bs):=
 if 3≤i then (match cR f rest 0 0 with
  | .error e=>.error e
  | .ok r4=>fG f r4 inq dp (buf++[32]))
 else match rest with
  | []=>.error (bW f)
  | c::r=>if c=MJ.getD i 0 then fF f inq dp buf (i+1) r else iD f c r inq (dp+1) ((buf++[60])++MJ.take i)
termination_by 3-i
theorem U7 (f:Bool) (dp:Int) (buf rest:Bs):iD f 60 rest 0 dp buf=fF f 0 dp buf 0 rest:=by
 rw [iD.eq_def]
 rw [if_neg (by decide),if_neg (by simp),if_neg (by decide),if_neg (by decide),if_pos rfl]
 unfold fF
 rw [if_neg (by decide)]
 cases rest with
 | nil=>rfl
 | cons c1 r1=>
  simp only
  by_cases h1:c1=33
  ·rw [if_pos h1,if_pos (by rw [h1];rfl)]
   unfold fF
   rw [if_neg (by decide)]
   cases r1 with
   | nil=>rfl
   | cons c2 r2=>
    simp only
    by_cases h2:c2=45
    ·rw [if_pos h2,if_pos (by rw [h2];rfl)]
     unfold fF
     rw [if_neg (by decide)]
     cases r2 with
     | nil=>rfl
     | cons c3 r3=>
      simp only
      by_cases h3:c3=45
      ·rw [if_pos h3,if_pos (by rw [h3];rfl)]
       unfold fF
       rw [if_pos (by decide)]
       cases hk:cR f r3 0 0 with
       | error e=>
        split
        ·rename_i h;simp only [Except.error.injEq] at h;rw [h]
        ·rename_i h;cases h
       | ok r4=>
        split
        ·rename_i h;cases h
        ·rename_i h;simp only [cI] at h;rw [h]
      ·rw [if_neg h3,if_neg (by intro h;exact h3 h)]
       simp
    ·rw [if_neg h2,if_neg (by intro h;exact h2 h)]
     simp
  ·rw [if_neg h1,if_neg (by intro h;exact h1 h)]
   simp
structure QH (x:Cx) (c:DC) (w:World) (v:DV) (R:Except EK (Bs×Bs)) (N m:Nat) (Q:Exit→Act→World→Prop):Prop where
 next:∀ f w' v' rest' inq' dp' buf',bX x c w' v' rest' none buf'→cK x w v w' v'→R=fG x.o.fails rest' inq' dp' buf'→rest'.length<m→1≤buf'.length→buf'.length+rest'.length≤N→dp'.natAbs+rest'.length≤N→Q .normal (fr 731 f [(0,bS x),(21,.int .u8 (UInt8.toNat inq')),(22,.int .i64 dp')]) w'
 goto:∀ f w' v' b rest' inq' dp' buf',bX x c w' v' rest' none buf'→cK x w v w' v'→R=iD x.o.fails b rest' inq' dp' buf'→rest'.length+1<m→buf'.length+1+rest'.length≤N→dp'.natAbs+1+rest'.length≤N→Q (.goto 0) (fr 731 f [(0,bS x),(4,.int .u8 (UInt8.toNat b)),(21,.int .u8 (UInt8.toNat inq')),(22,.int .i64 dp')]) w'
 bad:∀ k,R=.error k→∀ f w' v',jP x c w' v' k→cK x w v w' v'→Q .ret (fr 731 f [(2,.nilIface),(3,v'.err)]) w'
def a0e (x:Cx) (c:DC) (w0:World) (v0:DV) (R:Except EK (Bs×Bs)) (m0:Nat) (bf:Bs) (dp:Int) (k:Nat) (a:Act) (w:World):Prop:=
 ∃ f v rest i,a=fr 731 f [(0,bS x),(21,.int .u8 0),(22,.int .i64 dp),(23,bcV),(24,.int .i64 (i:Nat))]∧bX x c w v rest none (bf++[60])∧cK x w0 v0 w v∧k=3-i∧i≤3∧R=fF x.o.fails 0 dp bf i rest∧i+rest.length=m0
theorem U8 (x:Cx) (hx:x.All) (c:DC) (dR:iU x c) (w:World) (v:DV) (rest:Bs) (bf:Bs) (dp:Int) (N m:Nat) (hN:N≤2000000000) (h:bX x c w v rest none (bf++[60])) (hb:bf.length+1+rest.length≤N) (hd:dp.natAbs+1+rest.length≤N) (hm:rest.length<m) (Q:Exit→Act→World→Prop)
  (hQ:QH x c w v (fF x.o.fails 0 dp bf 0 rest) N m Q) (f:Nat→Value) :
  (dM 130).wp Tryz.prog Q (fr 731 f [(0,bS x),(21,.int .u8 0),(22,.int .i64 dp)]) w:=by
 have HX:=Lh hx
 have HD:=Lh dR
 have HQ:=Lh hQ
 have H:=Lh h
 have rJ:=Lh hb
 have JJ:=Lh hd
 have HM:=Lh hm
 have HN:=Lh hN
 clear hx dR hQ h hb hd hm hN
 unfold dM
 conv=>arg 2;whnf
 (refine vg ?_;intro K hK)
 (refine cJ [0,21,22,23,24] fun f=>?_)
 refine wp_loop_ghost_k (a0e x c w v (fF x.o.fails 0 dp bf 0 rest) rest.length bf dp) 3 ⟨f,v,rest,0,rfl,H.out,cK.refl x w v,rfl,by omega,rfl,by omega⟩ ?_
 rintro k _ w6 ⟨f,v6,rest6,i,rfl,h6,yX,hk,hi,hR,bF⟩ J K2 hJ cY
 have HJ:=Lh hJ
 have dN:=Lh cY
 have nD:=Lh yX
 have HK:=Lh hk
 have H6:=Lh h6
 have HR:=Lh hR
 have cL:=Lh bF
 clear hJ cY yX hk h6 hR bF
 by_cases hi3:i=3
 ·subst hi3
  have U4:fF x.o.fails 0 dp bf 0 rest=(match cR x.o.fails rest6 0 0 with
   | .error e=>.error e
   | .ok r4=>fG x.o.fails r4 0 dp (bf++[32])):=by rw [HR.out];unfold fF;rw [if_pos (by decide)]
  have DP:=Lh U4
  clear U4
  have Gp:=Lh (fun Q pB gO f=>Io x HX.out c HD.out w6 v6 rest6 bf (by have:=rJ.out;have:=HN.out;omega) H6.out (.int .u8 0) (.int .i64 dp) Q pB gO f)
  (revert K;refine vT 143 ?_)
  (refine cJ [0,21,22] fun f=>?_)
  refine aY (Gp.out _ ?_ ?_ f) (by kernel_rfl)
  ·intro r4 T6 f w' v' hr hs
   have Sp:=Lh hr
   have ZW:=Lh hs
   have bB:=lE T6
   have SN:=Lh (show fF x.o.fails 0 dp bf 0 rest=fG x.o.fails r4 0 dp (bf++[32]) by rw [DP.out,T6])
   have zW:=Lh bB
   clear hr hs bB T6
   refine vg ?_
   refine HQ.out.next f w' v' r4 0 dp (bf++[32]) Sp.out (nD.out.trans ZW.out) SN.out ?_ (by simp) ?_ ?_
   ·have:=zW.out;have:=cL.out;have:=HM.out;omega
   ·have:=zW.out;have:=cL.out;have:=rJ.out;simp only [List.length_append,List.length_cons,List.length_nil];omega
   ·have:=zW.out;have:=cL.out;have:=JJ.out;omega
  ·intro k hk f w' v' hE hs
   have HE':=Lh hE
   have ZW:=Lh hs
   have BW:=Lh (show fF x.o.fails 0 dp bf 0 rest=.error k by rw [DP.out,hk])
   clear hE hs hk
   refine vg ?_
   exact HQ.out.bad k BW.out f w' v' HE'.out (nD.out.trans ZW.out)
 ·have bB:(i:Int)<3:=by omega
  have a0b:i<3:=by omega
  have Fe:(0:Int)≤(i:Int):=by omega
  obtain ⟨p,hp⟩:∃ p,p=MJ.getD i 0:=⟨_,rfl⟩
  have Yd:∀ h,(⟨#[33,45,45]⟩:ByteArray)[i]'h=p:=by
   intro h;rw [hp];exact Yc MJ i h
  have hi1:IntKind.i64.wrap ((i:Int)+1)=((i+1:Nat):Int):=by rw [IntKind.wrap_i64];omega
  have HI:=Lh hi
  have HP:=Lh hp
  clear hp hi hi3
  cases rest6 with
  | nil=>
   have fD:=Lh (bJ x HX.out.toOk c HD.out w6 v6 _ _ H6.out)
   have BW:=Lh (show fF x.o.fails 0 dp bf 0 rest=.error (bW x.o.fails) by rw [HR.out];unfold fF;rw [if_neg (by omega)])
   (revert K;refine vg ?_;(repeat with_reducible intro K hK))
   refine fD.out.mono ?_
   rintro e7 w7 ⟨rfl,v7,hE,sP,fU⟩
   have rH:=Lh (nD.out.s0 fU sP)
   obtain ⟨t1,u1,oQ⟩:=hE.err.iface
   have HE:=Lh hE
   have hc:=hE.dec.cell
   have hf:=hE.dec.frozen
   have HU:=Lh oQ
   clear hE fU sP fD
   ((repeat revert K);refine vS ?_;(repeat with_reducible intro K hK))
   ((refine cJ [0] fun f=>?_);go_quiet (fail);((repeat revert K);refine vg ?_;(repeat with_reducible intro K hK));refine Qk [2,3] fun f=>?_)
   rw [←HU.out]
   exact HQ.out.bad _ BW.out f _ v7 (HE.out.drewN _) (rH.out.drawn _)
  | cons b r=>
   have fD:=Lh (bH x HX.out.toOk c HD.out w6 v6 b r _ _ H6.out)
   (revert K;refine vg ?_;(repeat with_reducible intro K hK))
   refine fD.out.mono ?_
   rintro e7 w7 ⟨rfl,v7,h7,SO,sP,fU,ZU⟩
   have rH:=Lh (nD.out.s0 fU sP)
   have DR:=Lh h7
   clear h7 SO sP fU ZU fD
   by_cases hb:b=p
   ·subst hb
    have fB:=Lh (show fF x.o.fails 0 dp bf 0 rest=fF x.o.fails 0 dp bf (i+1) r by rw [HR.out,fF.eq_def,if_neg (by omega)];exact if_pos HP.out)
    ((repeat revert K);refine vS ?_;intro K hK)
    (refine Kk [0,21,22,23,24] fun f=>?_)
    exact dN.out _ _ ⟨3-(i+1),by rw [HK.out];omega,HJ.out _ _ _ ⟨f,v7,r,i+1,rfl,DR.out,rH.out,rfl,by omega,fB.out,by have:=cL.out;simp at this;omega⟩⟩
   ·have vG:((b.toNat:Int)==(p.toNat:Int))=false:=eU hb rfl
    have QF:((b.toNat:Int) != (p.toNat:Int))=true:=uF hb rfl
    have fB:=Lh (show fF x.o.fails 0 dp bf 0 rest=iD x.o.fails b r 0 (dp+1) ((bf++[60])++MJ.take i) by rw [HR.out,fF.eq_def,if_neg (by omega)];exact if_neg (by rw [←HP.out];exact hb))
    have KQ:=Lh (fun Q pB f=>Iq x HX.out c w7 v7 r (bf++[60]) (by have:=rJ.out;have:=HN.out;simp only [List.length_append,List.length_cons,List.length_nil];omega) DR.out i (by omega) (.int .u8 b.toNat) (.int .u8 0) dp (by have:=JJ.out;have:=HN.out;omega) (by have:=JJ.out;have:=HN.out;omega) Q pB f)
    clear hb
    go_simp
    ((repeat revert K);refine vT 138 ?_;(repeat with_reducible intro K hK))
    (refine cJ [0,4,21,22,23,24] fun f=>?_)
    refine aY (KQ.out _ ?_ f) (by kernel_rfl)
    intro f w' v' hr hs
    have Sp:=Lh hr
    have ZW:=Lh hs
    clear hr hs
    ((repeat revert K);refine vg ?_;(repeat with_reducible intro K hK))
    refine HQ.out.goto f w' v' b r 0 (dp+1) _ Sp.out (rH.out.trans ZW.out) fB.out ?_ ?_ ?_
    ·have h1:=cL.out;have h2:=HM.out;rw [List.length_cons] at h1;omega
    ·have h1:=cL.out;have h2:=rJ.out;rw [List.length_cons] at h1;simp only [List.length_append,List.length_cons,List.length_nil,List.length_take];omega
    ·have h1:=cL.out;have h2:=JJ.out;simp only [List.length_cons] at h1;omega
theorem a0f {b c:UInt8} (h:b=c):((b.toNat:Int)==(c.toNat:Int))=true:=by subst h;simp
theorem SQ (x:Cx) (hx:x.All) (c:DC) (dR:iU x c) (w:World) (v:DV) (b:UInt8) (r:Bs) (inq:UInt8) (dp:Int) (buf:Bs) (N:Nat) (hN:N≤2000000000) (h:bX x c w v r none buf) (hb:buf.length+1+r.length≤N) (hd:dp.natAbs+1+r.length≤N) (Q:Exit→Act→World→Prop)
  (hQ:QH x c w v (iD x.o.fails b r inq dp buf) N (r.length+1) Q) (f:Nat→Value) :
  (dM 121).wp Tryz.prog Q (fr 731 f [(0,bS x),(4,.int .u8 b.toNat),(21,.int .u8 inq.toNat),(22,.int .i64 dp)]) w:=by
 have mZ:=Lh (gF x hx.toOk c w v r none buf h b (by omega))
 have HX:=Lh hx
 have HD:=Lh dR
 have HQ:=Lh hQ
 have rJ:=Lh hb
 have JJ:=Lh hd
 have HN:=Lh hN
 have HB8:=Lh (show (buf++[b]).length=buf.length+1 by simp)
 have hdp:IntKind.i64.wrap (dp-1)=dp-1:=by rw [IntKind.wrap_i64];omega
 clear hx dR hQ h hb hd hN
 unfold dM
 conv=>arg 2;whnf
 (refine vg ?_;(repeat with_reducible intro K hK))
 refine mZ.out.mono ?_
 rintro e8 w8 ⟨rfl,v8,⟨h8,LP,SP⟩,_⟩
 have xL:=Lh SP
 have E6:=Lh h8
 clear h8 LP SP mZ
 have MK:=Lh (fun (inq':UInt8) (dp':Int) (hR:iD x.o.fails b r inq dp buf=fG x.o.fails r inq' dp' (buf++[b])) (hdp:dp'.natAbs+r.length≤N) (f:Nat→Value)=>
  HQ.out.next f w8 v8 r inq' dp' (buf++[b]) E6.out xL.out hR (by omega) (by simp) (by have:=rJ.out;have:=HB8.out;omega) hdp)
 by_cases h1:b=inq
 ·have t1:=a0f h1
  have HR:=Lh (show iD x.o.fails b r inq dp buf=fG x.o.fails r 0 dp (buf++[b]) by rw [iD.eq_def,if_pos h1])
  clear h1
  ((repeat revert K);refine vS ?_)
  refine Qk [0,21,22] fun f=>?_
  exact MK.out 0 dp HR.out (by have:=JJ.out;omega) f
 ·have t1:((b.toNat:Int)==(inq.toNat:Int))=false:=eU h1 rfl
  by_cases h2:inq=0
  ·subst h2
   have t1':=eU (n:=0) h1 rfl
   by_cases h3:b=39∨b=34
   ·have HR:=Lh (show iD x.o.fails b r 0 dp buf=fG x.o.fails r b dp (buf++[b]) by rw [iD.eq_def,if_neg h1,if_neg (by simp),if_pos h3])
    have vO:((b.toNat:Int)==39)=true∨(((b.toNat:Int)==39)=false∧((b.toNat:Int)==34)=true):=by
     rcases h3 with rfl|rfl
     ·exact Or.inl rfl
     ·exact Or.inr ⟨rfl,rfl⟩
    have ZX:=Lh (MK.out b dp HR.out (by have:=JJ.out;omega))
    clear h1 h3
    rcases vO with t2|⟨t2,t3⟩
    all_goals
     ((repeat revert K);refine vS ?_)
     refine Qk [0,21,22] fun f=>?_
     exact ZX.out f
   ·have t2:=eU (n:=39) (fun hh=>h3 (Or.inl hh)) rfl
    have t3:=eU (n:=34) (fun hh=>h3 (Or.inr hh)) rfl
    by_cases h4:b=62
    ·subst h4
     have HR:=Lh (show iD x.o.fails 62 r 0 dp buf=fG x.o.fails r 0 (dp-1) (buf++[62]) by rw [iD.eq_def,if_neg h1,if_neg (by simp),if_neg h3,if_pos rfl])
     have ZX:=Lh (MK.out 0 (dp-1) HR.out (by have:=JJ.out;omega))
     clear h1 h3
     ((repeat revert K);refine vS ?_)
     refine Qk [0,21,22] fun f=>?_
     exact ZX.out f
    ·have t4:=eU (n:=62) h4 rfl
     by_cases h5:b=60
     ·subst h5
      have wM:=Lh (U7 x.o.fails dp buf r)
      have Od:=Lh (fun Q hq f=>U8 x HX.out c HD.out w8 v8 r buf dp N (r.length+1) HN.out E6.out rJ.out JJ.out (by omega) Q hq f)
      clear h1 h3 h4
      go_simp
      ((repeat revert K);refine vT 130 ?_)
      (refine cJ [0,21,22] fun f=>?_)
      refine aY (Od.out _ ?_ f) (by kernel_rfl)
      refine ⟨?_,?_,?_⟩
      ·intro f w' v' rest' inq' dp' buf' hr hs hR bB eZ hb hd
       have Sp:=Lh hr
       have ZW:=Lh (xL.out.trans hs)
       have HG:=Lh (show iD x.o.fails 60 r 0 dp buf=fG x.o.fails rest' inq' dp' buf' by rw [wM.out,hR])
       have zW:=Lh bB
       have o5:=Lh eZ
       have HB':=Lh hb
       have I2:=Lh hd
       clear hr hs hR bB eZ hb hd
       refine vg ?_
       exact HQ.out.next f w' v' rest' inq' dp' buf' Sp.out ZW.out HG.out zW.out o5.out HB'.out I2.out
      ·intro f w' v' b' rest' inq' dp' buf' hr hs hR bB hb hd
       have Sp:=Lh hr
       have ZW:=Lh (xL.out.trans hs)
       have HG:=Lh (show iD x.o.fails 60 r 0 dp buf=iD x.o.fails b' rest' inq' dp' buf' by rw [wM.out,hR])
       have zW:=Lh bB
       have HB':=Lh hb
       have I2:=Lh hd
       clear hr hs hR bB hb hd
       refine vg ?_
       exact HQ.out.goto f w' v' b' rest' inq' dp' buf' Sp.out ZW.out HG.out zW.out HB'.out I2.out
      ·intro k hk f w' v' hE hs
       have HE':=Lh hE
       have ZW:=Lh (xL.out.trans hs)
       have HG:=Lh (show iD x.o.fails 60 r 0 dp buf=.error k by rw [wM.out,hk])
       clear hE hs hk
       refine vg ?_
       exact HQ.out.bad k HG.out f w' v' HE'.out ZW.out
     ·have t5:=eU (n:=60) h5 rfl
      have HR:=Lh (show iD x.o.fails b r 0 dp buf=fG x.o.fails r 0 dp (buf++[b]) by rw [iD.eq_def,if_neg h1,if_neg (by simp),if_neg h3,if_neg h4,if_neg h5])
      have ZX:=Lh (MK.out 0 dp HR.out (by have:=JJ.out;omega))
      clear h1 h3 h4 h5
      ((repeat revert K);refine vS ?_)
      refine Qk [0,21,22] fun f=>?_
      exact ZX.out f
  ·have t2:((inq.toNat:Int) != 0)=true:=uF (c:=0) h2 rfl
   have t2':((inq.toNat:Int)==0)=false:=eU (c:=0) h2 rfl
   have HR:=Lh (show iD x.o.fails b r inq dp buf=fG x.o.fails r inq dp (buf++[b]) by rw [iD.eq_def,if_neg h1,if_pos h2])
   clear h1 h2
   ((repeat revert K);refine vS ?_)
   refine Qk [0,21,22] fun f=>?_
   exact MK.out inq dp HR.out (by have:=JJ.out;omega) f
theorem sH {p:Nat→Prop} (h:∃ k,p k):∃ k,p k∧∀ j,p j→k≤j:=by
 obtain ⟨k,hk⟩:=h
 induction k using Nat.strongRecOn with
 | _ k ih=>
  by_cases hh:∃ j,j<k∧p j
  ·obtain ⟨j,hj,hp⟩:=hh
   exact ih j hj hp
  ·exact ⟨k,hk,fun j hj=>Nat.le_of_not_lt fun bB=>hh ⟨j,bB,hj⟩⟩
theorem qW {P:Program} {a:Act} {w:World} {Q:Exit→Act→World→Prop} {c rest:Code} (l:Nat) (J:Nat→Act→World→Prop) (hf:findLabel c l=some rest)
  (first:c.wp P (Exit.jump l (fun a w=>∃ k,J k a w) Q) a w)
  (pass:∀ k a w,J k a w→rest.wp P (Exit.jump l (fun a' w'=>∃ k',k'<k∧J k' a' w') Q) a w):(Code.scope c).wp P Q a w:=by
 classical
 refine wp_scope_jumps l (fun a w=>∃ k,J k a w) (fun a w=>if h:∃ k,J k a w then Classical.choose (sH h) else 0) hf first ?_
 intro a w h
 have h1:=Classical.choose_spec (sH h)
 refine Code.wp_mono ?_ (pass _ a w h1.1)
 intro e a' w' hq
 cases e with
 | goto l'=>
  obtain ⟨hl,k',hk,hj⟩:=hq
  refine ⟨hl,⟨k',hj⟩,?_⟩
  rw [dif_pos (show ∃ k,J k a' w' from ⟨k',hj⟩),dif_pos h]
  exact Nat.lt_of_le_of_lt ((Classical.choose_spec (sH (show ∃ k,J k a' w' from ⟨k',hj⟩))).2 k' hj) hk
 | _=>exact hq
def nG (o:cU) (b:UInt8) (r:Bs):Except EK (aP×Bs):=
 match fG o.fails r 0 0 [b] with
 | .error e=>.error e
 | .ok (d,r2)=>.ok (.dir d,r2)
def a0g (x:Cx) (c:DC) (w0:World) (v0:DV) (R:Except EK (Bs×Bs)) (k:Nat) (a:Act) (w:World):Prop:=
 ∃ f v rest inq dp buf,a=fr 731 f [(0,bS x),(21,.int .u8 (UInt8.toNat inq)),(22,.int .i64 dp)]∧bX x c w v rest none buf∧cK x w0 v0 w v∧k=rest.length ∧
  R=fG x.o.fails rest inq dp buf∧1≤buf.length∧buf.length+rest.length≤1100000000∧dp.natAbs+rest.length≤1100000000
def a0h (x:Cx) (c:DC) (w0:World) (v0:DV) (R:Except EK (Bs×Bs)) (m:Nat) (k:Nat) (a:Act) (w:World):Prop:=
 ∃ f v b rest inq dp buf,a=fr 731 f [(0,bS x),(4,.int .u8 (UInt8.toNat b)),(21,.int .u8 (UInt8.toNat inq)),(22,.int .i64 dp)]∧bX x c w v rest none buf∧cK x w0 v0 w v∧k=rest.length∧rest.length<m ∧
  R=iD x.o.fails b rest inq dp buf∧buf.length+1+rest.length≤1100000000∧dp.natAbs+1+rest.length≤1100000000
theorem Sq (x:Cx) (hx:x.All) (c:DC) (dR:iU x c) (w:World) (v:DV) (b:UInt8) (rest:Bs) (buf:Bs) (h:bX x c w v rest none buf) (Q:Exit→Act→World→Prop)
  (hQ:∀ f w' t e,lP x c w v (nG x.o b rest) t e w'→Q .ret (fr 731 f [(2,t),(3,e)]) w') (f:Nat→Value) :
  (dM 113).wp Tryz.prog Q (fr 731 f [(0,bS x),(4,.int .u8 b.toNat)]) w:=by
 have B1:=Lh (rV x hx.toOk c w v rest none buf h)
 have HX:=Lh hx
 have HD:=Lh dR
 have HQ:=Lh hQ
 have ON:=Lh (show rest.length≤1000000000 from Nat.le_trans (h.suf.length_le) hx.len)
 clear hx dR hQ h
 unfold dM
 conv=>arg 2;whnf
 (refine vg ?_;(repeat with_reducible intro K hK))
 refine B1.out.mono ?_
 rintro e1 w1 ⟨rfl,v1,h1,iL,bP,eA,iR⟩
 have iS:=Lh (cK.ofS0 eA bP)
 have mZ:=Lh (gF x HX.out.toOk c w1 v1 rest none [] h1 b (by simp))
 clear h1 iL bP eA iR B1
 ((repeat revert K);refine vS ?_;(repeat with_reducible intro K hK))
 refine mZ.out.mono ?_
 rintro e2 w2 ⟨rfl,v2,⟨h2,gK,gS⟩,_⟩
 have gH:=Lh (iS.out.trans gS)
 have fB:=Lh (show bX x c w2 v2 rest none [b] from h2)
 clear h2 gK gS mZ iS
 ((repeat revert K);refine vS ?_;intro K hK)
 (refine cJ [0,21,22] fun f=>?_)
 refine wp_loop_ghost_k (a0g x c w v (fG x.o.fails rest 0 0 [b])) rest.length ⟨f,v2,rest,0,0,[b],rfl,fB.out,gH.out,rfl,rfl,by simp,by have:=ON.out;simp;omega,by have:=ON.out;simp;omega⟩ ?_
 rintro k _ w6 ⟨f,v6,rest6,inq,dp,bf,rfl,h6,yX,hk,hR,eZ,hb,hd⟩ J K2 hJ cY
 have HJ:=Lh hJ
 have dN:=Lh cY
 have nD:=Lh yX
 have HK:=Lh hk
 have H6:=Lh h6
 have HR:=Lh hR
 have o5:=Lh eZ
 have rJ:=Lh hb
 have JJ:=Lh hd
 clear hJ cY yX hk h6 hR eZ hb hd
 refine wp_block ?_
 refine qW (rest:=.seq .skip (dM 121)) 0 (a0h x c w v (fG x.o.fails rest 0 0 [b]) rest6.length) (by kernel_rfl) ?_ ?_
 ·cases rest6 with
  | nil=>
   have fD:=Lh (bJ x HX.out.toOk c HD.out w6 v6 _ _ H6.out)
   have BW:=Lh (show nG x.o b rest=.error (bW x.o.fails) by unfold nG;rw [HR.out];unfold fG;rfl)
   (revert K;refine vg ?_;(repeat with_reducible intro K hK))
   refine fD.out.mono ?_
   rintro e7 w7 ⟨rfl,v7,hE,sP,fU⟩
   have rH:=Lh (nD.out.s0 fU sP)
   obtain ⟨t1,u1,oQ⟩:=hE.err.iface
   have HE:=Lh hE
   have hc:=hE.dec.cell
   have hf:=hE.dec.frozen
   have HU:=Lh oQ
   clear hE fU sP fD
   ((repeat revert K);refine vS ?_;(repeat with_reducible intro K hK))
   (refine cJ [0] fun f=>?_)
   go_quiet (fail)
   ((repeat revert K);refine vg ?_;(repeat with_reducible intro K hK))
   simp only [Exit.jump]
   ((repeat revert K);refine vg ?_;(repeat with_reducible intro K hK))
   refine Qk [2,3] fun f=>?_
   exact HQ.out f _ _ _ ⟨v7,rH.out.drawn _,by rw [BW.out];exact ⟨rfl,HU.out.symm,HE.out.drewN _⟩⟩
  | cons d r=>
   have fD:=Lh (bH x HX.out.toOk c HD.out w6 v6 d r _ _ H6.out)
   (revert K;refine vg ?_;(repeat with_reducible intro K hK))
   refine fD.out.mono ?_
   rintro e7 w7 ⟨rfl,v7,h7,SO,sP,fU,ZU⟩
   have rH:=Lh (nD.out.s0 fU sP)
   have DR:=Lh h7
   have HN7:=Lh SO
   clear h7 SO sP fU ZU fD
   by_cases uB:inq=0∧d=62∧dp=0
   ·obtain ⟨rfl,rfl,rfl⟩:=uB
    have dB:=Lh (show nG x.o b rest=.ok (.dir bf,r) by unfold nG;rw [HR.out];unfold fG;rw [if_pos ⟨rfl,rfl,rfl⟩])
    have cB:bf≠[]:=by have:=o5.out;intro hh;rw [hh] at this;simp at this
    obtain ⟨g,cap,hv,yW,E1,MG⟩:=DR.out.chop cB 0
    have sB:=Lh (nS x c w7 v7 r none _ DR.out)
    rw [hv] at sB
    have QG:=Lh MG
    clear cB hv MG
    ((repeat revert K);refine vS ?_;(repeat with_reducible intro K hK))
    simp only [Exit.jump]
    ((repeat revert K);refine vg ?_;(repeat with_reducible intro K hK))
    refine sB.out.mono ?_
    rintro e9 w9 ⟨rfl,kk,rfl⟩
    ((repeat revert K);refine vS ?_)
    refine Qk [2,3] fun f=>?_
    refine HQ.out f _ _ _ ⟨v7,rH.out.drawn _,?_⟩
    rw [dB.out]
    have hd:=QG.out (w7.drewN kk) ⟨rfl,rfl,rfl,Nat.le_refl _,fun _ _=>rfl⟩
    rw [Nat.sub_zero,List.take_length] at hd
    exact ⟨rfl,none,_,DR.out.drewN HX.out.toOk _,⟨_,rfl,hd⟩,Or.inl rfl,HN7.out⟩
   ·have fB:=Lh (show fG x.o.fails rest 0 0 [b]=iD x.o.fails d r inq dp bf by rw [HR.out,fG.eq_def];exact if_neg uB)
    have hps:=Lh (fun Q hq f=>SQ x HX.out c HD.out w7 v7 d r inq dp bf 1100000000 (by omega) DR.out (by have:=rJ.out;simp only [List.length_cons] at this;omega) (by have:=JJ.out;simp only [List.length_cons] at this;omega) Q hq f)
    have vO:(((inq.toNat:Int)==0)=false∧((inq.toNat:Int) != 0)=true)∨(((inq.toNat:Int)==0)=true∧((d.toNat:Int)==62)=false)∨(((inq.toNat:Int)==0)=true∧((d.toNat:Int)==62)=true∧(dp==0)=false):=by
     by_cases h0:inq=0
     ·by_cases h1:d=62
      ·refine Or.inr (Or.inr ⟨by subst h0;rfl,by subst h1;rfl,?_⟩)
       have h2:dp≠0:=fun h2=>uB ⟨h0,h1,h2⟩
       simpa using h2
      ·exact Or.inr (Or.inl ⟨by subst h0;rfl,eU h1 rfl⟩)
     ·exact Or.inl ⟨eU (c:=0) h0 rfl,uF (c:=0) h0 rfl⟩
    have FV:Hid (∀ Q',(∀ f w' v' rest' inq' dp' buf',bX x c w' v' rest' none buf'→cK x w v w' v'→fG x.o.fails rest 0 0 [b]=fG x.o.fails rest' inq' dp' buf'→rest'.length<(d::r).length→1≤buf'.length→buf'.length+rest'.length≤1100000000→dp'.natAbs+rest'.length≤1100000000→Q' .normal (fr 731 f [(0,bS x),(21,.int .u8 (UInt8.toNat inq')),(22,.int .i64 dp')]) w') →
      (∀ f w' v' b' rest' inq' dp' buf',bX x c w' v' rest' none buf'→cK x w v w' v'→fG x.o.fails rest 0 0 [b]=iD x.o.fails b' rest' inq' dp' buf'→rest'.length<(d::r).length→buf'.length+1+rest'.length≤1100000000→dp'.natAbs+1+rest'.length≤1100000000→Q' (.goto 0) (fr 731 f [(0,bS x),(4,.int .u8 (UInt8.toNat b')),(21,.int .u8 (UInt8.toNat inq')),(22,.int .i64 dp')]) w') →
      (∀ f w' t e,lP x c w v (nG x.o b rest) t e w'→Q' .ret (fr 731 f [(2,t),(3,e)]) w')→QH x c w7 v7 (iD x.o.fails d r inq dp bf) 1100000000 (r.length+1) Q'):=by
     intro Q' q1 q2 q3
     refine ⟨?_,?_,?_⟩
     ·intro f w' v' rest' inq' dp' buf' hr hs hR bB eZ hb hd
      exact q1 f w' v' rest' inq' dp' buf' hr (rH.out.trans hs) (by rw [fB.out,hR]) (by simp;omega) eZ hb hd
     ·intro f w' v' b' rest' inq' dp' buf' hr hs hR bB hb hd
      exact q2 f w' v' b' rest' inq' dp' buf' hr (rH.out.trans hs) (by rw [fB.out,hR]) (by simp;omega) hb hd
     ·intro k hk f w' v' hE hs
      exact q3 f w' _ _ ⟨v',rH.out.trans hs,by unfold nG;rw [fB.out,hk];exact ⟨rfl,rfl,hE⟩⟩
    clear uB
    rcases vO with ⟨t1,t2⟩|⟨t1,t2⟩|⟨t1,t2,t3⟩
    all_goals
     go_simp
     ((repeat revert K);refine vT 121 ?_;intro K hK)
     (refine cJ [0,4,21,22] fun f=>?_)
     have HRT:=Lh (show (UInt8.toNat 62:Int)=62 from rfl)
     refine aY (hps.out _ (FV.out _ ?_ ?_ ?_) f) (by kernel_rfl)
     ·intro f w' v' rest' inq' dp' buf' hr hs hR bB eZ hb hd
      simp only [Exit.jump,Exit.inBlock,Exit.then]
      exact dN.out _ _ ⟨rest'.length,by rw [HK.out];exact bB,HJ.out _ _ _ ⟨f,v',rest',inq',dp',buf',rfl,hr,hs,rfl,hR,eZ,hb,hd⟩⟩
     ·intro f w' v' b' rest' inq' dp' buf' hr hs hR bB hb hd
      exact ⟨rfl,rest'.length,f,v',b',rest',inq',dp',buf',rfl,hr,hs,rfl,bB,hR,hb,hd⟩
     ·intro f w' t e hP
      simp only [Exit.jump,Exit.inBlock,Exit.then]
      exact HQ.out f w' t e hP
 ·rintro k2 _ w7 ⟨f,v7,d,r,inq',dp',bf',rfl,h7,hs7,hk7,a0i,hR7,sP,hd7⟩
  have rH:=Lh hs7
  have DR:=Lh hR7
  have kG:=Lh a0i
  have HK7:=Lh hk7
  have hps:=Lh (fun Q hq f=>SQ x HX.out c HD.out w7 v7 d r inq' dp' bf' 1100000000 (by omega) h7 sP hd7 Q hq f)
  clear h7 hs7 hk7 a0i hR7 sP hd7
  refine wp_seq_k (fun K hK=>?_)
  refine wp_skip ?_
  refine hK _ _ ?_
  clear hK K
  refine hps.out _ ?_ f
  refine ⟨?_,?_,?_⟩
  ·intro f w' v' rest' inq' dp' buf' hr hs hR bB eZ hb hd
   simp only [Exit.jump,Exit.inBlock,Exit.then]
   exact dN.out _ _ ⟨rest'.length,by rw [HK.out];have:=kG.out;omega,HJ.out _ _ _ ⟨f,v',rest',inq',dp',buf',rfl,hr,rH.out.trans hs,rfl,by rw [DR.out,hR],eZ,hb,hd⟩⟩
  ·intro f w' v' b' rest' inq' dp' buf' hr hs hR bB hb hd
   exact ⟨rfl,rest'.length,by rw [HK7.out];omega,f,v',b',rest',inq',dp',buf',rfl,hr,rH.out.trans hs,rfl,by have:=kG.out;omega,by rw [DR.out,hR],hb,hd⟩
  ·intro k hk f w' v' hE hs
   simp only [Exit.jump,Exit.inBlock,Exit.then]
   exact HQ.out f w' _ _ ⟨v',rH.out.trans hs,by unfold nG;rw [DR.out,hk];exact ⟨rfl,rfl,hE⟩⟩
end Go.Proofs.YtdjdjbpnbjdaaaaGreatDoor
