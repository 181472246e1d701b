/- Part of the proof that laws.FnRawTokens returns true for every argument. No conditions. -/
import Derived.Test.YtdjdjbpnbjdaaaaGreatDoorP11
import Derived.Test.YtdjdjbpnbjdaaaaGreatDoorP10
import Derived.Test.YtdjdjbpnbjdaaaaGreatDoorP06
import Derived.Test.YtdjdjbpnbjdaaaaGreatDoorP08
set_option linter.all false
set_option maxHeartbeats 8000000
set_option maxRecDepth 100000
namespace Go.Proofs.YtdjdjbpnbjdaaaaGreatDoor
open Go Go.RowKit Tryz
theorem ixg (l:Bs) (k:Nat):∀ h,(⟨l.toArray⟩:ByteArray)[k]'h=l.getD k 0:=by
 intro h
 have h':k<l.length:=by simpa [ByteArray.size] using h
 show l.toArray[k]=_
 simp [h']
theorem Hx (l:Bs) (k:Nat):(⟨l.toArray⟩:ByteArray).get! k=l.getD k 0:=by
 show l.toArray[k]! = _
 by_cases h:k<l.length
 ·simp [h]
 ·simp [h];rfl
theorem Sa (l:Bs) (h:1≤l.length):cV l=Lib.decodeN l.length (l.getD 0 0).toNat (l.getD 1 0).toNat (l.getD 2 0).toNat (l.getD 3 0).toNat:=by
 have hs:(⟨l.toArray⟩:ByteArray).size=l.length:=by simp [ByteArray.size]
 unfold cV Lib.decodeGoB
 rw [if_neg (by omega),Lib.decode_at,Hx,Hx,Hx,Hx,hs]
 rfl
theorem Sb (l:Bs) (h:cV l=(65533,1)):aF l=(0,0):=by
 unfold aF;rw [h];rfl
theorem a0J (l:Bs) (r n:Nat) (h:cV l=(r,n)) (hn:n≠1∨r<128):aF l=(r,n):=by
 unfold aF;rw [h,if_neg]
 rintro ⟨h1,h2⟩
 simp only at h1 h2
 omega
theorem nW (l:Bs) (cB:l≠[]) (w:World):Calls prog 51 #[aB l] w fun e w'=>e=.returned (.tuple #[.int .i64 (aF l).1,.int .i64 (aF l).2])∧w=w':=by
 have hl:1≤l.length:=by cases l with
  | nil=>exact absurd rfl cB
  | cons=>simp
 have i0:=ixg l 0
 have i1:=ixg l 1
 have i2:=ixg l 2
 have i3:=ixg l 3
 have hD:=Sa l hl
 generalize l.getD 0 0=c at *
 generalize l.getD 1 0=d at *
 generalize l.getD 2 0=e at *
 generalize l.getD 3 0=g at *
 have mB:=c.toNat_lt
 have a5L:=d.toNat_lt
 have a5M:=e.toNat_lt
 have a5N:=g.toNat_lt
 have bad:∀ (h:Lib.decodeN l.length c.toNat d.toNat e.toNat g.toNat=(65533,1)),aF l=(0,0):=fun h=>Sb l (hD.trans h)
 have ok:∀ r n (_:n≠1∨r<128) (_:Lib.decodeN l.length c.toNat d.toNat e.toNat g.toNat=(r,n)),aF l=(r,n):=fun r n hn h=>a0J l r n (hD.trans h) hn
 clear hD
 by_cases h0:c.toNat<128
 ·rw [ok c.toNat 1 (Or.inr h0) (by unfold Lib.decodeN;rw [if_pos h0])]
  exact UQ l c w hl i0 h0
 by_cases h1:c.toNat<194∨245≤c.toNat
 ·rw [bad (by unfold Lib.decodeN;(repeat' split)<;>first|rfl|(exfalso;omega))]
  exact ZJ l c w hl i0 (by omega)
 by_cases h2:c.toNat<224
 ·by_cases hs:l.length<2
  ·rw [bad (by unfold Lib.decodeN;(repeat' split)<;>first|rfl|(exfalso;omega))]
   exact P1 l c w hl hs i0 (by omega)
  by_cases b1:d.toNat / 64=2
  rotate_left
  ·rw [bad (by unfold Lib.decodeN;(repeat' split)<;>first|rfl|(exfalso;omega))]
   exact UR l c d w (by omega) i0 i1 (by omega) b1
  ·
   rw [ok (c.toNat % 32*64+d.toNat % 64) 2 (Or.inl (by decide)) (by unfold Lib.decodeN;(repeat' split)<;>first|(exfalso;omega)|(congr 1;omega)|rfl)]
   exact Hu l c d w (by omega) i0 i1 (by omega) b1 trivial
 by_cases h3:c.toNat<240
 ·by_cases hs:l.length<3
  ·rw [bad (by unfold Lib.decodeN;(repeat' split)<;>first|rfl|(exfalso;omega))]
   exact P2 l c w hl hs i0 (by omega)
  by_cases b1:d.toNat / 64=2
  rotate_left
  ·rw [bad (by unfold Lib.decodeN;(repeat' split)<;>first|rfl|(exfalso;omega))]
   exact US l c d w (by omega) i0 i1 (by omega) b1
  by_cases b2:e.toNat / 64=2
  rotate_left
  ·rw [bad (by unfold Lib.decodeN;(repeat' split)<;>first|rfl|(exfalso;omega))]
   exact UT l c d e w (by omega) i0 i1 i2 (by omega) b1 b2
  by_cases r1:(c.toNat % 16*64+d.toNat % 64)*64+e.toNat % 64<2048
  ·rw [bad (by unfold Lib.decodeN;(repeat' split)<;>first|rfl|(exfalso;omega))]
   exact UU l c d e w (by omega) i0 i1 i2 (by omega) b1 b2 r1
  by_cases r2:55296≤(c.toNat % 16*64+d.toNat % 64)*64+e.toNat % 64∧(c.toNat % 16*64+d.toNat % 64)*64+e.toNat % 64<57344
  ·rw [bad (by unfold Lib.decodeN;(repeat' split)<;>first|rfl|(exfalso;omega))]
   exact UV l c d e w (by omega) i0 i1 i2 (by omega) b1 b2 r2
  ·
   rw [ok ((c.toNat % 16*64+d.toNat % 64)*64+e.toNat % 64) 3 (Or.inl (by decide)) (by unfold Lib.decodeN;(repeat' split)<;>first|(exfalso;omega)|(congr 1;omega)|rfl)]
   exact Hv l c d e w (by omega) i0 i1 i2 (by omega) b1 b2 (by omega)
 by_cases hs:l.length<4
 ·rw [bad (by unfold Lib.decodeN;(repeat' split)<;>first|rfl|(exfalso;omega))]
  exact P3 l c w hl hs i0 (by omega)
 by_cases b1:d.toNat / 64=2
 rotate_left
 ·rw [bad (by unfold Lib.decodeN;(repeat' split)<;>first|rfl|(exfalso;omega))]
  exact UW l c d w (by omega) i0 i1 (by omega) b1
 by_cases b2:e.toNat / 64=2
 rotate_left
 ·rw [bad (by unfold Lib.decodeN;(repeat' split)<;>first|rfl|(exfalso;omega))]
  exact UX l c d e w (by omega) i0 i1 i2 (by omega) b1 b2
 by_cases b3:g.toNat / 64=2
 rotate_left
 ·rw [bad (by unfold Lib.decodeN;(repeat' split)<;>first|rfl|(exfalso;omega))]
  exact UY l c d e g w (by omega) i0 i1 i2 i3 (by omega) b1 b2 b3
 by_cases r1:((c.toNat % 8*64+d.toNat % 64)*64+e.toNat % 64)*64+g.toNat % 64<65536
 ·rw [bad (by unfold Lib.decodeN;(repeat' split)<;>first|rfl|(exfalso;omega))]
  exact UZ l c d e g w (by omega) i0 i1 i2 i3 (by omega) b1 b2 b3 r1
 by_cases r2:1114111<((c.toNat % 8*64+d.toNat % 64)*64+e.toNat % 64)*64+g.toNat % 64
 ·rw [bad (by unfold Lib.decodeN;(repeat' split)<;>first|rfl|(exfalso;omega))]
  exact P4 l c d e g w (by omega) i0 i1 i2 i3 (by omega) b1 b2 b3 r2
 ·
  rw [ok (((c.toNat % 8*64+d.toNat % 64)*64+e.toNat % 64)*64+g.toNat % 64) 4 (Or.inl (by decide)) (by unfold Lib.decodeN;(repeat' split)<;>first|(exfalso;omega)|(congr 1;omega)|rfl)]
  exact Hw l c d e g w (by omega) i0 i1 i2 i3 (by omega) b1 b2 b3 (by omega)
inductive wK where
 | bad (k:EK)
 | stop (n:Nat) (rest:Bs) (e:Option EK) (buf:Bs)
 | on (rest:Bs) (b0 b1:UInt8) (buf:Bs)
def jR (o:cU) (q:Option UInt8) (cd:Bool) (rest:Bs) (b0 b1:UInt8) (buf:Bs):wK:=
 match rest with
 | []=>if cd then .bad (bW o.fails) else .stop 0 [] (some (qK o.fails)) buf
 | b::r=>
  if q=none∧b0=93∧b1=93∧b=62 then (if cd then .stop 2 r none buf else .bad .syn)
  else if b=60∧cd=false then (if q=none then .stop 0 (b::r) none buf else .bad .syn)
  else if q=some b then .stop 0 r none buf
  else if b=38∧cd=false then (match lL o r buf with|.error k=>.bad k|.ok (r',buf')=>.on r' 0 0 buf')
  else .on r b1 b (fP b b1 buf)
def x6 (n:Nat) (rest buf:Bs):Except EK (Bs×Bs):=if bI (buf.take (buf.length-n)) then .ok (buf.take (buf.length-n),rest) else .error .syn
theorem P5 (o:cU) (q:Option UInt8) (cd:Bool) (rest:Bs) (b0 b1:UInt8) (buf:Bs) :
  aX o q cd rest b0 b1 buf=match jR o q cd rest b0 b1 buf with
   | .bad k=>.error k
   | .stop n r _ b=>x6 n r b
   | .on r b0 b1 b=>aX o q cd r b0 b1 b:=by
 cases rest with
 | nil=>
  rw [kQ]
  unfold jR
  cases cd<;>simp [x6]
 | cons b r=>
  unfold jR
  by_cases h1:q=none∧b0=93∧b1=93∧b=62
  ·obtain ⟨rfl,rfl,rfl,rfl⟩:=h1
   rw [vD]
   cases cd<;>simp [x6]
  ·by_cases h2:b=60∧cd=false
   ·obtain ⟨rfl,rfl⟩:=h2
    rw [DE]
    simp only [if_neg h1]
    by_cases hq:q=none<;>simp [hq,x6]
   ·by_cases h3:q=some b
    ·subst h3
     rw [A0 o cd b r b0 b1 buf h2]
     simp [h2,x6]
    ·by_cases h4:b=38∧cd=false
     ·obtain ⟨rfl,rfl⟩:=h4
      rw [PS o q r b0 b1 buf h3]
      simp only [if_neg h1,if_neg h2,if_neg h3]
      generalize lL o r buf=R
      rcases R with e|⟨r',b'⟩<;>simp
     ·rw [bZ o q cd b r b0 b1 buf h1 h2 h3 h4]
      simp only [if_neg h1,if_neg h2,if_neg h3,if_neg h4]
def qI:Option UInt8→Int
 | none=>-1
 | some b=>b.toNat
structure x7 (x:Cx) (c:DC) (w:World) (v:DV) (q:Option UInt8) (cd:Bool) (Q:Exit→Act→World→Prop) (res:wK):Prop where
 bad:∀ k,res=.bad k→∀ f w' v',jP x c w' v' k→cK x w v w' v'→Q .ret (fr 381 f [(6,.slice none 0 0)]) w'
 stop:∀ n r' e' b',res=.stop n r' e' b'→∀ f w' v',bX x c w' v' r' e' b'→cK x w v w' v'→(cO v→cO v')→(cd=true→v'.nb=-1)→Q (.exit 0) (fr 381 f [(0,bS x),(9,.int .i64 n)]) w'
 on:∀ r' b0' b1' b',res=.on r' b0' b1' b'→∀ e,(e=.normal∨e=.exit 1)→∀ f w' v',bX x c w' v' r' none b'→cK x w v w' v'→cO v'→Q e (fr 381 f [(0,bS x),(1,.int .i64 (qI q)),(2,.bool cd),(7,.int .u8 b0'.toNat),(8,.int .u8 b1'.toNat),(9,.int .i64 0)]) w'
theorem FS (x:Cx) (hx:x.All) (c:DC) (dR:iU x c) (q:Option UInt8) (cd:Bool) (w:World) (v:DV) (e:Option EK) (buf:Bs) (b0 b1:UInt8) (h:bX x c w v [] e buf) (Q:Exit→Act→World→Prop)
  (hQ:x7 x c w v q cd Q (jR x.o q cd [] b0 b1 buf)) (f:Nat→Value) :
  (fJ 4).wp prog Q (fr 381 f [(0,bS x),(1,.int .i64 (qI q)),(2,.bool cd),(7,.int .u8 b0.toNat),(8,.int .u8 b1.toNat),(9,.int .i64 0)]) w:=by
 have hg:=Lh (vA x hx.toOk c dR w v e buf h)
 have HX:=Lh hx
 have HQ:=Lh hQ
 clear hQ h hx dR
 unfold fJ
 conv=>arg 2;whnf
 (refine vg ?_;(repeat with_reducible intro K hK))
 refine hg.out.mono ?_
 rintro e1 w1 ⟨rfl,v1,h1,iL,bP,eA,iR⟩
 have H1:=Lh h1
 have iS:=Lh (eA.stp bP)
 have fV:=Lh bP
 have hc:=h1.dec.cell
 have hf:=h1.dec.frozen
 have Fd:=h1.err
 clear h1 iL bP eA iR hg
 cases cd with
 | false=>
  ((repeat revert K);refine vS ?_;intro K hK)
  refine Qk [0,9] fun f=>?_
  exact HQ.out.stop 0 _ _ _ rfl f w1 v1 H1.out iS.out (fun hn=>hn.of_eq fV.out) (fun hh=>by cases hh)
 | true=>
  have tP:w1.cell? ⟨0,0,none⟩=some x.eofV:=by rw [←HX.out.eof];exact H1.out.base.cell HX.out.gB
  have HE:=Lh (fun k msg=>qR HX.out.toOk (H1.out.drewN HX.out.toOk k) msg)
  have q1:=fun a w=>IY a w
  have q2:=fun a b w=>IZ a b w
  cases rT:x.o.fails
  ·have he:v1.err=x.eofV:=by rw [rT] at Fd;exact Fd
   clear Fd
   ((repeat revert K);refine vS ?_;(repeat with_reducible intro K hK))
   (refine cJ [0] fun f=>?_)
   go_quiet (fail)
   ((repeat revert K);refine vg ?_;(repeat with_reducible intro K hK))
   refine (HE.out _ _).mono ?_
   rintro e2 w2 ⟨rfl,hS⟩
   have tE:=hS.dec.cell
   have sZ:=hS.dec.frozen
   have qS:=Lh hS
   clear hS hc hf
   ((repeat revert K);refine vS ?_;(repeat with_reducible intro K hK))
   refine Qk [6] fun f=>?_
   exact HQ.out.bad .syn (by show wK.bad (bW x.o.fails)=_;rw [rT];rfl) f _ _ qS.out.err ((iS.out.trans (cK.drewN _)).trans qS.out.stp)
  ·have he:v1.err=FD:=by rw [rT] at Fd;exact Fd
   clear Fd
   ((repeat revert K);refine vS ?_;(repeat with_reducible intro K hK))
   (refine cJ [0] fun f=>?_)
   go_quiet (fail)
   ((repeat revert K);refine vg ?_;(repeat with_reducible intro K hK))
   refine Qk [6] fun f=>?_
   exact HQ.out.bad .own (by show wK.bad (bW x.o.fails)=_;rw [rT];rfl) f _ v1 ⟨cA H1.out.base _,H1.out.dec,he⟩ (iS.out.trans (cK.drewN _))
theorem Hy (q:Option UInt8) (b0 b1 b:UInt8) (v0 v2 v9:Value) (Q:Exit→Act→World→Prop) (w:World) (f:Nat→Value)
  (hQ:∀ f,Q .normal (fr 381 f [(0,v0),(1,.int .i64 (qI q)),(2,v2),(7,.int .u8 b0.toNat),(8,.int .u8 b1.toNat),(9,v9),(10,.int .u8 b.toNat),(66,.bool (decide (q=none∧b0=93∧b1=93∧b=62)))]) w) :
  (GD 10).wp prog Q (fr 381 f [(0,v0),(1,.int .i64 (qI q)),(2,v2),(7,.int .u8 b0.toNat),(8,.int .u8 b1.toNat),(9,v9),(10,.int .u8 b.toNat)]) w:=by
 have HQ:=Lh hQ
 clear hQ
 unfold GD
 conv=>arg 2;whnf
 cases q with
 | some qb=>
  have h0:¬ (qI (some qb)<0):=by show ¬ ((qb.toNat:Int)<0);omega
  refine vg ?_
  refine Qk [0,1,2,7,8,9,10,66] fun f=>?_
  have h1:=HQ.out f
  simp at h1
  exact h1
 | none=>
  rw [show qI none=-1 from rfl] at HQ ⊢
  by_cases WX:b0=93
  ·subst WX
   rw [show (UInt8.toNat 93)=93 from rfl] at HQ ⊢
   by_cases bP:b1=93
   ·subst bP
    rw [show (UInt8.toNat 93)=93 from rfl] at HQ ⊢
    by_cases hb:b=62
    ·subst hb
     rw [show (UInt8.toNat 62)=62 from rfl] at HQ ⊢
     refine vg ?_
     refine Qk [0,1,2,7,8,9,10,66] fun f=>?_
     have h1:=HQ.out f
     simp at h1
     exact h1
    ·have hx:=eU hb (n:=62) rfl
     have HB:=Lh hb
     clear hb
     refine vg ?_
     refine Qk [0,1,2,7,8,9,10,66] fun f=>?_
     have h1:=HQ.out f
     simp [HB.out] at h1
     exact h1
   ·have hx:=eU bP (n:=93) rfl
    have HB:=Lh bP
    clear bP
    refine vg ?_
    refine Qk [0,1,2,7,8,9,10,66] fun f=>?_
    have h1:=HQ.out f
    simp [HB.out] at h1
    exact h1
  ·have hx:=eU WX (n:=93) rfl
   have HB:=Lh WX
   clear WX
   refine vg ?_
   refine Qk [0,1,2,7,8,9,10,66] fun f=>?_
   have h1:=HQ.out f
   simp [HB.out] at h1
   exact h1
theorem Hz (q:Option UInt8) (b:UInt8) (v0 v2 v7 v8 v9:Value) (Q:Exit→Act→World→Prop) (w:World) (f:Nat→Value)
  (hQ:∀ f,Q .normal (fr 381 f [(0,v0),(1,.int .i64 (qI q)),(2,v2),(7,v7),(8,v8),(9,v9),(10,.int .u8 b.toNat),(95,.bool (decide (q=some b)))]) w) :
  (GD 20).wp prog Q (fr 381 f [(0,v0),(1,.int .i64 (qI q)),(2,v2),(7,v7),(8,v8),(9,v9),(10,.int .u8 b.toNat)]) w:=by
 have HQ:=Lh hQ
 clear hQ
 unfold GD
 conv=>arg 2;whnf
 cases q with
 | none=>
  rw [show qI none=-1 from rfl] at HQ ⊢
  refine vg ?_
  refine Qk [0,1,2,7,8,9,10,95] fun f=>?_
  have h1:=HQ.out f
  simp at h1
  exact h1
 | some qb=>
  rw [show qI (some qb)=(qb.toNat:Int) from rfl] at HQ ⊢
  have bB:=qb.toNat_lt
  have h0:(0:Int)≤(qb.toNat:Int):=by omega
  have hw:IntKind.u8.wrap (qb.toNat:Int)=(qb.toNat:Int):=by rw [IntKind.wrap_u8];omega
  by_cases hb:qb=b
  ·subst hb
   refine vg ?_
   refine Qk [0,1,2,7,8,9,10,95] fun f=>?_
   have h1:=HQ.out f
   simp at h1
   exact h1
  ·have hx:((b.toNat:Int)==(qb.toNat:Int))=false:=by
    rw [beq_eq_false_iff_ne]
    intro h
    exact hb (UInt8.toNat_inj.1 (by omega))
   have HB:=Lh hb
   clear hb
   refine vg ?_
   refine Qk [0,1,2,7,8,9,10,95] fun f=>?_
   have h1:=HQ.out f
   simp [HB.out] at h1
   exact h1
theorem ZL (x:Cx) (hx:x.All) (c:DC) (dR:iU x c) (oI:c.ent=.map none) (t6:x.o.ents=none) (q:Option UInt8) (cd:Bool) (w w1:World) (v v1:DV) (b:UInt8) (r buf:Bs) (b0 b1:UInt8) (h:bX x c w1 v1 r none buf) (hs:cK x w v w1 v1) (lI:(b::r) <:+ x.T)
  (o4:cO v1∨(b0=0∧b1=0)) (hl:buf.length≤8000000000000) (h1:¬ (q=none∧b0=93∧b1=93∧b=62)) (h2:¬ (b=60∧cd=false)) (h3:q≠some b) (Q:Exit→Act→World→Prop)
  (hQ:x7 x c w v q cd Q (jR x.o q cd (b::r) b0 b1 buf)) (f:Nat→Value) :
  (fJ 21).wp prog Q (fr 381 f [(0,bS x),(1,.int .i64 (qI q)),(2,.bool cd),(7,.int .u8 b0.toNat),(8,.int .u8 b1.toNat),(9,.int .i64 0),(10,.int .u8 b.toNat)]) w1:=by
 have H1:=Lh h
 have HX:=Lh hx
 have iS:=Lh hs
 have bR:=Lh (show jR x.o q cd (b::r) b0 b1 buf=(if b=38∧cd=false then (match lL x.o r buf with|.error k=>.bad k|.ok (r',buf')=>.on r' 0 0 buf') else .on r b1 b (fP b b1 buf)) by
  unfold jR
  simp only [if_neg h1,if_neg h2,if_neg h3])
 have HQ:=Lh hQ
 have HD:=Lh dR
 have nC:=Lh o4
 have kC:=Lh lI
 have FP:=Lh oI
 have A1:=Lh t6
 clear hQ h hx hs dR o4 lI oI t6 h1 h2 h3
 unfold fJ
 conv=>arg 2;whnf
 by_cases h4:b=38∧cd=false
 ·have wD:=Lh (bR.out.trans (if_pos h4))
  obtain ⟨rfl,rfl⟩:=h4
  clear bR
  rw [show (UInt8.toNat 38)=38 from rfl]
  (refine vT 22 ?_;intro K hK)
  (refine cJ [0,1,2,9] fun f=>?_)
  refine aY (Hm x HX.out c HD.out FP.out A1.out w1 v1 r buf H1.out kC.out (by omega) _ _ _ ⟨fun r' b' he f w' v' hr hs hn=>?_,fun k he f w' v' hr hs=>?_⟩ f) (by kernel_rfl)
  ·exact HQ.out.on r' 0 0 b' (by rw [wD.out,he]) _ (Or.inr rfl) f w' v' hr (iS.out.trans hs) hn
  ·exact HQ.out.bad k (by rw [wD.out,he]) f w' v' hr (iS.out.trans hs)
 ·have wD:=Lh (bR.out.trans (if_neg h4))
  have FT:((b.toNat:Int)==38)=false∨(((b.toNat:Int)==38)=true∧cd=true):=by
   by_cases hb:b=38
   ·right
    subst hb
    cases cd with
    | true=>exact ⟨rfl,rfl⟩
    | false=>exact absurd ⟨rfl,rfl⟩ h4
   ·exact Or.inl (eU hb rfl)
  clear h4 bR
  have iZ:(b=13)∨(b≠13∧b1=13∧b=10)∨(b≠13∧¬ (b1=13∧b=10)):=by
   by_cases hb:b=13
   ·exact Or.inl hb
   ·by_cases dJ:b1=13∧b=10
    ·exact Or.inr (Or.inl ⟨hb,dJ⟩)
    ·exact Or.inr (Or.inr ⟨hb,dJ⟩)
  rcases iZ with hb|⟨hb,bP,dJ⟩|⟨hb,dJ⟩
  ·have P6:=Lh (show fP b b1 buf=buf++[10] by unfold fP;rw [if_pos hb])
   have fZ:((b.toNat:Int)==13)=true:=by subst hb;rfl
   have mZ:=Lh (gG x HX.out.toOk c w1 v1 r none _ H1.out 10 (by omega))
   clear hb
   rcases FT with FT|⟨FT,rfl⟩
   all_goals
    (refine vg ?_;(repeat with_reducible intro K hK))
    refine mZ.out.mono ?_
    rintro e2 w2 ⟨rfl,v2,h2,_,gS⟩
    have H2:=Lh h2
    have gH:=Lh (iS.out.trans gS)
    clear h2 gS mZ
    ((repeat revert K);refine vS ?_)
    refine Qk [0,1,2,7,8,9] fun f=>?_
    exact HQ.out.on r b1 b _ wD.out _ (Or.inl rfl) f w2 v2 (by rw [P6.out];exact H2.out) gH.out (H2.out.nonnil (by simp))
  ·subst bP
   subst dJ
   have hnv:cO v1:=by
    rcases nC.out with h|⟨_,h⟩
    ·exact h
    ·exact absurd h (by decide)
   have HNV:=Lh hnv
   clear hnv hb
   rw [show (UInt8.toNat 13)=13 from rfl,show (UInt8.toNat 10)=10 from rfl]
   refine vg ?_
   refine Qk [0,1,2,7,8,9] fun f=>?_
   exact HQ.out.on r 13 10 buf wD.out _ (Or.inl rfl) f w1 v1 H1.out iS.out HNV.out
  ·have P6:=Lh (show fP b b1 buf=buf++[b] by unfold fP;rw [if_neg hb,if_neg dJ])
   have fZ:((b.toNat:Int)==13)=false:=eU hb rfl
   have a0K:((b1.toNat:Int)==13)=false∨(((b1.toNat:Int)==13)=true∧((b.toNat:Int)==10)=false):=by
    by_cases bP:b1=13
    ·right
     have Gl:b≠10:=fun h=>dJ ⟨bP,h⟩
     exact ⟨by subst bP;rfl,eU Gl rfl⟩
    ·exact Or.inl (eU bP rfl)
   have mZ:=Lh (gG x HX.out.toOk c w1 v1 r none _ H1.out b (by omega))
   clear hb dJ
   rcases FT with FT|⟨FT,rfl⟩
   all_goals
    rcases a0K with a3j|⟨a3j,gN⟩
    all_goals
     (refine vg ?_;(repeat with_reducible intro K hK))
     refine mZ.out.mono ?_
     rintro e2 w2 ⟨rfl,v2,h2,_,gS⟩
     have H2:=Lh h2
     have gH:=Lh (iS.out.trans gS)
     clear h2 gS mZ
     ((repeat revert K);refine vS ?_)
     refine Qk [0,1,2,7,8,9] fun f=>?_
     exact HQ.out.on r b1 b _ wD.out _ (Or.inl rfl) f w2 v2 (by rw [P6.out];exact H2.out) gH.out (H2.out.nonnil (by simp))
theorem DK (x:Cx) (hx:x.All) (c:DC) (dR:iU x c) (oI:c.ent=.map none) (t6:x.o.ents=none) (q:Option UInt8) (cd:Bool) (w:World) (v:DV) (e:Option EK) (b:UInt8) (r buf:Bs) (b0 b1:UInt8) (h:bX x c w v (b::r) e buf)
  (o4:cO v∨(b0=0∧b1=0)) (hl:buf.length≤8000000000000) (Q:Exit→Act→World→Prop)
  (hQ:x7 x c w v q cd Q (jR x.o q cd (b::r) b0 b1 buf)) (f:Nat→Value) :
  (fJ 4).wp prog Q (fr 381 f [(0,bS x),(1,.int .i64 (qI q)),(2,.bool cd),(7,.int .u8 b0.toNat),(8,.int .u8 b1.toNat),(9,.int .i64 0)]) w:=by
 have hg:=Lh (qN x hx.toOk c dR w v b r e buf h)
 have kC:=Lh h.suf
 have HX:=Lh hx
 have HD:=Lh dR
 have HQ:=Lh hQ
 have nC:=Lh o4
 have FP:=Lh oI
 have A1:=Lh t6
 have HL:=Lh hl
 clear hQ h hx dR o4 oI t6 hl
 unfold fJ
 conv=>arg 2;whnf
 (refine vg ?_;(repeat with_reducible intro K hK))
 refine hg.out.mono ?_
 rintro e1 w1 ⟨rfl,v1,h1,iL,bP,eA,iR⟩
 have H1:=Lh h1
 have iS:=Lh (eA.stp bP)
 have fV:=Lh bP
 have E0:=Lh iL
 have qS:=Lh (fun msg=>qR HX.out.toOk H1.out msg)
 clear h1 iL bP eA iR hg
 have b0l:(0:Int)≤(b.toNat:Int):=by omega
 by_cases h1:q=none∧b0=93∧b1=93∧b=62
 ·obtain ⟨rfl,rfl,rfl,rfl⟩:=h1
  have hnv:cO v:=by
   rcases nC.out with h|⟨h,_⟩
   ·exact h
   ·exact absurd h (by decide)
  rw [show (UInt8.toNat 93)=93 from rfl,show (UInt8.toNat 62)=62 from rfl,show qI none=-1 from rfl]
  cases cd with
  | true=>
   ((repeat revert K);refine vS ?_;(repeat with_reducible intro K hK))
   refine Qk [0,9] fun f=>?_
   exact HQ.out.stop 2 _ _ _ rfl f w1 v1 H1.out iS.out (fun hn=>hn.of_eq fV.out) (fun _=>E0.out)
  | false=>
   ((repeat revert K);refine vS ?_;(repeat with_reducible intro K hK))
   refine (qS.out _).mono ?_
   rintro e2 w2 ⟨rfl,hS⟩
   have tE:=hS.dec.cell
   have sZ:=hS.dec.frozen
   have HS:=Lh hS
   clear hS
   ((repeat revert K);refine vS ?_;intro K hK)
   refine Qk [6] fun f=>?_
   exact HQ.out.bad .syn rfl f _ _ HS.out.err (iS.out.trans HS.out.stp)
 ·have Sc:=Lh h1
  clear h1
  go_simp
  ((repeat revert K);refine vT 10 ?_)
  (refine cJ [0,1,2,7,8,9,10] fun f=>?_)
  refine wp_seq_k (fun K hK=>?_)
  refine wp_seq_k (fun K0 Nn=>?_)
  refine aY (Hy q b0 b1 b _ _ _ _ w1 f ?_) (by kernel_rfl)
  intro f
  rw [decide_eq_false Sc.out]
  simp only [Exit.then]
  refine Nn _ _ ?_
  clear Nn K0
  by_cases h2:b=60∧cd=false
  ·obtain ⟨rfl,rfl⟩:=h2
   rw [show (UInt8.toNat 60)=60 from rfl]
   cases q with
   | none=>
    rw [show qI none=-1 from rfl]
    have iW:=Lh (gZ x HX.out.toOk c w1 v1 60 r _ H1.out E0.out kC.out)
    (revert K;refine vg ?_;(repeat with_reducible intro K hK))
    refine iW.out.mono ?_
    rintro e2 w2 ⟨rfl,v5,h5,_,jM,fL,_⟩
    have H5:=Lh h5
    have vQ:=Lh jM
    have rG:=Lh (iS.out.s0 fL jM)
    clear h5 fL jM iW
    ((repeat revert K);refine vS ?_;intro K hK)
    refine Qk [0,9] fun f=>?_
    exact HQ.out.stop 0 (60::r) none buf (by unfold jR;simp) f _ v5 H5.out rG.out (fun hn=>(hn.of_eq fV.out).of_eq vQ.out) (fun hh=>by cases hh)
   | some qb=>
    have h0:(0:Int)≤qI (some qb):=by show (0:Int)≤(qb.toNat:Int);omega
    (revert K;refine vg ?_;(repeat with_reducible intro K hK))
    refine (qS.out _).mono ?_
    rintro e2 w2 ⟨rfl,hS⟩
    have tE:=hS.dec.cell
    have sZ:=hS.dec.frozen
    have HS:=Lh hS
    clear hS
    ((repeat revert K);refine vS ?_;(repeat with_reducible intro K hK))
    refine Qk [6] fun f=>?_
    exact HQ.out.bad .syn (by unfold jR;simp) f _ _ HS.out.err (iS.out.trans HS.out.stp)
  ·have H2:=Lh h2
   have lA:((b.toNat:Int)==60)=false∨(((b.toNat:Int)==60)=true∧cd=true):=by
    by_cases hb:b=60
    ·right
     subst hb
     cases cd with
     | true=>exact ⟨rfl,rfl⟩
     | false=>exact absurd ⟨rfl,rfl⟩ h2
    ·exact Or.inl (eU hb rfl)
   clear h2
   rcases lA with lA|⟨lA,rfl⟩
   all_goals
    (revert K;refine vT 20 ?_)
    (refine cJ [0,1,2,7,8,9,10] fun f=>?_)
    clear lA
    refine wp_seq_k (fun K hK=>?_)
    refine wp_seq_k (fun K0 Nn=>?_)
    refine aY (Hz q b _ _ _ _ _ _ w1 f ?_) (by kernel_rfl)
    intro f
    simp only [Exit.then]
    refine Nn _ _ ?_
    clear Nn K0
    by_cases h3:q=some b
    ·rw [decide_eq_true h3]
     have H3:=Lh h3
     clear h3
     (revert K;refine vg ?_;intro K hK)
     refine Qk [0,9] fun f=>?_
     exact HQ.out.stop 0 r none buf (by unfold jR;simp only [if_neg Sc.out,if_neg H2.out,if_pos H3.out]) f _ v1 H1.out iS.out (fun hn=>hn.of_eq fV.out) (fun _=>E0.out)
    ·rw [decide_eq_false h3]
     have H3:=Lh h3
     clear h3
     (revert K;refine vT 21 ?_)
     (refine cJ [0,1,2,7,8,9,10] fun f=>?_)
     exact aY (ZL x HX.out c HD.out FP.out A1.out q _ w w1 v v1 b r buf b0 b1 H1.out iS.out kC.out (nC.out.imp (fun h=>h.of_eq fV.out) id) HL.out Sc.out H2.out H3.out Q HQ.out f) (by kernel_rfl)
theorem Ia (n b0 b1 b2 b3:Nat) (hn:1≤n):(Lib.decodeN n b0 b1 b2 b3).2≤n:=by
 unfold Lib.decodeN
 repeat' split
 all_goals (simp only;omega)
theorem x8 (l:Bs) (h:l≠[]):(cV l).2≤l.length:=by
 have hs:(⟨l.toArray⟩:ByteArray).size=l.length:=rfl
 have hn:0<l.length:=List.length_pos_iff.2 h
 unfold cV Lib.decodeGoB
 rw [hs,if_neg (by omega),Lib.decode_at]
 exact Ia _ _ _ _ _ (by rw [hs];omega)
def Xv (b0 b1:UInt8) (buf:Bs):Prop:=(b1=93→1≤buf.length)∧(b0=93∧b1=93→2≤buf.length)
theorem U1 {o:cU} (ho:o.ents=none) {q:Option UInt8} {cd:Bool} {rest:Bs} {b0 b1:UInt8} {buf r':Bs} {b0' b1':UInt8} {buf':Bs} (h:jR o q cd rest b0 b1 buf=.on r' b0' b1' buf') (hb:Xv b0 b1 buf) :
  r'.length<rest.length∧buf'.length+8*r'.length≤buf.length+8*rest.length∧Xv b0' b1' buf':=by
 unfold jR at h
 split at h
 ·split at h<;>cases h
 ·rename_i b r
  split at h
  ·split at h<;>cases h
  ·split at h
   ·split at h<;>cases h
   ·split at h
    ·cases h
    ·split at h
     ·split at h
      ·cases h
      ·rename_i r2 b2 hr
       simp only [wK.on.injEq] at h
       obtain ⟨rfl,rfl,rfl,rfl⟩:=h
       have hz:Xv 0 0 b2:=⟨fun h=>absurd h (by decide),fun h=>absurd h.1 (by decide)⟩
       unfold lL at hr
       rw [ho] at hr
       split at hr
       ·cases hr
       ·rename_i raw t r3 hh
        simp only [cI,cC] at hr
        obtain ⟨rfl,rfl⟩:=hr
        have h1:=gX hh
        have h2:=PW hh
        simp
        exact ⟨by omega,by omega,hz⟩
       ·rename_i raw r3 hh
        split at hr
        ·cases hr
        ·simp only [cI,cC] at hr
         obtain ⟨rfl,rfl⟩:=hr
         have h1:=gX hh
         have h2:=tZ hh
         simp
         exact ⟨by omega,by omega,hz⟩
     ·simp only [wK.on.injEq] at h
      obtain ⟨rfl,rfl,rfl,rfl⟩:=h
      unfold fP
      obtain ⟨ha,dJ⟩:=hb
      refine ⟨by simp,?_,?_,?_⟩
      ·split
       ·simp;omega
       ·split<;>simp<;>omega
      ·intro h93
       subst h93
       rw [if_neg (by decide),if_neg (by rintro ⟨_,h⟩;revert h;decide)]
       simp
      ·rintro ⟨h93,h94⟩
       subst h94
       rw [if_neg (by decide),if_neg (by rintro ⟨_,h⟩;revert h;decide)]
       have:=ha h93
       simp;omega
theorem L8 {o:cU} {q:Option UInt8} {cd:Bool} {rest:Bs} {b0 b1:UInt8} {buf r':Bs} {n:Nat} {e':Option EK} {buf':Bs} (h:jR o q cd rest b0 b1 buf=.stop n r' e' buf') (hb:Xv b0 b1 buf) :
  n≤buf'.length∧buf'=buf∧(q=none→cd=false→r'=[]→e'=some (qK o.fails))∧((b0=0∧b1=0)→q=none→cd=false∧(rest=[]∨∃ r,rest=60::r)):=by
 unfold jR at h
 split at h
 ·split at h
  ·cases h
  ·simp only [wK.stop.injEq] at h
   obtain ⟨rfl,rfl,rfl,rfl⟩:=h
   rename_i yY
   exact ⟨Nat.zero_le _,rfl,fun _ _ _=>rfl,fun _ _=>⟨by simpa using yY,Or.inl rfl⟩⟩
 ·rename_i b r
  split at h
  ·rename_i hk
   split at h
   ·simp only [wK.stop.injEq] at h
    obtain ⟨rfl,rfl,rfl,rfl⟩:=h
    rename_i yY
    refine ⟨hb.2 ⟨hk.2.1,hk.2.2.1⟩,rfl,(fun _ hc=>by rw [yY] at hc;cases hc),fun hz=>?_⟩
    rw [hz.1] at hk
    exact absurd hk.2.1 (by decide)
   ·cases h
  ·split at h
   ·rename_i hk
    split at h
    ·simp only [wK.stop.injEq] at h
     obtain ⟨rfl,rfl,rfl,rfl⟩:=h
     exact ⟨Nat.zero_le _,rfl,(fun _ _ h=>by cases h),fun _ _=>⟨hk.2,Or.inr ⟨r,by rw [hk.1]⟩⟩⟩
    ·cases h
   ·split at h
    ·rename_i hk
     simp only [wK.stop.injEq] at h
     obtain ⟨rfl,rfl,rfl,rfl⟩:=h
     exact ⟨Nat.zero_le _,rfl,(fun hq=>by rw [hq] at hk;cases hk),(fun _ hq=>by rw [hq] at hk;cases hk)⟩
    ·split at h
     ·split at h<;>cases h
     ·cases h
def a0L (x:Cx) (w1:World) (g:Nat) (dv:Value) (d:Bs) (m:Nat) (a:Act) (w:World):Prop:=
 ∃ f off l cp k,a=fr 381 f [(0,bS x),(26,dv),(27,.slice (some ⟨g,off,none⟩) l.length cp)]∧Below w1.heap.size w1 w∧bG w g off l∧l.length≤cp∧cp≤9223372036854775807∧l.length≤k∧bI d=cM k l∧m=l.length
theorem gP (k:Nat):cM k []=true:=by cases k<;>simp [cM]
theorem Ib (x:Cx) (hx:x.All) (c:DC) (w:World) (v:DV) (r:Bs) (e:Option EK) (b:Bs) (n:Nat) (h:bX x c w v r e b) (o4:cO v) (lC:n ≤ b.length) (hl:b.length ≤ 10000000000000) (Q:Exit → Act → World → Prop)
    (pB:bI (b.take (b.length - n))=true → ∀ g cap,v.bufv=.slice (some ⟨g,0,none⟩) b.length cap → ∀ f w',bX x c w' v r e b → cK x w v w' v → Q .ret (fr 381 f [(6,.slice (some ⟨g,0,none⟩) (b.length - n:Nat) cap)]) w')
    (gO:bI (b.take (b.length - n))=false → ∀ f w' v',jP x c w' v' .syn → cK x w v w' v' → Q .ret (fr 381 f [(6,.slice none 0 0)]) w') (f:Nat → Value) :
    (fJ 91).wp prog Q (fr 381 f [(0,bS x),(9,.int .i64 n)]) w:=by
  obtain ⟨g,cap,hv,lY,yW,E1⟩:∃ g cap,v.bufv=.slice (some ⟨g,0,none⟩) b.length cap∧bG w g 0 b∧b.length ≤ cap∧cap ≤ 9223372036854775807:=by
    rcases h.bf with ⟨hv,_⟩|⟨g,cap,arr,hv,hg,gE,hl,wT,hB,hS,oB⟩
    · exact absurd hv o4.ne
    · exact ⟨g,cap,hv,fun j hj=>by rw [Nat.zero_add,hg.cell];exact oB j hj,hl,wT⟩
  have sB:=Lh (nS x c w v r e b h)
  have HX:=Lh hx
  have H:=Lh h
  have DL:=Lh (pB · g cap hv)
  have zT:=Lh gO
  have hd:bG w g 0 (b.take (b.length - n)):=by
    intro j hj
    rw [List.length_take] at hj
    rw [lY j (by omega)]
    simp only [List.getD_eq_getElem?_getD,List.getElem?_take]
    rw [if_pos (by omega)]
  obtain ⟨d,OY⟩:∃ d,d=b.take (b.length - n):=⟨_,rfl⟩
  have LM:d.length=b.length - n:=by rw [OY,List.length_take];omega
  rw [← OY] at DL zT hd
  obtain ⟨B,hB⟩:∃ B,B=b.length:=⟨_,rfl⟩
  rw [← hB] at LM hl yW lC hv
  rw [hv] at sB
  have Nl:=Lh LM
  have x9:IntKind.i64.wrap ((B:Int) - (n:Int))=(d.length:Int):=by rw [IntKind.wrap_i64];omega
  have d0:(0:Int) ≤ (d.length:Int):=by omega
  have d1:(d.length:Int) ≤ (cap:Int):=by omega
  have HD:=Lh hd
  have a3k:d.length ≤ cap:=by omega
  rw [← hB] at DL
  rw [← LM] at DL
  clear pB gO h hx o4 lY OY hB LM hd hv
  unfold fJ
  conv=>arg 2;whnf
  (refine vg ?_;(repeat with_reducible intro K hK))
  refine sB.out.mono ?_
  rintro e1 w1 ⟨rfl,k1,rfl⟩
  ((repeat revert K);refine vS ?_;intro K hK)
  (refine cJ [0,26,27] fun f=>?_)
  have fV:=Lh (show bG (w.drewN k1) g 0 d from HD.out)
  have H1:=Lh (H.out.drewN HX.out.toOk k1)
  have iS:=Lh (cK.drewN (x:=x) (w:=w) (v:=v) k1)
  clear x9 sB
  generalize w.drewN k1=w1 at fV H1 iS ⊢
  refine wp_loop_ghost_k (a0L x w1 g (.slice (some ⟨g,0,none⟩) d.length cap) d) d.length ⟨f,0,d,cap,d.length,rfl,Below.refl _ _,fV.out,a3k,E1,Nat.le_refl _,rfl,rfl⟩ ?_
  rintro m _ w2 ⟨f,off,l,cp,k,rfl,OM,eZ,a5X,a5Y,hk,Nu,hm⟩ J K2 hJ cY
  have HJ:=Lh hJ
  have dN:=Lh cY
  have tW:=Lh OM
  have o5:=Lh eZ
  have HK:=Lh hk
  have HCH:=Lh Nu
  have HM:=Lh hm
  have H2:=Lh (H1.out.below HX.out.toOk OM)
  have gH:=Lh (iS.out.s0 (aH OM _) rfl)
  clear hJ cY OM eZ hk Nu hm
  by_cases wJ:l=[]
  · subst wJ
    (revert K;refine vg ?_)
    refine Qk [6] fun f=>?_
    exact DL.out (by rw [HCH.out];exact gP k) f w2 H2.out gH.out
  · have cB:=Lh wJ
    have a0M:(0:Int) < (l.length:Int):=by have:=List.length_pos_iff.2 wJ;omega
    have E2:=Lh (YM l g off cp w2 (HX.out.tabs H2.out.base) o5.out)
    have Sd:=x8 l wJ
    have hwp:=tV l wJ
    obtain ⟨k',yV⟩:∃ k',k=k' + 1:=⟨k - 1,by have:=HK.out;omega⟩
    subst yV
    have a0N:bI d=(if (cV l).1=65533∧(cV l).2=1 then false else if bU (cV l).1 then cM k' (l.drop (cV l).2) else false):=by
      rw [HCH.out]
      rw [cM,if_neg wJ]
    have Ic:=Lh a0N
    clear a0N wJ
    obtain ⟨rn,Ni⟩:∃ rn,rn=(cV l).1:=⟨_,rfl⟩
    obtain ⟨sz,gE⟩:∃ sz,sz=(cV l).2:=⟨_,rfl⟩
    rw [← Ni] at E2 Ic
    rw [← gE] at E2 Ic Sd hwp
    clear Ni gE
    have hz0:(0:Int) ≤ (sz:Int):=by omega
    have iR:(sz:Int) ≤ (l.length:Int):=by omega
    have KN:(l.length:Int) ≤ (cp:Int):=by omega
    have gO:(((rn:Int) == 65533)=false) ∨ (((rn:Int) == 65533)=true∧((sz:Int) == 1)=false) ∨ (((rn:Int) == 65533)=true∧((sz:Int) == 1)=true):=by
      cases ((rn:Int) == 65533) <;> cases ((sz:Int) == 1) <;> simp
    (revert K;refine vg ?_;(repeat with_reducible intro K hK))
    refine E2.out.mono ?_
    rintro e2 w3 ⟨rfl,nV⟩
    have H3:=Lh (H2.out.below HX.out.toOk nV)
    have wH:=Lh (gH.out.s0 (aH nV _) rfl)
    have a0O:=Lh (tW.out.trans (nV.mono tW.out.size))
    have a3l:=Lh (o5.out.below nV)
    have qS:=Lh (fun msg=>qR HX.out.toOk H3.out msg)
    clear nV E2
    rcases gO with hb|⟨hb,dJ⟩|⟨hb,dJ⟩
    case inr.inr=>
      ((repeat revert K);refine vS ?_;(repeat with_reducible intro K hK))
      refine (qS.out _).mono ?_
      rintro e4 w4 ⟨rfl,hS⟩
      have tE:=hS.dec.cell
      have sZ:=hS.dec.frozen
      have HS:=Lh hS
      clear hS
      ((repeat revert K);refine vS ?_;(repeat with_reducible intro K hK))
      refine Qk [6] fun f=>?_
      exact zT.out (by rw [Ic.out, if_pos ⟨by     have : (rn : Int) = 65533 := by simpa using hb
                                                  omega, by have : (sz : Int) = 1 := by simpa using dJ
                                                            omega⟩]) f _ _ HS.out.err (wH.out.trans HS.out.stp)
    all_goals
      have a0P:Hid (bI d=if bU rn then cM k' (l.drop sz) else false):=by
        have:=Ic.out
        rw [if_neg (by intro h;simp_all)] at this
        exact this
      have JG:=Lh (UE rn w3)
      ((repeat revert K);refine vS ?_;(repeat with_reducible intro K hK))
      refine JG.out.mono ?_
      rintro e4 w4 ⟨rfl,rfl⟩
      by_cases AV:bU rn=true
      · rw [AV]
        have HN:=Lh (show bI d=cM k' (l.drop sz) by rw [a0P.out,if_pos AV])
        clear AV JG
        ((repeat revert K);refine vS ?_;intro K hK)
        (refine Kk [0,26,27] fun f=>?_)
        refine dN.out _ _ ⟨(l.drop sz).length,by rw [HM.out,List.length_drop];omega,HJ.out _ _ _ ?_⟩
        by_cases hcz:cp=sz
        · have hlz:l.drop sz=[]:=List.drop_eq_nil_of_le (by omega)
          have L7:l.length - sz=0:=by omega
          refine ⟨f,off,[],cp - sz,k',?_,a0O.out,fun j hj=>absurd hj (by simp),Nat.zero_le _,by omega,Nat.zero_le _,?_,by rw [hlz]⟩
          · rw [if_pos hcz,L7];rfl
          · rw [HN.out,hlz]
        · refine ⟨f,off + sz,l.drop sz,cp - sz,k',?_,a0O.out,a3l.out.drop sz,by rw [List.length_drop];omega,by omega,by have:=HK.out;rw [List.length_drop];omega,HN.out,rfl⟩
          rw [if_neg hcz,List.length_drop]
      · have Se:bU rn=false:=by simpa using AV
        rw [Se]
        have HN:=Lh (show bI d=false by rw [a0P.out,Se];rfl)
        clear AV Se JG
        ((repeat revert K);refine vS ?_;(repeat with_reducible intro K hK))
        refine (qS.out _).mono ?_
        rintro e4 w4 ⟨rfl,hS⟩
        have tE:=hS.dec.cell
        have sZ:=hS.dec.frozen
        have HS:=Lh hS
        clear hS
        ((repeat revert K);refine vS ?_;intro K hK)
        refine Qk [6] fun f=>?_
        exact zT.out HN.out f _ _ HS.out.err (wH.out.trans HS.out.stp)
theorem yA (n:Nat) (w:World):Calls prog 52 #[.int .i64 n] w fun e w'=>e=.returned (.bool (bU n))∧w=w':=by
 have hA:=Lh (AX n)
 have r8:n<9∨n=9∨n=10∨(11≤n∧n≤12)∨n=13∨(14≤n∧n≤31)∨(32≤n∧n≤55295)∨(55296≤n∧n≤57343)∨(57344≤n∧n≤65533)∨(65534≤n∧n≤65535)∨(65536≤n∧n≤1114111)∨1114112≤n:=by omega
 rcases r8 with h|h|h|h|h|h|h|h|h|h|h|h
 all_goals
  have HH:=Lh h
  first|have:(32:Int)≤(n:Int):=by omega|have:¬ ((32:Int)≤(n:Int)):=by omega
  first|have:(n:Int)≤55295:=by omega|have:¬ ((n:Int)≤55295):=by omega
  first|have:(57344:Int)≤(n:Int):=by omega|have:¬ ((57344:Int)≤(n:Int)):=by omega
  first|have:(n:Int)≤65533:=by omega|have:¬ ((n:Int)≤65533):=by omega
  first|have:(65536:Int)≤(n:Int):=by omega|have:¬ ((65536:Int)≤(n:Int)):=by omega
  first|have:(n:Int)≤1114111:=by omega|have:¬ ((n:Int)≤1114111):=by omega
  first|have:(((n:Int))==(9))=true:=by (simp;omega)|have:(((n:Int))==(9))=false:=by (simp;omega)
  first|have:(((n:Int))==(10))=true:=by (simp;omega)|have:(((n:Int))==(10))=false:=by (simp;omega)
  first|have:(((n:Int))==(13))=true:=by (simp;omega)|have:(((n:Int))==(13))=false:=by (simp;omega)
  clear h
  go_enter func52,ntmps52
  go_wp2
  go_ret
  refine ⟨?_,rfl⟩
  have:=HH.out
  first
   | (rw [show bU n=true from hA.out.2 (by omega)];rfl)
   | (rw [show bU n=false from by
     rw [←Bool.not_eq_true];intro hh
     have:=hA.out.1 hh;omega];rfl)
theorem DM (l:Bs):(aF l).1≤1114111:=by
 have:=I6 l
 unfold aF
 split
 ·simp
 ·exact this
theorem m9 (l:Bs) (h:l≠[]):(aF l).2≤l.length:=by
 have:=x8 l h
 unfold aF
 split
 ·simp
 ·exact this
theorem uC:∀ (k k':Nat) (l:Bs),l.length≤k→l.length≤k'→cM k l=cM k' l
 | 0,k',l,h,_=>by
  have:l=[]:=by cases l with
   | nil=>rfl
   | cons=>simp at h
  subst this
  rw [gP,gP]
 | k+1,0,l,_,h=>by
  have:l=[]:=by cases l with
   | nil=>rfl
   | cons=>simp at h
  subst this
  rw [gP,gP]
 | k+1,k'+1,l,h,h'=>by
  by_cases hl:l=[]
  ·subst hl;rw [gP,gP]
  ·have hp:=tV l hl
   have hw:=x8 l hl
   have ih:=uC k k' (l.drop (cV l).2) (by rw [List.length_drop];omega) (by rw [List.length_drop];omega)
   rw [cM,cM,ih]
theorem L9 (l:Bs) (h:l≠[]):bI l=(if (aF l).2=0 then false else if bU (aF l).1 then bI (l.drop (aF l).2) else false):=by
 have hp:=tV l h
 have hw:=x8 l h
 obtain ⟨k,hk⟩:∃ k,l.length=k+1:=⟨l.length-1,by omega⟩
 have h1:bI l=(if (cV l).1=65533∧(cV l).2=1 then false else if bU (cV l).1 then bI (l.drop (cV l).2) else false):=by
  unfold bI
  rw [hk,cM,if_neg h]
  rw [uC k (l.drop (cV l).2).length _ (by rw [List.length_drop];omega) (Nat.le_refl _)]
 rw [h1]
 unfold aF
 by_cases hb:(cV l).1=65533∧(cV l).2=1
 ·rw [if_pos hb,if_pos hb];rfl
 ·simp only [if_neg hb]
  rw [if_neg (show ¬ (cV l).2=0 by omega)]
theorem jI (l:Bs) (n:Nat):(⟨l.toArray⟩:ByteArray).extract n l.length=⟨(l.drop n).toArray⟩:=by
 have h:=xX ⟨l.toArray⟩ n
 have hs:(⟨l.toArray⟩:ByteArray).size=l.length:=by simp [ByteArray.size]
 rw [hs] at h
 apply ByteArray.ext
 apply Array.toList_inj.1
 rw [h]
def a0Q (l0:Bs) (w:World) (k:Nat) (a:Act) (w':World):Prop:=
 ∃ f l,a=fr 22 f [(0,aB l),(2,.bool false)]∧w=w'∧k=l.length∧bI l0=bI l∧l.length≤4000000000
theorem MA (l0:Bs) (wJ:l0.length≤4000000000) (w:World):Calls prog 81 #[aB l0] w fun e w'=>e=.returned (.bool (bI l0))∧w=w':=by
 refine eJ 22 func81 [_] fun f=>?_
 simp only [aE]
 (refine vg ?_;intro K hK)
 (refine cJ [0,2] fun f=>?_)
 refine wp_loop_ghost_k (a0Q l0 w) l0.length ⟨f,l0,rfl,rfl,rfl,rfl,wJ⟩ ?_
 rintro k _ _ ⟨f,l,rfl,rfl,hk,hc,bF⟩ J K2 hJ cY
 have HJ:=Lh hJ
 have dN:=Lh cY
 have HC:=Lh hc
 have HK:=Lh hk
 clear hJ cY hc hk wJ
 by_cases cB:l=[]
 ·subst cB
  (revert K;refine vg ?_)
  (refine cW ?_)
  refine ⟨?_,rfl⟩
  rw [HC.out]
  rfl
 ·have Sf:l.isEmpty=false:=by cases l with
   | nil=>exact absurd rfl cB
   | cons=>rfl
  have hd:=Lh (nW l cB w)
  have iK:=DM l
  have Sd:=m9 l cB
  have HS:=Lh (L9 l cB)
  have kP:=Lh cB
  clear cB
  obtain ⟨r,hr⟩:∃ r,r=(aF l).1:=⟨_,rfl⟩
  obtain ⟨n,hn⟩:∃ n,n=(aF l).2:=⟨_,rfl⟩
  rw [←hr] at hd iK HS
  rw [←hn] at hd Sd HS
  clear hr hn
  (revert K;refine vg ?_;(repeat with_reducible intro K hK))
  refine hd.out.mono ?_
  rintro e w' ⟨rfl,rfl⟩
  clear hd
  by_cases hn:n=0
  ·subst hn
   ((repeat revert K);refine vS ?_;(repeat with_reducible intro K hK))
   (refine cW ?_)
   refine ⟨?_,rfl⟩
   rw [HC.out,HS.out,if_pos rfl]
  ·have pH:((n:Int)==0)=false:=by simp;omega
   have hi:=Lh (yA r w)
   ((repeat revert K);refine vS ?_;(repeat with_reducible intro K hK))
   refine hi.out.mono ?_
   rintro e w' ⟨rfl,rfl⟩
   clear hi
   cases hr:bU r
   ·((repeat revert K);refine vS ?_;(repeat with_reducible intro K hK))
    (refine cW ?_)
    refine ⟨?_,rfl⟩
    rw [HC.out,HS.out,if_neg hn,hr];rfl
   ·have hz0:(0:Int)≤(n:Int):=by omega
    have iR:(n:Int)≤(l.length:Int):=by omega
    ((repeat revert K);refine vS ?_;intro K hK)
    (refine Kk [0,2] fun f=>?_)
    rw [jI]
    have bB:(l.drop n).length<k:=by rw [List.length_drop,HK.out];omega
    exact dN.out _ _ ⟨(l.drop n).length,bB,HJ.out _ _ _ ⟨f,l.drop n,rfl,rfl,rfl,by rw [HC.out,HS.out,if_neg hn,hr,if_pos rfl],by rw [List.length_drop];omega⟩⟩
theorem Ie (l0:Bs) (wJ:l0.length≤1000000000) (w:World):Calls prog 81 #[aB l0] w fun e w'=>e=.returned (.bool (bI l0))∧w=w':=MA l0 (by omega) w
end Go.Proofs.YtdjdjbpnbjdaaaaGreatDoor
