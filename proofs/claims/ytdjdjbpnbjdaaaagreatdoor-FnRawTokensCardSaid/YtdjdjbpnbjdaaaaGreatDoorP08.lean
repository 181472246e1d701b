/- Part of the proof that laws.FnRawTokens returns true for every argument. No conditions. -/
import Derived.Test.YtdjdjbpnbjdaaaaGreatDoorP07
import Derived.Test.YtdjdjbpnbjdaaaaGreatDoorP01
import Derived.Laws.Cover4
set_option linter.all false
set_option maxHeartbeats 8000000
set_option maxRecDepth 100000
namespace Go.Proofs.YtdjdjbpnbjdaaaaGreatDoor
open Go Go.RowKit Tryz
theorem PQ (p:Option Addr) (cap:Nat) (w:World):Calls prog 90 #[.slice p 0 cap] w fun e w'=>e=.returned (.bool false)∧w'=w:=by
 go_enter func90,ntmps90
 go_wp2
 go_ret
 exact ⟨rfl,rfl⟩
theorem BP.iface {x:Cx} {v:Value} {k:EK} (h:BP x v (some k)):∃ t u,v=.iface t u:=by
 cases k with
 | eof=>exact ⟨_,_,h⟩
 | own=>exact ⟨_,_,h⟩
 | syn=>obtain ⟨a,h⟩:=h;exact ⟨_,_,h⟩
 | other=>obtain ⟨a,h,_⟩:=h;exact ⟨_,_,h⟩
theorem Hj (x:Cx) (hx:x.All) (c:DC) (dR:iU x c) (w:World) (v:DV) (r buf0:Bs) (h:bX x c w v r none (buf0++[38])) (lI:(35::r) <:+ x.T) (hl:buf0.length≤20000000000000)
  (qv cv:Value) (Q:Exit→Act→World→Prop) (ents:Option (Bs→Option Bs)) (hQ:DD x c w v qv cv buf0 Q (iX x.o.fails ents (35::r))) (f:Nat→Value) :
  (fJ 31).wp prog Q (fr 381 f [(0,bS x),(1,qv),(2,cv),(9,.int .i64 0),(10,.int .u8 35),(12,.int .i64 buf0.length),(14,aB []),(15,.bool false)]) w:=by
 have mZ:=Lh (gG x hx.toOk c w v r none _ h 35 (by simp;omega))
 have HX:=Lh hx
 have HD:=Lh dR
 have HQ:=Lh hQ
 have kC:=Lh lI
 have HL:=Lh hl
 clear hQ h lI hx dR
 unfold fJ
 conv=>arg 2;whnf
 (refine vg ?_;(repeat with_reducible intro K hK))
 refine mZ.out.mono ?_
 rintro e1 w1 ⟨rfl,v1,h1,_,jV⟩
 have H1:=Lh h1
 have iS:=Lh jV
 clear h1 jV mZ
 ((repeat revert K);refine vS ?_;(repeat with_reducible intro K hK))
 cases r with
 | nil=>
  have fD:=Lh (bJ x HX.out.toOk c HD.out w1 v1 none _ H1.out)
  refine fD.out.mono ?_
  rintro e3 w3 ⟨rfl,v6,h6,xK,eQ⟩
  have nD:=Lh (iS.out.s0 eQ xK)
  have H6:=Lh h6
  clear h6 xK eQ fD
  ((repeat revert K);refine vS ?_;intro K hK)
  refine Qk [6] fun f=>?_
  exact HQ.out.bad _ rfl f w3 v6 H6.out nD.out
 | cons d r2=>
  have fD:=Lh (bH x HX.out.toOk c HD.out w1 v1 d r2 none _ H1.out)
  refine fD.out.mono ?_
  rintro e3 w3 ⟨rfl,v6,h6,R2,xK,eQ,_⟩
  have nD:=Lh (iS.out.s0 eQ xK)
  have H6:=Lh h6
  have HN6:=Lh R2
  clear h6 xK eQ fD R2
  by_cases hd:d=120
  ·subst hd
   have a0D:=Lh (gG x HX.out.toOk c w3 v6 r2 none _ H6.out 120 (by have:=HL.out;simp;omega))
   ((repeat revert K);refine vS ?_;(repeat with_reducible intro K hK))
   refine a0D.out.mono ?_
   rintro e4 w4 ⟨rfl,v7,h7,_,hs7⟩
   have H7:=Lh h7
   have rH:=Lh (nD.out.trans hs7)
   clear h7 hs7 a0D
   ((repeat revert K);refine vS ?_;(repeat with_reducible intro K hK))
   cases r2 with
   | nil=>
    have fD:=Lh (bJ x HX.out.toOk c HD.out w4 v7 none _ H7.out)
    refine fD.out.mono ?_
    rintro e5 w5 ⟨rfl,v8,h8,E3,kZ⟩
    have xL:=Lh (rH.out.s0 kZ E3)
    have H8:=Lh h8
    clear h8 E3 kZ fD
    ((repeat revert K);refine vS ?_;intro K hK)
    refine Qk [6] fun f=>?_
    exact HQ.out.bad _ rfl f w5 v8 H8.out xL.out
   | cons e3 r3=>
    have fD:=Lh (bH x HX.out.toOk c HD.out w4 v7 e3 r3 none _ H7.out)
    refine fD.out.mono ?_
    rintro e5 w5 ⟨rfl,v8,h8,LP,E3,kZ,_⟩
    have xL:=Lh (rH.out.s0 kZ E3)
    have H8:=Lh h8
    have Fa:=Lh LP
    clear h8 E3 kZ fD LP
    have HR:=Lh (show iX x.o.fails ents (35::120::e3::r3)=dY x.o.fails true [38,35,120] (e3::r3) by simp [iX])
    go_simp
    ((repeat revert K);refine vT 42 ?_)
    (refine cJ [0,1,2,9,10,12,14,15,16] fun f=>?_)
    refine aY (R8 x HX.out c HD.out true [38,35,120] (by simp) (by simp) w5 v8 e3 r3 buf0 (by have h9:=H8.out;rw [List.append_assoc,List.append_assoc] at h9;exact h9) Fa.out ((List.suffix_cons _ _).trans ((List.suffix_cons _ _).trans kC.out)) HL.out qv cv Q ⟨?_,?_⟩ f) (by kernel_rfl)
    ·intro raw t r bR f w' v' hr hs o4
     exact HQ.out.ok raw t r (HR.out.trans bR) f w' v' hr (xL.out.trans hs) o4
    ·intro k bR f w' v' hr hs
     exact HQ.out.bad k (HR.out.trans bR) f w' v' hr (xL.out.trans hs)
  ·have nR:=eU hd (n:=120) rfl
   have HR:=Lh (show iX x.o.fails ents (35::d::r2)=dY x.o.fails false [38,35] (d::r2) by simp [iX,hd])
   clear hd
   go_simp
   ((repeat revert K);refine vT 42 ?_)
   (refine cJ [0,1,2,9,10,12,14,15,16] fun f=>?_)
   refine aY (R8 x HX.out c HD.out false [38,35] (by simp) (by simp) w3 v6 d r2 buf0 (by have h9:=H6.out;rw [List.append_assoc] at h9;exact h9) HN6.out ((List.suffix_cons _ _).trans kC.out) HL.out qv cv Q ⟨?_,?_⟩ f) (by kernel_rfl)
   ·intro raw t r bR f w' v' hr hs o4
    exact HQ.out.ok raw t r (HR.out.trans bR) f w' v' hr (nD.out.trans hs) o4
   ·intro k bR f w' v' hr hs
    exact HQ.out.bad k (HR.out.trans bR) f w' v' hr (nD.out.trans hs)
theorem PR (s:Bs):pE s=0∨pE s=60∨pE s=62∨pE s=38∨pE s=39∨pE s=34:=by
 unfold pE
 repeat' split
 all_goals simp
theorem Rq (w:World):(binOp .neq 71 (.map none) (.map none)).run prog w=.ok (.bool false) w:=by kernel_rfl
theorem UI {fails : Bool} {ents : Option (Bs → Option Bs)} {c : UInt8} {r : Bs} (h : c ≠ 35) : iX fails ents (c :: r) = (match (aD (c :: r)).2 with
      | []=>.error (bW fails)
      | b :: after=>
        if b=59 then .ok (38 :: (aD (c :: r)).1 ++ [59],(if cQ (aD (c :: r)).1 then yZ ents (aD (c :: r)).1 else none),after)
        else .ok (38 :: (aD (c :: r)).1,none,b :: after)):=by
  unfold iX
  simp only [h,if_false]
  rfl
theorem Hk (l:Bs) (w:World) (g off cap:Nat) (hc:off+l.length≤cap) (h:bG w g off l):(convert 77 9 (.slice (if cap=off then some ⟨g,0,none⟩ else some ⟨g,off,none⟩) l.length (cap-off))).run prog w=.ok (aB l) w:=by
 by_cases wG:cap=off
 ·have XR:l=[]:=List.length_eq_zero_iff.1 (by omega)
  subst XR
  rw [if_pos wG]
  exact oL [] w g 0 _ (fun j hj=>absurd hj (by simp))
 ·rw [if_neg wG]
  exact oL l w g _ _ h
theorem LQ (l:Bs) (w:World) (g off cap:Nat) (hc:off+l.length≤cap) (E1:cap≤9223372036854775807) (hl:l.length≤1000000000) (h:bG w g off l) (hT:Lib.Utf8Tabs 6 7 w) :
  Calls prog 90 #[.slice (if cap=off then some ⟨g,0,none⟩ else some ⟨g,off,none⟩) l.length (cap-off)] w fun e w'=>e=.returned (.bool (cQ l))∧Below w.heap.size w w':=by
 by_cases XR:l=[]
 ·subst XR
  exact (PQ _ _ w).mono fun e w' ⟨h1,h2⟩=>⟨h1,by rw [h2];exact Below.refl _ _⟩
 ·have:0<l.length:=List.length_pos_iff.2 XR
  rw [if_neg (by omega)]
  exact LI l g off (cap-off) w XR hT h (by omega) (by omega) (by omega)
theorem LR (x:Cx) (hx:x.All) (c:DC) (dR:iU x c) (oI:c.ent=.map none) (w:World) (v:DV) (b1:UInt8) (after buf0 nm:Bs) (h:bX x c w v (b1::after) none (buf0++38::nm)) (hl:buf0.length≤20000000000000) (Zm:nm.length≤1000000000)
  (qv cv:Value) (Q:Exit→Act→World→Prop)
  (hQ:DD x c w v qv cv buf0 Q (if b1=59 then .ok (38::nm++[59],(if cQ nm then yZ none nm else none),after) else .ok (38::nm,none,b1::after))) (f:Nat→Value) :
  (fJ 60).wp prog Q (fr 381 f [(0,bS x),(1,qv),(2,cv),(9,.int .i64 0),(12,.int .i64 buf0.length),(14,aB []),(15,.bool false)]) w:=by
 have fD:=Lh (bH x hx.toOk c dR w v b1 after none _ h)
 have kC:=Lh h.suf
 have HX:=Lh hx
 have HD:=Lh dR
 have HQ:=Lh hQ
 have FP:=Lh oI
 clear hQ h hx dR oI
 unfold fJ
 conv=>arg 2;whnf
 (refine vg ?_;(repeat with_reducible intro K hK))
 refine fD.out.mono ?_
 rintro e1 w1 ⟨rfl,v1,h1,iL,bP,eA,_⟩
 have H1:=Lh h1
 have E0:=Lh iL
 have iS:=Lh (eA.stp bP)
 clear h1 iL bP eA fD
 by_cases hb:b1=59
 ·subst hb
  rw [show (UInt8.toNat 59)=59 from rfl]
  simp only [if_true] at HQ
  obtain ⟨g,cap,hv,lY,yW,E1,_,_,_⟩:=H1.out.bf.bytes (by simp)
  have sB:=Lh (nS x c w1 v1 after none _ H1.out)
  have AY:=lY.drop (buf0.length+1)
  have E2:(buf0++38::nm).drop (buf0.length+1)=nm:=by
   rw [show buf0++38::nm=(buf0++[38])++nm by simp,List.drop_left' (by simp)]
  rw [Nat.zero_add,E2] at AY
  have bF:(buf0++38::nm).length=buf0.length+1+nm.length:=by simp;omega
  have HWB:=Lh (fun (k:Nat)=>gF x HX.out.toOk c (w1.drewN k) v1 after none _ (H1.out.drewN HX.out.toOk k) 59 (by rw [bF];omega))
  have HV:=Lh hv
  have HBY:=Lh lY
  rw [bF] at hv yW
  rw [hv] at sB
  have a0E:=Lh AY
  have cL:=Lh bF
  clear lY AY hv bF E2
  obtain ⟨D,hD⟩:∃ D,D=nm.length:=⟨_,rfl⟩
  rw [←hD] at sB yW Zm
  obtain ⟨A,hA⟩:∃ A,A=buf0.length:=⟨_,rfl⟩
  rw [←hA] at sB yW hl ⊢
  have a5V:IntKind.i64.wrap ((A:Int)+1)=((A+1:Nat):Int):=by rw [IntKind.wrap_i64];omega
  have a0:(0:Int)≤(A:Int)+1:=by omega
  have a1:(A:Int)+1≤(A:Int)+1+(D:Int):=by omega
  have a2:(A:Int)+1+(D:Int)≤(cap:Int):=by omega
  have I2:=Lh hD
  have HA':=Lh hA
  clear hD hA
  ((repeat revert K);refine vS ?_;(repeat with_reducible intro K hK))
  refine sB.out.mono ?_
  rintro e2 w2 ⟨rfl,k2,rfl⟩
  ((repeat revert K);refine vS ?_;(repeat with_reducible intro K hK))
  refine (HWB.out k2).mono ?_
  rintro e3 w3 ⟨rfl,v3,⟨h3,_,R1⟩,a0F⟩
  have eK:bG w3 g (A+1) nm:=by
   intro j hj
   have h1:=a0E.out j hj
   have h2:=a0F g _ _ HV.out (A+1+j) (by rw [cL.out,HA'.out];omega)
   rw [←HA'.out] at h1
   exact h2.trans h1
  have H3:=Lh h3
  have wH:=Lh ((iS.out.trans (cK.drewN k2)).trans R1)
  have hT3:=HX.out.tabs h3.base
  have AV:=Lh (LQ nm w3 g (A+1) cap (by rw [←I2.out];omega) E1 (by rw [←I2.out];exact Zm) eK hT3)
  rw [←I2.out] at AV
  have eP:=Lh eK
  clear h3 R1 a0F hT3 HWB eK
  ((repeat revert K);refine vS ?_;(repeat with_reducible intro K hK))
  refine AV.out.mono ?_
  rintro e4 w4 ⟨rfl,AZ⟩
  have EZ:=Hk nm w4 g (A+1) cap (by rw [←I2.out];omega) (eP.out.below AZ)
  rw [←I2.out] at EZ
  have H4:=Lh (H3.out.below HX.out.toOk AZ)
  have nM:=Lh (wH.out.s0 (aH AZ _) rfl)
  have nC:=Lh (H3.out.nonnil (by simp))
  clear AZ AV
  by_cases lD:cQ nm=true
  ·rw [lD]
   have Hl:=Lh lD
   clear lD
   have rI:=Lh (fun w=>YZ nm w)
   ((repeat revert K);refine vS ?_;(repeat with_reducible intro K hK))
   refine (rI.out _).mono ?_
   rintro e5 w5 ⟨rfl,rfl⟩
   by_cases Rr:pE nm=0
   ·have dB:=Lh (show (yZ none nm)=none by unfold yZ;rw [LL,if_pos Rr])
    have hc:=H4.out.dec.cell
    have hf:=H4.out.dec.frozen
    have oI:=FP.out
    have hmn:=fun w=>Rq w
    have hd:decide (pE nm≠0)=false:=by simp [Rr]
    rw [hd]
    clear hd Rr
    ((repeat revert K);refine vS ?_)
    rw [HA'.out]
    refine Qk [0,1,2,9,12,14,15] fun f=>?_
    exact HQ.out.ok _ none after (by rw [Hl.out,if_pos rfl,dB.out]) f _ v3 (by have h9:=H4.out;rw [List.append_assoc] at h9;exact h9) nM.out nC.out
   ·have dB:=Lh (show (yZ none nm)=some [UInt8.ofNat (pE nm)] by unfold yZ;rw [LL,if_neg Rr])
    have R9:=Lh (show Value.string (Utf8.encode (pE nm:Int))=aB [UInt8.ofNat (pE nm)] by
     rcases PR nm with h|h|h|h|h|h
     ·exact absurd h Rr
     all_goals (rw [h];rfl))
    have hrc:=fun w=>Y3 (pE nm:Int) w
    have hd:decide (pE nm≠0)=true:=by simp [Rr]
    rw [hd]
    clear hd Rr
    ((repeat revert K);refine vS ?_)
    rw [HA'.out]
    refine Qk [0,1,2,9,12,14,15] fun f=>?_
    rw [R9.out]
    exact HQ.out.ok _ (some [UInt8.ofNat (pE nm)]) after (by rw [Hl.out,if_pos rfl,dB.out]) f _ v3 (by have h9:=H4.out;rw [List.append_assoc] at h9;exact h9) nM.out nC.out
  ·have LS:cQ nm=false:=by simpa using lD
   rw [LS]
   have Hl:=Lh LS
   clear lD LS
   ((repeat revert K);refine vS ?_)
   rw [HA'.out]
   refine Qk [0,1,2,9,12,14,15] fun f=>?_
   exact HQ.out.ok _ none after (by rw [Hl.out];rfl) f _ v3 (by have h9:=H4.out;rw [List.append_assoc] at h9;exact h9) nM.out nC.out
 ·have Rp:=eU hb (n:=59) rfl
  have a0C:((b1.toNat:Int) != 59)=true:=by simpa using Rp
  have iW:=Lh (gZ x HX.out.toOk c w1 v1 b1 after _ H1.out E0.out kC.out)
  have HB:=Lh hb
  clear hb
  ((repeat revert K);refine vS ?_;intro K hK)
  refine iW.out.mono ?_
  rintro e2 w2 ⟨rfl,v5,h5,_,jM,fL,_⟩
  have H5:=Lh h5
  have rG:=Lh (iS.out.s0 fL jM)
  have nC:=Lh (h5.nonnil (by simp))
  clear h5 fL jM iW
  (revert K;refine vS ?_)
  refine Qk [0,1,2,9,12,14,15] fun f=>?_
  exact HQ.out.ok (38::nm) none (b1::after) (by rw [if_neg HB.out]) f _ v5 H5.out rG.out nC.out
theorem Y5 (x:Cx) (hx:x.All) (c:DC) (dR:iU x c) (oI:c.ent=.map none) (w:World) (v:DV) (b:UInt8) (hb:b≠35) (r buf0:Bs) (h:bX x c w v r none (buf0++[38])) (hn:v.nb=-1) (lI:(b::r) <:+ x.T) (hl:buf0.length≤10000000000000-1)
  (qv cv:Value) (Q:Exit→Act→World→Prop) (hQ:DD x c w v qv cv buf0 Q (iX x.o.fails none (b::r))) (f:Nat→Value) :
  (fJ 56).wp prog Q (fr 381 f [(0,bS x),(1,qv),(2,cv),(9,.int .i64 0),(10,.int .u8 b.toNat),(12,.int .i64 buf0.length),(14,aB []),(15,.bool false)]) w:=by
 have iW:=Lh (gZ x hx.toOk c w v b r _ h hn lI)
 have HX:=Lh hx
 have HD:=Lh dR
 have HQ:=Lh hQ
 have FP:=Lh oI
 have ON:=Lh (show r.length+1≤1000000000 by have h1:=lI.length_le;have h2:=hx.len;simp at h1;omega)
 have LT:=Lh (UI (fails:=x.o.fails) (ents:=none) (r:=r) hb)
 have HL:=Lh hl
 have kC:=Lh lI
 have a0G:=Lh (lK (b::r))
 clear hQ h hn hx dR oI hb hl lI
 unfold fJ
 conv=>arg 2;whnf
 (refine vg ?_;(repeat with_reducible intro K hK))
 refine iW.out.mono ?_
 rintro e1 w1 ⟨rfl,v1,h1,_,bP,eA,_⟩
 have Ni:=Lh (C4 x HX.out.toOk c HD.out w1 v1 (b::r) none _ h1 (by have:=HL.out;simp;omega))
 have iS:=Lh (eA.stp bP)
 clear h1 eA bP iW
 ((repeat revert K);refine vS ?_;(repeat with_reducible intro K hK))
 refine Ni.out.mono ?_
 rintro e2 w2 ⟨v2,gS,hq⟩
 have gH:=Lh (iS.out.trans gS)
 clear gS Ni
 rcases hq with ⟨fY,rfl,he⟩|⟨fY,I3,rfl,hr⟩|⟨fY,I3,rfl,hr⟩
 ·obtain ⟨t,u,hu⟩:=he.err.iface
  have hc:=he.dec.cell
  have hf:=he.dec.frozen
  have HE:=Lh he
  have oK:=Lh fY
  clear he fY
  ((repeat revert K);refine vS ?_;intro K hK)
  refine Qk [6] fun f=>?_
  exact HQ.out.bad _ (by rw [LT.out,oK.out]) f w2 v2 HE.out gH.out
 ·have hc:=hr.dec.cell
  have hf:=hr.dec.frozen
  have he:v2.err=.nilIface:=hr.err
  have HR:=Lh hr
  have oK:=Lh fY
  have C5:=Lh I3
  obtain ⟨b1,after,k8⟩:∃ b1 after,(aD (b::r)).2=b1::after:=by
   cases hh:(aD (b::r)).2 with
   | nil=>exact absurd hh fY
   | cons b1 after=>exact ⟨b1,after,rfl⟩
  have s7:=Lh k8
  clear hr fY I3 k8
  have H3:=Lh (show bX x c w2 v2 (b1::after) none (buf0++38::[]) by
   have h3:=HR.out
   have h4:=a0G.out
   rw [C5.out,s7.out] at h4
   have h5:b::r=b1::after:=by
    have h6:=s7.out
    have h7:(aD (b::r)).1=[]:=C5.out
    unfold aD at h6 h7
    split at h6<;>rename_i hh
    ·rw [if_pos hh] at h7;cases h7
    ·exact h6
   rw [←h5];exact h3)
  go_simp
  ((repeat revert K);refine vT 60 ?_)
  (refine cJ [0,1,2,9,12,14,15] fun f=>?_)
  refine aY (LR x HX.out c HD.out FP.out w2 v2 b1 after buf0 [] H3.out (by have:=HL.out;omega) (by simp) qv cv Q ⟨?_,?_⟩ f) (by kernel_rfl)
  ·intro raw t r bR f w' v' hr hs o4
   exact HQ.out.ok raw t r (by rw [LT.out,s7.out,C5.out];exact bR) f w' v' hr (gH.out.trans hs) o4
  ·intro k bR f w' v' hr hs
   exact HQ.out.bad k (by rw [LT.out,s7.out,C5.out];exact bR) f w' v' hr (gH.out.trans hs)
 ·obtain ⟨b1,after,k8⟩:∃ b1 after,(aD (b::r)).2=b1::after:=by
   cases hh:(aD (b::r)).2 with
   | nil=>exact absurd hh fY
   | cons b1 after=>exact ⟨b1,after,rfl⟩
  obtain ⟨nm,lD⟩:∃ nm,(aD (b::r)).1=nm:=⟨_,rfl⟩
  rw [k8,lD] at hr
  have HR:=Lh (show bX x c w2 v2 (b1::after) none (buf0++38::nm) by rw [List.append_assoc] at hr;exact hr)
  have s7:=Lh k8
  have Hl:=Lh lD
  have Zm:nm.length≤1000000000:=by
   have h4:=a0G.out
   rw [lD,k8] at h4
   simp at h4
   have:=ON.out
   omega
  clear hr fY I3 k8 lD
  go_simp
  ((repeat revert K);refine vT 60 ?_)
  (refine cJ [0,1,2,9,12,14,15] fun f=>?_)
  refine aY (LR x HX.out c HD.out FP.out w2 v2 b1 after buf0 nm HR.out (by have:=HL.out;omega) Zm qv cv Q ⟨?_,?_⟩ f) (by kernel_rfl)
  ·intro raw t r bR f w' v' hr hs o4
   exact HQ.out.ok raw t r (by rw [LT.out,s7.out,Hl.out];exact bR) f w' v' hr (gH.out.trans hs) o4
  ·intro k bR f w' v' hr hs
   exact HQ.out.bad k (by rw [LT.out,s7.out,Hl.out];exact bR) f w' v' hr (gH.out.trans hs)
end Go.Proofs.YtdjdjbpnbjdaaaaGreatDoor
namespace Go.Proofs.YtdjdjbpnbjdaaaaGreatDoor
open Go Tryz
theorem kQ (o:cU) (q:Option UInt8) (cd:Bool) (b0 b1:UInt8) (buf:Bs) :
  aX o q cd [] b0 b1 buf=if cd then .error (bW o.fails) else if bI buf then .ok (buf,[]) else .error .syn:=by
 rw [aX]
theorem vD (o:cU) (cd:Bool) (r:Bs) (buf:Bs) :
  aX o none cd (62::r) 93 93 buf=if cd then (if bI (buf.take (buf.length-2)) then .ok (buf.take (buf.length-2),r) else .error .syn) else .error .syn:=by
 rw [aX];simp
theorem DE (o:cU) (q:Option UInt8) (r:Bs) (b0 b1:UInt8) (buf:Bs) :
  aX o q false (60::r) b0 b1 buf=if q=none then (if bI buf then .ok (buf,60::r) else .error .syn) else .error .syn:=by
 rw [aX];simp
theorem A0 (o:cU) (cd:Bool) (b:UInt8) (r:Bs) (b0 b1:UInt8) (buf:Bs) (h:¬ (b=60∧cd=false)) :
  aX o (some b) cd (b::r) b0 b1 buf=if bI buf then .ok (buf,r) else .error .syn:=by
 rw [aX,if_neg (by simp),if_neg h,if_pos rfl]
def fP (b b1:UInt8) (buf:Bs):Bs:=if b=13 then buf++[10] else if b1=13∧b=10 then buf else buf++[b]
theorem bZ (o:cU) (q:Option UInt8) (cd:Bool) (b:UInt8) (r:Bs) (b0 b1:UInt8) (buf:Bs) (h1:¬ (q=none∧b0=93∧b1=93∧b=62)) (h2:¬ (b=60∧cd=false)) (h3:q≠some b) (h4:¬ (b=38∧cd=false)) :
  aX o q cd (b::r) b0 b1 buf=aX o q cd r b1 b (fP b b1 buf):=by
 rw [aX,if_neg h1,if_neg h2,if_neg h3,if_neg h4];rfl
theorem zH (o:cU) (q:Option UInt8) (r:Bs) (b0 b1:UInt8) (buf:Bs) (h:q≠some 38) :
  aX o q false (38::r) b0 b1 buf=match iX o.fails o.ents r with
   | .error e=>.error e
   | .ok (_,some t,r')=>aX o q false r' 0 0 (buf++t)
   | .ok (raw,none,r')=>if o.strict then .error .syn else aX o q false r' 0 0 (buf++raw):=by
 rw [aX,if_neg (by simp),if_neg (by simp),if_neg h,if_pos (by simp)]
 split<;>rename_i hh<;>rw [hh]
end Go.Proofs.YtdjdjbpnbjdaaaaGreatDoor
namespace Go.Proofs.YtdjdjbpnbjdaaaaGreatDoor
open Go Go.RowKit Tryz
def lL (o:cU) (r buf:Bs):Except EK (Bs×Bs):=
 match iX o.fails o.ents r with
 | .error e=>.error e
 | .ok (_,some t,r')=>.ok (r',buf++t)
 | .ok (raw,none,r')=>if o.strict then .error .syn else .ok (r',buf++raw)
theorem PS (o:cU) (q:Option UInt8) (r:Bs) (b0 b1:UInt8) (buf:Bs) (h:q≠some 38) :
  aX o q false (38::r) b0 b1 buf=match lL o r buf with|.error e=>.error e|.ok (r',buf')=>aX o q false r' 0 0 buf':=by
 rw [zH o q r b0 b1 buf h]
 unfold lL
 generalize iX o.fails o.ents r=R
 rcases R with e|⟨raw,t,r'⟩
 ·rfl
 ·cases t with
  | none=>by_cases hs:o.strict=true<;>simp [hs]
  | some t=>rfl
theorem PU (n:Nat):(fN n).length≤4:=by
 rw [fN,Array.length_toList,ByteArray.size_data]
 exact encode_size_le _
theorem LU {fails bQ:Bool} {pre rest raw t r:Bs} (h:dY fails bQ pre rest=.ok (raw,some t,r)):t.length≤4:=by
 unfold dY at h
 split at h
 ·cases h
 ·split at h
  ·simp only [cI,cC] at h
   obtain ⟨_,h,_⟩:=h
   split at h
   ·cases h
   ·simp only [oY] at h
    rw [←h]
    exact PU _
  ·simp at h
theorem DF {fails bQ:Bool} {pre rest raw r:Bs} {t:Option Bs} (hp:1≤pre.length) (h:dY fails bQ pre rest=.ok (raw,t,r)):1≤raw.length:=by
 unfold dY at h
 split at h
 ·cases h
 ·split at h<;>(simp only [cI,cC] at h;obtain ⟨h,_⟩:=h;subst h;simp;omega)
theorem PV {s t:Bs} (h:pV s=some t):t.length≤4:=by
 unfold pV at h
 repeat' split at h
 all_goals first|(cases h;simp)|cases h
theorem PW {fails:Bool} {rest raw t r:Bs} (h:iX fails none rest=.ok (raw,some t,r)):t.length≤4:=by
 unfold iX at h
 split at h
 ·cases h
 ·split at h
  ·split at h
   ·cases h
   ·split at h
    ·split at h
     ·cases h
     ·exact LU h
    ·exact LU h
  ·split at h
   ·cases h
   ·split at h
    ·simp only [cI,cC] at h
     obtain ⟨_,h,_⟩:=h
     split at h
     ·unfold yZ at h
      split at h
      ·rename_i hs
       simp only [oY] at h
       subst h
       exact PV hs
      ·cases h
     ·cases h
    ·simp at h
theorem Y6 {fails:Bool} {ents:Option (Bs→Option Bs)} {rest raw r:Bs} {t:Option Bs} (h:iX fails ents rest=.ok (raw,t,r)):1≤raw.length:=by
 unfold iX at h
 split at h
 ·cases h
 ·split at h
  ·split at h
   ·cases h
   ·split at h
    ·split at h
     ·cases h
     ·exact DF (by simp) h
    ·exact DF (by simp) h
  ·split at h
   ·cases h
   ·split at h<;>(simp only [cI,cC] at h;obtain ⟨h,_⟩:=h;subst h;simp)
theorem wI {fails bQ:Bool} {pre rest raw r:Bs} {t:Option Bs} (h:dY fails bQ pre rest=.ok (raw,t,r)):raw.length+r.length≤pre.length+rest.length:=by
 have hs:(bV bQ rest).1.length+(bV bQ rest).2.length=rest.length:=by
  generalize rest=l
  induction l with
  | nil=>rfl
  | cons b r ih=>unfold bV;split<;>simp<;>omega
 unfold dY at h
 split at h
 ·cases h
 ·rename_i b after hb
  rw [hb] at hs
  split at h<;>(simp only [cI,cC] at h;obtain ⟨h,_,h2⟩:=h;subst h;subst h2;simp at hs ⊢;omega)
theorem tZ {fails:Bool} {ents:Option (Bs→Option Bs)} {rest raw r:Bs} {t:Option Bs} (h:iX fails ents rest=.ok (raw,t,r)):raw.length+r.length≤1+rest.length:=by
 unfold iX at h
 split at h
 ·cases h
 ·rename_i c r0
  split at h
  ·split at h
   ·cases h
   ·split at h
    ·split at h
     ·cases h
     ·have:=wI h;simp at this ⊢;omega
    ·have:=wI h;simp at this ⊢;omega
  ·have hs:=lK (c::r0)
   split at h
   ·cases h
   ·rename_i b after hb
    rw [hb] at hs
    split at h<;>(simp only [cI,cC] at h;obtain ⟨h,_,h2⟩:=h;subst h;subst h2;simp at hs ⊢;omega)
structure Rs (x:Cx) (c:DC) (w:World) (v:DV) (qv cv:Value) (Q:Exit→Act→World→Prop) (res:Except EK (Bs×Bs)):Prop where
 ok:∀ r' buf',res=.ok (r',buf')→∀ f w' v',bX x c w' v' r' none buf'→cK x w v w' v'→cO v'→Q (.exit 1) (fr 381 f [(0,bS x),(1,qv),(2,cv),(7,.int .u8 0),(8,.int .u8 0),(9,.int .i64 0)]) w'
 bad:∀ k,res=.error k→∀ f w' v',jP x c w' v' k→cK x w v w' v'→Q .ret (fr 381 f [(6,.slice none 0 0)]) w'
theorem Hm (x:Cx) (hx:x.All) (c:DC) (dR:iU x c) (oI:c.ent=.map none) (t6:x.o.ents=none) (w:World) (v:DV) (r buf:Bs) (h:bX x c w v r none buf) (lI:(38::r) <:+ x.T) (hl:buf.length≤9000000000000)
  (qv cv:Value) (Q:Exit→Act→World→Prop) (hQ:Rs x c w v qv cv Q (lL x.o r buf)) (f:Nat→Value) :
  (fJ 22).wp prog Q (fr 381 f [(0,bS x),(1,qv),(2,cv),(9,.int .i64 0)]) w:=by
 have bF:=Lh (F4 x c w v r none _ h)
 have mZ:=Lh (fun (k:Nat)=>gG x hx.toOk c (w.drewN k) v r none _ (h.drewN hx.toOk k) 38 (by omega))
 have HX:=Lh hx
 have HD:=Lh dR
 have HQ:=Lh hQ
 have FP:=Lh oI
 have A1:=Lh t6
 have kC:=Lh lI
 have HL:=Lh hl
 have ON:=Lh (show r.length≤1000000000 by have h1:=lI.length_le;have h2:=hx.len;simp at h1;omega)
 clear hQ h lI hx dR oI t6 hl
 unfold fJ
 conv=>arg 2;whnf
 (refine vg ?_;(repeat with_reducible intro K hK))
 refine bF.out.mono ?_
 rintro e0 w0 ⟨rfl,k0,rfl⟩
 ((repeat revert K);refine vS ?_;(repeat with_reducible intro K hK))
 refine (mZ.out k0).mono ?_
 rintro e1 w1 ⟨rfl,v1,h1,_,jV⟩
 have H1:=Lh h1
 have iS:=Lh ((cK.drewN k0).trans jV)
 clear h1 jV mZ
 ((repeat revert K);refine vS ?_;(repeat with_reducible intro K hK))
 cases r with
 | nil=>
  have fD:=Lh (bJ x HX.out.toOk c HD.out w1 v1 none _ H1.out)
  refine fD.out.mono ?_
  rintro e3 w3 ⟨rfl,v6,h6,xK,eQ⟩
  have nD:=Lh (iS.out.s0 eQ xK)
  have H6:=Lh h6
  clear h6 xK eQ fD
  ((repeat revert K);refine vS ?_;intro K hK)
  refine Qk [6] fun f=>?_
  exact HQ.out.bad _ rfl f w3 v6 H6.out nD.out
 | cons b r2=>
  have fD:=Lh (bH x HX.out.toOk c HD.out w1 v1 b r2 none _ H1.out)
  refine fD.out.mono ?_
  rintro e3 w3 ⟨rfl,v6,h6,R2,xK,eQ,_⟩
  have nD:=Lh (iS.out.s0 eQ xK)
  have H6:=Lh h6
  have HN6:=Lh R2
  clear h6 xK eQ fD R2
  have HT:=Lh (show ∀ K:Act→World→Prop,(∀ a w,(fJ 75).wp prog Q a w→K a w)→DD x c w3 v6 qv cv buf (Exit.then K Q) (iX x.o.fails none (b::r2)) from fun K hK=>⟨fun raw t r' bR f w' v' hr hs o4=>by
    show K _ _
    refine hK _ _ ?_
    have fT:=Y6 bR
    have hrl:=tZ bR
    have dA:=HD.out.strict
    have y8:=HL.out
    have a3i:=ON.out
    simp only [List.length_cons] at hrl a3i
    cases t with
    | some t=>
     have ht:=PW bR
     refine FN x HX.out.toFit c w' v' r' buf raw t hr o4 (by omega) (by omega) qv cv Q ⟨fun f w2 v2 r2' b2 h2 gS gK hg=>?_,fun hF=>hF.elim⟩ f
     obtain ⟨rfl,rfl⟩:=hg
     exact HQ.out.ok _ _ (by unfold lL;rw [A1.out,bR]) f w2 v2 h2 ((nD.out.trans hs).trans gS) gK
    | none=>
     by_cases YF:x.o.strict=true
     ·refine I8 x HX.out.toFit c (dA.trans YF) w' v' r' buf raw hr fT (by rw [List.length_append];omega) qv cv (aB []) Q (fun _ _=>False) ⟨fun f w2 v2 r2' b2 h2 gS gK hg=>hg.elim,fun _ f w2 v2 he gS=>?_⟩ f
      exact HQ.out.bad .syn (by unfold lL;rw [A1.out,bR];simp [YF]) f w2 v2 he ((nD.out.trans hs).trans gS)
     ·refine DB x c (by rw [dA];simpa using YF) w' v' r' (buf++raw) hr o4 qv cv (aB []) Q ⟨fun f w2 v2 r2' b2 h2 gS gK hg=>?_,fun hF=>hF.elim⟩ _ f
      obtain ⟨rfl,rfl⟩:=hg
      exact HQ.out.ok _ _ (by unfold lL;rw [A1.out,bR];simp [YF]) f w2 v2 h2 ((nD.out.trans hs).trans gS) gK,
   fun k bR f w' v' he hs=>HQ.out.bad k (by unfold lL;rw [A1.out,bR]) f w' v' he (nD.out.trans hs)⟩)
  by_cases hb:b=35
  ·subst hb
   go_simp
   ((repeat revert K);refine vT 31 ?_;intro K hK)
   (refine cJ [0,1,2,9,10,12,14,15] fun f=>?_)
   refine aY (Hj x HX.out c HD.out w3 v6 r2 buf H6.out ((List.suffix_cons _ _).trans kC.out) (by have:=HL.out;omega) qv cv _ none (HT.out _ (fun a w h=>?_)) f) (by kernel_rfl)
   exact hK _ _ (aY h (by kernel_rfl))
  ·have bP:=eU hb (n:=35) rfl
   have HB:=Lh hb
   clear hb
   go_simp
   ((repeat revert K);refine vT 56 ?_;intro K hK)
   (refine cJ [0,1,2,9,10,12,14,15] fun f=>?_)
   refine aY (Y5 x HX.out c HD.out FP.out w3 v6 b HB.out r2 buf H6.out HN6.out ((List.suffix_cons _ _).trans kC.out) (by have:=HL.out;omega) qv cv _ (HT.out _ (fun a w h=>?_)) f) (by kernel_rfl)
   exact hK _ _ (aY h (by kernel_rfl))
end Go.Proofs.YtdjdjbpnbjdaaaaGreatDoor
namespace Go.Proofs.YtdjdjbpnbjdaaaaGreatDoor
open Go Tryz
theorem UJ {o:cU} (jL:o.ents=none) (q:Option UInt8) (cd:Bool):∀ (n:Nat) (rest:Bs),rest.length≤n→∀ (b0 b1:UInt8) (buf d r:Bs),aX o q cd rest b0 b1 buf=.ok (d,r)→d.length≤buf.length+8*rest.length:=by
 intro n
 induction n with
 | zero=>
  intro rest hn b0 b1 buf d r h
  have:rest=[]:=List.eq_nil_of_length_eq_zero (by omega)
  subst this
  unfold aX at h
  split at h
  ·cases h
  ·split at h
   ·simp only [cI,cC] at h;rw [←h.1];omega
   ·cases h
 | succ n ih=>
  intro rest hn b0 b1 buf d r h
  cases rest with
  | nil=>
   unfold aX at h
   split at h
   ·cases h
   ·split at h
    ·simp only [cI,cC] at h;rw [←h.1];omega
    ·cases h
  | cons b t=>
   have ht:t.length≤n:=by simp at hn;omega
   simp only [List.length_cons]
   unfold aX at h
   split at h
   ·split at h
    ·split at h
     ·simp only [cI,cC] at h;rw [←h.1,List.length_take];omega
     ·cases h
    ·cases h
   ·split at h
    ·split at h
     ·split at h
      ·simp only [cI,cC] at h;rw [←h.1];omega
      ·cases h
     ·cases h
    ·split at h
     ·split at h
      ·simp only [cI,cC] at h;rw [←h.1];omega
      ·cases h
     ·split at h
      ·split at h
       ·cases h
       ·rename_i hr
        have hs:=fO (mW hr)
        rw [jL] at hr
        have h4:=PW hr
        have:=ih _ (by omega) _ _ _ _ _ h
        rw [List.length_append] at this;omega
       ·rename_i hr
        have hs:=fO (mW hr)
        have h4:=tZ hr
        split at h
        ·cases h
        ·have:=ih _ (by omega) _ _ _ _ _ h
         rw [List.length_append] at this;omega
      ·have:=ih _ ht _ _ _ _ _ h
       split at this
       ·rw [List.length_append] at this;simp at this;omega
       ·split at this
        ·omega
        ·rw [List.length_append] at this;simp at this;omega
theorem JA (s:Bs):(dW s).1.length≤s.length∧(dW s).2.length≤s.length:=by
 unfold dW
 split
 ·simp
 ·rename_i b loc h
  have h1:loc.length≤s.length:=by
   have h2:=(List.dropWhile_suffix (fun x:UInt8=>x != 58) (l:=s)).length_le
   rw [h] at h2;simp at h2;omega
  have h3:=(List.takeWhile_prefix (fun x:UInt8=>x != 58) (l:=s)).length_le
  split
  ·simp
  ·exact ⟨h3,h1⟩
theorem wY {f:Bool} {l r:Bs} {nm:Bs×Bs} (h:cE f l=.ok (nm,r)):nm.1.length≤l.length∧nm.2.length≤l.length:=by
 obtain ⟨s,h1,_,rfl⟩:=rO h
 obtain ⟨h2,_⟩:=KZ h1
 have h3:=rN l
 rw [h2] at h3
 have h4:s.length≤l.length:=by rw [←h3];simp
 have:=JA s
 omega
def FQ (N:Nat) (a:eI):Prop:=a.1.length≤N∧a.2.1.length≤N∧a.2.2.length≤8*N
theorem LV {o:cU} (jL:o.ents=none) {l d r:Bs} (h:dX o l=.ok (d,r)):d.length≤8*l.length:=by
 unfold dX at h
 split at h
 ·cases h
 ·rename_i q t
  split at h
  ·have:=UJ jL _ _ t.length t (Nat.le_refl _) _ _ _ _ _ h
   simp at this ⊢;omega
  ·split at h
   ·cases h
   ·split at h
    ·cases h
    ·simp only [cI] at h
     have:=AL (q::t)
     rw [h] at this
     have:=congrArg List.length this
     simp at this ⊢;omega
theorem Y7 {o:cU} (jL:o.ents=none) {l:Bs} {a:eI} {r:Bs} (h:gY o l=.ok (a,r)):FQ l.length a:=by
 unfold gY at h
 split at h
 ·cases h
 ·rename_i nm r2 h1
  have hn:=wY h1
  have l1:=fO (kM h1).1
  have l2:=fO (eO r2)
  split at h
  ·cases h
  ·rename_i b r4 h2
   rw [h2] at l2
   simp only [List.length_cons] at l2
   split at h
   ·split at h
    ·cases h
    ·rename_i v r5 h3
     simp only [cI,cC] at h
     obtain ⟨rfl,_⟩:=h
     have h4:=LV jL h3
     have l3:=fO (eO r4)
     exact ⟨hn.1,hn.2,by simp only;omega⟩
   ·split at h
    ·cases h
    ·simp only [cI,cC] at h
     obtain ⟨rfl,_⟩:=h
     exact ⟨hn.1,hn.2,by simp only;omega⟩
theorem FQ.mono {N M:Nat} {a:eI} (h:FQ N a) (hm:N≤M):FQ M a:=by
 obtain ⟨h1,h2,h3⟩:=h
 exact ⟨by omega,by omega,by omega⟩
theorem GE {o:cU} (jL:o.ents=none) (N:Nat):∀ {k:Nat} {rest:Bs} {acc ats:List eI} {em:Bool} {r:Bs},dD o k rest acc=.ok (ats,em,r)→rest.length≤N→(∀ a∈acc,FQ N a)→∀ a∈ats,FQ N a
 | 0,_,_,_,_,_,h,_,_=>by unfold dD at h;cases h
 | k+1,rest,acc,ats,em,r,h,hN,ha=>by
  unfold dD at h
  have s1:=fO (eO rest)
  split at h
  ·cases h
  ·rename_i b r2 h1
   rw [h1] at s1
   split at h
   ·split at h
    ·cases h
    ·split at h
     ·simp only [cI,cC] at h
      rw [←h.1];exact ha
     ·cases h
   ·split at h
    ·simp only [cI,cC] at h
     rw [←h.1];exact ha
    ·split at h
     ·cases h
     ·rename_i a r5 h3
      have h4:=Y7 jL h3
      have h5:=(qL h3).2
      refine GE jL N h (by omega) (fun a' ha'=>?_)
      rcases List.mem_append.1 ha' with h6|h6
      ·exact ha a' h6
      ·simp at h6;subst h6;exact h4.mono (by omega)
def FR (N:Nat):aP→Prop
 | .start nm ats=>nm.1.length≤N∧nm.2.length≤N∧(∀ a∈ats,FQ N a)∧ats.length≤N
 | .fin nm=>nm.1.length≤N∧nm.2.length≤N
 | _=>True
theorem SA {o:cU} (jL:o.ents=none) {s s':St} {t:aP} {N:Nat} (h:fS o s=.ok (t,s')) (hN:s.rest.length≤N) (hc:∀ nm,s.toClose=some nm→nm.1.length≤N∧nm.2.length≤N) :
  FR N t∧∀ nm,s'.toClose=some nm→nm.1.length≤N∧nm.2.length≤N:=by
 unfold fS at h
 split at h
 ·cases h
 ·split at h
  ·rename_i nm hq
   simp only [cI,cC] at h
   obtain ⟨rfl,rfl⟩:=h
   exact ⟨hc nm hq,fun nm h=>by cases h⟩
  ·rename_i hq
   have WW:∀ nm,s.toClose=some nm→nm.1.length≤N∧nm.2.length≤N:=hc
   rw [hq] at WW
   split at h
   ·cases h
   ·rename_i b r hr
    rw [hr] at hN
    simp only [List.length_cons] at hN
    split at h
    ·split at h
     ·cases h
     ·simp only [cI,cC] at h
      obtain ⟨rfl,rfl⟩:=h
      exact ⟨trivial,hc⟩
    ·split at h
     ·cases h
     ·rename_i c r2
      simp only [List.length_cons] at hN
      split at h
      ·split at h
       ·cases h
       ·rename_i t1 r3 h3
        simp only [cI,cC] at h
        obtain ⟨rfl,rfl⟩:=h
        refine ⟨?_,hc⟩
        unfold o7 at h3
        split at h3
        ·cases h3
        ·rename_i nm r4 h4
         have:=wY h4
         split at h3
         ·cases h3
         ·split at h3
          ·simp only [cI,cC] at h3
           obtain ⟨rfl,_⟩:=h3
           exact ⟨by omega,by omega⟩
          ·cases h3
      ·split at h
       ·split at h
        ·cases h
        ·rename_i t1 r3 h3
         simp only [cI,cC] at h
         obtain ⟨rfl,rfl⟩:=h
         obtain ⟨_,x,y,rfl⟩:=RP h3
         exact ⟨trivial,hc⟩
       ·split at h
        ·split at h
         ·cases h
         ·rename_i t1 r3 h3
          simp only [cI,cC] at h
          obtain ⟨rfl,rfl⟩:=h
          obtain ⟨_,hk⟩:=F1 h3
          exact ⟨by rcases hk with ⟨d,rfl⟩|⟨d,rfl⟩|⟨d,rfl⟩<;>trivial,hc⟩
        ·split at h
         ·cases h
         ·rename_i nm ats em r3 h3
          simp only [cI,cC] at h
          obtain ⟨rfl,rfl⟩:=h
          have xH:=(CT h3).2
          simp only [List.length_cons] at xH
          unfold fI at h3
          split at h3
          ·cases h3
          ·rename_i nm2 r4 h4
           have h5:=wY h4
           have h6:=(kM h4).2
           simp only [List.length_cons] at h5 h6
           split at h3
           ·cases h3
           ·rename_i ats2 em2 r5 h7
            simp only [cI,cC] at h3
            obtain ⟨⟨rfl,rfl⟩,rfl,rfl⟩:=h3
            have h8:=GE jL N h7 (by omega) (fun a h=>by cases h)
            refine ⟨⟨by omega,by omega,h8,by omega⟩,fun nm' h=>?_⟩
            cases em2
            ·cases h
            ·simp at h;subst h;exact ⟨by omega,by omega⟩
theorem DG (f:Bool):bW f≠.other:=by unfold bW;split<;>decide
theorem SB (f:Bool):qK f≠.other:=by unfold qK;split<;>decide
abbrev xM {α:Type} (r:Except EK α):Prop:=r≠.error .other
theorem aR {α:Type} (f:Bool):xM (.error (bW f):Except EK α):=fun h=>DG f (by simpa using h)
theorem aW {α:Type}:xM (.error .syn:Except EK α):=fun h=>by cases h
theorem bL {α:Type} (a:α):xM (.ok a:Except EK α):=fun h=>by cases h
theorem GF (f bQ:Bool) (p r:Bs):xM (dY f bQ p r):=by
 unfold dY
 split
 ·(first|exact aR _|exact aW|exact bL _)
 ·split<;>(first|exact aR _|exact aW|exact bL _)
theorem Hn (f:Bool) (en:Option (Bs→Option Bs)) (r:Bs):xM (iX f en r):=by
 unfold iX
 split
 ·(first|exact aR _|exact aW|exact bL _)
 ·split
  ·split
   ·(first|exact aR _|exact aW|exact bL _)
   ·split
    ·split
     ·(first|exact aR _|exact aW|exact bL _)
     ·exact GF _ _ _ _
    ·exact GF _ _ _ _
  ·split
   ·(first|exact aR _|exact aW|exact bL _)
   ·split<;>(first|exact aR _|exact aW|exact bL _)
theorem DH (o:cU) (q:Option UInt8) (cd:Bool):∀ (n:Nat) (rest:Bs),rest.length≤n→∀ (b0 b1:UInt8) (buf:Bs),xM (aX o q cd rest b0 b1 buf):=by
 intro n
 induction n with
 | zero=>
  intro rest hn b0 b1 buf
  have:rest=[]:=List.eq_nil_of_length_eq_zero (by omega)
  subst this
  unfold aX
  split
  ·(first|exact aR _|exact aW|exact bL _)
  ·split<;>(first|exact aR _|exact aW|exact bL _)
 | succ n ih=>
  intro rest hn b0 b1 buf
  cases rest with
  | nil=>
   unfold aX
   split
   ·(first|exact aR _|exact aW|exact bL _)
   ·split<;>(first|exact aR _|exact aW|exact bL _)
  | cons b t=>
   have ht:t.length≤n:=by simp at hn;omega
   unfold aX
   split
   ·split
    ·split<;>(first|exact aR _|exact aW|exact bL _)
    ·(first|exact aR _|exact aW|exact bL _)
   ·split
    ·split
     ·split<;>(first|exact aR _|exact aW|exact bL _)
     ·(first|exact aR _|exact aW|exact bL _)
    ·split
     ·split<;>(first|exact aR _|exact aW|exact bL _)
     ·split
      ·split
       ·rename_i e he
        intro h
        simp only [Except.error.injEq] at h
        subst h
        exact Hn _ _ _ he
       ·rename_i he
        have:=gX he
        exact ih _ (by omega) _ _ _
       ·rename_i he
        have:=gX he
        split
        ·(first|exact aR _|exact aW|exact bL _)
        ·exact ih _ (by omega) _ _ _
      ·exact ih _ ht _ _ _
theorem LW (f:Bool) (r:Bs):xM (eX f r):=by
 unfold eX
 split
 ·(first|exact aR _|exact aW|exact bL _)
 ·split
  ·(first|exact aR _|exact aW|exact bL _)
  ·split<;>(first|exact aR _|exact aW|exact bL _)
theorem mJ {α β:Type} {r:Except EK α} {e:EK} (h:xM r) (he:r=.error e):xM (.error e:Except EK β):=by
 intro hh
 simp only [Except.error.injEq] at hh
 subst hh
 exact h he
theorem wZ (f:Bool) (r:Bs):xM (cE f r):=by
 unfold cE
 split
 ·rename_i he;exact mJ (LW _ _) he
 ·split<;>(first|exact aR _|exact aW|exact bL _)
theorem LX (o:cU) (r:Bs):xM (dX o r):=by
 unfold dX
 split
 ·(first|exact aR _|exact aW|exact bL _)
 ·split
  ·exact DH _ _ _ _ _ (Nat.le_refl _) _ _ _
  ·split
   ·(first|exact aR _|exact aW|exact bL _)
   ·split<;>(first|exact aR _|exact aW|exact bL _)
theorem Y8 (o:cU) (r:Bs):xM (gY o r):=by
 unfold gY
 split
 ·rename_i he;exact mJ (wZ _ _) he
 ·split
  ·(first|exact aR _|exact aW|exact bL _)
  ·split
   ·split
    ·rename_i he;exact mJ (LX _ _) he
    ·(first|exact aR _|exact aW|exact bL _)
   ·split<;>(first|exact aR _|exact aW|exact bL _)
theorem LY {o:cU} {r r':Bs} {a:eI} (h:gY o r=.ok (a,r')):r'.length<r.length:=(qL h).2
theorem GG (o:cU):∀ (k:Nat) (rest:Bs) (acc:List eI),rest.length<k→xM (dD o k rest acc)
 | 0,_,_,h=>by omega
 | k+1,rest,acc,h=>by
  unfold dD
  split
  ·(first|exact aR _|exact aW|exact bL _)
  ·rename_i b r2 hs
   split
   ·split
    ·(first|exact aR _|exact aW|exact bL _)
    ·split<;>(first|exact aR _|exact aW|exact bL _)
   ·split
    ·(first|exact aR _|exact aW|exact bL _)
    ·split
     ·rename_i he;exact mJ (Y8 _ _) he
     ·rename_i a r5 he
      have h1:=LY he
      have h2:(aM rest).length≤rest.length:=(eO rest).length_le
      rw [hs] at h2
      exact GG o k r5 _ (by omega)
theorem UK (o:cU) (r:Bs):xM (fI o r):=by
 unfold fI
 split
 ·rename_i he;exact mJ (wZ _ _) he
 ·split
  ·rename_i he;exact mJ (GG _ _ _ _ (Nat.lt_succ_self _)) he
  ·(first|exact aR _|exact aW|exact bL _)
theorem Ho (o:cU) (r:Bs):xM (o7 o r):=by
 unfold o7
 split
 ·rename_i he;exact mJ (wZ _ _) he
 ·split
  ·(first|exact aR _|exact aW|exact bL _)
  ·split<;>(first|exact aR _|exact aW|exact bL _)
theorem A2 (f:Bool):∀ (r:Bs) (b0 b1:UInt8) (buf:Bs),xM (bY f r b0 b1 buf)
 | [],_,_,_=>by unfold bY;(first|exact aR _|exact aW|exact bL _)
 | b::r,b0,b1,buf=>by
  unfold bY
  split
  ·split<;>(first|exact aR _|exact aW|exact bL _)
  ·exact A2 f r _ _ _
theorem A3 (f:Bool):∀ (r:Bs) (b0 b1:UInt8),xM (cR f r b0 b1)
 | [],_,_=>by unfold cR;(first|exact aR _|exact aW|exact bL _)
 | b::r,b0,b1=>by
  unfold cR
  split
  ·(first|exact aR _|exact aW|exact bL _)
  ·exact A3 f r _ _
theorem Rt (f:Bool):∀ (n:Nat),(∀ (r:Bs),r.length≤n→∀ (b inq:UInt8) (d:Int) (buf:Bs),xM (iD f b r inq d buf))∧(∀ (r:Bs),r.length≤n→∀ (inq:UInt8) (d:Int) (buf:Bs),xM (fG f r inq d buf)):=by
 intro n
 induction n with
 | zero=>
  have hl:∀ (r:Bs),r.length≤0→∀ (inq:UInt8) (d:Int) (buf:Bs),xM (fG f r inq d buf):=by
   intro r hr inq d buf
   have:r=[]:=List.eq_nil_of_length_eq_zero (by omega)
   subst this
   unfold fG;(first|exact aR _|exact aW|exact bL _)
  refine ⟨fun r hr b inq d buf=>?_,hl⟩
  have:r=[]:=List.eq_nil_of_length_eq_zero (by omega)
  subst this
  unfold iD
  repeat' split
  all_goals first|(first|exact aR _|exact aW|exact bL _)|contradiction|exact hl _ (by simp) _ _ _
 | succ n ih=>
  have hl:∀ (r:Bs),r.length≤n+1→∀ (inq:UInt8) (d:Int) (buf:Bs),xM (fG f r inq d buf):=by
   intro r hr inq d buf
   cases r with
   | nil=>unfold fG;(first|exact aR _|exact aW|exact bL _)
   | cons b r=>
    unfold fG
    split
    ·(first|exact aR _|exact aW|exact bL _)
    ·exact ih.1 _ (by simp at hr;omega) _ _ _ _
  refine ⟨fun r hr b inq d buf=>?_,hl⟩
  unfold iD
  split
  ·exact hl _ hr _ _ _
  ·split
   ·exact hl _ hr _ _ _
   ·split
    ·exact hl _ hr _ _ _
    ·split
     ·exact hl _ hr _ _ _
     ·split
      ·split
       ·(first|exact aR _|exact aW|exact bL _)
       ·simp only [List.length_cons] at hr
        split
        ·split
         ·(first|exact aR _|exact aW|exact bL _)
         ·simp only [List.length_cons] at hr
          split
          ·split
           ·(first|exact aR _|exact aW|exact bL _)
           ·simp only [List.length_cons] at hr
            split
            ·split
             ·rename_i he;exact mJ (A3 _ _ _ _) he
             ·rename_i he
              have:=lE he
              exact ih.2 _ (by omega) _ _ _
            ·exact ih.1 _ (by omega) _ _ _ _
          ·exact ih.1 _ (by omega) _ _ _ _
        ·exact ih.1 _ (by omega) _ _ _ _
      ·exact hl _ hr _ _ _
theorem GH (f:Bool):∀ (p r:Bs),xM (fH f p r)
 | [],_=>by unfold fH;(first|exact aR _|exact aW|exact bL _)
 | _::_,[]=>by unfold fH;(first|exact aR _|exact aW|exact bL _)
 | p::ps,b::r=>by
  unfold fH
  split
  ·exact GH f ps r
  ·(first|exact aR _|exact aW|exact bL _)
theorem DI (o:cU) (r:Bs):xM (kK o r):=by
 unfold kK
 split
 ·(first|exact aR _|exact aW|exact bL _)
 ·split
  ·split
   ·(first|exact aR _|exact aW|exact bL _)
   ·split
    ·split
     ·rename_i he;exact mJ (A2 _ _ _ _ _) he
     ·(first|exact aR _|exact aW|exact bL _)
    ·(first|exact aR _|exact aW|exact bL _)
  ·split
   ·split
    ·rename_i he;exact mJ (GH _ _ _) he
    ·split
     ·rename_i he;exact mJ (DH _ _ _ _ _ (Nat.le_refl _) _ _ _) he
     ·(first|exact aR _|exact aW|exact bL _)
   ·split
    ·rename_i he;exact mJ ((Rt _ _).2 _ (Nat.le_refl _) _ _ _) he
    ·(first|exact aR _|exact aW|exact bL _)
end Go.Proofs.YtdjdjbpnbjdaaaaGreatDoor
