/- Part of the proof that laws.FnBalanced returns true for every argument (Wl). No condition of its own. -/
import Derived.Test.YtkjnockljapnbaaGreatDoorO27
import Derived.Test.YtkjnockljapnbaaGreatDoorO28
set_option linter.all false
set_option maxHeartbeats 8000000
set_option maxRecDepth 100000
namespace Go.Proofs.YtkjnockljapnbaaGreatDoor
open Go Go.RowKit
theorem ErrS.other {x:Cx} {c:DC} {w w':World} {v:DV} {k:EK} (h:ErrS x c w v k) {q:Nat} (hm:Mod (fun i=>i=q) w w') (hq:q ≠ x.d) (hB:x.B ≤ q):ErrS x c w' v k:=
  ⟨Mod.below h.base h.base.size hm (fun i hi=>hi ▸ hB),Blk.mod h.dec hm (fun he=>hq he.symm),h.err⟩
theorem RdS.turn {x:Cx} (hx:x.Ok) {c c':DC} {w w':World} {v:DV} {rest:Bs} {e:Option EK} {buf:Bs} (h:RdS x c w v rest e buf) (hd:DecAt w' x.d c' v) (hm:Mod (fun k=>k=x.d) w w'):RdS x c' w' v rest e buf:=by
  obtain ⟨un,hun,hu⟩:=h.inp
  exact ⟨Mod.below h.base h.base.size hm (fun k hk=>hk ▸ hx.d),hd,⟨un,hun.mod hm (fun he=>hx.ne1 he.symm) (fun he=>hx.ne2 he.symm) (fun he=>hx.ne3 he.symm),hu⟩,h.pos,h.err,h.fin,h.bf.mod hm (fun k hk he=>h.bf.notS0 k hk (Or.inl he))⟩
theorem atOne (x:Cx) (hx:x.All) (c:DC) (hdc:DcOk x c) (hno:NoEnt x c) (w0:World) (v0:DV) (w:World) (v:DV) (rest:Bs) (buf:Bs) (h:RdS x c w v rest none buf) (hnn:NonNil v) (hs:Stp x w0 v0 w v) (hB0:x.B ≤ w0.heap.size) (nb:Nat) (nm:Bs × Bs) (av:Value) (acc:List At3) (hk:Keep x w0 w v nb nm av acc) (hn:acc.length ≤ 1000000000)
    (p28 v29:Value) (Q:Exit → Act → World → Prop)
    (hok:∀ a r5,attrL x.o rest=.ok (a,r5) → ∀ f w' v' e' b' av',RdS x c w' v' r5 e' b' → NonNil v' → Stp x w0 v0 w' v' → Keep x w0 w' v' nb nm av' (acc ++ [a]) → Q .normal (fr 731 f [(0,decP x),(28,p28),(29,v29),(30,av')]) w')
    (hbad:∀ k,attrL x.o rest=.error k → ∀ f w' v',ErrS x c w' v' k → Stp x w0 v0 w' v' → Q .ret (fr 731 f [(2,.nilIface),(3,v'.err)]) w') (f:Nat → Value) :
    (rwCode 176).wp Tryz.prog Q (fr 731 f [(0,decP x),(28,p28),(29,v29),(30,av)]) w:=by
  have hb1:Below w.heap.size w (w.alloc (.cells #[strV [],strV [],strV []] 96)):=(Below.refl _ w).alloc (Nat.le_refl _) _
  have hA0:AtSt x c w0 v0 (w.alloc (.cells #[strV [],strV [],strV []] 96)) v rest none nb nm av acc w.heap.size #[strV [],strV [],strV []]:=
    ⟨⟨buf,h.below hx.toOk hb1⟩,hnn,hs.below hb1,hk.below hb1,⟨Blk.new w _ _,h.newS1,hs.mod.size,by have:=hk.name.lt;omega,fun he=>by have:=(ownsRow_lt hk.row he).1;omega⟩⟩
  have HX:=Lib.hid hx
  have HD:=Lib.hid hdc
  have HNO:=Lib.hid hno
  have HOK:=Lib.hid hok
  have HBAD:=Lib.hid hbad
  have HB0:=Lib.hid hB0
  have HN:=Lib.hid hn
  have HA1:=Lib.hid (((hA0.set hB0 0 (strV [])).set hB0 1 (strV [])).set hB0 2 (strV []))
  have HA0:=Lib.hid hA0
  have HAL:=Lib.hid (attrL_tail x.o rest)
  clear hx hdc hno hok hbad hB0 hn hb1 hA0 h hnn hs hk
  unfold rwCode
  conv=>arg 2;whnf
  (repeat ((fail_if_success with_reducible refine wp_stop 177 ?_);(fail_if_success with_reducible refine wp_stop2 177 ?_);(first|(with_reducible first|refine zA fun K hK=>?_|refine zB ?_|refine zC ?_)|((with_reducible first|refine zD rfl fun K hK=>?_|refine zE fun K hK=>?_);go_simp)|(with_reducible first|((repeat ((fail_if_success refine hK _ _ ?_);clear hK K));refine hK _ _ ?_;clear hK K)|refine zt ?_|refine zf ?_|refine zG ?_|refine zR ?_|refine zK ?_|refine zL ?_|refine zN ?_|refine zS ?_)|simp only [Exit.then,Exit.inBlock,Exit.noGoto,↓reduceIte,Nat.reduceEqDiff]|simp only [undef,reduceCtorEq,↓reduceIte])))
  (refine wp_keep [0,28,29,30,31] (fun f=>?_);simp only [keep_cons,keep_nil,lk_cons,lk_nil,Nat.reduceEqDiff,↓reduceIte])
  obtain ⟨ab,hab⟩:∃ ab,ab=w.heap.size:=⟨_,rfl⟩
  obtain ⟨w1,hw1⟩:∃ w1,w1=w.alloc (.cells #[strV [],strV [],strV []] 96):=⟨_,rfl⟩
  have HA2:Hid (AtSt x c w0 v0 w1 v rest none nb nm av acc ab #[strV [],strV [],strV []]):=by rw [hw1,hab];exact HA0.out
  rw [show w.alloc (.cells #[.string ⟨#[]⟩,.string ⟨#[]⟩,.string ⟨#[]⟩] 96)=w1 from hw1.symm,← hab]
  clear HA1 HA0 hw1 hab
  obtain ⟨b1,hr1⟩:=HA2.out.rd
  have hns:=Lib.hid (nsname_c x HX.out.toFit c HD.out w1 v rest none b1 hr1)
  clear hr1
  (repeat (first|(with_reducible first|refine zA fun K hK=>?_|refine zB ?_|refine zC ?_)|((with_reducible first|refine zD rfl fun K hK=>?_|refine zE fun K hK=>?_);go_simp)|(with_reducible first|((repeat ((fail_if_success refine hK _ _ ?_);clear hK K));refine hK _ _ ?_;clear hK K)|refine zt ?_|refine zf ?_|refine zG ?_|refine zR ?_|refine zK ?_|refine zL ?_|refine zN ?_|refine zS ?_)|simp only [Exit.then,Exit.inBlock,Exit.noGoto,↓reduceIte,Nat.reduceEqDiff]|simp only [undef,reduceCtorEq,↓reduceIte]))
  refine hns.out.mono ?_
  rintro e2 w2 ⟨v2,hs2,hp2⟩
  have HC2:=Lib.hid (HA2.out.cell.step hs2)
  have HK2:=Lib.hid (HA2.out.keep.step hs2)
  have HS2:=Lib.hid (HA2.out.stp.trans hs2)
  have hca:=HC2.out.blk.cell
  have hfa:=HC2.out.blk.frozen
  have hdq:x.d ≠ ab:=fun e=>HC2.out.S (Or.inl (Or.inl e.symm))
  have hqd:ab ≠ x.d:=fun e=>hdq e.symm
  clear hs2 hns
  cases hn:nsnameL x.o.fails rest with
  | error k=>
    rw [hn] at hp2
    obtain ⟨an,rfl,hnn2⟩:=hp2
    have HRES:=Lib.hid (show attrL x.o rest=.error k by rw [HAL.out,hn])
    have hm:Mod (fun i=>i=ab) w2 ((w2.setCell ⟨ab,0,none⟩ (strV an.1)).setCell ⟨ab,1,none⟩ (strV an.2)):=((Mod.refl (fun i=>i=ab) w2).setCell (p:=⟨ab,0,none⟩) (Or.inl rfl) _).setCell (p:=⟨ab,1,none⟩) (Or.inl rfl) _
    have HS3:=Lib.hid (HS2.out.fresh (hm.mono (fun i _ hi=>hi ▸ HC2.out.B)))
    rcases hnn2 with hE|⟨rfl,r,b,hR⟩
    · have hE2:=hE.other hm hqd (Nat.le_trans HB0.out HC2.out.B)
      obtain ⟨t1,u1,hu1⟩:=hE.err.iface
      have HE2:=Lib.hid hE2
      have hc:=hE2.dec.cell
      have hf:=hE2.dec.frozen
      have HU:=Lib.hid hu1
      clear hE hE2 hm hn
      go_simp
      (repeat (first|(with_reducible first|refine zA fun K hK=>?_|refine zB ?_|refine zC ?_)|((with_reducible first|refine zD rfl fun K hK=>?_|refine zE fun K hK=>?_);go_simp)|(with_reducible first|((repeat ((fail_if_success refine hK _ _ ?_);clear hK K));refine hK _ _ ?_;clear hK K)|refine zt ?_|refine zf ?_|refine zG ?_|refine zR ?_|refine zK ?_|refine zL ?_|refine zN ?_|refine zS ?_)|simp only [Exit.then,Exit.inBlock,Exit.noGoto,↓reduceIte,Nat.reduceEqDiff]|simp only [undef,reduceCtorEq,↓reduceIte]))
      ((refine wp_keep [0] (fun f=>?_);simp only [keep_cons,keep_nil,lk_cons,lk_nil,Nat.reduceEqDiff,↓reduceIte]);go_quiet (fail);(repeat (first|(with_reducible first|refine zA fun K hK=>?_|refine zB ?_|refine zC ?_)|((with_reducible first|refine zD rfl fun K hK=>?_|refine zE fun K hK=>?_);go_simp)|(with_reducible first|((repeat ((fail_if_success refine hK _ _ ?_);clear hK K));refine hK _ _ ?_;clear hK K)|refine zt ?_|refine zf ?_|refine zG ?_|refine zR ?_|refine zK ?_|refine zL ?_|refine zN ?_|refine zS ?_)|simp only [Exit.then,Exit.inBlock,Exit.noGoto,↓reduceIte,Nat.reduceEqDiff]|simp only [undef,reduceCtorEq,↓reduceIte]));refine Q_keep [2,3] (fun f=>?_);simp only [keep_cons,keep_nil,lk_cons,lk_nil,Nat.reduceEqDiff,↓reduceIte])
      rw [← HU.out]
      exact HBAD.out _ HRES.out f _ v2 (HE2.out.drewN _) (HS3.out.drawn _)
    · have hR2:=hR.mod hm (fun k hk he=>HC2.out.S (he ▸ hk)) (fun k hk=>hk ▸ Nat.le_trans HB0.out HC2.out.B)
      have he:v2.err=.nilIface:=hR2.err
      have hc:=hR2.dec.cell
      have hf:=hR2.dec.frozen
      have HSY:=Lib.hid (fun msg=>synErr_g HX.out.toOk hR2 msg)
      clear hR hR2 hm hn
      go_simp
      (repeat (first|(with_reducible first|refine zA fun K hK=>?_|refine zB ?_|refine zC ?_)|((with_reducible first|refine zD rfl fun K hK=>?_|refine zE fun K hK=>?_);go_simp)|(with_reducible first|((repeat ((fail_if_success refine hK _ _ ?_);clear hK K));refine hK _ _ ?_;clear hK K)|refine zt ?_|refine zf ?_|refine zG ?_|refine zR ?_|refine zK ?_|refine zL ?_|refine zN ?_|refine zS ?_)|simp only [Exit.then,Exit.inBlock,Exit.noGoto,↓reduceIte,Nat.reduceEqDiff]|simp only [undef,reduceCtorEq,↓reduceIte]))
      refine (HSY.out _).mono ?_
      rintro e3 w3 ⟨a9,rfl,hS⟩
      have hc2:=hS.dec.cell
      have hf2:=hS.dec.frozen
      have HS:=Lib.hid hS
      clear hS hc hf he hca hfa
      go_simp
      (repeat (first|(with_reducible first|refine zA fun K hK=>?_|refine zB ?_|refine zC ?_)|((with_reducible first|refine zD rfl fun K hK=>?_|refine zE fun K hK=>?_);go_simp)|(with_reducible first|((repeat ((fail_if_success refine hK _ _ ?_);clear hK K));refine hK _ _ ?_;clear hK K)|refine zt ?_|refine zf ?_|refine zG ?_|refine zR ?_|refine zK ?_|refine zL ?_|refine zN ?_|refine zS ?_)|simp only [Exit.then,Exit.inBlock,Exit.noGoto,↓reduceIte,Nat.reduceEqDiff]|simp only [undef,reduceCtorEq,↓reduceIte]))
      ((refine wp_keep [0] (fun f=>?_);simp only [keep_cons,keep_nil,lk_cons,lk_nil,Nat.reduceEqDiff,↓reduceIte]);go_quiet (fail);(repeat (first|(with_reducible first|refine zA fun K hK=>?_|refine zB ?_|refine zC ?_)|((with_reducible first|refine zD rfl fun K hK=>?_|refine zE fun K hK=>?_);go_simp)|(with_reducible first|((repeat ((fail_if_success refine hK _ _ ?_);clear hK K));refine hK _ _ ?_;clear hK K)|refine zt ?_|refine zf ?_|refine zG ?_|refine zR ?_|refine zK ?_|refine zL ?_|refine zN ?_|refine zS ?_)|simp only [Exit.then,Exit.inBlock,Exit.noGoto,↓reduceIte,Nat.reduceEqDiff]|simp only [undef,reduceCtorEq,↓reduceIte]));refine Q_keep [2,3] (fun f=>?_);simp only [keep_cons,keep_nil,lk_cons,lk_nil,Nat.reduceEqDiff,↓reduceIte])
      exact HBAD.out _ HRES.out f _ { v2 with err:=synV a9 } (HS.out.err.drewN _) ((HS3.out.trans HS.out.stp).drawn _)
  | ok p=>
    obtain ⟨an,r⟩:=p
    rw [hn] at hp2
    obtain ⟨rfl,b,hbne,hR⟩:=hp2
    have HRES:=Lib.hid (show attrL x.o rest=attrTail x.o an r by rw [HAL.out,hn])
    have HA3:Hid (AtSt x c w0 v0 w2 v2 r none nb nm av acc ab #[strV [],strV [],strV []]):=⟨⟨b,hR⟩,hR.nonnil hbne,HS2.out,HK2.out,HC2.out⟩
    have HA4:Hid (AtSt x c w0 v0 ((w2.setCell ⟨ab,0,none⟩ (strV an.1)).setCell ⟨ab,1,none⟩ (strV an.2)) v2 r none nb nm av acc ab #[strV an.1,strV an.2,strV []]):=(HA3.out.set HB0.out 0 (strV an.1)).set HB0.out 1 (strV an.2)
    clear hR hn
    go_simp
    (repeat ((fail_if_success with_reducible refine wp_stop 182 ?_);(fail_if_success with_reducible refine wp_stop2 182 ?_);(first|(with_reducible first|refine zA fun K hK=>?_|refine zB ?_|refine zC ?_)|((with_reducible first|refine zD rfl fun K hK=>?_|refine zE fun K hK=>?_);go_simp)|(with_reducible first|((repeat ((fail_if_success refine hK _ _ ?_);clear hK K));refine hK _ _ ?_;clear hK K)|refine zt ?_|refine zf ?_|refine zG ?_|refine zR ?_|refine zK ?_|refine zL ?_|refine zN ?_|refine zS ?_)|simp only [Exit.then,Exit.inBlock,Exit.noGoto,↓reduceIte,Nat.reduceEqDiff]|simp only [undef,reduceCtorEq,↓reduceIte])))
    (refine wp_keep [0,28,29,30,31] (fun f=>?_);simp only [keep_cons,keep_nil,lk_cons,lk_nil,Nat.reduceEqDiff,↓reduceIte])
    refine wp_code (atValue x HX.out c HD.out HNO.out w0 v0 _ v2 r HB0.out nb nm av acc HN.out ab an HA4.out p28 v29 _ ?_ ?_ f) (by kernel_rfl)
    · intro a r5 hres f w' v' e' b' av' hr hn2 hs' hk'
      have HR:=Lib.hid hr
      have HNN:=Lib.hid hn2
      have HS:=Lib.hid hs'
      have HK:=Lib.hid hk'
      have HG:=Lib.hid (show attrL x.o rest=.ok (a,r5) by rw [HRES.out,hres])
      clear hr hn2 hs' hk' hres hca hfa
      (repeat (first|(with_reducible first|refine zA fun K hK=>?_|refine zB ?_|refine zC ?_)|((with_reducible first|refine zD rfl fun K hK=>?_|refine zE fun K hK=>?_);go_simp)|(with_reducible first|((repeat ((fail_if_success refine hK _ _ ?_);clear hK K));refine hK _ _ ?_;clear hK K)|refine zt ?_|refine zf ?_|refine zG ?_|refine zR ?_|refine zK ?_|refine zL ?_|refine zN ?_|refine zS ?_)|simp only [Exit.then,Exit.inBlock,Exit.noGoto,↓reduceIte,Nat.reduceEqDiff]|simp only [undef,reduceCtorEq,↓reduceIte]))
      exact HOK.out a r5 HG.out f w' v' e' b' av' HR.out HNN.out HS.out HK.out
    · intro k hres f w' v' hE hs'
      have HE:=Lib.hid hE
      have HS:=Lib.hid hs'
      have HG:=Lib.hid (show attrL x.o rest=.error k by rw [HRES.out,hres])
      clear hE hs' hres hca hfa
      (repeat (first|(with_reducible first|refine zA fun K hK=>?_|refine zB ?_|refine zC ?_)|((with_reducible first|refine zD rfl fun K hK=>?_|refine zE fun K hK=>?_);go_simp)|(with_reducible first|((repeat ((fail_if_success refine hK _ _ ?_);clear hK K));refine hK _ _ ?_;clear hK K)|refine zt ?_|refine zf ?_|refine zG ?_|refine zR ?_|refine zK ?_|refine zL ?_|refine zN ?_|refine zS ?_)|simp only [Exit.then,Exit.inBlock,Exit.noGoto,↓reduceIte,Nat.reduceEqDiff]|simp only [undef,reduceCtorEq,↓reduceIte]))
      exact HBAD.out k HG.out f w' v' HE.out HS.out
end Go.Proofs.YtkjnockljapnbaaGreatDoor
