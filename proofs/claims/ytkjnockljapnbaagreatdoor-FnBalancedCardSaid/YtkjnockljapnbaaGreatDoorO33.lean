/- Part of the proof that laws.FnBalanced returns true for every argument (Sd, Se). No condition of its own. -/
import Derived.Test.YtkjnockljapnbaaGreatDoorO32
set_option linter.all false
set_option maxHeartbeats 8000000
set_option maxRecDepth 100000
namespace Go.Proofs.YtkjnockljapnbaaGreatDoor
open Go Go.RowKit
theorem NsAt.drewN {w:World} {m n:Nat} {ns:Bs → Option Bs} (h:NsAt w m n ns) (k:Nat):NsAt (w.drewN k) m n ns:=h.mod (S:=fun _=>False) (mod_none (show Below w.heap.size w (w.drewN k) from ⟨rfl,rfl,rfl,Nat.le_refl _,fun _ _=>rfl⟩) _) id
abbrev xmlnsL:Bs:=[120,109,108,110,115]
theorem set_same {cs:Array Value} {o:Nat} {v:Value} (h:cs[o]?=some v):cs.setIfInBounds o v=cs:=by
  apply Array.ext
  · simp
  · intro i h1 h2
    rw [Array.getElem_setIfInBounds h2]
    split
    · rename_i e;subst e
      rw [Array.getElem?_eq_getElem h2] at h
      simpa using h.symm
    · rfl
def TrPost (w:World) (g:Nat) (cs:Array Value) (t:TypeId) (o:Nat) (s:Bs) (w':World):Prop:=
  Mod (fun k=>k=g) w w'∧Blk w' g (cs.setIfInBounds o (strV s)) t∧w'.heap.size=w.heap.size
theorem TrPost.keep {w:World} {g:Nat} {cs:Array Value} {t:TypeId} {o:Nat} {s:Bs} (hb:Blk w g cs t) (h:cs[o]?=some (strV s)) (k:Nat):TrPost w g cs t o s (w.drewN k):=
  ⟨(Mod.refl _ w).drewN k,by rw [set_same h];exact hb,rfl⟩
theorem TrPost.one {w:World} {g:Nat} {cs:Array Value} {t:TypeId} {o:Nat} (s:Bs) (hb:Blk w g cs t) (k:Nat):TrPost w g cs t o s ((w.drewN k).setCell ⟨g,o,none⟩ (strV s)):=
  ⟨((Mod.refl (fun k=>k=g) w).drewN k).setCell (p:=⟨g,o,none⟩) (Or.inl rfl) _,(show Blk (w.drewN k) g cs t from hb).set o (strV s),by simp [World.setCell]⟩
theorem translate_c (x:Cx) (c:DC) (w:World) (v:DV) (hd:DecAt w x.d c v) (m n:Nat) (ns:Bs → Option Bs) (hmap:c.ns=.map (some m)) (hns:NsAt w m n ns) (hsp:c.space=⟨x.o.space.toArray⟩)
    (g:Nat) (cs:Array Value) (t:TypeId) (hb:Blk w g cs t) (hgd:g ≠ x.d) (hgm:g ≠ m) (o:Nat) (nm:Bs × Bs) (h0:cs[o]?=some (strV nm.1)) (h1:cs[o + 1]?=some (strV nm.2)) (hl:nm.1.length ≤ 100000000000) (el:Bool) :
    Calls Tryz.prog 28 #[decP x,.pointer (some ⟨g,o,none⟩),.bool el] w fun en w'=>en=.returned (.tuple #[])∧TrPost w g cs t o (transL x.o ns nm el).1 w':=by
  have hdg:x.d ≠ g:=fun e=>hgd e.symm
  have hc:=hd.cell
  have hf:=hd.frozen
  have hcg0:w.cell? ⟨g,o,none⟩=some (strV nm.1):=(hb.cell o).trans h0
  have hcg1:w.cell? ⟨g,o + 1,none⟩=some (strV nm.2):=(hb.cell (o + 1)).trans h1
  have hfg:=hb.frozen
  have HB:=Lib.hid hb
  have HD:=Lib.hid hd
  have HNS:=Lib.hid hns
  have H0:=Lib.hid h0
  obtain ⟨c1,c2,c3,c4,c5,c6,c7,c8,c9,c10,c11,c12,c13⟩:=c
  simp only at hmap hsp
  subst hmap hsp
  clear hb hd hns h0 h1
  obtain ⟨sp,lo⟩:=nm
  simp only at hcg0 hcg1 hl
  by_cases e1:sp=xmlnsL
  · subst e1
    refine calls_fr (vs:=[_,_,_]) 75 Tryz.func28 rfl rfl (Nat.le_of_ble_eq_true rfl) fun f=>?_
    simp only [argSlots]
    (repeat (first|(with_reducible first|refine zA fun K hK=>?_|refine zB ?_|refine zC ?_)|((with_reducible first|refine zD rfl fun K hK=>?_|refine zE fun K hK=>?_);go_simp)|(with_reducible first|((repeat ((fail_if_success refine hK _ _ ?_);clear hK K));refine hK _ _ ?_;clear hK K)|refine zt ?_|refine zf ?_|refine zG ?_|refine zR ?_|refine zK ?_|refine zL ?_|refine zN ?_|refine zS ?_)|simp only [Exit.then,Exit.inBlock,Exit.noGoto,↓reduceIte,Nat.reduceEqDiff]|simp only [undef,reduceCtorEq,↓reduceIte]))
    (refine fr_ret0 rfl ?_)
    exact ⟨rfl,TrPost.keep HB.out H0.out 0⟩
  obtain ⟨a1,a2⟩:=lbne e1
  by_cases e2:sp=[]
  · subst e2
    cases el with
    | false=>
      refine calls_fr (vs:=[_,_,_]) 75 Tryz.func28 rfl rfl (Nat.le_of_ble_eq_true rfl) fun f=>?_
      simp only [argSlots]
      (repeat (first|(with_reducible first|refine zA fun K hK=>?_|refine zB ?_|refine zC ?_)|((with_reducible first|refine zD rfl fun K hK=>?_|refine zE fun K hK=>?_);go_simp)|(with_reducible first|((repeat ((fail_if_success refine hK _ _ ?_);clear hK K));refine hK _ _ ?_;clear hK K)|refine zt ?_|refine zf ?_|refine zG ?_|refine zR ?_|refine zK ?_|refine zL ?_|refine zN ?_|refine zS ?_)|simp only [Exit.then,Exit.inBlock,Exit.noGoto,↓reduceIte,Nat.reduceEqDiff]|simp only [undef,reduceCtorEq,↓reduceIte]))
      (refine fr_ret0 rfl ?_)
      exact ⟨rfl,TrPost.keep HB.out H0.out 0⟩
    | true=>
      by_cases e3:lo=xmlnsL
      · subst e3
        refine calls_fr (vs:=[_,_,_]) 75 Tryz.func28 rfl rfl (Nat.le_of_ble_eq_true rfl) fun f=>?_
        simp only [argSlots]
        (repeat (first|(with_reducible first|refine zA fun K hK=>?_|refine zB ?_|refine zC ?_)|((with_reducible first|refine zD rfl fun K hK=>?_|refine zE fun K hK=>?_);go_simp)|(with_reducible first|((repeat ((fail_if_success refine hK _ _ ?_);clear hK K));refine hK _ _ ?_;clear hK K)|refine zt ?_|refine zf ?_|refine zG ?_|refine zR ?_|refine zK ?_|refine zL ?_|refine zN ?_|refine zS ?_)|simp only [Exit.then,Exit.inBlock,Exit.noGoto,↓reduceIte,Nat.reduceEqDiff]|simp only [undef,reduceCtorEq,↓reduceIte]))
        (refine fr_ret0 rfl ?_)
        exact ⟨rfl,TrPost.keep HB.out H0.out 0⟩
      obtain ⟨b1,b2⟩:=lbne e3
      have hlk:=fun k=>(HNS.out.drewN k).look [] (by simp)
      have HT:=Lib.hid (show transL x.o ns ([],lo) true=(match ns [] with|some v=>(v,lo)|none=>(x.o.space,lo)) by
        unfold transL
        rw [if_neg (show ¬ (([]:Bs)=xmlnsB) by decide),if_neg (by simp),if_neg (by rintro ⟨_,_,h⟩;exact e3 h)]
        simp only [show ¬ (([]:Bs)=xmlB) by decide,if_false]
        cases ns [] <;> rfl)
      clear e1 e3
      cases hn:ns [] with
      | some u=>
        rw [hn] at hlk
        simp only [Option.isSome_some,Option.getD_some] at hlk
        have HT2:=Lib.hid (show (transL x.o ns ([],lo) true).1=u by rw [HT.out,hn])
        refine calls_fr (vs:=[_,_,_]) 75 Tryz.func28 rfl rfl (Nat.le_of_ble_eq_true rfl) fun f=>?_
        simp only [argSlots]
        (repeat (first|(with_reducible first|refine zA fun K hK=>?_|refine zB ?_|refine zC ?_)|((with_reducible first|refine zD rfl fun K hK=>?_|refine zE fun K hK=>?_);go_simp)|(with_reducible first|((repeat ((fail_if_success refine hK _ _ ?_);clear hK K));refine hK _ _ ?_;clear hK K)|refine zt ?_|refine zf ?_|refine zG ?_|refine zR ?_|refine zK ?_|refine zL ?_|refine zN ?_|refine zS ?_)|simp only [Exit.then,Exit.inBlock,Exit.noGoto,↓reduceIte,Nat.reduceEqDiff]|simp only [undef,reduceCtorEq,↓reduceIte]))
        (refine wp_keep [0,1] (fun f=>?_);simp only [keep_cons,keep_nil,lk_cons,lk_nil,Nat.reduceEqDiff,↓reduceIte])
        go_quiet (fail)
        (repeat (first|(with_reducible first|refine zA fun K hK=>?_|refine zB ?_|refine zC ?_)|((with_reducible first|refine zD rfl fun K hK=>?_|refine zE fun K hK=>?_);go_simp)|(with_reducible first|((repeat ((fail_if_success refine hK _ _ ?_);clear hK K));refine hK _ _ ?_;clear hK K)|refine zt ?_|refine zf ?_|refine zG ?_|refine zR ?_|refine zK ?_|refine zL ?_|refine zN ?_|refine zS ?_)|simp only [Exit.then,Exit.inBlock,Exit.noGoto,↓reduceIte,Nat.reduceEqDiff]|simp only [undef,reduceCtorEq,↓reduceIte]))
        refine fr_normal ?_
        (refine fr_ret0 rfl ?_)
        rw [HT2.out]
        exact ⟨rfl,TrPost.one u HB.out _⟩
      | none=>
        rw [hn] at hlk
        simp only [Option.isSome_none,Option.getD_none] at hlk
        have HT2:=Lib.hid (show (transL x.o ns ([],lo) true).1=x.o.space by rw [HT.out,hn])
        refine calls_fr (vs:=[_,_,_]) 75 Tryz.func28 rfl rfl (Nat.le_of_ble_eq_true rfl) fun f=>?_
        simp only [argSlots]
        (repeat (first|(with_reducible first|refine zA fun K hK=>?_|refine zB ?_|refine zC ?_)|((with_reducible first|refine zD rfl fun K hK=>?_|refine zE fun K hK=>?_);go_simp)|(with_reducible first|((repeat ((fail_if_success refine hK _ _ ?_);clear hK K));refine hK _ _ ?_;clear hK K)|refine zt ?_|refine zf ?_|refine zG ?_|refine zR ?_|refine zK ?_|refine zL ?_|refine zN ?_|refine zS ?_)|simp only [Exit.then,Exit.inBlock,Exit.noGoto,↓reduceIte,Nat.reduceEqDiff]|simp only [undef,reduceCtorEq,↓reduceIte]))
        (refine wp_keep [0,1] (fun f=>?_);simp only [keep_cons,keep_nil,lk_cons,lk_nil,Nat.reduceEqDiff,↓reduceIte])
        go_quiet (fail)
        (repeat (first|(with_reducible first|refine zA fun K hK=>?_|refine zB ?_|refine zC ?_)|((with_reducible first|refine zD rfl fun K hK=>?_|refine zE fun K hK=>?_);go_simp)|(with_reducible first|((repeat ((fail_if_success refine hK _ _ ?_);clear hK K));refine hK _ _ ?_;clear hK K)|refine zt ?_|refine zf ?_|refine zG ?_|refine zR ?_|refine zK ?_|refine zL ?_|refine zN ?_|refine zS ?_)|simp only [Exit.then,Exit.inBlock,Exit.noGoto,↓reduceIte,Nat.reduceEqDiff]|simp only [undef,reduceCtorEq,↓reduceIte]))
        refine fr_normal ?_
        (refine fr_ret0 rfl ?_)
        rw [HT2.out]
        exact ⟨rfl,TrPost.one x.o.space HB.out _⟩
  obtain ⟨b1,b2⟩:=lbne e2
  by_cases e3:sp=xmlL
  · subst e3
    have hb1:Blk (w.setCell ⟨g,o,none⟩ (strV xmlURLB)) g (cs.setIfInBounds o (strV xmlURLB)) t:=(show Blk w g cs t from HB.out).set o (strV xmlURLB)
    have hns1:NsAt (w.setCell ⟨g,o,none⟩ (strV xmlURLB)) m n ns:=HNS.out.mod (S:=fun k=>k=g) ((Mod.refl (fun k=>k=g) w).setCell (p:=⟨g,o,none⟩) (Or.inl rfl) _) (fun e=>hgm e.symm)
    have hlk:=fun k=>(hns1.drewN k).look xmlURLB (by decide)
    have HB1:=Lib.hid hb1
    have HTW:=Lib.hid (show ∀ s k,TrPost w g cs t o s (((w.setCell ⟨g,o,none⟩ (strV xmlURLB)).drewN k).setCell ⟨g,o,none⟩ (strV s)) from fun s k=>by
      refine ⟨(((Mod.refl (fun i=>i=g) w).setCell (p:=⟨g,o,none⟩) (Or.inl rfl) _).drewN k).setCell (p:=⟨g,o,none⟩) (Or.inl rfl) _,?_,by simp [World.setCell]⟩
      have:=(show Blk ((w.setCell ⟨g,o,none⟩ (strV xmlURLB)).drewN k) g _ t from hb1).set o (strV s)
      simpa using this)
    have HTU:=Lib.hid (show ∀ k,TrPost w g cs t o xmlURLB ((w.setCell ⟨g,o,none⟩ (strV xmlURLB)).drewN k) from fun k=>
      ⟨((Mod.refl (fun i=>i=g) w).setCell (p:=⟨g,o,none⟩) (Or.inl rfl) _).drewN k,hb1,by simp [World.setCell]⟩)
    have HT:=Lib.hid (show transL x.o ns (xmlL,lo) el=(match ns xmlURLB with|some v=>(v,lo)|none=>(xmlURLB,lo)) by
      unfold transL
      rw [if_neg (show ¬ (xmlL=xmlnsB) by decide),if_neg (by simp),if_neg (by rintro ⟨h,_⟩;exact h rfl)]
      simp only [show xmlL=xmlB from rfl,if_true,show ¬ (xmlURLB=[]) by decide,if_false]
      cases ns xmlURLB <;> rfl)
    clear e1 e2 hb1 hns1
    cases hn:ns xmlURLB with
    | some u=>
      rw [hn] at hlk
      simp only [Option.isSome_some,Option.getD_some,strV,xmlURLB] at hlk
      have HT2:=Lib.hid (show (transL x.o ns (xmlL,lo) el).1=u by rw [HT.out,hn])
      cases el
      all_goals
        refine calls_fr (vs:=[_,_,_]) 75 Tryz.func28 rfl rfl (Nat.le_of_ble_eq_true rfl) fun f=>?_
        simp only [argSlots]
        (repeat (first|(with_reducible first|refine zA fun K hK=>?_|refine zB ?_|refine zC ?_)|((with_reducible first|refine zD rfl fun K hK=>?_|refine zE fun K hK=>?_);go_simp)|(with_reducible first|((repeat ((fail_if_success refine hK _ _ ?_);clear hK K));refine hK _ _ ?_;clear hK K)|refine zt ?_|refine zf ?_|refine zG ?_|refine zR ?_|refine zK ?_|refine zL ?_|refine zN ?_|refine zS ?_)|simp only [Exit.then,Exit.inBlock,Exit.noGoto,↓reduceIte,Nat.reduceEqDiff]|simp only [undef,reduceCtorEq,↓reduceIte]))
        (refine wp_keep [0,1] (fun f=>?_);simp only [keep_cons,keep_nil,lk_cons,lk_nil,Nat.reduceEqDiff,↓reduceIte])
        go_quiet (fail)
        (repeat (first|(with_reducible first|refine zA fun K hK=>?_|refine zB ?_|refine zC ?_)|((with_reducible first|refine zD rfl fun K hK=>?_|refine zE fun K hK=>?_);go_simp)|(with_reducible first|((repeat ((fail_if_success refine hK _ _ ?_);clear hK K));refine hK _ _ ?_;clear hK K)|refine zt ?_|refine zf ?_|refine zG ?_|refine zR ?_|refine zK ?_|refine zL ?_|refine zN ?_|refine zS ?_)|simp only [Exit.then,Exit.inBlock,Exit.noGoto,↓reduceIte,Nat.reduceEqDiff]|simp only [undef,reduceCtorEq,↓reduceIte]))
        refine fr_normal ?_
        (refine fr_ret0 rfl ?_)
        rw [HT2.out]
        exact ⟨rfl,HTW.out u _⟩
    | none=>
      rw [hn] at hlk
      simp only [Option.isSome_none,Option.getD_none,strV,xmlURLB] at hlk
      have HT2:=Lib.hid (show (transL x.o ns (xmlL,lo) el).1=xmlURLB by rw [HT.out,hn])
      cases el
      all_goals
        refine calls_fr (vs:=[_,_,_]) 75 Tryz.func28 rfl rfl (Nat.le_of_ble_eq_true rfl) fun f=>?_
        simp only [argSlots]
        (repeat (first|(with_reducible first|refine zA fun K hK=>?_|refine zB ?_|refine zC ?_)|((with_reducible first|refine zD rfl fun K hK=>?_|refine zE fun K hK=>?_);go_simp)|(with_reducible first|((repeat ((fail_if_success refine hK _ _ ?_);clear hK K));refine hK _ _ ?_;clear hK K)|refine zt ?_|refine zf ?_|refine zG ?_|refine zR ?_|refine zK ?_|refine zL ?_|refine zN ?_|refine zS ?_)|simp only [Exit.then,Exit.inBlock,Exit.noGoto,↓reduceIte,Nat.reduceEqDiff]|simp only [undef,reduceCtorEq,↓reduceIte]))
        (refine wp_keep [0,1] (fun f=>?_);simp only [keep_cons,keep_nil,lk_cons,lk_nil,Nat.reduceEqDiff,↓reduceIte])
        go_quiet (fail)
        (repeat (first|(with_reducible first|refine zA fun K hK=>?_|refine zB ?_|refine zC ?_)|((with_reducible first|refine zD rfl fun K hK=>?_|refine zE fun K hK=>?_);go_simp)|(with_reducible first|((repeat ((fail_if_success refine hK _ _ ?_);clear hK K));refine hK _ _ ?_;clear hK K)|refine zt ?_|refine zf ?_|refine zG ?_|refine zR ?_|refine zK ?_|refine zL ?_|refine zN ?_|refine zS ?_)|simp only [Exit.then,Exit.inBlock,Exit.noGoto,↓reduceIte,Nat.reduceEqDiff]|simp only [undef,reduceCtorEq,↓reduceIte]))
        refine fr_normal ?_
        (refine fr_ret0 rfl ?_)
        rw [HT2.out]
        exact ⟨rfl,HTU.out _⟩
  · obtain ⟨d1,d2⟩:=lbne e3
    have hlk:=fun k=>(HNS.out.drewN k).look sp (by unfold maxLen;omega)
    have HT:=Lib.hid (show transL x.o ns (sp,lo) el=(match ns sp with|some v=>(v,lo)|none=>(sp,lo)) by
      unfold transL
      rw [if_neg (show ¬ (sp=xmlnsB) from e1),if_neg (by rintro ⟨h,_⟩;exact e2 h),if_neg (by rintro ⟨_,h,_⟩;exact e2 h)]
      simp only [show ¬ (sp=xmlB) from e3,if_false,e2]
      cases ns sp <;> rfl)
    clear e1 e2 e3
    cases hn:ns sp with
    | some u=>
      rw [hn] at hlk
      simp only [Option.isSome_some,Option.getD_some] at hlk
      have HT2:=Lib.hid (show (transL x.o ns (sp,lo) el).1=u by rw [HT.out,hn])
      cases el
      all_goals
        refine calls_fr (vs:=[_,_,_]) 75 Tryz.func28 rfl rfl (Nat.le_of_ble_eq_true rfl) fun f=>?_
        simp only [argSlots]
        (repeat (first|(with_reducible first|refine zA fun K hK=>?_|refine zB ?_|refine zC ?_)|((with_reducible first|refine zD rfl fun K hK=>?_|refine zE fun K hK=>?_);go_simp)|(with_reducible first|((repeat ((fail_if_success refine hK _ _ ?_);clear hK K));refine hK _ _ ?_;clear hK K)|refine zt ?_|refine zf ?_|refine zG ?_|refine zR ?_|refine zK ?_|refine zL ?_|refine zN ?_|refine zS ?_)|simp only [Exit.then,Exit.inBlock,Exit.noGoto,↓reduceIte,Nat.reduceEqDiff]|simp only [undef,reduceCtorEq,↓reduceIte]))
        (refine wp_keep [0,1] (fun f=>?_);simp only [keep_cons,keep_nil,lk_cons,lk_nil,Nat.reduceEqDiff,↓reduceIte])
        go_quiet (fail)
        (repeat (first|(with_reducible first|refine zA fun K hK=>?_|refine zB ?_|refine zC ?_)|((with_reducible first|refine zD rfl fun K hK=>?_|refine zE fun K hK=>?_);go_simp)|(with_reducible first|((repeat ((fail_if_success refine hK _ _ ?_);clear hK K));refine hK _ _ ?_;clear hK K)|refine zt ?_|refine zf ?_|refine zG ?_|refine zR ?_|refine zK ?_|refine zL ?_|refine zN ?_|refine zS ?_)|simp only [Exit.then,Exit.inBlock,Exit.noGoto,↓reduceIte,Nat.reduceEqDiff]|simp only [undef,reduceCtorEq,↓reduceIte]))
        refine fr_normal ?_
        (refine fr_ret0 rfl ?_)
        rw [HT2.out]
        exact ⟨rfl,TrPost.one u HB.out _⟩
    | none=>
      rw [hn] at hlk
      simp only [Option.isSome_none,Option.getD_none] at hlk
      have HT2:=Lib.hid (show (transL x.o ns (sp,lo) el).1=sp by rw [HT.out,hn])
      cases el
      all_goals
        refine calls_fr (vs:=[_,_,_]) 75 Tryz.func28 rfl rfl (Nat.le_of_ble_eq_true rfl) fun f=>?_
        simp only [argSlots]
        (repeat (first|(with_reducible first|refine zA fun K hK=>?_|refine zB ?_|refine zC ?_)|((with_reducible first|refine zD rfl fun K hK=>?_|refine zE fun K hK=>?_);go_simp)|(with_reducible first|((repeat ((fail_if_success refine hK _ _ ?_);clear hK K));refine hK _ _ ?_;clear hK K)|refine zt ?_|refine zf ?_|refine zG ?_|refine zR ?_|refine zK ?_|refine zL ?_|refine zN ?_|refine zS ?_)|simp only [Exit.then,Exit.inBlock,Exit.noGoto,↓reduceIte,Nat.reduceEqDiff]|simp only [undef,reduceCtorEq,↓reduceIte]))
        (refine wp_keep [0,1] (fun f=>?_);simp only [keep_cons,keep_nil,lk_cons,lk_nil,Nat.reduceEqDiff,↓reduceIte])
        go_quiet (fail)
        (repeat (first|(with_reducible first|refine zA fun K hK=>?_|refine zB ?_|refine zC ?_)|((with_reducible first|refine zD rfl fun K hK=>?_|refine zE fun K hK=>?_);go_simp)|(with_reducible first|((repeat ((fail_if_success refine hK _ _ ?_);clear hK K));refine hK _ _ ?_;clear hK K)|refine zt ?_|refine zf ?_|refine zG ?_|refine zR ?_|refine zK ?_|refine zL ?_|refine zN ?_|refine zS ?_)|simp only [Exit.then,Exit.inBlock,Exit.noGoto,↓reduceIte,Nat.reduceEqDiff]|simp only [undef,reduceCtorEq,↓reduceIte]))
        refine fr_normal ?_
        (refine fr_ret0 rfl ?_)
        rw [HT2.out]
        exact ⟨rfl,TrPost.keep HB.out H0.out _⟩
end Go.Proofs.YtkjnockljapnbaaGreatDoor
namespace Go.Proofs.YtkjnockljapnbaaGreatDoor
open Go Go.RowKit
theorem Own.popped {x:Cx} {w w':World} {c:DC} {v:DV} {m q:Nat} {sb fb:List Nat} {n:Nat} {e:Ent} {stk:List Ent} {ns:Bs → Option Bs} (h:Own x w c v m (q :: sb) fb n (e :: stk) ns) {fl:List Ent} (hp:PopPost x c w v e stk sb fl fb w' q) :
    ∃ c',OwnStep x c w v m (q :: sb) fb c' w' sb (q :: fb)∧Own x w' c' v m sb (q :: fb) n stk ns∧(∃ nx,c'.free=.pointer (some ⟨q,0,none⟩)∧∃ ok,Blk w' q (skCells nx e.kind e.space e.loc ok) 88∧(e.kind=1 → ok=e.ok)):=by
  obtain ⟨c',hd,nx,dp,rfl,hst⟩:=hp.dec
  have hperm:∀ b,b ∈ m :: (sb ++ q :: fb) ↔ b ∈ m :: ((q :: sb) ++ fb):=by
    intro b
    simp only [List.mem_cons,List.mem_append,List.cons_append]
    constructor
    · rintro (h|h|h|h)
      · exact Or.inl h
      · exact Or.inr (Or.inr (Or.inl h))
      · exact Or.inr (Or.inl h)
      · exact Or.inr (Or.inr (Or.inr h))
    · rintro (h|h|h|h)
      · exact Or.inl h
      · exact Or.inr (Or.inr (Or.inl h))
      · exact Or.inr (Or.inl h)
      · exact Or.inr (Or.inr (Or.inr h))
  have hxd:∀ b ∈ m :: ((q :: sb) ++ fb),b ≠ x.d:=fun b hb he=>h.s1 b hb (Or.inl (Or.inl he))
  have hmq:¬ (m=x.d ∨ m=q):=by
    rintro (he|he)
    · exact hxd m (by simp) he
    · have:=(List.nodup_cons.1 h.nodup).1
      exact this (by simp [he])
  refine ⟨_,⟨hd,⟨_,_,_,rfl⟩,hp.mod.mono (fun b _ hb=>?_),fun b hb=>Or.inl ((hperm b).1 hb)⟩,⟨hst,⟨_,hp.free⟩,h.map,h.ns.mod hp.mod hmq,?_,fun b hb=>h.base b ((hperm b).1 hb),fun b hb=>h.s1 b ((hperm b).1 hb)⟩,?_⟩
  · rcases hb with hb|hb
    · exact Or.inl hb
    · exact Or.inr (by simp [hb])
  · have h1:(m :: (q :: sb ++ fb)).Nodup:=h.nodup
    have:(m :: (q :: sb ++ fb)).Perm (m :: (sb ++ q :: fb)):=by
      refine List.Perm.cons m ?_
      exact (List.perm_middle).symm
    exact this.nodup_iff.1 h1
  · obtain ⟨_,nx2,ok,hb,hk,_⟩:=hp.free
    exact ⟨nx2,rfl,ok,hb,hk⟩
theorem Own.turned {x:Cx} {w w':World} {c:DC} {v:DV} {m:Nat} {sb fb:List Nat} {n n':Nat} {stk:List Ent} {ns ns':Bs → Option Bs} (h:Own x w c v m sb fb n stk ns) (hm:Mod (fun k=>k=m) w w') (hn:NsAt w' m n' ns'):Own x w' c v m sb fb n' stk ns':=by
  obtain ⟨fl,hf⟩:=h.free
  have hnm:∀ b ∈ sb ++ fb,¬ b=m:=fun b hb he=>(List.nodup_cons.1 h.nodup).1 (he ▸ hb)
  exact ⟨h.stk.mod hm (fun b hb=>hnm b (by simp [hb])),⟨fl,hf.mod hm (fun b hb=>hnm b (by simp [hb]))⟩,h.map,hn,h.nodup,h.base,h.s1⟩
noncomputable def peCode (n:Nat):Code:=((Tryz.f29.body).bind (Code.partAt n)).getD .skip
def StkOk (stk:List Ent):Prop:=∀ e ∈ stk,(e.kind=0 ∨ e.kind=1)∧e.space.length ≤ 100000000000∧e.loc.length ≤ 100000000000
def UnInv (x:Cx) (c0:DC) (w0:World) (v:DV) (m:Nat) (sb0 fb0:List Nat) (n0:Nat) (stk0:List Ent) (ns0:Bs → Option Bs) (k:Nat) (a:Act) (w:World):Prop:=
  ∃ f c sb fb n stk ns,a=fr 179 f [(0,decP x)]∧OwnStep x c0 w0 v m sb0 fb0 c w sb fb∧Own x w c v m sb fb n stk ns∧k=stk.length∧undoL stk0 ns0=undoL stk ns∧n + stk.length ≤ n0 + stk0.length∧StkOk stk
theorem OwnStep.refl {x:Cx} {c:DC} {w:World} {v:DV} (hd:DecAt w x.d c v) (m:Nat) (sb fb:List Nat):OwnStep x c w v m sb fb c w sb fb:=
  ⟨hd,⟨c.stk,c.free,c.depth,rfl⟩,Mod.refl _ _,fun _ hb=>Or.inl hb⟩
theorem peUndo (x:Cx) (hx:x.Ok) (c0:DC) (w0:World) (v:DV) (hd:DecAt w0 x.d c0 v) (m:Nat) (sb0 fb0:List Nat) (n0:Nat) (stk0:List Ent) (ns0:Bs → Option Bs) (h:Own x w0 c0 v m sb0 fb0 n0 stk0 ns0) (hok:StkOk stk0) (hn:n0 + stk0.length ≤ 100000000000) (Q:Exit → Act → World → Prop)
    (hQ:∀ f c w sb fb n,OwnStep x c0 w0 v m sb0 fb0 c w sb fb → Own x w c v m sb fb n (undoL stk0 ns0).1 (undoL stk0 ns0).2 → n + (undoL stk0 ns0).1.length ≤ n0 + stk0.length → Q .normal (fr 179 f [(0,decP x)]) w) (f:Nat → Value) (c1:Code) (hc1:c1=.loop (peCode 21)) :
    c1.wp Tryz.prog (Exit.inBlock 1 Q) (fr 179 f [(0,decP x)]) w0:=by
  subst hc1
  have HX:=Lib.hid hx
  have HQ:=Lib.hid hQ
  have HN:=Lib.hid hn
  refine wp_loop_ghost_k (UnInv x c0 w0 v m sb0 fb0 n0 stk0 ns0) stk0.length ⟨f,c0,sb0,fb0,n0,stk0,ns0,rfl,OwnStep.refl hd m sb0 fb0,h,rfl,rfl,Nat.le_refl _,hok⟩ ?_
  clear h hok hd hx hQ hn
  rintro k _ w ⟨f,c,sb,fb,n,stk,ns,rfl,hs,ho,hk,hu,hn,hok⟩ J K2 hJ hK2
  have HJ:=Lib.hid hJ
  have HK2:=Lib.hid hK2
  have HS:=Lib.hid hs
  have HO:=Lib.hid ho
  have HK:=Lib.hid hk
  have HU:=Lib.hid hu
  have HNN:=Lib.hid hn
  have HOK:=Lib.hid hok
  have hc:=hs.dec.cell
  have hf:=hs.dec.frozen
  have HD:=Lib.hid hs.dec
  clear hJ hK2 hs hk hu hn hok
  unfold peCode
  conv=>arg 2;whnf
  rcases ho.stk.ptr with ⟨h1,h2,h3⟩|⟨q,e,stk',sb',h1,h2,h3⟩
  · subst h2 h3
    clear ho
    (repeat (first|(with_reducible first|refine zA fun K hK=>?_|refine zB ?_|refine zC ?_)|((with_reducible first|refine zD rfl fun K hK=>?_|refine zE fun K hK=>?_);go_simp)|(with_reducible first|((repeat ((fail_if_success refine hK _ _ ?_);clear hK K));refine hK _ _ ?_;clear hK K)|refine zt ?_|refine zf ?_|refine zG ?_|refine zR ?_|refine zK ?_|refine zL ?_|refine zN ?_|refine zS ?_)|simp only [Exit.then,Exit.inBlock,Exit.noGoto,↓reduceIte,Nat.reduceEqDiff]|simp only [undef,reduceCtorEq,↓reduceIte]))
    refine Q_keep [0] (fun f=>?_);simp only [keep_cons,keep_nil,lk_cons,lk_nil,Nat.reduceEqDiff,↓reduceIte]
    have hu2:=HU.out
    rw [show undoL [] ns=([],ns) from rfl] at hu2
    refine HQ.out f c w [] fb n HS.out ?_ ?_
    · rw [hu2];exact HO.out
    · rw [hu2];exact HNN.out
  · subst h2 h3
    have hst:=ho.stk
    obtain ⟨_,nx,ok,hb,hke,hrest⟩:=hst
    have hcq:=hb.cell
    have hfq:=hb.frozen
    have hek:=(HOK.out e (by simp)).1
    rcases hek with hek|hek
    · have hu2:=HU.out
      have hu3:undoL (e :: stk') ns=(e :: stk',ns):=by unfold undoL;rw [if_pos hek]
      rw [hu3] at hu2
      have HU2:=Lib.hid hu2
      clear ho hb hke hrest hu2 hu3
      rw [hek] at hcq
      (repeat (first|(with_reducible first|refine zA fun K hK=>?_|refine zB ?_|refine zC ?_)|((with_reducible first|refine zD rfl fun K hK=>?_|refine zE fun K hK=>?_);go_simp)|(with_reducible first|((repeat ((fail_if_success refine hK _ _ ?_);clear hK K));refine hK _ _ ?_;clear hK K)|refine zt ?_|refine zf ?_|refine zG ?_|refine zR ?_|refine zK ?_|refine zL ?_|refine zN ?_|refine zS ?_)|simp only [Exit.then,Exit.inBlock,Exit.noGoto,↓reduceIte,Nat.reduceEqDiff]|simp only [undef,reduceCtorEq,↓reduceIte]))
      refine Q_keep [0] (fun f=>?_);simp only [keep_cons,keep_nil,lk_cons,lk_nil,Nat.reduceEqDiff,↓reduceIte]
      refine HQ.out f c w (q :: sb') fb n HS.out ?_ ?_
      · rw [HU2.out];exact HO.out
      · rw [HU2.out];exact HNN.out
    · have hu3:undoL (e :: stk') ns=undoL stk' (setNs ns e.loc (if e.ok then some e.space else none)):=by
        conv=>lhs;unfold undoL
        rw [if_neg (by rw [hek];decide)]
      have HU3:=Lib.hid (HU.out.trans hu3)
      obtain ⟨fl,hfl⟩:=ho.free
      have h3:(m :: ((q :: sb') ++ fb)).Nodup:=ho.nodup
      have hpop:=Lib.hid (pop_c x c w v HD.out q e (Or.inr hek) stk' sb' ho.stk fl fb hfl (fun b hb he=>ho.s1 b (List.mem_cons_of_mem _ hb) (Or.inl (Or.inl he))) (List.nodup_cons.1 h3).2)
      have HEK:=Lib.hid hek
      rw [hek] at hcq
      clear ho hb hke hrest hu3 hfl h3
      (repeat (first|(with_reducible first|refine zA fun K hK=>?_|refine zB ?_|refine zC ?_)|((with_reducible first|refine zD rfl fun K hK=>?_|refine zE fun K hK=>?_);go_simp)|(with_reducible first|((repeat ((fail_if_success refine hK _ _ ?_);clear hK K));refine hK _ _ ?_;clear hK K)|refine zt ?_|refine zf ?_|refine zG ?_|refine zR ?_|refine zK ?_|refine zL ?_|refine zN ?_|refine zS ?_)|simp only [Exit.then,Exit.inBlock,Exit.noGoto,↓reduceIte,Nat.reduceEqDiff]|simp only [undef,reduceCtorEq,↓reduceIte]))
      refine hpop.out.mono ?_
      rintro e1 w1 ⟨rfl,hp⟩
      obtain ⟨c1,hs1,ho1,nx1,hfr1,ok1,hb1,hk1⟩:=HO.out.popped hp
      have hok1:=hk1 HEK.out
      subst hok1
      have hc:=hs1.dec.cell
      have hf:=hs1.dec.frozen
      have hcq:=hb1.cell
      have hfq:=hb1.frozen
      have hmap:=ho1.map
      have HS1:=Lib.hid hs1
      have HO1:=Lib.hid ho1
      have HD1:=Lib.hid hs1.dec
      have HES:=Lib.hid (HOK.out e (by simp)).2
      obtain ⟨p1,p2,p3,p4,p5,p6,p7,p8,p9,p10,p11,p12,p13⟩:=c1
      simp only at hmap
      subst hmap
      clear hp hs1 ho1 hb1 hk1 hpop hfr1
      cases heo:e.ok with
      | true=>
        go_simp
        (repeat (first|(with_reducible first|refine zA fun K hK=>?_|refine zB ?_|refine zC ?_)|((with_reducible first|refine zD rfl fun K hK=>?_|refine zE fun K hK=>?_);go_simp)|(with_reducible first|((repeat ((fail_if_success refine hK _ _ ?_);clear hK K));refine hK _ _ ?_;clear hK K)|refine zt ?_|refine zf ?_|refine zG ?_|refine zR ?_|refine zK ?_|refine zL ?_|refine zN ?_|refine zS ?_)|simp only [Exit.then,Exit.inBlock,Exit.noGoto,↓reduceIte,Nat.reduceEqDiff]|simp only [undef,reduceCtorEq,↓reduceIte]))
        (refine wp_region_pi [0,0,0,1,0,0,0,0,1,0,0,0,0,1,2] [0,1,2,3,4,5,6,7,8,9,10,11,12,13,14] (by kernel_rfl) (by kernel_rfl) ?_;repeat (first|(with_reducible refine wpPi_nil (fun nq=>?_))|((with_reducible refine wpPi_free rfl rfl (fun K hK=>?_));go_simp;refine hK _ ?_;clear hK K)|((with_reducible refine wpPi_quiet rfl rfl (fun K hK=>?_));go_simp;refine hK _ ?_;clear hK K)|((with_reducible refine wpPi_eff rfl rfl (fun nq K hK=>?_));go_simp;refine hK.out _ _ ?_;clear hK K)))
        refine wpPi_eff rfl rfl (fun nq K hK=>?_)
        obtain ⟨w2,hr2,hn2,ht2⟩:=(HO1.out.ns.drewN nq).store (by have h9:n + (e :: stk').length ≤ n0 + stk0.length:=HNN.out;have:=HN.out;unfold maxLen;rw [List.length_cons] at h9;omega) e.loc e.space (by have:=HES.out.2;unfold maxLen;omega) (by have:=HES.out.1;unfold maxLen;omega)
        have HN2:=Lib.hid hn2
        have HT2:=Lib.hid ht2
        clear hn2 ht2
        go_simp
        refine hK.out _ _ ?_
        clear hK K
        (repeat (first|(with_reducible refine wpPi_nil (fun nq=>?_))|((with_reducible refine wpPi_free rfl rfl (fun K hK=>?_));go_simp;refine hK _ ?_;clear hK K)|((with_reducible refine wpPi_quiet rfl rfl (fun K hK=>?_));go_simp;refine hK _ ?_;clear hK K)|((with_reducible refine wpPi_eff rfl rfl (fun nq K hK=>?_));go_simp;refine hK.out _ _ ?_;clear hK K)))
        (try (repeat (first|(with_reducible first|refine zA fun K hK=>?_|refine zB ?_|refine zC ?_)|((with_reducible first|refine zD rfl fun K hK=>?_|refine zE fun K hK=>?_);go_simp)|(with_reducible first|((repeat ((fail_if_success refine hK _ _ ?_);clear hK K));refine hK _ _ ?_;clear hK K)|refine zt ?_|refine zf ?_|refine zG ?_|refine zR ?_|refine zK ?_|refine zL ?_|refine zN ?_|refine zS ?_)|simp only [Exit.then,Exit.inBlock,Exit.noGoto,↓reduceIte,Nat.reduceEqDiff]|simp only [undef,reduceCtorEq,↓reduceIte])))
        have hm2:Mod (fun k=>k=m) w1 (w2.drewN nq):=((show Mod (fun k=>k=m) w1 (w1.drewN _) from (Mod.refl _ w1).drewN _).trans (turned_mod HT2.out) (fun _ _ h=>h)).drewN nq
        have hO2:=HO1.out.turned hm2 (HN2.out.drewN nq)
        have hmd:x.d ≠ m:=fun e=>HO1.out.s1 m (by simp) (Or.inl (Or.inl e.symm))
        have hS2:OwnStep x ⟨p1,p2,p3,p4,p5,p6,p7,p8,p9,p10,p11,p12,.map (some m)⟩ w1 v m sb' (q :: fb) ⟨p1,p2,p3,p4,p5,p6,p7,p8,p9,p10,p11,p12,.map (some m)⟩ (w2.drewN nq) sb' (q :: fb):=⟨Blk.mod HD1.out hm2 hmd,⟨_,_,_,rfl⟩,hm2.mono (fun _ _ h=>Or.inr (by simp [h])),fun _ hb=>Or.inl hb⟩
        (refine K_keep [0] (fun f=>?_);simp only [keep_cons,keep_nil,lk_cons,lk_nil,Nat.reduceEqDiff,↓reduceIte])
        refine HK2.out _ _ ⟨stk'.length,by rw [HK.out];simp,HJ.out _ _ _ ⟨f,_,sb',q :: fb,n + 1,stk',_,rfl,HS.out.trans (HS1.out.trans hS2),hO2,rfl,?_,?_,fun e' he'=>HOK.out e' (by simp [he'])⟩⟩
        · rw [HU3.out,heo];rfl
        · have h9:n + (e :: stk').length ≤ n0 + stk0.length:=HNN.out;rw [List.length_cons] at h9;omega
      | false=>
        go_simp
        (repeat (first|(with_reducible first|refine zA fun K hK=>?_|refine zB ?_|refine zC ?_)|((with_reducible first|refine zD rfl fun K hK=>?_|refine zE fun K hK=>?_);go_simp)|(with_reducible first|((repeat ((fail_if_success refine hK _ _ ?_);clear hK K));refine hK _ _ ?_;clear hK K)|refine zt ?_|refine zf ?_|refine zG ?_|refine zR ?_|refine zK ?_|refine zL ?_|refine zN ?_|refine zS ?_)|simp only [Exit.then,Exit.inBlock,Exit.noGoto,↓reduceIte,Nat.reduceEqDiff]|simp only [undef,reduceCtorEq,↓reduceIte]))
        (refine wp_region_pi [0,0,0,1,0,0,0,0,1,2] [0,1,2,3,4,5,6,7,8,9] (by kernel_rfl) (by kernel_rfl) ?_;repeat (first|(with_reducible refine wpPi_nil (fun nq=>?_))|((with_reducible refine wpPi_free rfl rfl (fun K hK=>?_));go_simp;refine hK _ ?_;clear hK K)|((with_reducible refine wpPi_quiet rfl rfl (fun K hK=>?_));go_simp;refine hK _ ?_;clear hK K)|((with_reducible refine wpPi_eff rfl rfl (fun nq K hK=>?_));go_simp;refine hK.out _ _ ?_;clear hK K)))
        refine wpPi_eff rfl rfl (fun nq K hK=>?_)
        obtain ⟨w2,hr2,hn2,ht2⟩:=(HO1.out.ns.drewN nq).drop e.loc (by have:=HES.out.2;unfold maxLen;omega) 0
        have HN2:=Lib.hid hn2
        have HT2:=Lib.hid ht2
        clear hn2 ht2
        go_simp
        refine hK.out _ _ ?_
        clear hK K
        (repeat (first|(with_reducible refine wpPi_nil (fun nq=>?_))|((with_reducible refine wpPi_free rfl rfl (fun K hK=>?_));go_simp;refine hK _ ?_;clear hK K)|((with_reducible refine wpPi_quiet rfl rfl (fun K hK=>?_));go_simp;refine hK _ ?_;clear hK K)|((with_reducible refine wpPi_eff rfl rfl (fun nq K hK=>?_));go_simp;refine hK.out _ _ ?_;clear hK K)))
        (try (repeat (first|(with_reducible first|refine zA fun K hK=>?_|refine zB ?_|refine zC ?_)|((with_reducible first|refine zD rfl fun K hK=>?_|refine zE fun K hK=>?_);go_simp)|(with_reducible first|((repeat ((fail_if_success refine hK _ _ ?_);clear hK K));refine hK _ _ ?_;clear hK K)|refine zt ?_|refine zf ?_|refine zG ?_|refine zR ?_|refine zK ?_|refine zL ?_|refine zN ?_|refine zS ?_)|simp only [Exit.then,Exit.inBlock,Exit.noGoto,↓reduceIte,Nat.reduceEqDiff]|simp only [undef,reduceCtorEq,↓reduceIte])))
        have hm2:Mod (fun k=>k=m) w1 (w2.drewN nq):=((show Mod (fun k=>k=m) w1 (w1.drewN _) from (Mod.refl _ w1).drewN _).trans (turned_mod HT2.out) (fun _ _ h=>h)).drewN nq
        have hO2:=HO1.out.turned hm2 (HN2.out.drewN nq)
        have hmd:x.d ≠ m:=fun e=>HO1.out.s1 m (by simp) (Or.inl (Or.inl e.symm))
        have hS2:OwnStep x ⟨p1,p2,p3,p4,p5,p6,p7,p8,p9,p10,p11,p12,.map (some m)⟩ w1 v m sb' (q :: fb) ⟨p1,p2,p3,p4,p5,p6,p7,p8,p9,p10,p11,p12,.map (some m)⟩ (w2.drewN nq) sb' (q :: fb):=⟨Blk.mod HD1.out hm2 hmd,⟨_,_,_,rfl⟩,hm2.mono (fun _ _ h=>Or.inr (by simp [h])),fun _ hb=>Or.inl hb⟩
        (refine K_keep [0] (fun f=>?_);simp only [keep_cons,keep_nil,lk_cons,lk_nil,Nat.reduceEqDiff,↓reduceIte])
        refine HK2.out _ _ ⟨stk'.length,by rw [HK.out];simp,HJ.out _ _ _ ⟨f,_,sb',q :: fb,n,stk',_,rfl,HS.out.trans (HS1.out.trans hS2),hO2,rfl,?_,?_,fun e' he'=>HOK.out e' (by simp [he'])⟩⟩
        · rw [HU3.out,heo];rfl
        · have h9:n + (e :: stk').length ≤ n0 + stk0.length:=HNN.out;rw [List.length_cons] at h9;omega
end Go.Proofs.YtkjnockljapnbaaGreatDoor
