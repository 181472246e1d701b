/- Part of the proof that laws.FnLooseReferences returns true for every text (the claim of laws.FnLooseReferences: Ve). No condition of its own. -/
import Derived.Test.YtkjnockljapnbaaGreatDoorJVd
import Derived.Test.YtkjnockljapnbaaGreatDoorJVc
set_option linter.all false
/- impl.decoder without entities. -/
namespace Go.Proofs.YtkjnockljapnbaaGreatDoor
open Go Go.RowKit

/-- The options as a value. -/
abbrev optV (raw loose : Bool) (auto : Value) (space : Bs) : Value := .agg #[.bool raw, .bool loose, .slice none 0 0, auto, strV space]
set_option maxHeartbeats 8000000 in
set_option maxRecDepth 100000 in
theorem decoder_c (x : Cx) (w : World) (raw loose : Bool) (a : Option Addr) (al ac : Nat) (space : Bs) (h0 : x.d = w.heap.size + 2) (h1 : x.br = w.heap.size + 3) (h2 : x.rb = w.heap.size + 4) :
    Calls Tryz.prog 15 #[rdI x, optV raw loose (.slice a al ac) space] w fun e w' => e = .returned (decP x) ∧ Below w.heap.size w w' ∧ DecAt w' x.d { c0 x (w.heap.size + 1) with strict := !loose, auto := .slice a al ac, space := ⟨space.toArray⟩ } v0 ∧ Blk w' x.br (bioC x 0 0 .nilIface (-1)) 216 ∧ (∃ arr : Array Value, arr.size = 4096 ∧ Blk w' x.rb arr 5) ∧ w'.heap[w.heap.size + 1]? = some (.map #[] 0) := by
  have hw0 : (w.alloc (.cells #[.bool raw, .bool loose, .slice none 0 0, .slice a al ac, strV space] 30)).heap.size = w.heap.size + 1 := by simp
  have hnd := Lib.hid (newDecoder_c x (w.alloc (.cells #[.bool raw, .bool loose, .slice none 0 0, .slice a al ac, strV space] 30)) (by rw [hw0]; omega) (by rw [hw0]; omega) (by rw [hw0]; omega))
  have HB := Lib.hid (Blk.new w #[.bool raw, .bool loose, .slice none 0 0, .slice a al ac, strV space] 30)
  have HW0 := Lib.hid hw0
  have H0 := Lib.hid h0
  have H1 := Lib.hid h1
  have H2 := Lib.hid h2
  clear h0 h1 h2 hw0
  refine calls_fr (vs := [_, _]) 51 Tryz.func15 rfl rfl (Nat.le_of_ble_eq_true rfl) fun f => ?_
  simp only [argSlots]
  (repeat (first | with_reducible refine wp_seq_k (fun K hK => ?_) | with_reducible refine wp_region_lit ?_ | with_reducible refine wpList_nil ?_ | ((with_reducible refine wpList_plain rfl (fun K hK => ?_)); go_simp) | ((with_reducible refine wpList_step (fun K hK => ?_)); go_simp) | (with_reducible ((first | refine hK _ _ ?_ | (clear hK K; refine hK _ _ ?_) | (clear hK K; clear hK K; refine hK _ _ ?_) | (clear hK K; clear hK K; clear hK K; refine hK _ _ ?_) | (clear hK K; clear hK K; clear hK K; clear hK K; refine hK _ _ ?_) | (clear hK K; clear hK K; clear hK K; clear hK K; clear hK K; refine hK _ _ ?_)); clear hK K)) | with_reducible refine wp_cond_true (by first | (go_simp; done) | (go_simp; omega)) ?_ | with_reducible refine wp_cond_false (by first | (go_simp; done) | (go_simp; omega)) ?_ | with_reducible refine wp_exit ?_ | with_reducible refine wp_ret ?_ | with_reducible refine wp_block ?_ | with_reducible refine wp_label ?_ | with_reducible refine wp_skip ?_ | with_reducible refine wp_scope_straight ?_ | simp only [Exit.then, Exit.inBlock, Exit.noGoto, ↓reduceIte, Nat.reduceEqDiff] | simp only [undef, reduceCtorEq, ↓reduceIte]))
  refine hnd.out.mono ?_
  rintro e1 w1 ⟨rfl, hN⟩
  have hbk : Blk w1 w.heap.size _ _ := Blk.mod (S := fun _ => False) HB.out (mod_none hN.below _) id
  have hc1 := hN.dec.cell
  have hf1 := hN.dec.frozen
  have hc2 := hbk.cell
  have hf2 := hbk.frozen
  have HN := Lib.hid hN
  have HBK := Lib.hid hbk
  have hne : x.d ≠ w.heap.size := by have := H0.out; omega
  clear hN hbk hnd
  go_simp
  (repeat (first | with_reducible refine wp_seq_k (fun K hK => ?_) | with_reducible refine wp_region_lit ?_ | with_reducible refine wpList_nil ?_ | ((with_reducible refine wpList_plain rfl (fun K hK => ?_)); go_simp) | ((with_reducible refine wpList_step (fun K hK => ?_)); go_simp) | (with_reducible ((first | refine hK _ _ ?_ | (clear hK K; refine hK _ _ ?_) | (clear hK K; clear hK K; refine hK _ _ ?_) | (clear hK K; clear hK K; clear hK K; refine hK _ _ ?_) | (clear hK K; clear hK K; clear hK K; clear hK K; refine hK _ _ ?_) | (clear hK K; clear hK K; clear hK K; clear hK K; clear hK K; refine hK _ _ ?_)); clear hK K)) | with_reducible refine wp_cond_true (by first | (go_simp; done) | (go_simp; omega)) ?_ | with_reducible refine wp_cond_false (by first | (go_simp; done) | (go_simp; omega)) ?_ | with_reducible refine wp_exit ?_ | with_reducible refine wp_ret ?_ | with_reducible refine wp_block ?_ | with_reducible refine wp_label ?_ | with_reducible refine wp_skip ?_ | with_reducible refine wp_scope_straight ?_ | simp only [Exit.then, Exit.inBlock, Exit.noGoto, ↓reduceIte, Nat.reduceEqDiff] | simp only [undef, reduceCtorEq, ↓reduceIte]))
  (refine wp_keep [3, 5] (fun f => ?_); simp only [keep_cons, keep_nil, lk_cons, lk_nil, Nat.reduceEqDiff, ↓reduceIte])
  go_region_held3 (fun w' => w'.cell? ⟨w.heap.size, 1, none⟩ = some (.bool loose) ∧ w'.cell? ⟨w.heap.size, 3, none⟩ = some (.slice a al ac) ∧ w'.cell? ⟨w.heap.size, 4, none⟩ = some (strV space)) (go_keep) (fail)
  clear hc1 hf1 hc2 hf2
  have hne' : w.heap.size ≠ x.d := fun e => hne e.symm
  obtain ⟨w3, hw3⟩ : ∃ w3, w3 = (((w1.setCell ⟨x.d, 0, none⟩ (.bool !loose)).setCell ⟨x.d, 1, none⟩ (.slice a al ac)).setCell ⟨x.d, 4, none⟩ (.string ⟨space.toArray⟩)).drew := ⟨_, rfl⟩
  have hb3 : Blk w3 w.heap.size #[.bool raw, .bool loose, .slice none 0 0, .slice a al ac, strV space] 30 := by
    rw [hw3]
    exact ((((show Blk w1 w.heap.size _ _ from HBK.out).set_ne (a := ⟨x.d, 0, none⟩) hne' (.bool !loose)).set_ne (a := ⟨x.d, 1, none⟩) hne' (.slice a al ac)).set_ne (a := ⟨x.d, 4, none⟩) hne' (.string ⟨space.toArray⟩)).drew
  have hd3 : DecAt w3 x.d { c0 x (w.heap.size + 1) with strict := !loose, auto := .slice a al ac, space := ⟨space.toArray⟩ } v0 := by
    rw [hw3]
    have h9 := ((((show Blk w1 x.d _ _ from HN.out.dec).set 0 (.bool !loose)).set 1 (.slice a al ac)).set 4 (.string ⟨space.toArray⟩))
    rw [HW0.out] at h9
    exact h9.drew
  have hbe : Below w.heap.size w w3 := by
    rw [hw3]
    have hd := H0.out
    refine Below.drew ?_
    refine Below.setCell ?_ (by show w.heap.size ≤ x.d; omega) _
    refine Below.setCell ?_ (by show w.heap.size ≤ x.d; omega) _
    refine Below.setCell ?_ (by show w.heap.size ≤ x.d; omega) _
    exact ((Below.refl _ w).alloc (Nat.le_refl _) _).trans (HN.out.below.mono (by simp))
  have hbr3 : Blk w3 x.br (bioC x 0 0 .nilIface (-1)) 216 := by
    rw [hw3]
    have hn : x.br ≠ x.d := by have := H0.out; have := H1.out; omega
    exact (((HN.out.br.set_ne (a := ⟨x.d, 0, none⟩) hn (.bool !loose)).set_ne (a := ⟨x.d, 1, none⟩) hn (.slice a al ac)).set_ne (a := ⟨x.d, 4, none⟩) hn (.string ⟨space.toArray⟩)).drew
  have hrb3 : ∃ arr : Array Value, arr.size = 4096 ∧ Blk w3 x.rb arr 5 := by
    rw [hw3]
    obtain ⟨arr, ha, hb⟩ := HN.out.rb
    have hn : x.rb ≠ x.d := by have := H0.out; have := H2.out; omega
    exact ⟨arr, ha, (((hb.set_ne (a := ⟨x.d, 0, none⟩) hn (.bool !loose)).set_ne (a := ⟨x.d, 1, none⟩) hn (.slice a al ac)).set_ne (a := ⟨x.d, 4, none⟩) hn (.string ⟨space.toArray⟩)).drew⟩
  have hm3 : w3.heap[w.heap.size + 1]? = some (.map #[] 0) := by
    rw [hw3]
    have hm := HN.out.map
    rw [HW0.out] at hm
    have hn : w.heap.size + 1 ≠ x.d := by have := H0.out; omega
    show (((w1.setCell ⟨x.d, 0, none⟩ (.bool !loose)).setCell ⟨x.d, 1, none⟩ (.slice a al ac)).setCell ⟨x.d, 4, none⟩ (.string ⟨space.toArray⟩)).heap[w.heap.size + 1]? = _
    rw [heap_setCell_ne _ _ _ _ hn, heap_setCell_ne _ _ _ _ hn, heap_setCell_ne _ _ _ _ hn]
    exact hm
  rw [← hw3]
  clear hw3
  have hc3 := hb3.cell
  have hf3 := hb3.frozen
  have HD3 := Lib.hid hd3
  have HE3 := Lib.hid hbe
  have HBR := Lib.hid hbr3
  have HRB := Lib.hid hrb3
  have HM := Lib.hid hm3
  clear hb3 hd3 hbe hbr3 hrb3 hm3
  (repeat (first | with_reducible refine wp_seq_k (fun K hK => ?_) | with_reducible refine wp_region_lit ?_ | with_reducible refine wpList_nil ?_ | ((with_reducible refine wpList_plain rfl (fun K hK => ?_)); go_simp) | ((with_reducible refine wpList_step (fun K hK => ?_)); go_simp) | (with_reducible ((first | refine hK _ _ ?_ | (clear hK K; refine hK _ _ ?_) | (clear hK K; clear hK K; refine hK _ _ ?_) | (clear hK K; clear hK K; clear hK K; refine hK _ _ ?_) | (clear hK K; clear hK K; clear hK K; clear hK K; refine hK _ _ ?_) | (clear hK K; clear hK K; clear hK K; clear hK K; clear hK K; refine hK _ _ ?_)); clear hK K)) | with_reducible refine wp_cond_true (by first | (go_simp; done) | (go_simp; omega)) ?_ | with_reducible refine wp_cond_false (by first | (go_simp; done) | (go_simp; omega)) ?_ | with_reducible refine wp_exit ?_ | with_reducible refine wp_ret ?_ | with_reducible refine wp_block ?_ | with_reducible refine wp_label ?_ | with_reducible refine wp_skip ?_ | with_reducible refine wp_scope_straight ?_ | simp only [Exit.then, Exit.inBlock, Exit.noGoto, ↓reduceIte, Nat.reduceEqDiff] | simp only [undef, reduceCtorEq, ↓reduceIte]))
  refine wp_loop_once ?_
  (repeat (first | with_reducible refine wp_seq_k (fun K hK => ?_) | with_reducible refine wp_region_lit ?_ | with_reducible refine wpList_nil ?_ | ((with_reducible refine wpList_plain rfl (fun K hK => ?_)); go_simp) | ((with_reducible refine wpList_step (fun K hK => ?_)); go_simp) | (with_reducible ((first | refine hK _ _ ?_ | (clear hK K; refine hK _ _ ?_) | (clear hK K; clear hK K; refine hK _ _ ?_) | (clear hK K; clear hK K; clear hK K; refine hK _ _ ?_) | (clear hK K; clear hK K; clear hK K; clear hK K; refine hK _ _ ?_) | (clear hK K; clear hK K; clear hK K; clear hK K; clear hK K; refine hK _ _ ?_)); clear hK K)) | with_reducible refine wp_cond_true (by first | (go_simp; done) | (go_simp; omega)) ?_ | with_reducible refine wp_cond_false (by first | (go_simp; done) | (go_simp; omega)) ?_ | with_reducible refine wp_exit ?_ | with_reducible refine wp_ret ?_ | with_reducible refine wp_block ?_ | with_reducible refine wp_label ?_ | with_reducible refine wp_skip ?_ | with_reducible refine wp_scope_straight ?_ | simp only [Exit.then, Exit.inBlock, Exit.noGoto, ↓reduceIte, Nat.reduceEqDiff] | simp only [undef, reduceCtorEq, ↓reduceIte]))
  (refine fr_out1 rfl (by decide) (by simp only [lk_cons, lk_nil, Nat.reduceEqDiff, ↓reduceIte]; rfl) ?_)
  exact ⟨rfl, HE3.out, HD3.out, HBR.out, HRB.out, HM.out⟩
end Go.Proofs.YtkjnockljapnbaaGreatDoor
