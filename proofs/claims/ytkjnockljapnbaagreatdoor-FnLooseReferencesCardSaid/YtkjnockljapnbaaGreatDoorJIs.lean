/- Part of the proof that laws.FnLooseReferences returns true for every text (the claim of laws.FnLooseReferences: Is). No condition of its own. -/
import Derived.Test.YtkjnockljapnbaaGreatDoorJTa
import Derived.Test.YtkjnockljapnbaaGreatDoorJTc
import Derived.Shelf.Unicode.PredsPay
set_option linter.all false
/- isName. -/
namespace Go.Proofs.YtkjnockljapnbaaGreatDoor
open Go Go.RowKit

theorem rgCells_at : ∀ (T : List Lib.Rg) (i : Nat), i < T.length → ∀ j, j < 3 → (T.flatMap fun r => [Value.int .u16 r.1, .int .u16 r.2.1, .int .u16 r.2.2])[i * 3 + j]? = ([Value.int .u16 (T.getD i (0, 0, 0)).1, .int .u16 (T.getD i (0, 0, 0)).2.1, .int .u16 (T.getD i (0, 0, 0)).2.2])[j]?
  | [], i, hi, _, _ => by simp at hi
  | r :: T, 0, _, j, hj => by
    simp only [List.flatMap_cons, Nat.zero_mul, Nat.zero_add]
    rw [List.getElem?_append_left (by simpa using hj)]
    simp
  | r :: T, i + 1, hi, j, hj => by
    simp only [List.flatMap_cons]
    rw [List.getElem?_append_right (by simp; omega), show (i + 1) * 3 + j - [Value.int .u16 r.1, .int .u16 r.2.1, .int .u16 r.2.2].length = i * 3 + j by simp; omega, rgCells_at T i (by simpa using hi) j hj]
    simp
theorem tab_at (T : Lib.RTab) (h32 : T.r32 = #[]) (hoff : T.off = 0) (w : World) : Lib.RTabAt (w.alloc (.cells (rgCells T.r16) 229)).heap.size 0 T (tabWorld T w) := by
  have h1 : Blk (tabWorld T w) (w.alloc (.cells (rgCells T.r16) 229)).heap.size #[.slice (some ⟨w.heap.size, 0, none⟩) T.r16.size T.r16.size, .slice none 0 0, .int .i64 0] 226 := Blk.new _ _ _
  have h2 : Blk (tabWorld T w) w.heap.size (rgCells T.r16) 229 := (Blk.new w (rgCells T.r16) _).alloc _
  refine ⟨some ⟨w.heap.size, 0, none⟩, none, w.heap.size, 0, T.r16.size, 0, 0, 0, by rw [h1.cell]; rfl, by rw [h1.cell, h32]; rfl, by rw [h1.cell, hoff]; rfl, fun _ => rfl, fun h => by rw [h32] at h; simp at h, ?_, fun i hi => by rw [h32] at hi; simp at hi, Nat.le_refl _⟩
  intro i hi
  have hi' : i < T.r16.toList.length := by simpa using hi
  have e := fun j hj => rgCells_at T.r16.toList i hi' j hj
  have g : T.r16.toList.getD i (0, 0, 0) = T.r16.getD i (0, 0, 0) := by simp [Array.getD, List.getD_eq_getElem?_getD, hi]
  rw [g] at e
  refine ⟨?_, ?_, ?_⟩
  · rw [h2.cell]; have := e 0 (by omega); simpa [rgCells] using this
  · rw [h2.cell]; have := e 1 (by omega); simpa [rgCells, Nat.add_assoc] using this
  · rw [h2.cell]; have := e 2 (by omega); simpa [rgCells, Nat.add_assoc] using this
theorem rgOk_of (B : Nat) (T : Array Lib.Rg) (h : T.toList.all (fun r => decide (r.1 < B) && decide (r.2.1 < B) && decide (r.2.2 < B) && decide (1 ≤ r.2.2)) = true) : Lib.RgOk B T := by
  intro i hi
  have hm : T.getD i (0, 0, 0) ∈ T.toList := by simp [Array.getD, hi]
  have := List.all_eq_true.1 h _ hm
  simp only [Bool.and_eq_true, decide_eq_true_eq] at this
  exact ⟨this.1.1.1, this.1.1.2, this.1.2, this.2⟩
theorem first_ok : Lib.RTabOk firstT := ⟨rgOk_of _ _ (by kernel_rfl), rgOk_of _ _ rfl, by show (firstT.r16.size ≤ _); rw [show firstT.r16.size = 190 by kernel_rfl]; omega, by show (0 : Nat) ≤ _; omega, by show (0 : Nat) < _; omega, by show (0 : Nat) ≤ _; omega⟩
theorem second_ok : Lib.RTabOk secondT := ⟨rgOk_of _ _ (by kernel_rfl), rgOk_of _ _ rfl, by show (secondT.r16.size ≤ _); rw [show secondT.r16.size = 112 by kernel_rfl]; omega, by show (0 : Nat) ≤ _; omega, by show (0 : Nat) < _; omega, by show (0 : Nat) ≤ _; omega⟩
theorem tabWorld_below (T : Lib.RTab) (w : World) : Below w.heap.size w (tabWorld T w) := ((Below.refl w.heap.size w).alloc (Nat.le_refl _) _).alloc (by simp) _
theorem first_t (w : World) : Calls Tryz.prog 82 #[] w fun e w' => ∃ Tb, e = .returned (.pointer (some ⟨Tb, 0, none⟩)) ∧ Lib.RTabAt Tb 0 firstT w' ∧ Below w.heap.size w w' :=
  (first_c w).mono fun e w' ⟨he, hw⟩ => ⟨_, he, by rw [hw]; exact tab_at _ rfl rfl w, by rw [hw]; exact tabWorld_below _ w⟩
theorem second_t (w : World) : Calls Tryz.prog 83 #[] w fun e w' => ∃ Tb, e = .returned (.pointer (some ⟨Tb, 0, none⟩)) ∧ Lib.RTabAt Tb 0 secondT w' ∧ Below w.heap.size w w' :=
  (second_c w).mono fun e w' ⟨he, hw⟩ => ⟨_, he, by rw [hw]; exact tab_at _ rfl rfl w, by rw [hw]; exact tabWorld_below _ w⟩
end Go.Proofs.YtkjnockljapnbaaGreatDoor
