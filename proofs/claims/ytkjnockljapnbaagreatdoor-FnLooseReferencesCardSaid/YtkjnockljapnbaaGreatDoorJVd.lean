/- Part of the proof that laws.FnLooseReferences returns true for every text (the claim of laws.FnLooseReferences: Vd). No condition of its own. -/
import Derived.Test.YtkjnockljapnbaaGreatDoorJVb
import Derived.Stop.Asserts
set_option linter.all false
/- A new decoder. -/
namespace Go.Proofs.YtkjnockljapnbaaGreatDoor
open Go Go.RowKit

abbrev rdI (x : Cx) : Value := .iface 50 (.pointer (some ⟨x.rd, 0, none⟩))
theorem taRB (a : Addr) (w : World) : (Instr.typeAssert (.iface 50 (.pointer (some a))) 66 71 true).run Tryz.prog w = .ok (.tuple #[.nilIface, .bool false]) w :=
  run_typeAssert_lacksB Tryz.underlying71 (by kernel_rfl) (by kernel_rfl) _ _ w
theorem taBR (a : Addr) (w : World) : (Instr.typeAssert (.iface 50 (.pointer (some a))) 66 155 true).run Tryz.prog w = .ok (.tuple #[.pointer none, .bool false]) w := by kernel_rfl
theorem mk4096 (w : World) : ∃ arr : Array Value, arr.size = 4096 ∧ (Instr.makeSlice 74 (.int .i64 4096) (.int .i64 4096)).run Tryz.prog w = .ok (.slice (some ⟨w.heap.size, 0, none⟩) 4096 4096) (w.alloc (.cells arr 5)) := by
  obtain ⟨i, hi, hz, h1, h2⟩ := info_parts u8all
  have := run_make w 74 5 i (.int .u8 0) Tryz.underlying74 hi hz .i64 .i64 4096 4096 (by omega) (by omega) (by rw [h2]; omega) (by omega)
  rw [h1] at this
  exact ⟨madeCells #[.int .u8 0] 4096, by simp [size_madeCells], by simpa [Value.cells] using this⟩
/-- The decoder as it begins. -/
def c0 (x : Cx) (mb : Nat) : DC := ⟨true, .slice none 0 0, .map none, ⟨#[]⟩, .iface 155 (.pointer (some ⟨x.br, 0, none⟩)), .pointer none, 0, .pointer none, false, ⟨#[]⟩, ⟨#[]⟩, .nilIface, .map (some mb)⟩
def v0 : DV := ⟨.slice none 0 0, 0, -1, .nilIface, 1, 0, 0⟩
structure NewDec (x : Cx) (w w' : World) : Prop where
  below : Below w.heap.size w w'
  dec : DecAt w' x.d (c0 x w.heap.size) v0
  br : Blk w' x.br (bioC x 0 0 .nilIface (-1)) 216
  rb : ∃ arr : Array Value, arr.size = 4096 ∧ Blk w' x.rb arr 5
  map : w'.heap[w.heap.size]? = some (.map #[] 0)
  size : w'.heap.size = w.heap.size + 4
set_option maxHeartbeats 8000000 in
set_option maxRecDepth 100000 in
theorem newReader_c (x : Cx) (w : World) (h1 : x.br = w.heap.size) (h2 : x.rb = w.heap.size + 1) :
    Calls Tryz.prog 59 #[rdI x] w fun e w' => e = .returned (.pointer (some ⟨x.br, 0, none⟩)) ∧ Below w.heap.size w w' ∧ Blk w' x.br (bioC x 0 0 .nilIface (-1)) 216 ∧ (∃ arr : Array Value, arr.size = 4096 ∧ Blk w' x.rb arr 5) ∧ w'.heap.size = w.heap.size + 2 := by
  have q1 := fun a w => taBR a w
  obtain ⟨arr, harr, hmk⟩ := mk4096 (w.alloc (.cells #[.slice none 0 0, .nilIface, .int .i64 0, .int .i64 0, .nilIface, .int .i64 0, .int .i64 0] 216))
  have HA := Lib.hid harr
  have H1 := Lib.hid h1
  have H2 := Lib.hid h2
  clear harr h1 h2
  have hmx : (max 4096 16 : Int) = 4096 := by decide
  go_enter Tryz.func59, Tryz.ntmps59
  go_wp2
  go_end0
  go_wp2
  go_ret
  have hx1 := H1.out
  have hx2 := H2.out
  refine ⟨?_, ((Below.refl _ w).alloc (Nat.le_refl _) _).alloc (by simp) _, ?_, ⟨arr, HA.out, ?_⟩, by simp⟩
  · show Ending.returned (.pointer (some ⟨w.heap.size, 0, none⟩)) = _
    rw [hx1]
  · rw [hx1]
    have hb := (Blk.new w #[.slice (some ⟨w.heap.size + 1, 0, none⟩) 4096 4096, rdI x, .int .i64 0, .int .i64 0, .nilIface, .int .i64 (-1), .int .i64 (-1)] 216).alloc (.cells arr 5)
    unfold bioC
    rw [hx2]
    exact hb
  · rw [hx2]
    have hb := Blk.new (w.alloc (.cells #[.slice (some ⟨w.heap.size + 1, 0, none⟩) 4096 4096, rdI x, .int .i64 0, .int .i64 0, .nilIface, .int .i64 (-1), .int .i64 (-1)] 216)) arr 5
    simpa using hb
set_option maxHeartbeats 8000000 in
set_option maxRecDepth 100000 in
theorem newDecoder_c (x : Cx) (w : World) (h0 : x.d = w.heap.size + 1) (h1 : x.br = w.heap.size + 2) (h2 : x.rb = w.heap.size + 3) :
    Calls Tryz.prog 22 #[rdI x] w fun e w' => e = .returned (decP x) ∧ NewDec x w w' := by
  have q1 := fun a w => taRB a w
  have hm := @run_makeMap Tryz.prog
  have HR := Lib.hid (fun (w' : World) (hb : Below w.heap.size w w') (hs : w'.heap.size = w.heap.size + 2) => newReader_c x w' (by omega) (by omega))
  have H0 := Lib.hid h0
  have H1 := Lib.hid h1
  have H2 := Lib.hid h2
  clear h0 h1 h2
  go_enter Tryz.func22, Tryz.ntmps22
  go_wp2_with (first | (go_at_call 34; go_in) | fail)
  have hD0 : Blk ((w.alloc (.map #[] 0)).alloc (.cells (dcells { c0 x w.heap.size with r := .nilIface } v0) 84)) (w.heap.size + 1) (dcells { c0 x w.heap.size with r := .nilIface } v0) 84 := by
    have := Blk.new (w.alloc (.map #[] 0)) (dcells { c0 x w.heap.size with r := .nilIface } v0) 84
    simpa using this
  have hM0 : ((w.alloc (.map #[] 0)).alloc (.cells (dcells { c0 x w.heap.size with r := .nilIface } v0) 84)).heap[w.heap.size]? = some (.map #[] 0) := heap_alloc2_old w _ _
  have hB0 : Below w.heap.size w ((w.alloc (.map #[] 0)).alloc (.cells (dcells { c0 x w.heap.size with r := .nilIface } v0) 84)) := ((Below.refl _ w).alloc (Nat.le_refl _) _).alloc (by simp) _
  have hS0 : ((w.alloc (.map #[] 0)).alloc (.cells (dcells { c0 x w.heap.size with r := .nilIface } v0) 84)).heap.size = w.heap.size + 2 := by simp
  refine (HR.out _ hB0 hS0).mono ?_
  rintro e1 w1 ⟨rfl, hb1, hbr, hrb, hsz⟩
  have hD1 : Blk w1 (w.heap.size + 1) _ _ := Blk.mod (S := fun _ => False) hD0 (mod_none hb1 _) id
  have HM1 := Lib.hid (show w1.heap[w.heap.size]? = some (.map #[] 0) from (hb1.block w.heap.size (by rw [hS0]; omega)).trans hM0)
  have HB1 := Lib.hid (hB0.trans (hb1.mono (by rw [hS0]; omega)))
  have HSZ := Lib.hid (show w1.heap.size = w.heap.size + 4 by rw [hsz, hS0])
  have hc := hD1.cell
  have hf := hD1.frozen
  have HD1 := Lib.hid hD1
  have HBR := Lib.hid hbr
  have HRB := Lib.hid hrb
  clear hD0 hM0 hB0 hS0 hb1 hbr hrb hsz hD1
  go_wp2
  go_end0
  go_wp2
  go_ret
  have hx0 := H0.out
  refine ⟨?_, ?_⟩
  · show _ = Ending.returned (.pointer (some ⟨x.d, 0, none⟩))
    rw [hx0]
    rfl
  · refine ⟨HB1.out.setCell (by show w.heap.size ≤ w.heap.size + 1; omega) _, ?_, ?_, ?_, ?_, ?_⟩
    · rw [hx0]
      exact (HD1.out.set 5 (.iface 155 (.pointer (some ⟨x.br, 0, none⟩))))
    · exact HBR.out.set_ne (a := ⟨w.heap.size + 1, 5, none⟩) (by have := H1.out; show x.br ≠ w.heap.size + 1; omega) _
    · obtain ⟨arr, ha, hb⟩ := HRB.out
      exact ⟨arr, ha, hb.set_ne (a := ⟨w.heap.size + 1, 5, none⟩) (by have := H2.out; show x.rb ≠ w.heap.size + 1; omega) _⟩
    · rw [heap_setCell_ne _ _ _ _ (by show w.heap.size ≠ w.heap.size + 1; omega)]; exact HM1.out
    · have := HSZ.out
      simpa [World.setCell] using this
end Go.Proofs.YtkjnockljapnbaaGreatDoor
