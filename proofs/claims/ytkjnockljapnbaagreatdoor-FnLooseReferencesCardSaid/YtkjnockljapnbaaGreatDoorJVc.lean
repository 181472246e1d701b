/- Part of the proof that laws.FnLooseReferences returns true for every text (the claim of laws.FnLooseReferences: Vc). No condition of its own. -/
import Derived.Test.YtkjnockljapnbaaGreatDoorJVb
set_option linter.all false
/- impl.token of a text. -/
namespace Go.Proofs.YtkjnockljapnbaaGreatDoor
open Go Go.RowKit

abbrev tokV (kind : Int) (space loc : Bs) (attrs : Value) (text : Bs) (at' line col : Int) : Value := .agg #[.int .i64 kind, strV space, strV loc, attrs, strV text, .int .i64 at', .int .i64 line, .int .i64 col]
theorem Blk.drew {w : World} {b : Nat} {cs : Array Value} {t : TypeId} (h : Blk w b cs t) : Blk w.drew b cs t := h
theorem BytesAt.setCell {w : World} {b off : Nat} {l : Bs} (h : BytesAt w b off l) {a : Addr} (hn : b ≠ a.block) (u : Value) : BytesAt (w.setCell a u) b off l := fun j hj => (cell_of_heap (heap_setCell_ne _ _ _ _ hn) _).trans (h j hj)
theorem BytesAt.drew {w : World} {b off : Nat} {l : Bs} (h : BytesAt w b off l) : BytesAt w.drew b off l := h
theorem BytesAt.drewN {w : World} {b off : Nat} {l : Bs} (h : BytesAt w b off l) (n : Nat) : BytesAt (w.drewN n) b off l := h
theorem taChC (v : Value) (w : World) : (Instr.typeAssert (chV v) 53 114 true).run Tryz.prog w = .ok (.tuple #[v, .bool true]) w := by kernel_rfl
theorem conv_ch (l : Bs) (w : World) (b off cap : Nat) (h : BytesAt w b off l) : (convert 114 9 (.slice (some ⟨b, off, none⟩) l.length cap)).run Tryz.prog w = .ok (strV l) w :=
  Lib.run_convert_whole (P := Tryz.prog) w 114 5 9 Tryz.underlying114 Tryz.underlying5 Tryz.underlying9 b off ⟨l.toArray⟩ h.toBytes cap
set_option maxHeartbeats 8000000 in
set_option maxRecDepth 100000 in
theorem tokenText (x : Cx) (c : DC) (w : World) (v : DV) (h : DecAt w x.d c v) (h1 : -1000000000000 ≤ v.off - v.lstart) (h2 : v.off - v.lstart ≤ 1000000000000) (d : Bs) (g cap : Nat) (hb : BytesAt w g 0 d) (hg : g < w.heap.size) :
    Calls Tryz.prog 19 #[chV (.slice (some ⟨g, 0, none⟩) d.length cap), decP x] w fun en w' => en = .returned (tokV 3 [] [] (.slice none 0 0) d v.off v.line (v.off - v.lstart + 1)) ∧ Below w.heap.size w w' := by
  have q1 := fun v w => taChS v w
  have q2 := fun v w => taChE v w
  have hio := Lib.hid (fun (w' : World) (h : DecAt w' x.d c v) => inputOffset_c x c w' v h)
  have hip := Lib.hid (fun (w' : World) (h : DecAt w' x.d c v) => inputPos_c x c w' v h h1 h2)
  have HD := Lib.hid h
  have HB := Lib.hid hb
  clear h hb h1 h2
  refine calls_fr (vs := [_, _]) 104 Tryz.func19 rfl rfl (Nat.le_of_ble_eq_true rfl) fun f => ?_
  simp only [argSlots]
  (repeat (first | with_reducible refine wp_seq_k (fun K hK => ?_) | with_reducible refine wp_region_lit ?_ | with_reducible refine wpList_nil ?_ | ((with_reducible refine wpList_plain rfl (fun K hK => ?_)); go_simp) | ((with_reducible refine wpList_step (fun K hK => ?_)); go_simp) | (with_reducible ((first | refine hK _ _ ?_ | (clear hK K; refine hK _ _ ?_) | (clear hK K; clear hK K; refine hK _ _ ?_) | (clear hK K; clear hK K; clear hK K; refine hK _ _ ?_) | (clear hK K; clear hK K; clear hK K; clear hK K; refine hK _ _ ?_) | (clear hK K; clear hK K; clear hK K; clear hK K; clear hK K; refine hK _ _ ?_)); clear hK K)) | with_reducible refine wp_cond_true (by first | (go_simp; done) | (go_simp; omega)) ?_ | with_reducible refine wp_cond_false (by first | (go_simp; done) | (go_simp; omega)) ?_ | with_reducible refine wp_exit ?_ | with_reducible refine wp_ret ?_ | with_reducible refine wp_block ?_ | with_reducible refine wp_label ?_ | with_reducible refine wp_skip ?_ | with_reducible refine wp_scope_straight ?_ | simp only [Exit.then, Exit.inBlock, Exit.noGoto, ↓reduceIte, Nat.reduceEqDiff] | simp only [undef, reduceCtorEq, ↓reduceIte]))
  refine (hio.out _ (show Blk _ x.d _ _ from Blk.alloc HD.out _)).mono ?_
  rintro e1 w1 ⟨rfl, rfl⟩
  go_simp
  (repeat (first | with_reducible refine wp_seq_k (fun K hK => ?_) | with_reducible refine wp_region_lit ?_ | with_reducible refine wpList_nil ?_ | ((with_reducible refine wpList_plain rfl (fun K hK => ?_)); go_simp) | ((with_reducible refine wpList_step (fun K hK => ?_)); go_simp) | (with_reducible ((first | refine hK _ _ ?_ | (clear hK K; refine hK _ _ ?_) | (clear hK K; clear hK K; refine hK _ _ ?_) | (clear hK K; clear hK K; clear hK K; refine hK _ _ ?_) | (clear hK K; clear hK K; clear hK K; clear hK K; refine hK _ _ ?_) | (clear hK K; clear hK K; clear hK K; clear hK K; clear hK K; refine hK _ _ ?_)); clear hK K)) | with_reducible refine wp_cond_true (by first | (go_simp; done) | (go_simp; omega)) ?_ | with_reducible refine wp_cond_false (by first | (go_simp; done) | (go_simp; omega)) ?_ | with_reducible refine wp_exit ?_ | with_reducible refine wp_ret ?_ | with_reducible refine wp_block ?_ | with_reducible refine wp_label ?_ | with_reducible refine wp_skip ?_ | with_reducible refine wp_scope_straight ?_ | simp only [Exit.then, Exit.inBlock, Exit.noGoto, ↓reduceIte, Nat.reduceEqDiff] | simp only [undef, reduceCtorEq, ↓reduceIte]))
  obtain ⟨wA, hwA⟩ : ∃ wA, wA = (w.alloc (.cells #[.int .i64 0, .string ⟨#[]⟩, .string ⟨#[]⟩, .slice none 0 0, .string ⟨#[]⟩, .int .i64 0, .int .i64 0, .int .i64 0] 33)).alloc (.cells #[.int .i64 0, .string ⟨#[]⟩, .string ⟨#[]⟩, .slice none 0 0, .string ⟨#[]⟩, .int .i64 v.off, .int .i64 0, .int .i64 0] 33) := ⟨_, rfl⟩
  have HBw := Lib.hid (show Below w.heap.size w wA by rw [hwA]; exact ((Below.refl _ w).alloc (Nat.le_refl _) _).alloc (by simp) _)
  have HB1 := Lib.hid (show Blk wA w.heap.size #[.int .i64 0, .string ⟨#[]⟩, .string ⟨#[]⟩, .slice none 0 0, .string ⟨#[]⟩, .int .i64 0, .int .i64 0, .int .i64 0] 33 by rw [hwA]; exact (Blk.new w _ _).alloc _)
  have HB2 := Lib.hid (show Blk wA (w.heap.size + 1) #[.int .i64 0, .string ⟨#[]⟩, .string ⟨#[]⟩, .slice none 0 0, .string ⟨#[]⟩, .int .i64 v.off, .int .i64 0, .int .i64 0] 33 by
    have := Blk.new (w.alloc (.cells #[.int .i64 0, .string ⟨#[]⟩, .string ⟨#[]⟩, .slice none 0 0, .string ⟨#[]⟩, .int .i64 0, .int .i64 0, .int .i64 0] 33)) #[.int .i64 0, .string ⟨#[]⟩, .string ⟨#[]⟩, .slice none 0 0, .string ⟨#[]⟩, .int .i64 v.off, .int .i64 0, .int .i64 0] 33
    rw [hwA]; simpa using this)
  have HDA := Lib.hid (show DecAt wA x.d c v from Blk.mod (S := fun _ => False) HD.out (mod_none HBw.out _) id)
  have HBA := Lib.hid (HB.out.below HBw.out)
  rw [← hwA]
  clear hwA hio
  refine (hip.out _ HDA.out).mono ?_
  rintro e2 w2 ⟨rfl, n, rfl⟩
  clear hip
  have hcv := conv_ch d
  have q3 := fun v w => taChC v w
  have hb2 : Blk (wA.drewN n) (w.heap.size + 1) _ _ := HB2.out
  have hc2 := hb2.cell
  have hf2 := hb2.frozen
  have hb1 : Blk (wA.drewN n) w.heap.size _ _ := HB1.out
  have hc1 := hb1.cell
  have hf1 := hb1.frozen
  clear hb2 hb1 hcv
  go_simp
  (repeat (first | with_reducible refine wp_seq_k (fun K hK => ?_) | with_reducible refine wp_region_lit ?_ | with_reducible refine wpList_nil ?_ | ((with_reducible refine wpList_plain rfl (fun K hK => ?_)); go_simp) | ((with_reducible refine wpList_step (fun K hK => ?_)); go_simp) | (with_reducible ((first | refine hK _ _ ?_ | (clear hK K; refine hK _ _ ?_) | (clear hK K; clear hK K; refine hK _ _ ?_) | (clear hK K; clear hK K; clear hK K; refine hK _ _ ?_) | (clear hK K; clear hK K; clear hK K; clear hK K; refine hK _ _ ?_) | (clear hK K; clear hK K; clear hK K; clear hK K; clear hK K; refine hK _ _ ?_)); clear hK K)) | with_reducible refine wp_cond_true (by first | (go_simp; done) | (go_simp; omega)) ?_ | with_reducible refine wp_cond_false (by first | (go_simp; done) | (go_simp; omega)) ?_ | with_reducible refine wp_exit ?_ | with_reducible refine wp_ret ?_ | with_reducible refine wp_block ?_ | with_reducible refine wp_label ?_ | with_reducible refine wp_skip ?_ | with_reducible refine wp_scope_straight ?_ | simp only [Exit.then, Exit.inBlock, Exit.noGoto, ↓reduceIte, Nat.reduceEqDiff] | simp only [undef, reduceCtorEq, ↓reduceIte]))
  (refine wp_keep [4, 5, 10] (fun f => ?_); simp only [keep_cons, keep_nil, lk_cons, lk_nil, Nat.reduceEqDiff, ↓reduceIte])
  have hne : g ≠ w.heap.size + 1 := by omega
  have HBA2 := Lib.hid (show BytesAt (wA.drewN n) g 0 d from HBA.out)
  clear hg
  go_region_held3 (fun w' => (convert 114 9 (.slice (some ⟨g, 0, none⟩) d.length cap)).run Tryz.prog w' = .ok (strV d) w')
    (exact conv_ch d _ g 0 cap (by repeat (first | exact HBA2.out | refine BytesAt.setCell ?_ hne _ | refine BytesAt.drew ?_)))
    (fail)
  (repeat (first | with_reducible refine wp_seq_k (fun K hK => ?_) | with_reducible refine wp_region_lit ?_ | with_reducible refine wpList_nil ?_ | ((with_reducible refine wpList_plain rfl (fun K hK => ?_)); go_simp) | ((with_reducible refine wpList_step (fun K hK => ?_)); go_simp) | (with_reducible ((first | refine hK _ _ ?_ | (clear hK K; refine hK _ _ ?_) | (clear hK K; clear hK K; refine hK _ _ ?_) | (clear hK K; clear hK K; clear hK K; refine hK _ _ ?_) | (clear hK K; clear hK K; clear hK K; clear hK K; refine hK _ _ ?_) | (clear hK K; clear hK K; clear hK K; clear hK K; clear hK K; refine hK _ _ ?_)); clear hK K)) | with_reducible refine wp_cond_true (by first | (go_simp; done) | (go_simp; omega)) ?_ | with_reducible refine wp_cond_false (by first | (go_simp; done) | (go_simp; omega)) ?_ | with_reducible refine wp_exit ?_ | with_reducible refine wp_ret ?_ | with_reducible refine wp_block ?_ | with_reducible refine wp_label ?_ | with_reducible refine wp_skip ?_ | with_reducible refine wp_scope_straight ?_ | simp only [Exit.then, Exit.inBlock, Exit.noGoto, ↓reduceIte, Nat.reduceEqDiff] | simp only [undef, reduceCtorEq, ↓reduceIte]))
  have h12 : w.heap.size ≠ w.heap.size + 1 := by omega
  refine bodyPost_ret (v := tokV 3 [] [] (.slice none 0 0) d v.off v.line (v.off - v.lstart + 1)) ?_ (fr_defers _ _ _) ⟨rfl, ?_⟩
  · refine results_cell_row (fn := Tryz.f19) (p := 4) (ty := 33) (by rfl) _ _ w.heap.size 33 _ (0, 0) _ (by rw [fr_getD (by decide)]; simp only [keep_cons, keep_nil, lk_cons, lk_nil, Nat.reduceEqDiff, ↓reduceIte]) ?_ Tryz.underlying33 rfl (by kernel_rfl)
    have hB := (((((((((((((show Blk (wA.drewN n) w.heap.size _ _ from HB1.out).set_ne (a := ⟨w.heap.size + 1, 6, none⟩) h12 (.int .i64 v.line)).set_ne (a := ⟨w.heap.size + 1, 7, none⟩) h12 (.int .i64 (v.off - v.lstart + 1))).set_ne (a := ⟨w.heap.size + 1, 0, none⟩) h12 (.int .i64 3)).set_ne (a := ⟨w.heap.size + 1, 4, none⟩) h12 (strV d)).set 0 (.int .i64 3)).set 1 (strV [])).set 2 (strV [])).set 3 (.slice none 0 0)).set 4 (strV d)).set 5 (.int .i64 v.off)).set 6 (.int .i64 v.line)).set 7 (.int .i64 (v.off - v.lstart + 1)))
    simp only [List.setIfInBounds_toArray, List.set_cons_zero, List.set_cons_succ] at hB
    exact hB.drew
  · refine Below.drew ?_
    repeat (refine Below.setCell ?_ (by simp) _)
    exact Below_drewN HBw.out n
end Go.Proofs.YtkjnockljapnbaaGreatDoor
