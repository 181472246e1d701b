/- Part of the proof that laws.FnLooseReferences returns true for every text (the claim of laws.FnLooseReferences: Vb). No condition of its own. -/
import Derived.Test.YtkjnockljapnbaaGreatDoorJVa
set_option linter.all false
/- Token: text, while no element is open; the end of the input. -/
namespace Go.Proofs.YtkjnockljapnbaaGreatDoor
open Go Go.RowKit

/-- No element is open, nothing waits. -/
structure Idle (c : DC) : Prop where
  stk : c.stk = .pointer none
  next : c.nextTok = .nilIface
  close : c.needClose = false
theorem ptrNil (w : World) : (binOp .neq 80 (.pointer none) (.pointer none)).run Tryz.prog w = .ok (.bool false) w := by kernel_rfl
theorem ptrNilE (w : World) : (binOp .eql 80 (.pointer none) (.pointer none)).run Tryz.prog w = .ok (.bool true) w := by kernel_rfl
theorem anyNil (w : World) : (binOp .neq 53 .nilIface .nilIface).run Tryz.prog w = .ok (.bool false) w := by kernel_rfl
abbrev zStr : Value := .string ⟨#[]⟩
theorem taChS (v : Value) (w : World) : (Instr.typeAssert (chV v) 53 94 true).run Tryz.prog w = .ok (.tuple #[.agg #[zStr, zStr, .slice none 0 0], .bool false]) w := by kernel_rfl
theorem taChE (v : Value) (w : World) : (Instr.typeAssert (chV v) 53 103 true).run Tryz.prog w = .ok (.tuple #[.agg #[zStr, zStr], .bool false]) w := by kernel_rfl
theorem anyNilE (w : World) : (binOp .eql 53 .nilIface .nilIface).run Tryz.prog w = .ok (.bool true) w := by kernel_rfl
theorem autoIdle (x : Cx) (c : DC) (hi : Idle c) (w : World) (v : DV) (h : DecAt w x.d c v) (t : Value) :
    Calls Tryz.prog 25 #[decP x, t] w fun en w' => en = .returned (.tuple #[.nilIface, .bool false]) ∧ w' = w := by
  have hc := h.cell
  have hf := h.frozen
  have hs := hi.stk
  have q1 := fun w => ptrNilE w
  clear h hi
  refine calls_fr (vs := [_, _]) 76 Tryz.func25 rfl rfl (Nat.le_of_ble_eq_true rfl) fun f => ?_
  simp only [argSlots]
  (repeat (first | with_reducible refine wp_seq_k (fun K hK => ?_) | with_reducible refine wp_region_lit ?_ | with_reducible refine wpList_nil ?_ | ((with_reducible refine wpList_plain rfl (fun K hK => ?_)); go_simp) | ((with_reducible refine wpList_step (fun K hK => ?_)); go_simp) | (with_reducible ((first | refine hK _ _ ?_ | (clear hK K; refine hK _ _ ?_) | (clear hK K; clear hK K; refine hK _ _ ?_) | (clear hK K; clear hK K; clear hK K; refine hK _ _ ?_) | (clear hK K; clear hK K; clear hK K; clear hK K; refine hK _ _ ?_) | (clear hK K; clear hK K; clear hK K; clear hK K; clear hK K; refine hK _ _ ?_)); clear hK K)) | with_reducible refine wp_cond_true (by first | (go_simp; done) | (go_simp; omega)) ?_ | with_reducible refine wp_cond_false (by first | (go_simp; done) | (go_simp; omega)) ?_ | with_reducible refine wp_exit ?_ | with_reducible refine wp_ret ?_ | with_reducible refine wp_block ?_ | with_reducible refine wp_label ?_ | with_reducible refine wp_skip ?_ | with_reducible refine wp_scope_straight ?_ | simp only [Exit.then, Exit.inBlock, Exit.noGoto, ↓reduceIte, Nat.reduceEqDiff] | simp only [undef, reduceCtorEq, ↓reduceIte]))
  (refine fr_out2 rfl (by decide) (by decide) (by simp only [lk_cons, lk_nil, Nat.reduceEqDiff, ↓reduceIte]; rfl) (by simp only [lk_cons, lk_nil, Nat.reduceEqDiff, ↓reduceIte]; rfl) ?_)
  exact ⟨rfl, rfl⟩
set_option maxHeartbeats 8000000 in
set_option maxRecDepth 100000 in
theorem tokText (x : Cx) (hx : x.All) (c : DC) (hdc : DcOk x c) (hno : NoEnt x c) (hi : Idle c) (w : World) (v : DV) (b : UInt8) (r : Bs) (buf : Bs) (hb : b ≠ 60) (h : RdS x c w v (b :: r) none buf) (d r' : Bs) (hres : textL x.o none false (b :: r) 0 0 [] = .ok (d, r')) :
    Calls Tryz.prog 17 #[decP x] w fun en w' => ∃ v', Stp x w v w' v' ∧ RawTextPost x c w' v' en (.ok (d, r')) := by
  have hraw := Lib.hid (rawText x hx c hdc hno hi.close w v b r buf hb h)
  have hc := h.dec.cell
  have hf := h.dec.frozen
  have hs := hi.stk
  have hn := hi.next
  have HI := Lib.hid hi
  have q1 := fun w => ptrNil w
  have q2 := fun w => anyNil w
  have HD := Lib.hid hdc
  clear h hx hdc hno hi
  rw [hres] at hraw
  clear hres
  refine calls_fr (vs := [_]) 204 Tryz.func17 rfl rfl (Nat.le_of_ble_eq_true rfl) fun f => ?_
  simp only [argSlots]
  (repeat (first | with_reducible refine wp_seq_k (fun K hK => ?_) | with_reducible refine wp_region_lit ?_ | with_reducible refine wpList_nil ?_ | ((with_reducible refine wpList_plain rfl (fun K hK => ?_)); go_simp) | ((with_reducible refine wpList_step (fun K hK => ?_)); go_simp) | (with_reducible ((first | refine hK _ _ ?_ | (clear hK K; refine hK _ _ ?_) | (clear hK K; clear hK K; refine hK _ _ ?_) | (clear hK K; clear hK K; clear hK K; refine hK _ _ ?_) | (clear hK K; clear hK K; clear hK K; clear hK K; refine hK _ _ ?_) | (clear hK K; clear hK K; clear hK K; clear hK K; clear hK K; refine hK _ _ ?_)); clear hK K)) | with_reducible refine wp_cond_true (by first | (go_simp; done) | (go_simp; omega)) ?_ | with_reducible refine wp_cond_false (by first | (go_simp; done) | (go_simp; omega)) ?_ | with_reducible refine wp_exit ?_ | with_reducible refine wp_ret ?_ | with_reducible refine wp_block ?_ | with_reducible refine wp_label ?_ | with_reducible refine wp_skip ?_ | with_reducible refine wp_scope_straight ?_ | simp only [Exit.then, Exit.inBlock, Exit.noGoto, ↓reduceIte, Nat.reduceEqDiff] | simp only [undef, reduceCtorEq, ↓reduceIte]))
  refine hraw.out.mono ?_
  rintro e1 w1 ⟨v1, hs1, g, cap, e, b', rfl, hR, hbv, hd1, hd2, hend⟩
  have hc1 := hR.dec.cell
  have hf1 := hR.dec.frozen
  have HR := Lib.hid hR
  have HS1 := Lib.hid hs1
  have HBV := Lib.hid hbv
  have HD1 := Lib.hid hd1
  have HEND := Lib.hid hend
  have hau := Lib.hid (fun t => autoIdle x c HI.out w1 v1 hR.dec t)
  clear hR hs1 hbv hd1 hend hraw hc hf
  go_simp
  (repeat (first | with_reducible refine wp_seq_k (fun K hK => ?_) | with_reducible refine wp_region_lit ?_ | with_reducible refine wpList_nil ?_ | ((with_reducible refine wpList_plain rfl (fun K hK => ?_)); go_simp) | ((with_reducible refine wpList_step (fun K hK => ?_)); go_simp) | (with_reducible ((first | refine hK _ _ ?_ | (clear hK K; refine hK _ _ ?_) | (clear hK K; clear hK K; refine hK _ _ ?_) | (clear hK K; clear hK K; clear hK K; refine hK _ _ ?_) | (clear hK K; clear hK K; clear hK K; clear hK K; refine hK _ _ ?_) | (clear hK K; clear hK K; clear hK K; clear hK K; clear hK K; refine hK _ _ ?_)); clear hK K)) | with_reducible refine wp_cond_true (by first | (go_simp; done) | (go_simp; omega)) ?_ | with_reducible refine wp_cond_false (by first | (go_simp; done) | (go_simp; omega)) ?_ | with_reducible refine wp_exit ?_ | with_reducible refine wp_ret ?_ | with_reducible refine wp_block ?_ | with_reducible refine wp_label ?_ | with_reducible refine wp_skip ?_ | with_reducible refine wp_scope_straight ?_ | simp only [Exit.then, Exit.inBlock, Exit.noGoto, ↓reduceIte, Nat.reduceEqDiff] | simp only [undef, reduceCtorEq, ↓reduceIte]))
  have q3 := fun v w => taChS v w
  have q4 := fun v w => taChE v w
  have hcase : c.strict = true ∨ c.strict = false := by cases c.strict <;> simp
  rcases hcase with hst | hst
  · (repeat (first | with_reducible refine wp_seq_k (fun K hK => ?_) | with_reducible refine wp_region_lit ?_ | with_reducible refine wpList_nil ?_ | ((with_reducible refine wpList_plain rfl (fun K hK => ?_)); go_simp) | ((with_reducible refine wpList_step (fun K hK => ?_)); go_simp) | (with_reducible ((first | refine hK _ _ ?_ | (clear hK K; refine hK _ _ ?_) | (clear hK K; clear hK K; refine hK _ _ ?_) | (clear hK K; clear hK K; clear hK K; refine hK _ _ ?_) | (clear hK K; clear hK K; clear hK K; clear hK K; refine hK _ _ ?_) | (clear hK K; clear hK K; clear hK K; clear hK K; clear hK K; refine hK _ _ ?_)); clear hK K)) | with_reducible refine wp_cond_true (by first | (go_simp; done) | (go_simp; omega)) ?_ | with_reducible refine wp_cond_false (by first | (go_simp; done) | (go_simp; omega)) ?_ | with_reducible refine wp_exit ?_ | with_reducible refine wp_ret ?_ | with_reducible refine wp_block ?_ | with_reducible refine wp_label ?_ | with_reducible refine wp_skip ?_ | with_reducible refine wp_scope_straight ?_ | simp only [Exit.then, Exit.inBlock, Exit.noGoto, ↓reduceIte, Nat.reduceEqDiff] | simp only [undef, reduceCtorEq, ↓reduceIte]))
    (refine fr_out2 rfl (by decide) (by decide) (by simp only [lk_cons, lk_nil, Nat.reduceEqDiff, ↓reduceIte]; rfl) (by simp only [lk_cons, lk_nil, Nat.reduceEqDiff, ↓reduceIte]; rfl) ?_)
    exact ⟨v1, HS1.out, g, cap, e, b', rfl, HR.out, HBV.out, HD1.out, hd2, HEND.out⟩
  · (repeat (first | with_reducible refine wp_seq_k (fun K hK => ?_) | with_reducible refine wp_region_lit ?_ | with_reducible refine wpList_nil ?_ | ((with_reducible refine wpList_plain rfl (fun K hK => ?_)); go_simp) | ((with_reducible refine wpList_step (fun K hK => ?_)); go_simp) | (with_reducible ((first | refine hK _ _ ?_ | (clear hK K; refine hK _ _ ?_) | (clear hK K; clear hK K; refine hK _ _ ?_) | (clear hK K; clear hK K; clear hK K; refine hK _ _ ?_) | (clear hK K; clear hK K; clear hK K; clear hK K; refine hK _ _ ?_) | (clear hK K; clear hK K; clear hK K; clear hK K; clear hK K; refine hK _ _ ?_)); clear hK K)) | with_reducible refine wp_cond_true (by first | (go_simp; done) | (go_simp; omega)) ?_ | with_reducible refine wp_cond_false (by first | (go_simp; done) | (go_simp; omega)) ?_ | with_reducible refine wp_exit ?_ | with_reducible refine wp_ret ?_ | with_reducible refine wp_block ?_ | with_reducible refine wp_label ?_ | with_reducible refine wp_skip ?_ | with_reducible refine wp_scope_straight ?_ | simp only [Exit.then, Exit.inBlock, Exit.noGoto, ↓reduceIte, Nat.reduceEqDiff] | simp only [undef, reduceCtorEq, ↓reduceIte]))
    refine (hau.out _).mono ?_
    rintro e2 w2 ⟨rfl, rfl⟩
    go_simp
    (repeat (first | with_reducible refine wp_seq_k (fun K hK => ?_) | with_reducible refine wp_region_lit ?_ | with_reducible refine wpList_nil ?_ | ((with_reducible refine wpList_plain rfl (fun K hK => ?_)); go_simp) | ((with_reducible refine wpList_step (fun K hK => ?_)); go_simp) | (with_reducible ((first | refine hK _ _ ?_ | (clear hK K; refine hK _ _ ?_) | (clear hK K; clear hK K; refine hK _ _ ?_) | (clear hK K; clear hK K; clear hK K; refine hK _ _ ?_) | (clear hK K; clear hK K; clear hK K; clear hK K; refine hK _ _ ?_) | (clear hK K; clear hK K; clear hK K; clear hK K; clear hK K; refine hK _ _ ?_)); clear hK K)) | with_reducible refine wp_cond_true (by first | (go_simp; done) | (go_simp; omega)) ?_ | with_reducible refine wp_cond_false (by first | (go_simp; done) | (go_simp; omega)) ?_ | with_reducible refine wp_exit ?_ | with_reducible refine wp_ret ?_ | with_reducible refine wp_block ?_ | with_reducible refine wp_label ?_ | with_reducible refine wp_skip ?_ | with_reducible refine wp_scope_straight ?_ | simp only [Exit.then, Exit.inBlock, Exit.noGoto, ↓reduceIte, Nat.reduceEqDiff] | simp only [undef, reduceCtorEq, ↓reduceIte]))
    (refine fr_out2 rfl (by decide) (by decide) (by simp only [lk_cons, lk_nil, Nat.reduceEqDiff, ↓reduceIte]; rfl) (by simp only [lk_cons, lk_nil, Nat.reduceEqDiff, ↓reduceIte]; rfl) ?_)
    exact ⟨v1, HS1.out, g, cap, e, b', rfl, HR.out, HBV.out, HD1.out, hd2, HEND.out⟩
/-- The end of the input, with nothing open. -/
theorem tokEnd (x : Cx) (hx : x.All) (c : DC) (hi : Idle c) (w : World) (v : DV) (h : DecAt w x.d c v) (he : v.err = x.eofV) (hb : Below x.B x.W0 w) :
    Calls Tryz.prog 17 #[decP x] w fun en w' => en = .returned (.tuple #[.nilIface, x.eofV]) ∧ ∃ k, w' = w.drewN k := by
  have hraw := Lib.hid (rawErr x c w v h _ _ he)
  have hc := h.cell
  have hf := h.frozen
  have heof : w.cell? ⟨0, 0, none⟩ = some x.eofV := by rw [← hx.eof]; exact hb.cell hx.gB
  have hs := hi.stk
  have hn := hi.next
  have q1 := fun w => ptrNil w
  have q2 := fun w => anyNil w
  have q3 := fun a w => eql_eof a w
  have q4 := fun w => anyNilE w
  clear h hx hi hb
  rw [he] at hraw
  refine calls_fr (vs := [_]) 204 Tryz.func17 rfl rfl (Nat.le_of_ble_eq_true rfl) fun f => ?_
  simp only [argSlots]
  (repeat (first | with_reducible refine wp_seq_k (fun K hK => ?_) | with_reducible refine wp_region_lit ?_ | with_reducible refine wpList_nil ?_ | ((with_reducible refine wpList_plain rfl (fun K hK => ?_)); go_simp) | ((with_reducible refine wpList_step (fun K hK => ?_)); go_simp) | (with_reducible ((first | refine hK _ _ ?_ | (clear hK K; refine hK _ _ ?_) | (clear hK K; clear hK K; refine hK _ _ ?_) | (clear hK K; clear hK K; clear hK K; refine hK _ _ ?_) | (clear hK K; clear hK K; clear hK K; clear hK K; refine hK _ _ ?_) | (clear hK K; clear hK K; clear hK K; clear hK K; clear hK K; refine hK _ _ ?_)); clear hK K)) | with_reducible refine wp_cond_true (by first | (go_simp; done) | (go_simp; omega)) ?_ | with_reducible refine wp_cond_false (by first | (go_simp; done) | (go_simp; omega)) ?_ | with_reducible refine wp_exit ?_ | with_reducible refine wp_ret ?_ | with_reducible refine wp_block ?_ | with_reducible refine wp_label ?_ | with_reducible refine wp_skip ?_ | with_reducible refine wp_scope_straight ?_ | simp only [Exit.then, Exit.inBlock, Exit.noGoto, ↓reduceIte, Nat.reduceEqDiff] | simp only [undef, reduceCtorEq, ↓reduceIte]))
  refine hraw.out.mono ?_
  rintro e1 w1 ⟨rfl, k, rfl⟩
  go_simp
  (repeat (first | with_reducible refine wp_seq_k (fun K hK => ?_) | with_reducible refine wp_region_lit ?_ | with_reducible refine wpList_nil ?_ | ((with_reducible refine wpList_plain rfl (fun K hK => ?_)); go_simp) | ((with_reducible refine wpList_step (fun K hK => ?_)); go_simp) | (with_reducible ((first | refine hK _ _ ?_ | (clear hK K; refine hK _ _ ?_) | (clear hK K; clear hK K; refine hK _ _ ?_) | (clear hK K; clear hK K; clear hK K; refine hK _ _ ?_) | (clear hK K; clear hK K; clear hK K; clear hK K; refine hK _ _ ?_) | (clear hK K; clear hK K; clear hK K; clear hK K; clear hK K; refine hK _ _ ?_)); clear hK K)) | with_reducible refine wp_cond_true (by first | (go_simp; done) | (go_simp; omega)) ?_ | with_reducible refine wp_cond_false (by first | (go_simp; done) | (go_simp; omega)) ?_ | with_reducible refine wp_exit ?_ | with_reducible refine wp_ret ?_ | with_reducible refine wp_block ?_ | with_reducible refine wp_label ?_ | with_reducible refine wp_skip ?_ | with_reducible refine wp_scope_straight ?_ | simp only [Exit.then, Exit.inBlock, Exit.noGoto, ↓reduceIte, Nat.reduceEqDiff] | simp only [undef, reduceCtorEq, ↓reduceIte]))
  (refine fr_out2 rfl (by decide) (by decide) (by simp only [lk_cons, lk_nil, Nat.reduceEqDiff, ↓reduceIte]; rfl) (by simp only [lk_cons, lk_nil, Nat.reduceEqDiff, ↓reduceIte]; rfl) ?_)
  exact ⟨rfl, k, rfl⟩
end Go.Proofs.YtkjnockljapnbaaGreatDoor
