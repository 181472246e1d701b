/- Part of the proof that laws.FnLooseReferences returns true for every text (the claim of laws.FnLooseReferences: Lx). No condition of its own. -/
import Derived.Test.YtkjnockljapnbaaGreatDoorJLy
set_option linter.all false
/- spec.Decode at characters of four bytes. -/
namespace Go.Proofs.YtkjnockljapnbaaGreatDoor
open Go Go.RowKit

set_option maxHeartbeats 8000000 in
set_option maxRecDepth 100000 in
theorem dec4_short (l : Bs) (c : UInt8) (w : World) (hl : 1 ≤ l.length) (hs : l.length < 4) (i0 : ∀ h, (⟨l.toArray⟩ : ByteArray)[0]'h = c) (hc : 240 ≤ c.toNat ∧ c.toNat < 245) :
    Calls Tryz.prog 20 #[(.string ⟨l.toArray⟩)] w fun e w' => e = .returned (.tuple #[.int .i64 0, .int .i64 0]) ∧ w = w' := by
  have hc256 := c.toNat_lt
  first | have : ((c.toNat : Int) < 128) := by omega | have : ¬ (((c.toNat : Int) < 128)) := by omega
  first | have : ((194 : Int) ≤ (c.toNat : Int)) := by omega | have : ¬ (((194 : Int) ≤ (c.toNat : Int))) := by omega
  first | have : ((c.toNat : Int) < 224) := by omega | have : ¬ (((c.toNat : Int) < 224)) := by omega
  first | have : ((224 : Int) ≤ (c.toNat : Int)) := by omega | have : ¬ (((224 : Int) ≤ (c.toNat : Int))) := by omega
  first | have : ((c.toNat : Int) < 240) := by omega | have : ¬ (((c.toNat : Int) < 240)) := by omega
  first | have : ((240 : Int) ≤ (c.toNat : Int)) := by omega | have : ¬ (((240 : Int) ≤ (c.toNat : Int))) := by omega
  first | have : ((c.toNat : Int) < 245) := by omega | have : ¬ (((c.toNat : Int) < 245)) := by omega
  have hcw : IntKind.i64.wrap (c.toNat : Int) = (c.toNat : Int) := by rw [IntKind.wrap_i64]; omega
  have he : l.isEmpty = false := by cases l with
    | nil => simp at hl
    | cons => rfl
  have hl0 : (0 : Int) < (l.length : Int) := by omega
  have hn0 : 0 < l.length := by omega
  have hls : (l.length : Int) < 4 := by omega
  refine calls_fr (vs := [_]) 92 Tryz.func20 rfl rfl (Nat.le_of_ble_eq_true rfl) fun f => ?_
  simp only [argSlots]
  (repeat (first | with_reducible refine wp_seq_k (fun K hK => ?_) | with_reducible refine wp_region_lit ?_ | with_reducible refine wpList_nil ?_ | ((with_reducible refine wpList_plain rfl (fun K hK => ?_)); go_simp) | ((with_reducible refine wpList_step (fun K hK => ?_)); go_simp) | (with_reducible ((first | refine hK _ _ ?_ | (clear hK K; refine hK _ _ ?_) | (clear hK K; clear hK K; refine hK _ _ ?_) | (clear hK K; clear hK K; clear hK K; refine hK _ _ ?_) | (clear hK K; clear hK K; clear hK K; clear hK K; refine hK _ _ ?_) | (clear hK K; clear hK K; clear hK K; clear hK K; clear hK K; refine hK _ _ ?_)); clear hK K)) | with_reducible refine wp_cond_true (by first | (go_simp; done) | (go_simp; omega)) ?_ | with_reducible refine wp_cond_false (by first | (go_simp; done) | (go_simp; omega)) ?_ | with_reducible refine wp_exit ?_ | with_reducible refine wp_ret ?_ | with_reducible refine wp_block ?_ | with_reducible refine wp_label ?_ | with_reducible refine wp_skip ?_ | with_reducible refine wp_scope_straight ?_ | simp only [Exit.then, Exit.inBlock, Exit.noGoto, ↓reduceIte, Nat.reduceEqDiff] | simp only [undef, reduceCtorEq, ↓reduceIte]))
  (refine fr_out2 rfl (by decide) (by decide) (by simp only [lk_cons, lk_nil, Nat.reduceEqDiff, ↓reduceIte]; rfl) (by simp only [lk_cons, lk_nil, Nat.reduceEqDiff, ↓reduceIte]; rfl) ?_)
  exact ⟨rfl, rfl⟩
set_option maxHeartbeats 8000000 in
set_option maxRecDepth 100000 in
theorem dec4_bad1 (l : Bs) (c d : UInt8) (w : World) (hl : 4 ≤ l.length) (i0 : ∀ h, (⟨l.toArray⟩ : ByteArray)[0]'h = c) (i1 : ∀ h, (⟨l.toArray⟩ : ByteArray)[1]'h = d) (hc : 240 ≤ c.toNat ∧ c.toNat < 245) (hb1 : d.toNat / 64 ≠ 2) :
    Calls Tryz.prog 20 #[(.string ⟨l.toArray⟩)] w fun e w' => e = .returned (.tuple #[.int .i64 0, .int .i64 0]) ∧ w = w' := by
  have hc256 := c.toNat_lt
  first | have : ((c.toNat : Int) < 128) := by omega | have : ¬ (((c.toNat : Int) < 128)) := by omega
  first | have : ((194 : Int) ≤ (c.toNat : Int)) := by omega | have : ¬ (((194 : Int) ≤ (c.toNat : Int))) := by omega
  first | have : ((c.toNat : Int) < 224) := by omega | have : ¬ (((c.toNat : Int) < 224)) := by omega
  first | have : ((224 : Int) ≤ (c.toNat : Int)) := by omega | have : ¬ (((224 : Int) ≤ (c.toNat : Int))) := by omega
  first | have : ((c.toNat : Int) < 240) := by omega | have : ¬ (((c.toNat : Int) < 240)) := by omega
  first | have : ((240 : Int) ≤ (c.toNat : Int)) := by omega | have : ¬ (((240 : Int) ≤ (c.toNat : Int))) := by omega
  first | have : ((c.toNat : Int) < 245) := by omega | have : ¬ (((c.toNat : Int) < 245)) := by omega
  have hcw : IntKind.i64.wrap (c.toNat : Int) = (c.toNat : Int) := by rw [IntKind.wrap_i64]; omega
  have he : l.isEmpty = false := by cases l with
    | nil => simp at hl
    | cons => rfl
  have hl0 : (0 : Int) < (l.length : Int) := by omega
  have hn0 : 0 < l.length := by omega
  have hls : ¬ ((l.length : Int) < 4) := by omega
  have hn1 : 1 < l.length := by omega
  have hl1 : (1 : Int) < (l.length : Int) := by omega
  have hm1 := and192f d hb1
  have hw2 : IntKind.i64.wrap 2 = 2 := rfl
  have hw3 : IntKind.i64.wrap 3 = 3 := rfl
  have hw4 : IntKind.i64.wrap 4 = 4 := rfl
  have hR0 := (i64mask c).2.2
  obtain ⟨r0, e0⟩ : ∃ r0 : Nat, r0 = c.toNat % 8 := ⟨_, rfl⟩
  rw [← e0] at hR0
  have HE0 := Lib.hid e0
  have hr0 : r0 < 8 := by omega
  clear e0
  refine calls_fr (vs := [_]) 92 Tryz.func20 rfl rfl (Nat.le_of_ble_eq_true rfl) fun f => ?_
  simp only [argSlots]
  (repeat (first | with_reducible refine wp_seq_k (fun K hK => ?_) | with_reducible refine wp_region_lit ?_ | with_reducible refine wpList_nil ?_ | ((with_reducible refine wpList_plain rfl (fun K hK => ?_)); go_simp) | ((with_reducible refine wpList_step (fun K hK => ?_)); go_simp) | (with_reducible ((first | refine hK _ _ ?_ | (clear hK K; refine hK _ _ ?_) | (clear hK K; clear hK K; refine hK _ _ ?_) | (clear hK K; clear hK K; clear hK K; refine hK _ _ ?_) | (clear hK K; clear hK K; clear hK K; clear hK K; refine hK _ _ ?_) | (clear hK K; clear hK K; clear hK K; clear hK K; clear hK K; refine hK _ _ ?_)); clear hK K)) | with_reducible refine wp_cond_true (by first | (go_simp; done) | (go_simp; omega)) ?_ | with_reducible refine wp_cond_false (by first | (go_simp; done) | (go_simp; omega)) ?_ | with_reducible refine wp_exit ?_ | with_reducible refine wp_ret ?_ | with_reducible refine wp_block ?_ | with_reducible refine wp_label ?_ | with_reducible refine wp_skip ?_ | with_reducible refine wp_scope_straight ?_ | simp only [Exit.then, Exit.inBlock, Exit.noGoto, ↓reduceIte, Nat.reduceEqDiff] | simp only [undef, reduceCtorEq, ↓reduceIte]))
  refine wp_loop_rounds 1 ?_
  rw [rounds_succ]
  (repeat (first | with_reducible refine wp_seq_k (fun K hK => ?_) | with_reducible refine wp_region_lit ?_ | with_reducible refine wpList_nil ?_ | ((with_reducible refine wpList_plain rfl (fun K hK => ?_)); go_simp) | ((with_reducible refine wpList_step (fun K hK => ?_)); go_simp) | (with_reducible ((first | refine hK _ _ ?_ | (clear hK K; refine hK _ _ ?_) | (clear hK K; clear hK K; refine hK _ _ ?_) | (clear hK K; clear hK K; clear hK K; refine hK _ _ ?_) | (clear hK K; clear hK K; clear hK K; clear hK K; refine hK _ _ ?_) | (clear hK K; clear hK K; clear hK K; clear hK K; clear hK K; refine hK _ _ ?_)); clear hK K)) | with_reducible refine wp_cond_true (by first | (go_simp; done) | (go_simp; omega)) ?_ | with_reducible refine wp_cond_false (by first | (go_simp; done) | (go_simp; omega)) ?_ | with_reducible refine wp_exit ?_ | with_reducible refine wp_ret ?_ | with_reducible refine wp_block ?_ | with_reducible refine wp_label ?_ | with_reducible refine wp_skip ?_ | with_reducible refine wp_scope_straight ?_ | simp only [Exit.then, Exit.inBlock, Exit.noGoto, ↓reduceIte, Nat.reduceEqDiff] | simp only [undef, reduceCtorEq, ↓reduceIte]))
  (refine fr_out2 rfl (by decide) (by decide) (by simp only [lk_cons, lk_nil, Nat.reduceEqDiff, ↓reduceIte]; rfl) (by simp only [lk_cons, lk_nil, Nat.reduceEqDiff, ↓reduceIte]; rfl) ?_)
  exact ⟨rfl, rfl⟩
set_option maxHeartbeats 8000000 in
set_option maxRecDepth 100000 in
theorem dec4_bad2 (l : Bs) (c d b : UInt8) (w : World) (hl : 4 ≤ l.length) (i0 : ∀ h, (⟨l.toArray⟩ : ByteArray)[0]'h = c) (i1 : ∀ h, (⟨l.toArray⟩ : ByteArray)[1]'h = d) (i2 : ∀ h, (⟨l.toArray⟩ : ByteArray)[2]'h = b) (hc : 240 ≤ c.toNat ∧ c.toNat < 245) (hb1 : d.toNat / 64 = 2) (hb2 : b.toNat / 64 ≠ 2) :
    Calls Tryz.prog 20 #[(.string ⟨l.toArray⟩)] w fun e w' => e = .returned (.tuple #[.int .i64 0, .int .i64 0]) ∧ w = w' := by
  have hc256 := c.toNat_lt
  first | have : ((c.toNat : Int) < 128) := by omega | have : ¬ (((c.toNat : Int) < 128)) := by omega
  first | have : ((194 : Int) ≤ (c.toNat : Int)) := by omega | have : ¬ (((194 : Int) ≤ (c.toNat : Int))) := by omega
  first | have : ((c.toNat : Int) < 224) := by omega | have : ¬ (((c.toNat : Int) < 224)) := by omega
  first | have : ((224 : Int) ≤ (c.toNat : Int)) := by omega | have : ¬ (((224 : Int) ≤ (c.toNat : Int))) := by omega
  first | have : ((c.toNat : Int) < 240) := by omega | have : ¬ (((c.toNat : Int) < 240)) := by omega
  first | have : ((240 : Int) ≤ (c.toNat : Int)) := by omega | have : ¬ (((240 : Int) ≤ (c.toNat : Int))) := by omega
  first | have : ((c.toNat : Int) < 245) := by omega | have : ¬ (((c.toNat : Int) < 245)) := by omega
  have hcw : IntKind.i64.wrap (c.toNat : Int) = (c.toNat : Int) := by rw [IntKind.wrap_i64]; omega
  have he : l.isEmpty = false := by cases l with
    | nil => simp at hl
    | cons => rfl
  have hl0 : (0 : Int) < (l.length : Int) := by omega
  have hn0 : 0 < l.length := by omega
  have hls : ¬ ((l.length : Int) < 4) := by omega
  have hn1 : 1 < l.length := by omega
  have hl1 : (1 : Int) < (l.length : Int) := by omega
  have hm1 := and192t d hb1
  have hn2 : 2 < l.length := by omega
  have hl2 : (2 : Int) < (l.length : Int) := by omega
  have hm2 := and192f b hb2
  have hw2 : IntKind.i64.wrap 2 = 2 := rfl
  have hw3 : IntKind.i64.wrap 3 = 3 := rfl
  have hw4 : IntKind.i64.wrap 4 = 4 := rfl
  have hR0 := (i64mask c).2.2
  obtain ⟨r0, e0⟩ : ∃ r0 : Nat, r0 = c.toNat % 8 := ⟨_, rfl⟩
  rw [← e0] at hR0
  have HE0 := Lib.hid e0
  have hr0 : r0 < 8 := by omega
  clear e0
  have hy1 := and63 d
  obtain ⟨y1, f1⟩ : ∃ y : Nat, y = d.toNat % 64 := ⟨_, rfl⟩
  rw [← f1] at hy1
  have HF1 := Lib.hid f1
  have hyl1 : y1 < 64 := by omega
  clear f1
  obtain ⟨g1a, g1b, g1c⟩ := foldf r0 y1 (by omega) hyl1
  obtain ⟨r1, e1⟩ : ∃ r : Nat, r = r0 * 64 + y1 := ⟨_, rfl⟩
  rw [← e1] at g1c
  have HE1 := Lib.hid e1
  have hr1 : r1 < 512 := by omega
  clear e1
  refine calls_fr (vs := [_]) 92 Tryz.func20 rfl rfl (Nat.le_of_ble_eq_true rfl) fun f => ?_
  simp only [argSlots]
  (repeat (first | with_reducible refine wp_seq_k (fun K hK => ?_) | with_reducible refine wp_region_lit ?_ | with_reducible refine wpList_nil ?_ | ((with_reducible refine wpList_plain rfl (fun K hK => ?_)); go_simp) | ((with_reducible refine wpList_step (fun K hK => ?_)); go_simp) | (with_reducible ((first | refine hK _ _ ?_ | (clear hK K; refine hK _ _ ?_) | (clear hK K; clear hK K; refine hK _ _ ?_) | (clear hK K; clear hK K; clear hK K; refine hK _ _ ?_) | (clear hK K; clear hK K; clear hK K; clear hK K; refine hK _ _ ?_) | (clear hK K; clear hK K; clear hK K; clear hK K; clear hK K; refine hK _ _ ?_)); clear hK K)) | with_reducible refine wp_cond_true (by first | (go_simp; done) | (go_simp; omega)) ?_ | with_reducible refine wp_cond_false (by first | (go_simp; done) | (go_simp; omega)) ?_ | with_reducible refine wp_exit ?_ | with_reducible refine wp_ret ?_ | with_reducible refine wp_block ?_ | with_reducible refine wp_label ?_ | with_reducible refine wp_skip ?_ | with_reducible refine wp_scope_straight ?_ | simp only [Exit.then, Exit.inBlock, Exit.noGoto, ↓reduceIte, Nat.reduceEqDiff] | simp only [undef, reduceCtorEq, ↓reduceIte]))
  refine wp_loop_rounds 2 ?_
  rw [rounds_succ]
  (repeat (first | with_reducible refine wp_seq_k (fun K hK => ?_) | with_reducible refine wp_region_lit ?_ | with_reducible refine wpList_nil ?_ | ((with_reducible refine wpList_plain rfl (fun K hK => ?_)); go_simp) | ((with_reducible refine wpList_step (fun K hK => ?_)); go_simp) | (with_reducible ((first | refine hK _ _ ?_ | (clear hK K; refine hK _ _ ?_) | (clear hK K; clear hK K; refine hK _ _ ?_) | (clear hK K; clear hK K; clear hK K; refine hK _ _ ?_) | (clear hK K; clear hK K; clear hK K; clear hK K; refine hK _ _ ?_) | (clear hK K; clear hK K; clear hK K; clear hK K; clear hK K; refine hK _ _ ?_)); clear hK K)) | with_reducible refine wp_cond_true (by first | (go_simp; done) | (go_simp; omega)) ?_ | with_reducible refine wp_cond_false (by first | (go_simp; done) | (go_simp; omega)) ?_ | with_reducible refine wp_exit ?_ | with_reducible refine wp_ret ?_ | with_reducible refine wp_block ?_ | with_reducible refine wp_label ?_ | with_reducible refine wp_skip ?_ | with_reducible refine wp_scope_straight ?_ | simp only [Exit.then, Exit.inBlock, Exit.noGoto, ↓reduceIte, Nat.reduceEqDiff] | simp only [undef, reduceCtorEq, ↓reduceIte]))
  rw [rounds_succ]
  (repeat (first | with_reducible refine wp_seq_k (fun K hK => ?_) | with_reducible refine wp_region_lit ?_ | with_reducible refine wpList_nil ?_ | ((with_reducible refine wpList_plain rfl (fun K hK => ?_)); go_simp) | ((with_reducible refine wpList_step (fun K hK => ?_)); go_simp) | (with_reducible ((first | refine hK _ _ ?_ | (clear hK K; refine hK _ _ ?_) | (clear hK K; clear hK K; refine hK _ _ ?_) | (clear hK K; clear hK K; clear hK K; refine hK _ _ ?_) | (clear hK K; clear hK K; clear hK K; clear hK K; refine hK _ _ ?_) | (clear hK K; clear hK K; clear hK K; clear hK K; clear hK K; refine hK _ _ ?_)); clear hK K)) | with_reducible refine wp_cond_true (by first | (go_simp; done) | (go_simp; omega)) ?_ | with_reducible refine wp_cond_false (by first | (go_simp; done) | (go_simp; omega)) ?_ | with_reducible refine wp_exit ?_ | with_reducible refine wp_ret ?_ | with_reducible refine wp_block ?_ | with_reducible refine wp_label ?_ | with_reducible refine wp_skip ?_ | with_reducible refine wp_scope_straight ?_ | simp only [Exit.then, Exit.inBlock, Exit.noGoto, ↓reduceIte, Nat.reduceEqDiff] | simp only [undef, reduceCtorEq, ↓reduceIte]))
  (refine fr_out2 rfl (by decide) (by decide) (by simp only [lk_cons, lk_nil, Nat.reduceEqDiff, ↓reduceIte]; rfl) (by simp only [lk_cons, lk_nil, Nat.reduceEqDiff, ↓reduceIte]; rfl) ?_)
  exact ⟨rfl, rfl⟩
set_option maxHeartbeats 8000000 in
set_option maxRecDepth 100000 in
theorem dec4_bad3 (l : Bs) (c d b g : UInt8) (w : World) (hl : 4 ≤ l.length) (i0 : ∀ h, (⟨l.toArray⟩ : ByteArray)[0]'h = c) (i1 : ∀ h, (⟨l.toArray⟩ : ByteArray)[1]'h = d) (i2 : ∀ h, (⟨l.toArray⟩ : ByteArray)[2]'h = b) (i3 : ∀ h, (⟨l.toArray⟩ : ByteArray)[3]'h = g) (hc : 240 ≤ c.toNat ∧ c.toNat < 245) (hb1 : d.toNat / 64 = 2) (hb2 : b.toNat / 64 = 2) (hb3 : g.toNat / 64 ≠ 2) :
    Calls Tryz.prog 20 #[(.string ⟨l.toArray⟩)] w fun e w' => e = .returned (.tuple #[.int .i64 0, .int .i64 0]) ∧ w = w' := by
  have hc256 := c.toNat_lt
  first | have : ((c.toNat : Int) < 128) := by omega | have : ¬ (((c.toNat : Int) < 128)) := by omega
  first | have : ((194 : Int) ≤ (c.toNat : Int)) := by omega | have : ¬ (((194 : Int) ≤ (c.toNat : Int))) := by omega
  first | have : ((c.toNat : Int) < 224) := by omega | have : ¬ (((c.toNat : Int) < 224)) := by omega
  first | have : ((224 : Int) ≤ (c.toNat : Int)) := by omega | have : ¬ (((224 : Int) ≤ (c.toNat : Int))) := by omega
  first | have : ((c.toNat : Int) < 240) := by omega | have : ¬ (((c.toNat : Int) < 240)) := by omega
  first | have : ((240 : Int) ≤ (c.toNat : Int)) := by omega | have : ¬ (((240 : Int) ≤ (c.toNat : Int))) := by omega
  first | have : ((c.toNat : Int) < 245) := by omega | have : ¬ (((c.toNat : Int) < 245)) := by omega
  have hcw : IntKind.i64.wrap (c.toNat : Int) = (c.toNat : Int) := by rw [IntKind.wrap_i64]; omega
  have he : l.isEmpty = false := by cases l with
    | nil => simp at hl
    | cons => rfl
  have hl0 : (0 : Int) < (l.length : Int) := by omega
  have hn0 : 0 < l.length := by omega
  have hls : ¬ ((l.length : Int) < 4) := by omega
  have hn1 : 1 < l.length := by omega
  have hl1 : (1 : Int) < (l.length : Int) := by omega
  have hm1 := and192t d hb1
  have hn2 : 2 < l.length := by omega
  have hl2 : (2 : Int) < (l.length : Int) := by omega
  have hm2 := and192t b hb2
  have hn3 : 3 < l.length := by omega
  have hl3 : (3 : Int) < (l.length : Int) := by omega
  have hm3 := and192f g hb3
  have hw2 : IntKind.i64.wrap 2 = 2 := rfl
  have hw3 : IntKind.i64.wrap 3 = 3 := rfl
  have hw4 : IntKind.i64.wrap 4 = 4 := rfl
  have hR0 := (i64mask c).2.2
  obtain ⟨r0, e0⟩ : ∃ r0 : Nat, r0 = c.toNat % 8 := ⟨_, rfl⟩
  rw [← e0] at hR0
  have HE0 := Lib.hid e0
  have hr0 : r0 < 8 := by omega
  clear e0
  have hy1 := and63 d
  obtain ⟨y1, f1⟩ : ∃ y : Nat, y = d.toNat % 64 := ⟨_, rfl⟩
  rw [← f1] at hy1
  have HF1 := Lib.hid f1
  have hyl1 : y1 < 64 := by omega
  clear f1
  obtain ⟨g1a, g1b, g1c⟩ := foldf r0 y1 (by omega) hyl1
  obtain ⟨r1, e1⟩ : ∃ r : Nat, r = r0 * 64 + y1 := ⟨_, rfl⟩
  rw [← e1] at g1c
  have HE1 := Lib.hid e1
  have hr1 : r1 < 512 := by omega
  clear e1
  have hy2 := and63 b
  obtain ⟨y2, f2⟩ : ∃ y : Nat, y = b.toNat % 64 := ⟨_, rfl⟩
  rw [← f2] at hy2
  have HF2 := Lib.hid f2
  have hyl2 : y2 < 64 := by omega
  clear f2
  obtain ⟨g2a, g2b, g2c⟩ := foldf r1 y2 (by omega) hyl2
  obtain ⟨r2, e2⟩ : ∃ r : Nat, r = r1 * 64 + y2 := ⟨_, rfl⟩
  rw [← e2] at g2c
  have HE2 := Lib.hid e2
  have hr2 : r2 < 32768 := by omega
  clear e2
  refine calls_fr (vs := [_]) 92 Tryz.func20 rfl rfl (Nat.le_of_ble_eq_true rfl) fun f => ?_
  simp only [argSlots]
  (repeat (first | with_reducible refine wp_seq_k (fun K hK => ?_) | with_reducible refine wp_region_lit ?_ | with_reducible refine wpList_nil ?_ | ((with_reducible refine wpList_plain rfl (fun K hK => ?_)); go_simp) | ((with_reducible refine wpList_step (fun K hK => ?_)); go_simp) | (with_reducible ((first | refine hK _ _ ?_ | (clear hK K; refine hK _ _ ?_) | (clear hK K; clear hK K; refine hK _ _ ?_) | (clear hK K; clear hK K; clear hK K; refine hK _ _ ?_) | (clear hK K; clear hK K; clear hK K; clear hK K; refine hK _ _ ?_) | (clear hK K; clear hK K; clear hK K; clear hK K; clear hK K; refine hK _ _ ?_)); clear hK K)) | with_reducible refine wp_cond_true (by first | (go_simp; done) | (go_simp; omega)) ?_ | with_reducible refine wp_cond_false (by first | (go_simp; done) | (go_simp; omega)) ?_ | with_reducible refine wp_exit ?_ | with_reducible refine wp_ret ?_ | with_reducible refine wp_block ?_ | with_reducible refine wp_label ?_ | with_reducible refine wp_skip ?_ | with_reducible refine wp_scope_straight ?_ | simp only [Exit.then, Exit.inBlock, Exit.noGoto, ↓reduceIte, Nat.reduceEqDiff] | simp only [undef, reduceCtorEq, ↓reduceIte]))
  refine wp_loop_rounds 3 ?_
  rw [rounds_succ]
  (repeat (first | with_reducible refine wp_seq_k (fun K hK => ?_) | with_reducible refine wp_region_lit ?_ | with_reducible refine wpList_nil ?_ | ((with_reducible refine wpList_plain rfl (fun K hK => ?_)); go_simp) | ((with_reducible refine wpList_step (fun K hK => ?_)); go_simp) | (with_reducible ((first | refine hK _ _ ?_ | (clear hK K; refine hK _ _ ?_) | (clear hK K; clear hK K; refine hK _ _ ?_) | (clear hK K; clear hK K; clear hK K; refine hK _ _ ?_) | (clear hK K; clear hK K; clear hK K; clear hK K; refine hK _ _ ?_) | (clear hK K; clear hK K; clear hK K; clear hK K; clear hK K; refine hK _ _ ?_)); clear hK K)) | with_reducible refine wp_cond_true (by first | (go_simp; done) | (go_simp; omega)) ?_ | with_reducible refine wp_cond_false (by first | (go_simp; done) | (go_simp; omega)) ?_ | with_reducible refine wp_exit ?_ | with_reducible refine wp_ret ?_ | with_reducible refine wp_block ?_ | with_reducible refine wp_label ?_ | with_reducible refine wp_skip ?_ | with_reducible refine wp_scope_straight ?_ | simp only [Exit.then, Exit.inBlock, Exit.noGoto, ↓reduceIte, Nat.reduceEqDiff] | simp only [undef, reduceCtorEq, ↓reduceIte]))
  rw [rounds_succ]
  (repeat (first | with_reducible refine wp_seq_k (fun K hK => ?_) | with_reducible refine wp_region_lit ?_ | with_reducible refine wpList_nil ?_ | ((with_reducible refine wpList_plain rfl (fun K hK => ?_)); go_simp) | ((with_reducible refine wpList_step (fun K hK => ?_)); go_simp) | (with_reducible ((first | refine hK _ _ ?_ | (clear hK K; refine hK _ _ ?_) | (clear hK K; clear hK K; refine hK _ _ ?_) | (clear hK K; clear hK K; clear hK K; refine hK _ _ ?_) | (clear hK K; clear hK K; clear hK K; clear hK K; refine hK _ _ ?_) | (clear hK K; clear hK K; clear hK K; clear hK K; clear hK K; refine hK _ _ ?_)); clear hK K)) | with_reducible refine wp_cond_true (by first | (go_simp; done) | (go_simp; omega)) ?_ | with_reducible refine wp_cond_false (by first | (go_simp; done) | (go_simp; omega)) ?_ | with_reducible refine wp_exit ?_ | with_reducible refine wp_ret ?_ | with_reducible refine wp_block ?_ | with_reducible refine wp_label ?_ | with_reducible refine wp_skip ?_ | with_reducible refine wp_scope_straight ?_ | simp only [Exit.then, Exit.inBlock, Exit.noGoto, ↓reduceIte, Nat.reduceEqDiff] | simp only [undef, reduceCtorEq, ↓reduceIte]))
  rw [rounds_succ]
  (repeat (first | with_reducible refine wp_seq_k (fun K hK => ?_) | with_reducible refine wp_region_lit ?_ | with_reducible refine wpList_nil ?_ | ((with_reducible refine wpList_plain rfl (fun K hK => ?_)); go_simp) | ((with_reducible refine wpList_step (fun K hK => ?_)); go_simp) | (with_reducible ((first | refine hK _ _ ?_ | (clear hK K; refine hK _ _ ?_) | (clear hK K; clear hK K; refine hK _ _ ?_) | (clear hK K; clear hK K; clear hK K; refine hK _ _ ?_) | (clear hK K; clear hK K; clear hK K; clear hK K; refine hK _ _ ?_) | (clear hK K; clear hK K; clear hK K; clear hK K; clear hK K; refine hK _ _ ?_)); clear hK K)) | with_reducible refine wp_cond_true (by first | (go_simp; done) | (go_simp; omega)) ?_ | with_reducible refine wp_cond_false (by first | (go_simp; done) | (go_simp; omega)) ?_ | with_reducible refine wp_exit ?_ | with_reducible refine wp_ret ?_ | with_reducible refine wp_block ?_ | with_reducible refine wp_label ?_ | with_reducible refine wp_skip ?_ | with_reducible refine wp_scope_straight ?_ | simp only [Exit.then, Exit.inBlock, Exit.noGoto, ↓reduceIte, Nat.reduceEqDiff] | simp only [undef, reduceCtorEq, ↓reduceIte]))
  (refine fr_out2 rfl (by decide) (by decide) (by simp only [lk_cons, lk_nil, Nat.reduceEqDiff, ↓reduceIte]; rfl) (by simp only [lk_cons, lk_nil, Nat.reduceEqDiff, ↓reduceIte]; rfl) ?_)
  exact ⟨rfl, rfl⟩
set_option maxHeartbeats 8000000 in
set_option maxRecDepth 100000 in
theorem dec4_rbad (l : Bs) (c d b g : UInt8) (w : World) (hl : 4 ≤ l.length) (i0 : ∀ h, (⟨l.toArray⟩ : ByteArray)[0]'h = c) (i1 : ∀ h, (⟨l.toArray⟩ : ByteArray)[1]'h = d) (i2 : ∀ h, (⟨l.toArray⟩ : ByteArray)[2]'h = b) (i3 : ∀ h, (⟨l.toArray⟩ : ByteArray)[3]'h = g) (hc : 240 ≤ c.toNat ∧ c.toNat < 245) (hb1 : d.toNat / 64 = 2) (hb2 : b.toNat / 64 = 2) (hb3 : g.toNat / 64 = 2) (hr : ((((c.toNat % 8) * 64 + d.toNat % 64) * 64 + b.toNat % 64) * 64 + g.toNat % 64) < 65536) :
    Calls Tryz.prog 20 #[(.string ⟨l.toArray⟩)] w fun e w' => e = .returned (.tuple #[.int .i64 0, .int .i64 0]) ∧ w = w' := by
  have hc256 := c.toNat_lt
  first | have : ((c.toNat : Int) < 128) := by omega | have : ¬ (((c.toNat : Int) < 128)) := by omega
  first | have : ((194 : Int) ≤ (c.toNat : Int)) := by omega | have : ¬ (((194 : Int) ≤ (c.toNat : Int))) := by omega
  first | have : ((c.toNat : Int) < 224) := by omega | have : ¬ (((c.toNat : Int) < 224)) := by omega
  first | have : ((224 : Int) ≤ (c.toNat : Int)) := by omega | have : ¬ (((224 : Int) ≤ (c.toNat : Int))) := by omega
  first | have : ((c.toNat : Int) < 240) := by omega | have : ¬ (((c.toNat : Int) < 240)) := by omega
  first | have : ((240 : Int) ≤ (c.toNat : Int)) := by omega | have : ¬ (((240 : Int) ≤ (c.toNat : Int))) := by omega
  first | have : ((c.toNat : Int) < 245) := by omega | have : ¬ (((c.toNat : Int) < 245)) := by omega
  have hcw : IntKind.i64.wrap (c.toNat : Int) = (c.toNat : Int) := by rw [IntKind.wrap_i64]; omega
  have he : l.isEmpty = false := by cases l with
    | nil => simp at hl
    | cons => rfl
  have hl0 : (0 : Int) < (l.length : Int) := by omega
  have hn0 : 0 < l.length := by omega
  have hls : ¬ ((l.length : Int) < 4) := by omega
  have hn1 : 1 < l.length := by omega
  have hl1 : (1 : Int) < (l.length : Int) := by omega
  have hm1 := and192t d hb1
  have hn2 : 2 < l.length := by omega
  have hl2 : (2 : Int) < (l.length : Int) := by omega
  have hm2 := and192t b hb2
  have hn3 : 3 < l.length := by omega
  have hl3 : (3 : Int) < (l.length : Int) := by omega
  have hm3 := and192t g hb3
  have hw2 : IntKind.i64.wrap 2 = 2 := rfl
  have hw3 : IntKind.i64.wrap 3 = 3 := rfl
  have hw4 : IntKind.i64.wrap 4 = 4 := rfl
  have hR0 := (i64mask c).2.2
  obtain ⟨r0, e0⟩ : ∃ r0 : Nat, r0 = c.toNat % 8 := ⟨_, rfl⟩
  rw [← e0] at hR0
  have HE0 := Lib.hid e0
  have hr0 : r0 < 8 := by omega
  clear e0
  have hy1 := and63 d
  obtain ⟨y1, f1⟩ : ∃ y : Nat, y = d.toNat % 64 := ⟨_, rfl⟩
  rw [← f1] at hy1
  have HF1 := Lib.hid f1
  have hyl1 : y1 < 64 := by omega
  clear f1
  obtain ⟨g1a, g1b, g1c⟩ := foldf r0 y1 (by omega) hyl1
  obtain ⟨r1, e1⟩ : ∃ r : Nat, r = r0 * 64 + y1 := ⟨_, rfl⟩
  rw [← e1] at g1c
  have HE1 := Lib.hid e1
  have hr1 : r1 < 512 := by omega
  clear e1
  have hy2 := and63 b
  obtain ⟨y2, f2⟩ : ∃ y : Nat, y = b.toNat % 64 := ⟨_, rfl⟩
  rw [← f2] at hy2
  have HF2 := Lib.hid f2
  have hyl2 : y2 < 64 := by omega
  clear f2
  obtain ⟨g2a, g2b, g2c⟩ := foldf r1 y2 (by omega) hyl2
  obtain ⟨r2, e2⟩ : ∃ r : Nat, r = r1 * 64 + y2 := ⟨_, rfl⟩
  rw [← e2] at g2c
  have HE2 := Lib.hid e2
  have hr2 : r2 < 32768 := by omega
  clear e2
  have hy3 := and63 g
  obtain ⟨y3, f3⟩ : ∃ y : Nat, y = g.toNat % 64 := ⟨_, rfl⟩
  rw [← f3] at hy3
  have HF3 := Lib.hid f3
  have hyl3 : y3 < 64 := by omega
  clear f3
  obtain ⟨g3a, g3b, g3c⟩ := foldf r2 y3 (by omega) hyl3
  obtain ⟨r3, e3⟩ : ∃ r : Nat, r = r2 * 64 + y3 := ⟨_, rfl⟩
  rw [← e3] at g3c
  have HE3 := Lib.hid e3
  have hr3 : r3 < 2097152 := by omega
  clear e3
  have hrr : r3 = (((c.toNat % 8) * 64 + d.toNat % 64) * 64 + b.toNat % 64) * 64 + g.toNat % 64 := by
    have a0 := HE0.out
    have a1 := HE1.out
    have b1 := HF1.out
    have a2 := HE2.out
    have b2 := HF2.out
    have a3 := HE3.out
    have b3 := HF3.out
    omega
  rw [← hrr] at hr
  have HRR := Lib.hid hrr
  clear hrr
  first | have : ((r3 : Int) < 65536) := by omega | have : ¬ (((r3 : Int) < 65536)) := by omega
  first | have : ((1114111 : Int) < (r3 : Int)) := by omega | have : ¬ (((1114111 : Int) < (r3 : Int))) := by omega
  refine calls_fr (vs := [_]) 92 Tryz.func20 rfl rfl (Nat.le_of_ble_eq_true rfl) fun f => ?_
  simp only [argSlots]
  (repeat (first | with_reducible refine wp_seq_k (fun K hK => ?_) | with_reducible refine wp_region_lit ?_ | with_reducible refine wpList_nil ?_ | ((with_reducible refine wpList_plain rfl (fun K hK => ?_)); go_simp) | ((with_reducible refine wpList_step (fun K hK => ?_)); go_simp) | (with_reducible ((first | refine hK _ _ ?_ | (clear hK K; refine hK _ _ ?_) | (clear hK K; clear hK K; refine hK _ _ ?_) | (clear hK K; clear hK K; clear hK K; refine hK _ _ ?_) | (clear hK K; clear hK K; clear hK K; clear hK K; refine hK _ _ ?_) | (clear hK K; clear hK K; clear hK K; clear hK K; clear hK K; refine hK _ _ ?_)); clear hK K)) | with_reducible refine wp_cond_true (by first | (go_simp; done) | (go_simp; omega)) ?_ | with_reducible refine wp_cond_false (by first | (go_simp; done) | (go_simp; omega)) ?_ | with_reducible refine wp_exit ?_ | with_reducible refine wp_ret ?_ | with_reducible refine wp_block ?_ | with_reducible refine wp_label ?_ | with_reducible refine wp_skip ?_ | with_reducible refine wp_scope_straight ?_ | simp only [Exit.then, Exit.inBlock, Exit.noGoto, ↓reduceIte, Nat.reduceEqDiff] | simp only [undef, reduceCtorEq, ↓reduceIte]))
  refine wp_loop_rounds 4 ?_
  rw [rounds_succ]
  (repeat (first | with_reducible refine wp_seq_k (fun K hK => ?_) | with_reducible refine wp_region_lit ?_ | with_reducible refine wpList_nil ?_ | ((with_reducible refine wpList_plain rfl (fun K hK => ?_)); go_simp) | ((with_reducible refine wpList_step (fun K hK => ?_)); go_simp) | (with_reducible ((first | refine hK _ _ ?_ | (clear hK K; refine hK _ _ ?_) | (clear hK K; clear hK K; refine hK _ _ ?_) | (clear hK K; clear hK K; clear hK K; refine hK _ _ ?_) | (clear hK K; clear hK K; clear hK K; clear hK K; refine hK _ _ ?_) | (clear hK K; clear hK K; clear hK K; clear hK K; clear hK K; refine hK _ _ ?_)); clear hK K)) | with_reducible refine wp_cond_true (by first | (go_simp; done) | (go_simp; omega)) ?_ | with_reducible refine wp_cond_false (by first | (go_simp; done) | (go_simp; omega)) ?_ | with_reducible refine wp_exit ?_ | with_reducible refine wp_ret ?_ | with_reducible refine wp_block ?_ | with_reducible refine wp_label ?_ | with_reducible refine wp_skip ?_ | with_reducible refine wp_scope_straight ?_ | simp only [Exit.then, Exit.inBlock, Exit.noGoto, ↓reduceIte, Nat.reduceEqDiff] | simp only [undef, reduceCtorEq, ↓reduceIte]))
  rw [rounds_succ]
  (repeat (first | with_reducible refine wp_seq_k (fun K hK => ?_) | with_reducible refine wp_region_lit ?_ | with_reducible refine wpList_nil ?_ | ((with_reducible refine wpList_plain rfl (fun K hK => ?_)); go_simp) | ((with_reducible refine wpList_step (fun K hK => ?_)); go_simp) | (with_reducible ((first | refine hK _ _ ?_ | (clear hK K; refine hK _ _ ?_) | (clear hK K; clear hK K; refine hK _ _ ?_) | (clear hK K; clear hK K; clear hK K; refine hK _ _ ?_) | (clear hK K; clear hK K; clear hK K; clear hK K; refine hK _ _ ?_) | (clear hK K; clear hK K; clear hK K; clear hK K; clear hK K; refine hK _ _ ?_)); clear hK K)) | with_reducible refine wp_cond_true (by first | (go_simp; done) | (go_simp; omega)) ?_ | with_reducible refine wp_cond_false (by first | (go_simp; done) | (go_simp; omega)) ?_ | with_reducible refine wp_exit ?_ | with_reducible refine wp_ret ?_ | with_reducible refine wp_block ?_ | with_reducible refine wp_label ?_ | with_reducible refine wp_skip ?_ | with_reducible refine wp_scope_straight ?_ | simp only [Exit.then, Exit.inBlock, Exit.noGoto, ↓reduceIte, Nat.reduceEqDiff] | simp only [undef, reduceCtorEq, ↓reduceIte]))
  rw [rounds_succ]
  (repeat (first | with_reducible refine wp_seq_k (fun K hK => ?_) | with_reducible refine wp_region_lit ?_ | with_reducible refine wpList_nil ?_ | ((with_reducible refine wpList_plain rfl (fun K hK => ?_)); go_simp) | ((with_reducible refine wpList_step (fun K hK => ?_)); go_simp) | (with_reducible ((first | refine hK _ _ ?_ | (clear hK K; refine hK _ _ ?_) | (clear hK K; clear hK K; refine hK _ _ ?_) | (clear hK K; clear hK K; clear hK K; refine hK _ _ ?_) | (clear hK K; clear hK K; clear hK K; clear hK K; refine hK _ _ ?_) | (clear hK K; clear hK K; clear hK K; clear hK K; clear hK K; refine hK _ _ ?_)); clear hK K)) | with_reducible refine wp_cond_true (by first | (go_simp; done) | (go_simp; omega)) ?_ | with_reducible refine wp_cond_false (by first | (go_simp; done) | (go_simp; omega)) ?_ | with_reducible refine wp_exit ?_ | with_reducible refine wp_ret ?_ | with_reducible refine wp_block ?_ | with_reducible refine wp_label ?_ | with_reducible refine wp_skip ?_ | with_reducible refine wp_scope_straight ?_ | simp only [Exit.then, Exit.inBlock, Exit.noGoto, ↓reduceIte, Nat.reduceEqDiff] | simp only [undef, reduceCtorEq, ↓reduceIte]))
  rw [rounds_succ]
  (repeat (first | with_reducible refine wp_seq_k (fun K hK => ?_) | with_reducible refine wp_region_lit ?_ | with_reducible refine wpList_nil ?_ | ((with_reducible refine wpList_plain rfl (fun K hK => ?_)); go_simp) | ((with_reducible refine wpList_step (fun K hK => ?_)); go_simp) | (with_reducible ((first | refine hK _ _ ?_ | (clear hK K; refine hK _ _ ?_) | (clear hK K; clear hK K; refine hK _ _ ?_) | (clear hK K; clear hK K; clear hK K; refine hK _ _ ?_) | (clear hK K; clear hK K; clear hK K; clear hK K; refine hK _ _ ?_) | (clear hK K; clear hK K; clear hK K; clear hK K; clear hK K; refine hK _ _ ?_)); clear hK K)) | with_reducible refine wp_cond_true (by first | (go_simp; done) | (go_simp; omega)) ?_ | with_reducible refine wp_cond_false (by first | (go_simp; done) | (go_simp; omega)) ?_ | with_reducible refine wp_exit ?_ | with_reducible refine wp_ret ?_ | with_reducible refine wp_block ?_ | with_reducible refine wp_label ?_ | with_reducible refine wp_skip ?_ | with_reducible refine wp_scope_straight ?_ | simp only [Exit.then, Exit.inBlock, Exit.noGoto, ↓reduceIte, Nat.reduceEqDiff] | simp only [undef, reduceCtorEq, ↓reduceIte]))
  (refine fr_out2 rfl (by decide) (by decide) (by simp only [lk_cons, lk_nil, Nat.reduceEqDiff, ↓reduceIte]; rfl) (by simp only [lk_cons, lk_nil, Nat.reduceEqDiff, ↓reduceIte]; rfl) ?_)
  refine ⟨?_, rfl⟩
  rfl
set_option maxHeartbeats 8000000 in
set_option maxRecDepth 100000 in
theorem dec4_rhigh (l : Bs) (c d b g : UInt8) (w : World) (hl : 4 ≤ l.length) (i0 : ∀ h, (⟨l.toArray⟩ : ByteArray)[0]'h = c) (i1 : ∀ h, (⟨l.toArray⟩ : ByteArray)[1]'h = d) (i2 : ∀ h, (⟨l.toArray⟩ : ByteArray)[2]'h = b) (i3 : ∀ h, (⟨l.toArray⟩ : ByteArray)[3]'h = g) (hc : 240 ≤ c.toNat ∧ c.toNat < 245) (hb1 : d.toNat / 64 = 2) (hb2 : b.toNat / 64 = 2) (hb3 : g.toNat / 64 = 2) (hr : 1114111 < ((((c.toNat % 8) * 64 + d.toNat % 64) * 64 + b.toNat % 64) * 64 + g.toNat % 64)) :
    Calls Tryz.prog 20 #[(.string ⟨l.toArray⟩)] w fun e w' => e = .returned (.tuple #[.int .i64 0, .int .i64 0]) ∧ w = w' := by
  have hc256 := c.toNat_lt
  first | have : ((c.toNat : Int) < 128) := by omega | have : ¬ (((c.toNat : Int) < 128)) := by omega
  first | have : ((194 : Int) ≤ (c.toNat : Int)) := by omega | have : ¬ (((194 : Int) ≤ (c.toNat : Int))) := by omega
  first | have : ((c.toNat : Int) < 224) := by omega | have : ¬ (((c.toNat : Int) < 224)) := by omega
  first | have : ((224 : Int) ≤ (c.toNat : Int)) := by omega | have : ¬ (((224 : Int) ≤ (c.toNat : Int))) := by omega
  first | have : ((c.toNat : Int) < 240) := by omega | have : ¬ (((c.toNat : Int) < 240)) := by omega
  first | have : ((240 : Int) ≤ (c.toNat : Int)) := by omega | have : ¬ (((240 : Int) ≤ (c.toNat : Int))) := by omega
  first | have : ((c.toNat : Int) < 245) := by omega | have : ¬ (((c.toNat : Int) < 245)) := by omega
  have hcw : IntKind.i64.wrap (c.toNat : Int) = (c.toNat : Int) := by rw [IntKind.wrap_i64]; omega
  have he : l.isEmpty = false := by cases l with
    | nil => simp at hl
    | cons => rfl
  have hl0 : (0 : Int) < (l.length : Int) := by omega
  have hn0 : 0 < l.length := by omega
  have hls : ¬ ((l.length : Int) < 4) := by omega
  have hn1 : 1 < l.length := by omega
  have hl1 : (1 : Int) < (l.length : Int) := by omega
  have hm1 := and192t d hb1
  have hn2 : 2 < l.length := by omega
  have hl2 : (2 : Int) < (l.length : Int) := by omega
  have hm2 := and192t b hb2
  have hn3 : 3 < l.length := by omega
  have hl3 : (3 : Int) < (l.length : Int) := by omega
  have hm3 := and192t g hb3
  have hw2 : IntKind.i64.wrap 2 = 2 := rfl
  have hw3 : IntKind.i64.wrap 3 = 3 := rfl
  have hw4 : IntKind.i64.wrap 4 = 4 := rfl
  have hR0 := (i64mask c).2.2
  obtain ⟨r0, e0⟩ : ∃ r0 : Nat, r0 = c.toNat % 8 := ⟨_, rfl⟩
  rw [← e0] at hR0
  have HE0 := Lib.hid e0
  have hr0 : r0 < 8 := by omega
  clear e0
  have hy1 := and63 d
  obtain ⟨y1, f1⟩ : ∃ y : Nat, y = d.toNat % 64 := ⟨_, rfl⟩
  rw [← f1] at hy1
  have HF1 := Lib.hid f1
  have hyl1 : y1 < 64 := by omega
  clear f1
  obtain ⟨g1a, g1b, g1c⟩ := foldf r0 y1 (by omega) hyl1
  obtain ⟨r1, e1⟩ : ∃ r : Nat, r = r0 * 64 + y1 := ⟨_, rfl⟩
  rw [← e1] at g1c
  have HE1 := Lib.hid e1
  have hr1 : r1 < 512 := by omega
  clear e1
  have hy2 := and63 b
  obtain ⟨y2, f2⟩ : ∃ y : Nat, y = b.toNat % 64 := ⟨_, rfl⟩
  rw [← f2] at hy2
  have HF2 := Lib.hid f2
  have hyl2 : y2 < 64 := by omega
  clear f2
  obtain ⟨g2a, g2b, g2c⟩ := foldf r1 y2 (by omega) hyl2
  obtain ⟨r2, e2⟩ : ∃ r : Nat, r = r1 * 64 + y2 := ⟨_, rfl⟩
  rw [← e2] at g2c
  have HE2 := Lib.hid e2
  have hr2 : r2 < 32768 := by omega
  clear e2
  have hy3 := and63 g
  obtain ⟨y3, f3⟩ : ∃ y : Nat, y = g.toNat % 64 := ⟨_, rfl⟩
  rw [← f3] at hy3
  have HF3 := Lib.hid f3
  have hyl3 : y3 < 64 := by omega
  clear f3
  obtain ⟨g3a, g3b, g3c⟩ := foldf r2 y3 (by omega) hyl3
  obtain ⟨r3, e3⟩ : ∃ r : Nat, r = r2 * 64 + y3 := ⟨_, rfl⟩
  rw [← e3] at g3c
  have HE3 := Lib.hid e3
  have hr3 : r3 < 2097152 := by omega
  clear e3
  have hrr : r3 = (((c.toNat % 8) * 64 + d.toNat % 64) * 64 + b.toNat % 64) * 64 + g.toNat % 64 := by
    have a0 := HE0.out
    have a1 := HE1.out
    have b1 := HF1.out
    have a2 := HE2.out
    have b2 := HF2.out
    have a3 := HE3.out
    have b3 := HF3.out
    omega
  rw [← hrr] at hr
  have HRR := Lib.hid hrr
  clear hrr
  first | have : ((r3 : Int) < 65536) := by omega | have : ¬ (((r3 : Int) < 65536)) := by omega
  first | have : ((1114111 : Int) < (r3 : Int)) := by omega | have : ¬ (((1114111 : Int) < (r3 : Int))) := by omega
  refine calls_fr (vs := [_]) 92 Tryz.func20 rfl rfl (Nat.le_of_ble_eq_true rfl) fun f => ?_
  simp only [argSlots]
  (repeat (first | with_reducible refine wp_seq_k (fun K hK => ?_) | with_reducible refine wp_region_lit ?_ | with_reducible refine wpList_nil ?_ | ((with_reducible refine wpList_plain rfl (fun K hK => ?_)); go_simp) | ((with_reducible refine wpList_step (fun K hK => ?_)); go_simp) | (with_reducible ((first | refine hK _ _ ?_ | (clear hK K; refine hK _ _ ?_) | (clear hK K; clear hK K; refine hK _ _ ?_) | (clear hK K; clear hK K; clear hK K; refine hK _ _ ?_) | (clear hK K; clear hK K; clear hK K; clear hK K; refine hK _ _ ?_) | (clear hK K; clear hK K; clear hK K; clear hK K; clear hK K; refine hK _ _ ?_)); clear hK K)) | with_reducible refine wp_cond_true (by first | (go_simp; done) | (go_simp; omega)) ?_ | with_reducible refine wp_cond_false (by first | (go_simp; done) | (go_simp; omega)) ?_ | with_reducible refine wp_exit ?_ | with_reducible refine wp_ret ?_ | with_reducible refine wp_block ?_ | with_reducible refine wp_label ?_ | with_reducible refine wp_skip ?_ | with_reducible refine wp_scope_straight ?_ | simp only [Exit.then, Exit.inBlock, Exit.noGoto, ↓reduceIte, Nat.reduceEqDiff] | simp only [undef, reduceCtorEq, ↓reduceIte]))
  refine wp_loop_rounds 4 ?_
  rw [rounds_succ]
  (repeat (first | with_reducible refine wp_seq_k (fun K hK => ?_) | with_reducible refine wp_region_lit ?_ | with_reducible refine wpList_nil ?_ | ((with_reducible refine wpList_plain rfl (fun K hK => ?_)); go_simp) | ((with_reducible refine wpList_step (fun K hK => ?_)); go_simp) | (with_reducible ((first | refine hK _ _ ?_ | (clear hK K; refine hK _ _ ?_) | (clear hK K; clear hK K; refine hK _ _ ?_) | (clear hK K; clear hK K; clear hK K; refine hK _ _ ?_) | (clear hK K; clear hK K; clear hK K; clear hK K; refine hK _ _ ?_) | (clear hK K; clear hK K; clear hK K; clear hK K; clear hK K; refine hK _ _ ?_)); clear hK K)) | with_reducible refine wp_cond_true (by first | (go_simp; done) | (go_simp; omega)) ?_ | with_reducible refine wp_cond_false (by first | (go_simp; done) | (go_simp; omega)) ?_ | with_reducible refine wp_exit ?_ | with_reducible refine wp_ret ?_ | with_reducible refine wp_block ?_ | with_reducible refine wp_label ?_ | with_reducible refine wp_skip ?_ | with_reducible refine wp_scope_straight ?_ | simp only [Exit.then, Exit.inBlock, Exit.noGoto, ↓reduceIte, Nat.reduceEqDiff] | simp only [undef, reduceCtorEq, ↓reduceIte]))
  rw [rounds_succ]
  (repeat (first | with_reducible refine wp_seq_k (fun K hK => ?_) | with_reducible refine wp_region_lit ?_ | with_reducible refine wpList_nil ?_ | ((with_reducible refine wpList_plain rfl (fun K hK => ?_)); go_simp) | ((with_reducible refine wpList_step (fun K hK => ?_)); go_simp) | (with_reducible ((first | refine hK _ _ ?_ | (clear hK K; refine hK _ _ ?_) | (clear hK K; clear hK K; refine hK _ _ ?_) | (clear hK K; clear hK K; clear hK K; refine hK _ _ ?_) | (clear hK K; clear hK K; clear hK K; clear hK K; refine hK _ _ ?_) | (clear hK K; clear hK K; clear hK K; clear hK K; clear hK K; refine hK _ _ ?_)); clear hK K)) | with_reducible refine wp_cond_true (by first | (go_simp; done) | (go_simp; omega)) ?_ | with_reducible refine wp_cond_false (by first | (go_simp; done) | (go_simp; omega)) ?_ | with_reducible refine wp_exit ?_ | with_reducible refine wp_ret ?_ | with_reducible refine wp_block ?_ | with_reducible refine wp_label ?_ | with_reducible refine wp_skip ?_ | with_reducible refine wp_scope_straight ?_ | simp only [Exit.then, Exit.inBlock, Exit.noGoto, ↓reduceIte, Nat.reduceEqDiff] | simp only [undef, reduceCtorEq, ↓reduceIte]))
  rw [rounds_succ]
  (repeat (first | with_reducible refine wp_seq_k (fun K hK => ?_) | with_reducible refine wp_region_lit ?_ | with_reducible refine wpList_nil ?_ | ((with_reducible refine wpList_plain rfl (fun K hK => ?_)); go_simp) | ((with_reducible refine wpList_step (fun K hK => ?_)); go_simp) | (with_reducible ((first | refine hK _ _ ?_ | (clear hK K; refine hK _ _ ?_) | (clear hK K; clear hK K; refine hK _ _ ?_) | (clear hK K; clear hK K; clear hK K; refine hK _ _ ?_) | (clear hK K; clear hK K; clear hK K; clear hK K; refine hK _ _ ?_) | (clear hK K; clear hK K; clear hK K; clear hK K; clear hK K; refine hK _ _ ?_)); clear hK K)) | with_reducible refine wp_cond_true (by first | (go_simp; done) | (go_simp; omega)) ?_ | with_reducible refine wp_cond_false (by first | (go_simp; done) | (go_simp; omega)) ?_ | with_reducible refine wp_exit ?_ | with_reducible refine wp_ret ?_ | with_reducible refine wp_block ?_ | with_reducible refine wp_label ?_ | with_reducible refine wp_skip ?_ | with_reducible refine wp_scope_straight ?_ | simp only [Exit.then, Exit.inBlock, Exit.noGoto, ↓reduceIte, Nat.reduceEqDiff] | simp only [undef, reduceCtorEq, ↓reduceIte]))
  rw [rounds_succ]
  (repeat (first | with_reducible refine wp_seq_k (fun K hK => ?_) | with_reducible refine wp_region_lit ?_ | with_reducible refine wpList_nil ?_ | ((with_reducible refine wpList_plain rfl (fun K hK => ?_)); go_simp) | ((with_reducible refine wpList_step (fun K hK => ?_)); go_simp) | (with_reducible ((first | refine hK _ _ ?_ | (clear hK K; refine hK _ _ ?_) | (clear hK K; clear hK K; refine hK _ _ ?_) | (clear hK K; clear hK K; clear hK K; refine hK _ _ ?_) | (clear hK K; clear hK K; clear hK K; clear hK K; refine hK _ _ ?_) | (clear hK K; clear hK K; clear hK K; clear hK K; clear hK K; refine hK _ _ ?_)); clear hK K)) | with_reducible refine wp_cond_true (by first | (go_simp; done) | (go_simp; omega)) ?_ | with_reducible refine wp_cond_false (by first | (go_simp; done) | (go_simp; omega)) ?_ | with_reducible refine wp_exit ?_ | with_reducible refine wp_ret ?_ | with_reducible refine wp_block ?_ | with_reducible refine wp_label ?_ | with_reducible refine wp_skip ?_ | with_reducible refine wp_scope_straight ?_ | simp only [Exit.then, Exit.inBlock, Exit.noGoto, ↓reduceIte, Nat.reduceEqDiff] | simp only [undef, reduceCtorEq, ↓reduceIte]))
  (refine fr_out2 rfl (by decide) (by decide) (by simp only [lk_cons, lk_nil, Nat.reduceEqDiff, ↓reduceIte]; rfl) (by simp only [lk_cons, lk_nil, Nat.reduceEqDiff, ↓reduceIte]; rfl) ?_)
  refine ⟨?_, rfl⟩
  rfl
set_option maxHeartbeats 8000000 in
set_option maxRecDepth 100000 in
theorem dec4_ok (l : Bs) (c d b g : UInt8) (w : World) (hl : 4 ≤ l.length) (i0 : ∀ h, (⟨l.toArray⟩ : ByteArray)[0]'h = c) (i1 : ∀ h, (⟨l.toArray⟩ : ByteArray)[1]'h = d) (i2 : ∀ h, (⟨l.toArray⟩ : ByteArray)[2]'h = b) (i3 : ∀ h, (⟨l.toArray⟩ : ByteArray)[3]'h = g) (hc : 240 ≤ c.toNat ∧ c.toNat < 245) (hb1 : d.toNat / 64 = 2) (hb2 : b.toNat / 64 = 2) (hb3 : g.toNat / 64 = 2) (hr : (65536 ≤ ((((c.toNat % 8) * 64 + d.toNat % 64) * 64 + b.toNat % 64) * 64 + g.toNat % 64) ∧ ((((c.toNat % 8) * 64 + d.toNat % 64) * 64 + b.toNat % 64) * 64 + g.toNat % 64) ≤ 1114111)) :
    Calls Tryz.prog 20 #[(.string ⟨l.toArray⟩)] w fun e w' => e = .returned (.tuple #[.int .i64 (((((c.toNat % 8) * 64 + d.toNat % 64) * 64 + b.toNat % 64) * 64 + g.toNat % 64 : Nat) : Int), .int .i64 4]) ∧ w = w' := by
  have hc256 := c.toNat_lt
  first | have : ((c.toNat : Int) < 128) := by omega | have : ¬ (((c.toNat : Int) < 128)) := by omega
  first | have : ((194 : Int) ≤ (c.toNat : Int)) := by omega | have : ¬ (((194 : Int) ≤ (c.toNat : Int))) := by omega
  first | have : ((c.toNat : Int) < 224) := by omega | have : ¬ (((c.toNat : Int) < 224)) := by omega
  first | have : ((224 : Int) ≤ (c.toNat : Int)) := by omega | have : ¬ (((224 : Int) ≤ (c.toNat : Int))) := by omega
  first | have : ((c.toNat : Int) < 240) := by omega | have : ¬ (((c.toNat : Int) < 240)) := by omega
  first | have : ((240 : Int) ≤ (c.toNat : Int)) := by omega | have : ¬ (((240 : Int) ≤ (c.toNat : Int))) := by omega
  first | have : ((c.toNat : Int) < 245) := by omega | have : ¬ (((c.toNat : Int) < 245)) := by omega
  have hcw : IntKind.i64.wrap (c.toNat : Int) = (c.toNat : Int) := by rw [IntKind.wrap_i64]; omega
  have he : l.isEmpty = false := by cases l with
    | nil => simp at hl
    | cons => rfl
  have hl0 : (0 : Int) < (l.length : Int) := by omega
  have hn0 : 0 < l.length := by omega
  have hls : ¬ ((l.length : Int) < 4) := by omega
  have hn1 : 1 < l.length := by omega
  have hl1 : (1 : Int) < (l.length : Int) := by omega
  have hm1 := and192t d hb1
  have hn2 : 2 < l.length := by omega
  have hl2 : (2 : Int) < (l.length : Int) := by omega
  have hm2 := and192t b hb2
  have hn3 : 3 < l.length := by omega
  have hl3 : (3 : Int) < (l.length : Int) := by omega
  have hm3 := and192t g hb3
  have hw2 : IntKind.i64.wrap 2 = 2 := rfl
  have hw3 : IntKind.i64.wrap 3 = 3 := rfl
  have hw4 : IntKind.i64.wrap 4 = 4 := rfl
  have hR0 := (i64mask c).2.2
  obtain ⟨r0, e0⟩ : ∃ r0 : Nat, r0 = c.toNat % 8 := ⟨_, rfl⟩
  rw [← e0] at hR0
  have HE0 := Lib.hid e0
  have hr0 : r0 < 8 := by omega
  clear e0
  have hy1 := and63 d
  obtain ⟨y1, f1⟩ : ∃ y : Nat, y = d.toNat % 64 := ⟨_, rfl⟩
  rw [← f1] at hy1
  have HF1 := Lib.hid f1
  have hyl1 : y1 < 64 := by omega
  clear f1
  obtain ⟨g1a, g1b, g1c⟩ := foldf r0 y1 (by omega) hyl1
  obtain ⟨r1, e1⟩ : ∃ r : Nat, r = r0 * 64 + y1 := ⟨_, rfl⟩
  rw [← e1] at g1c
  have HE1 := Lib.hid e1
  have hr1 : r1 < 512 := by omega
  clear e1
  have hy2 := and63 b
  obtain ⟨y2, f2⟩ : ∃ y : Nat, y = b.toNat % 64 := ⟨_, rfl⟩
  rw [← f2] at hy2
  have HF2 := Lib.hid f2
  have hyl2 : y2 < 64 := by omega
  clear f2
  obtain ⟨g2a, g2b, g2c⟩ := foldf r1 y2 (by omega) hyl2
  obtain ⟨r2, e2⟩ : ∃ r : Nat, r = r1 * 64 + y2 := ⟨_, rfl⟩
  rw [← e2] at g2c
  have HE2 := Lib.hid e2
  have hr2 : r2 < 32768 := by omega
  clear e2
  have hy3 := and63 g
  obtain ⟨y3, f3⟩ : ∃ y : Nat, y = g.toNat % 64 := ⟨_, rfl⟩
  rw [← f3] at hy3
  have HF3 := Lib.hid f3
  have hyl3 : y3 < 64 := by omega
  clear f3
  obtain ⟨g3a, g3b, g3c⟩ := foldf r2 y3 (by omega) hyl3
  obtain ⟨r3, e3⟩ : ∃ r : Nat, r = r2 * 64 + y3 := ⟨_, rfl⟩
  rw [← e3] at g3c
  have HE3 := Lib.hid e3
  have hr3 : r3 < 2097152 := by omega
  clear e3
  have hrr : r3 = (((c.toNat % 8) * 64 + d.toNat % 64) * 64 + b.toNat % 64) * 64 + g.toNat % 64 := by
    have a0 := HE0.out
    have a1 := HE1.out
    have b1 := HF1.out
    have a2 := HE2.out
    have b2 := HF2.out
    have a3 := HE3.out
    have b3 := HF3.out
    omega
  rw [← hrr] at hr
  have HRR := Lib.hid hrr
  clear hrr
  first | have : ((r3 : Int) < 65536) := by omega | have : ¬ (((r3 : Int) < 65536)) := by omega
  first | have : ((1114111 : Int) < (r3 : Int)) := by omega | have : ¬ (((1114111 : Int) < (r3 : Int))) := by omega
  refine calls_fr (vs := [_]) 92 Tryz.func20 rfl rfl (Nat.le_of_ble_eq_true rfl) fun f => ?_
  simp only [argSlots]
  (repeat (first | with_reducible refine wp_seq_k (fun K hK => ?_) | with_reducible refine wp_region_lit ?_ | with_reducible refine wpList_nil ?_ | ((with_reducible refine wpList_plain rfl (fun K hK => ?_)); go_simp) | ((with_reducible refine wpList_step (fun K hK => ?_)); go_simp) | (with_reducible ((first | refine hK _ _ ?_ | (clear hK K; refine hK _ _ ?_) | (clear hK K; clear hK K; refine hK _ _ ?_) | (clear hK K; clear hK K; clear hK K; refine hK _ _ ?_) | (clear hK K; clear hK K; clear hK K; clear hK K; refine hK _ _ ?_) | (clear hK K; clear hK K; clear hK K; clear hK K; clear hK K; refine hK _ _ ?_)); clear hK K)) | with_reducible refine wp_cond_true (by first | (go_simp; done) | (go_simp; omega)) ?_ | with_reducible refine wp_cond_false (by first | (go_simp; done) | (go_simp; omega)) ?_ | with_reducible refine wp_exit ?_ | with_reducible refine wp_ret ?_ | with_reducible refine wp_block ?_ | with_reducible refine wp_label ?_ | with_reducible refine wp_skip ?_ | with_reducible refine wp_scope_straight ?_ | simp only [Exit.then, Exit.inBlock, Exit.noGoto, ↓reduceIte, Nat.reduceEqDiff] | simp only [undef, reduceCtorEq, ↓reduceIte]))
  refine wp_loop_rounds 4 ?_
  rw [rounds_succ]
  (repeat (first | with_reducible refine wp_seq_k (fun K hK => ?_) | with_reducible refine wp_region_lit ?_ | with_reducible refine wpList_nil ?_ | ((with_reducible refine wpList_plain rfl (fun K hK => ?_)); go_simp) | ((with_reducible refine wpList_step (fun K hK => ?_)); go_simp) | (with_reducible ((first | refine hK _ _ ?_ | (clear hK K; refine hK _ _ ?_) | (clear hK K; clear hK K; refine hK _ _ ?_) | (clear hK K; clear hK K; clear hK K; refine hK _ _ ?_) | (clear hK K; clear hK K; clear hK K; clear hK K; refine hK _ _ ?_) | (clear hK K; clear hK K; clear hK K; clear hK K; clear hK K; refine hK _ _ ?_)); clear hK K)) | with_reducible refine wp_cond_true (by first | (go_simp; done) | (go_simp; omega)) ?_ | with_reducible refine wp_cond_false (by first | (go_simp; done) | (go_simp; omega)) ?_ | with_reducible refine wp_exit ?_ | with_reducible refine wp_ret ?_ | with_reducible refine wp_block ?_ | with_reducible refine wp_label ?_ | with_reducible refine wp_skip ?_ | with_reducible refine wp_scope_straight ?_ | simp only [Exit.then, Exit.inBlock, Exit.noGoto, ↓reduceIte, Nat.reduceEqDiff] | simp only [undef, reduceCtorEq, ↓reduceIte]))
  rw [rounds_succ]
  (repeat (first | with_reducible refine wp_seq_k (fun K hK => ?_) | with_reducible refine wp_region_lit ?_ | with_reducible refine wpList_nil ?_ | ((with_reducible refine wpList_plain rfl (fun K hK => ?_)); go_simp) | ((with_reducible refine wpList_step (fun K hK => ?_)); go_simp) | (with_reducible ((first | refine hK _ _ ?_ | (clear hK K; refine hK _ _ ?_) | (clear hK K; clear hK K; refine hK _ _ ?_) | (clear hK K; clear hK K; clear hK K; refine hK _ _ ?_) | (clear hK K; clear hK K; clear hK K; clear hK K; refine hK _ _ ?_) | (clear hK K; clear hK K; clear hK K; clear hK K; clear hK K; refine hK _ _ ?_)); clear hK K)) | with_reducible refine wp_cond_true (by first | (go_simp; done) | (go_simp; omega)) ?_ | with_reducible refine wp_cond_false (by first | (go_simp; done) | (go_simp; omega)) ?_ | with_reducible refine wp_exit ?_ | with_reducible refine wp_ret ?_ | with_reducible refine wp_block ?_ | with_reducible refine wp_label ?_ | with_reducible refine wp_skip ?_ | with_reducible refine wp_scope_straight ?_ | simp only [Exit.then, Exit.inBlock, Exit.noGoto, ↓reduceIte, Nat.reduceEqDiff] | simp only [undef, reduceCtorEq, ↓reduceIte]))
  rw [rounds_succ]
  (repeat (first | with_reducible refine wp_seq_k (fun K hK => ?_) | with_reducible refine wp_region_lit ?_ | with_reducible refine wpList_nil ?_ | ((with_reducible refine wpList_plain rfl (fun K hK => ?_)); go_simp) | ((with_reducible refine wpList_step (fun K hK => ?_)); go_simp) | (with_reducible ((first | refine hK _ _ ?_ | (clear hK K; refine hK _ _ ?_) | (clear hK K; clear hK K; refine hK _ _ ?_) | (clear hK K; clear hK K; clear hK K; refine hK _ _ ?_) | (clear hK K; clear hK K; clear hK K; clear hK K; refine hK _ _ ?_) | (clear hK K; clear hK K; clear hK K; clear hK K; clear hK K; refine hK _ _ ?_)); clear hK K)) | with_reducible refine wp_cond_true (by first | (go_simp; done) | (go_simp; omega)) ?_ | with_reducible refine wp_cond_false (by first | (go_simp; done) | (go_simp; omega)) ?_ | with_reducible refine wp_exit ?_ | with_reducible refine wp_ret ?_ | with_reducible refine wp_block ?_ | with_reducible refine wp_label ?_ | with_reducible refine wp_skip ?_ | with_reducible refine wp_scope_straight ?_ | simp only [Exit.then, Exit.inBlock, Exit.noGoto, ↓reduceIte, Nat.reduceEqDiff] | simp only [undef, reduceCtorEq, ↓reduceIte]))
  rw [rounds_succ]
  (repeat (first | with_reducible refine wp_seq_k (fun K hK => ?_) | with_reducible refine wp_region_lit ?_ | with_reducible refine wpList_nil ?_ | ((with_reducible refine wpList_plain rfl (fun K hK => ?_)); go_simp) | ((with_reducible refine wpList_step (fun K hK => ?_)); go_simp) | (with_reducible ((first | refine hK _ _ ?_ | (clear hK K; refine hK _ _ ?_) | (clear hK K; clear hK K; refine hK _ _ ?_) | (clear hK K; clear hK K; clear hK K; refine hK _ _ ?_) | (clear hK K; clear hK K; clear hK K; clear hK K; refine hK _ _ ?_) | (clear hK K; clear hK K; clear hK K; clear hK K; clear hK K; refine hK _ _ ?_)); clear hK K)) | with_reducible refine wp_cond_true (by first | (go_simp; done) | (go_simp; omega)) ?_ | with_reducible refine wp_cond_false (by first | (go_simp; done) | (go_simp; omega)) ?_ | with_reducible refine wp_exit ?_ | with_reducible refine wp_ret ?_ | with_reducible refine wp_block ?_ | with_reducible refine wp_label ?_ | with_reducible refine wp_skip ?_ | with_reducible refine wp_scope_straight ?_ | simp only [Exit.then, Exit.inBlock, Exit.noGoto, ↓reduceIte, Nat.reduceEqDiff] | simp only [undef, reduceCtorEq, ↓reduceIte]))
  (refine fr_out2 rfl (by decide) (by decide) (by simp only [lk_cons, lk_nil, Nat.reduceEqDiff, ↓reduceIte]; rfl) (by simp only [lk_cons, lk_nil, Nat.reduceEqDiff, ↓reduceIte]; rfl) ?_)
  refine ⟨?_, rfl⟩
  rw [← HRR.out]
end Go.Proofs.YtkjnockljapnbaaGreatDoor
