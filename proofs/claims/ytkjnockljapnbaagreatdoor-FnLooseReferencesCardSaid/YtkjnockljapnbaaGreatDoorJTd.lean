/- Part of the proof that laws.FnLooseReferences returns true for every text (the claim of laws.FnLooseReferences: Td). No condition of its own. -/
import Derived.Test.YtkjnockljapnbaaGreatDoorJTt
set_option linter.all false
/- text: is it a digit? -/
namespace Go.Proofs.YtkjnockljapnbaaGreatDoor
open Go Go.RowKit

/-- One region of a function's text. -/
def Code.regionAt (id : Nat) : Code → Option Code
  | .seq a b => match Code.regionAt id a with
    | some c => some c
    | none => Code.regionAt id b
  | .region i o d => if i == id then some (.region i o d) else none
  | .cond _ a b => match Code.regionAt id a with
    | some c => some c
    | none => Code.regionAt id b
  | .block _ c => Code.regionAt id c
  | .loop c => Code.regionAt id c
  | .scope c => Code.regionAt id c
  | _ => none
noncomputable def txReg (n : Nat) : Code := ((Tryz.f37.body).bind (Code.regionAt n)).getD .skip
theorem isDig_iff (hex : Bool) (b : UInt8) : isDig hex b = true ↔ (48 ≤ b.toNat ∧ b.toNat ≤ 57) ∨ (hex = true ∧ 97 ≤ b.toNat ∧ b.toNat ≤ 102) ∨ (hex = true ∧ 65 ≤ b.toNat ∧ b.toNat ≤ 70) := by
  constructor
  · intro h
    rcases isDig_cases h with ⟨h1, h2, _⟩ | ⟨h0, h1, h2, _⟩ | ⟨h0, h1, h2, _⟩
    · exact Or.inl ⟨h1, h2⟩
    · exact Or.inr (Or.inl ⟨h0, h1, h2⟩)
    · exact Or.inr (Or.inr ⟨h0, h1, h2⟩)
  · have e1 : (48 : UInt8).toNat = 48 := rfl
    have e2 : (57 : UInt8).toNat = 57 := rfl
    have e3 : (97 : UInt8).toNat = 97 := rfl
    have e4 : (102 : UInt8).toNat = 102 := rfl
    have e5 : (65 : UInt8).toNat = 65 := rfl
    have e6 : (70 : UInt8).toNat = 70 := rfl
    simp only [isDig, Bool.or_eq_true, Bool.and_eq_true, decide_eq_true_eq, UInt8.le_iff_toNat_le, e1, e2, e3, e4, e5, e6]
    rintro (⟨h1, h2⟩ | ⟨h0, h1, h2⟩ | ⟨h0, h1, h2⟩)
    · exact Or.inl (Or.inl ⟨h1, h2⟩)
    · exact Or.inl (Or.inr ⟨⟨h0, h1⟩, h2⟩)
    · exact Or.inr ⟨⟨h0, h1⟩, h2⟩
set_option maxHeartbeats 2000000 in
set_option maxRecDepth 100000 in
theorem digTest (hex : Bool) (b : UInt8) (v0 v1 v2 v9 v12 v14 v15 v17 : Value) (Q : Exit → Act → World → Prop) (w : World) (f : Nat → Value)
    (hQ : ∀ f, Q .normal (fr 381 f [(0, v0), (1, v1), (2, v2), (9, v9), (10, .int .u8 b.toNat), (12, v12), (14, v14), (15, v15), (16, .int .i64 (if hex then 16 else 10)), (17, v17), (178, .bool (isDig hex b))]) w) :
    (txReg 43).wp Tryz.prog Q (fr 381 f [(0, v0), (1, v1), (2, v2), (9, v9), (10, .int .u8 b.toNat), (12, v12), (14, v14), (15, v15), (16, .int .i64 (if hex then 16 else 10)), (17, v17)]) w := by
  have hA := Lib.hid (isDig_iff hex b)
  have HQ := Lib.hid hQ
  obtain ⟨n, hn⟩ : ∃ n, n = b.toNat := ⟨_, rfl⟩
  rw [← hn] at hA HQ ⊢
  clear hn hQ
  unfold txReg
  conv => arg 2; whnf
  have hsplit : n < 48 ∨ (48 ≤ n ∧ n ≤ 57) ∨ (58 ≤ n ∧ n ≤ 64) ∨ (65 ≤ n ∧ n ≤ 70) ∨ (71 ≤ n ∧ n ≤ 96) ∨ (97 ≤ n ∧ n ≤ 102) ∨ 103 ≤ n := by omega
  rcases hsplit with h | h | h | h | h | h | h
  all_goals
    have HH := Lib.hid h
    first | have : (48 : Int) ≤ (n : Int) := by omega | have : ¬ ((48 : Int) ≤ (n : Int)) := by omega
    first | have : (n : Int) ≤ 57 := by omega | have : ¬ ((n : Int) ≤ 57) := by omega
    first | have : (97 : Int) ≤ (n : Int) := by omega | have : ¬ ((97 : Int) ≤ (n : Int)) := by omega
    first | have : (n : Int) ≤ 102 := by omega | have : ¬ ((n : Int) ≤ 102) := by omega
    first | have : (65 : Int) ≤ (n : Int) := by omega | have : ¬ ((65 : Int) ≤ (n : Int)) := by omega
    first | have : (n : Int) ≤ 70 := by omega | have : ¬ ((n : Int) ≤ 70) := by omega
    clear h
    cases hex
    all_goals
      (try simp only [Bool.false_eq_true, ↓reduceIte])
      (repeat (first | with_reducible refine wp_seq_k (fun K hK => ?_) | with_reducible refine wp_region_lit ?_ | with_reducible refine wpList_nil ?_ | ((with_reducible refine wpList_plain rfl (fun K hK => ?_)); go_simp) | ((with_reducible refine wpList_step (fun K hK => ?_)); go_simp) | (with_reducible ((first | refine hK _ _ ?_ | (clear hK K; refine hK _ _ ?_) | (clear hK K; clear hK K; refine hK _ _ ?_) | (clear hK K; clear hK K; clear hK K; refine hK _ _ ?_) | (clear hK K; clear hK K; clear hK K; clear hK K; refine hK _ _ ?_) | (clear hK K; clear hK K; clear hK K; clear hK K; clear hK K; refine hK _ _ ?_)); clear hK K)) | with_reducible refine wp_cond_true (by first | (go_simp; done) | (go_simp; omega)) ?_ | with_reducible refine wp_cond_false (by first | (go_simp; done) | (go_simp; omega)) ?_ | with_reducible refine wp_exit ?_ | with_reducible refine wp_ret ?_ | with_reducible refine wp_block ?_ | with_reducible refine wp_label ?_ | with_reducible refine wp_skip ?_ | with_reducible refine wp_scope_straight ?_ | simp only [Exit.then, Exit.inBlock, Exit.noGoto, ↓reduceIte, Nat.reduceEqDiff] | simp only [undef, reduceCtorEq, ↓reduceIte]))
      refine Q_keep [0, 1, 2, 9, 10, 12, 14, 15, 16, 17, 178] (fun f => ?_); simp only [keep_cons, keep_nil, lk_cons, lk_nil, Nat.reduceEqDiff, ↓reduceIte]
      have hh := HH.out
      have h1 := HQ.out f
      first
        | (rw [show isDig _ b = true from hA.out.2 (by simp; omega)] at h1; exact h1)
        | (rw [show isDig _ b = false from by
            rw [← Bool.not_eq_true]; intro h2
            have := hA.out.1 h2
            simp at this
            omega] at h1; exact h1)
end Go.Proofs.YtkjnockljapnbaaGreatDoor
