/- Part of the proof that laws.FnLooseReferences returns true for every text (the claim of laws.FnLooseReferences: Lc, Ld). No condition of its own. -/
import Derived.Test.YtkjnockljapnbaaGreatDoorJLb
import Derived.Test.YtkjnockljapnbaaGreatDoorJUa
import Derived.Test.YtkjnockljapnbaaGreatDoorJVg
set_option linter.all false
/- spec.Chars = charsL. -/
namespace Go.Proofs.YtkjnockljapnbaaGreatDoor
open Go Go.RowKit

set_option maxHeartbeats 1000000 in
set_option maxRecDepth 100000 in
theorem isChar_c (n : Nat) (w : World) : Calls Tryz.prog 21 #[.int .i64 n] w fun e w' => e = .returned (.bool (inRange n)) ∧ w = w' := by
  have hA := Lib.hid (inRange_iff n)
  have hsplit : n < 9 ∨ n = 9 ∨ n = 10 ∨ (11 ≤ n ∧ n ≤ 12) ∨ n = 13 ∨ (14 ≤ n ∧ n ≤ 31) ∨ (32 ≤ n ∧ n ≤ 55295) ∨ (55296 ≤ n ∧ n ≤ 57343) ∨ (57344 ≤ n ∧ n ≤ 65533) ∨ (65534 ≤ n ∧ n ≤ 65535) ∨ (65536 ≤ n ∧ n ≤ 1114111) ∨ 1114112 ≤ n := by omega
  rcases hsplit with h | h | h | h | h | h | h | h | h | h | h | h
  all_goals
    have HH := Lib.hid h
    first | have : (32 : Int) ≤ (n : Int) := by omega | have : ¬ ((32 : Int) ≤ (n : Int)) := by omega
    first | have : (n : Int) ≤ 55295 := by omega | have : ¬ ((n : Int) ≤ 55295) := by omega
    first | have : (57344 : Int) ≤ (n : Int) := by omega | have : ¬ ((57344 : Int) ≤ (n : Int)) := by omega
    first | have : (n : Int) ≤ 65533 := by omega | have : ¬ ((n : Int) ≤ 65533) := by omega
    first | have : (65536 : Int) ≤ (n : Int) := by omega | have : ¬ ((65536 : Int) ≤ (n : Int)) := by omega
    first | have : (n : Int) ≤ 1114111 := by omega | have : ¬ ((n : Int) ≤ 1114111) := by omega
    first | have : (((n : Int)) == (9)) = true := by (simp; omega) | have : (((n : Int)) == (9)) = false := by (simp; omega)
    first | have : (((n : Int)) == (10)) = true := by (simp; omega) | have : (((n : Int)) == (10)) = false := by (simp; omega)
    first | have : (((n : Int)) == (13)) = true := by (simp; omega) | have : (((n : Int)) == (13)) = false := by (simp; omega)
    clear h
    go_enter Tryz.func21, Tryz.ntmps21
    go_wp2
    go_ret
    refine ⟨?_, rfl⟩
    have := HH.out
    first
      | (rw [show inRange n = true from hA.out.2 (by omega)]; rfl)
      | (rw [show inRange n = false from by
          rw [← Bool.not_eq_true]; intro hh
          have := hA.out.1 hh; omega]; rfl)
theorem specDec_le (l : Bs) : (specDec l).1 ≤ 1114111 := by
  have := decL_le l
  unfold specDec
  split
  · simp
  · exact this
theorem specDec_wid (l : Bs) (h : l ≠ []) : (specDec l).2 ≤ l.length := by
  have := decL_wid l h
  unfold specDec
  split
  · simp
  · exact this
/-- charsL by steps. -/
theorem charsFrom_more : ∀ (k k' : Nat) (l : Bs), l.length ≤ k → l.length ≤ k' → charsFrom k l = charsFrom k' l
  | 0, k', l, h, _ => by
    have : l = [] := by cases l with
      | nil => rfl
      | cons => simp at h
    subst this
    rw [charsFrom_nil, charsFrom_nil]
  | k + 1, 0, l, _, h => by
    have : l = [] := by cases l with
      | nil => rfl
      | cons => simp at h
    subst this
    rw [charsFrom_nil, charsFrom_nil]
  | k + 1, k' + 1, l, h, h' => by
    by_cases hl : l = []
    · subst hl; rw [charsFrom_nil, charsFrom_nil]
    · have hp := decL_pos l hl
      have hw := decL_wid l hl
      have ih := charsFrom_more k k' (l.drop (decL l).2) (by rw [List.length_drop]; omega) (by rw [List.length_drop]; omega)
      rw [charsFrom, charsFrom, ih]
theorem charsL_step (l : Bs) (h : l ≠ []) : charsL l = (if (specDec l).2 = 0 then false else if inRange (specDec l).1 then charsL (l.drop (specDec l).2) else false) := by
  have hp := decL_pos l h
  have hw := decL_wid l h
  obtain ⟨k, hk⟩ : ∃ k, l.length = k + 1 := ⟨l.length - 1, by omega⟩
  have h1 : charsL l = (if (decL l).1 = 65533 ∧ (decL l).2 = 1 then false else if inRange (decL l).1 then charsL (l.drop (decL l).2) else false) := by
    unfold charsL
    rw [hk, charsFrom, if_neg h]
    rw [charsFrom_more k (l.drop (decL l).2).length _ (by rw [List.length_drop]; omega) (Nat.le_refl _)]
  rw [h1]
  unfold specDec
  by_cases hb : (decL l).1 = 65533 ∧ (decL l).2 = 1
  · rw [if_pos hb, if_pos hb]; rfl
  · simp only [if_neg hb]
    rw [if_neg (show ¬ (decL l).2 = 0 by omega)]
theorem ext_dropL (l : Bs) (n : Nat) : (⟨l.toArray⟩ : ByteArray).extract n l.length = ⟨(l.drop n).toArray⟩ := by
  have h := extract_drop ⟨l.toArray⟩ n
  have hs : (⟨l.toArray⟩ : ByteArray).size = l.length := by simp [ByteArray.size]
  rw [hs] at h
  apply ByteArray.ext
  apply Array.toList_inj.1
  rw [h]
/-- The loop of Chars: what is left of the text. -/
def ChInv (l0 : Bs) (w : World) (k : Nat) (a : Act) (w' : World) : Prop :=
  ∃ f l, a = fr 22 f [(0, strV l), (2, .bool false)] ∧ w = w' ∧ k = l.length ∧ charsL l0 = charsL l ∧ l.length ≤ 1000000000
set_option maxHeartbeats 2000000 in
set_option maxRecDepth 100000 in
theorem chars_c (l0 : Bs) (hl0 : l0.length ≤ 1000000000) (w : World) : Calls Tryz.prog 13 #[strV l0] w fun e w' => e = .returned (.bool (charsL l0)) ∧ w = w' := by
  refine calls_fr (vs := [_]) 22 Tryz.func13 rfl rfl (Nat.le_of_ble_eq_true rfl) fun f => ?_
  simp only [argSlots]
  (repeat (first | with_reducible refine wp_seq_k (fun K hK => ?_) | with_reducible refine wp_region_lit ?_ | with_reducible refine wpList_nil ?_ | ((with_reducible refine wpList_plain rfl (fun K hK => ?_)); go_simp) | ((with_reducible refine wpList_step (fun K hK => ?_)); go_simp) | (with_reducible ((first | refine hK _ _ ?_ | (clear hK K; refine hK _ _ ?_) | (clear hK K; clear hK K; refine hK _ _ ?_) | (clear hK K; clear hK K; clear hK K; refine hK _ _ ?_) | (clear hK K; clear hK K; clear hK K; clear hK K; refine hK _ _ ?_) | (clear hK K; clear hK K; clear hK K; clear hK K; clear hK K; refine hK _ _ ?_)); clear hK K)) | with_reducible refine wp_cond_true (by first | (go_simp; done) | (go_simp; omega)) ?_ | with_reducible refine wp_cond_false (by first | (go_simp; done) | (go_simp; omega)) ?_ | with_reducible refine wp_exit ?_ | with_reducible refine wp_ret ?_ | with_reducible refine wp_block ?_ | with_reducible refine wp_label ?_ | with_reducible refine wp_skip ?_ | with_reducible refine wp_scope_straight ?_ | simp only [Exit.then, Exit.inBlock, Exit.noGoto, ↓reduceIte, Nat.reduceEqDiff] | simp only [undef, reduceCtorEq, ↓reduceIte]))
  (refine wp_keep [0, 2] (fun f => ?_); simp only [keep_cons, keep_nil, lk_cons, lk_nil, Nat.reduceEqDiff, ↓reduceIte])
  refine wp_loop_ghost_k (ChInv l0 w) l0.length ⟨f, l0, rfl, rfl, rfl, rfl, hl0⟩ ?_
  rintro k _ _ ⟨f, l, rfl, rfl, hk, hc, hlen⟩ J K2 hJ hK2
  have HJ := Lib.hid hJ
  have HK2 := Lib.hid hK2
  have HC := Lib.hid hc
  have HK := Lib.hid hk
  clear hJ hK2 hc hk hl0
  by_cases hne : l = []
  · subst hne
    (repeat (first | with_reducible refine wp_seq_k (fun K hK => ?_) | with_reducible refine wp_region_lit ?_ | with_reducible refine wpList_nil ?_ | ((with_reducible refine wpList_plain rfl (fun K hK => ?_)); go_simp) | ((with_reducible refine wpList_step (fun K hK => ?_)); go_simp) | (with_reducible ((first | refine hK _ _ ?_ | (clear hK K; refine hK _ _ ?_) | (clear hK K; clear hK K; refine hK _ _ ?_) | (clear hK K; clear hK K; clear hK K; refine hK _ _ ?_) | (clear hK K; clear hK K; clear hK K; clear hK K; refine hK _ _ ?_) | (clear hK K; clear hK K; clear hK K; clear hK K; clear hK K; refine hK _ _ ?_)); clear hK K)) | with_reducible refine wp_cond_true (by first | (go_simp; done) | (go_simp; omega)) ?_ | with_reducible refine wp_cond_false (by first | (go_simp; done) | (go_simp; omega)) ?_ | with_reducible refine wp_exit ?_ | with_reducible refine wp_ret ?_ | with_reducible refine wp_block ?_ | with_reducible refine wp_label ?_ | with_reducible refine wp_skip ?_ | with_reducible refine wp_scope_straight ?_ | simp only [Exit.then, Exit.inBlock, Exit.noGoto, ↓reduceIte, Nat.reduceEqDiff] | simp only [undef, reduceCtorEq, ↓reduceIte]))
    (refine fr_out1 rfl (by decide) (by simp only [lk_cons, lk_nil, Nat.reduceEqDiff, ↓reduceIte]; rfl) ?_)
    refine ⟨?_, rfl⟩
    rw [HC.out]
    rfl
  · have hie : l.isEmpty = false := by cases l with
      | nil => exact absurd rfl hne
      | cons => rfl
    have hd := Lib.hid (specDecode_c l hne w)
    have hle := specDec_le l
    have hwid := specDec_wid l hne
    have HS := Lib.hid (charsL_step l hne)
    have HNE := Lib.hid hne
    clear hne
    obtain ⟨r, hr⟩ : ∃ r, r = (specDec l).1 := ⟨_, rfl⟩
    obtain ⟨n, hn⟩ : ∃ n, n = (specDec l).2 := ⟨_, rfl⟩
    rw [← hr] at hd hle HS
    rw [← hn] at hd hwid HS
    clear hr hn
    (repeat (first | with_reducible refine wp_seq_k (fun K hK => ?_) | with_reducible refine wp_region_lit ?_ | with_reducible refine wpList_nil ?_ | ((with_reducible refine wpList_plain rfl (fun K hK => ?_)); go_simp) | ((with_reducible refine wpList_step (fun K hK => ?_)); go_simp) | (with_reducible ((first | refine hK _ _ ?_ | (clear hK K; refine hK _ _ ?_) | (clear hK K; clear hK K; refine hK _ _ ?_) | (clear hK K; clear hK K; clear hK K; refine hK _ _ ?_) | (clear hK K; clear hK K; clear hK K; clear hK K; refine hK _ _ ?_) | (clear hK K; clear hK K; clear hK K; clear hK K; clear hK K; refine hK _ _ ?_)); clear hK K)) | with_reducible refine wp_cond_true (by first | (go_simp; done) | (go_simp; omega)) ?_ | with_reducible refine wp_cond_false (by first | (go_simp; done) | (go_simp; omega)) ?_ | with_reducible refine wp_exit ?_ | with_reducible refine wp_ret ?_ | with_reducible refine wp_block ?_ | with_reducible refine wp_label ?_ | with_reducible refine wp_skip ?_ | with_reducible refine wp_scope_straight ?_ | simp only [Exit.then, Exit.inBlock, Exit.noGoto, ↓reduceIte, Nat.reduceEqDiff] | simp only [undef, reduceCtorEq, ↓reduceIte]))
    refine hd.out.mono ?_
    rintro e w' ⟨rfl, rfl⟩
    clear hd
    by_cases hn : n = 0
    · subst hn
      go_simp
      (repeat (first | with_reducible refine wp_seq_k (fun K hK => ?_) | with_reducible refine wp_region_lit ?_ | with_reducible refine wpList_nil ?_ | ((with_reducible refine wpList_plain rfl (fun K hK => ?_)); go_simp) | ((with_reducible refine wpList_step (fun K hK => ?_)); go_simp) | (with_reducible ((first | refine hK _ _ ?_ | (clear hK K; refine hK _ _ ?_) | (clear hK K; clear hK K; refine hK _ _ ?_) | (clear hK K; clear hK K; clear hK K; refine hK _ _ ?_) | (clear hK K; clear hK K; clear hK K; clear hK K; refine hK _ _ ?_) | (clear hK K; clear hK K; clear hK K; clear hK K; clear hK K; refine hK _ _ ?_)); clear hK K)) | with_reducible refine wp_cond_true (by first | (go_simp; done) | (go_simp; omega)) ?_ | with_reducible refine wp_cond_false (by first | (go_simp; done) | (go_simp; omega)) ?_ | with_reducible refine wp_exit ?_ | with_reducible refine wp_ret ?_ | with_reducible refine wp_block ?_ | with_reducible refine wp_label ?_ | with_reducible refine wp_skip ?_ | with_reducible refine wp_scope_straight ?_ | simp only [Exit.then, Exit.inBlock, Exit.noGoto, ↓reduceIte, Nat.reduceEqDiff] | simp only [undef, reduceCtorEq, ↓reduceIte]))
      (refine fr_out1 rfl (by decide) (by simp only [lk_cons, lk_nil, Nat.reduceEqDiff, ↓reduceIte]; rfl) ?_)
      refine ⟨?_, rfl⟩
      rw [HC.out, HS.out, if_pos rfl]
    · have hn0 : ((n : Int) == 0) = false := by simp; omega
      have hi := Lib.hid (isChar_c r w)
      go_simp
      (repeat (first | with_reducible refine wp_seq_k (fun K hK => ?_) | with_reducible refine wp_region_lit ?_ | with_reducible refine wpList_nil ?_ | ((with_reducible refine wpList_plain rfl (fun K hK => ?_)); go_simp) | ((with_reducible refine wpList_step (fun K hK => ?_)); go_simp) | (with_reducible ((first | refine hK _ _ ?_ | (clear hK K; refine hK _ _ ?_) | (clear hK K; clear hK K; refine hK _ _ ?_) | (clear hK K; clear hK K; clear hK K; refine hK _ _ ?_) | (clear hK K; clear hK K; clear hK K; clear hK K; refine hK _ _ ?_) | (clear hK K; clear hK K; clear hK K; clear hK K; clear hK K; refine hK _ _ ?_)); clear hK K)) | with_reducible refine wp_cond_true (by first | (go_simp; done) | (go_simp; omega)) ?_ | with_reducible refine wp_cond_false (by first | (go_simp; done) | (go_simp; omega)) ?_ | with_reducible refine wp_exit ?_ | with_reducible refine wp_ret ?_ | with_reducible refine wp_block ?_ | with_reducible refine wp_label ?_ | with_reducible refine wp_skip ?_ | with_reducible refine wp_scope_straight ?_ | simp only [Exit.then, Exit.inBlock, Exit.noGoto, ↓reduceIte, Nat.reduceEqDiff] | simp only [undef, reduceCtorEq, ↓reduceIte]))
      refine hi.out.mono ?_
      rintro e w' ⟨rfl, rfl⟩
      clear hi
      cases hr : inRange r
      · go_simp
        (repeat (first | with_reducible refine wp_seq_k (fun K hK => ?_) | with_reducible refine wp_region_lit ?_ | with_reducible refine wpList_nil ?_ | ((with_reducible refine wpList_plain rfl (fun K hK => ?_)); go_simp) | ((with_reducible refine wpList_step (fun K hK => ?_)); go_simp) | (with_reducible ((first | refine hK _ _ ?_ | (clear hK K; refine hK _ _ ?_) | (clear hK K; clear hK K; refine hK _ _ ?_) | (clear hK K; clear hK K; clear hK K; refine hK _ _ ?_) | (clear hK K; clear hK K; clear hK K; clear hK K; refine hK _ _ ?_) | (clear hK K; clear hK K; clear hK K; clear hK K; clear hK K; refine hK _ _ ?_)); clear hK K)) | with_reducible refine wp_cond_true (by first | (go_simp; done) | (go_simp; omega)) ?_ | with_reducible refine wp_cond_false (by first | (go_simp; done) | (go_simp; omega)) ?_ | with_reducible refine wp_exit ?_ | with_reducible refine wp_ret ?_ | with_reducible refine wp_block ?_ | with_reducible refine wp_label ?_ | with_reducible refine wp_skip ?_ | with_reducible refine wp_scope_straight ?_ | simp only [Exit.then, Exit.inBlock, Exit.noGoto, ↓reduceIte, Nat.reduceEqDiff] | simp only [undef, reduceCtorEq, ↓reduceIte]))
        (refine fr_out1 rfl (by decide) (by simp only [lk_cons, lk_nil, Nat.reduceEqDiff, ↓reduceIte]; rfl) ?_)
        refine ⟨?_, rfl⟩
        rw [HC.out, HS.out, if_neg hn, hr]; rfl
      · have hz0 : (0 : Int) ≤ (n : Int) := by omega
        have hz1 : (n : Int) ≤ (l.length : Int) := by omega
        go_simp
        (repeat (first | with_reducible refine wp_seq_k (fun K hK => ?_) | with_reducible refine wp_region_lit ?_ | with_reducible refine wpList_nil ?_ | ((with_reducible refine wpList_plain rfl (fun K hK => ?_)); go_simp) | ((with_reducible refine wpList_step (fun K hK => ?_)); go_simp) | (with_reducible ((first | refine hK _ _ ?_ | (clear hK K; refine hK _ _ ?_) | (clear hK K; clear hK K; refine hK _ _ ?_) | (clear hK K; clear hK K; clear hK K; refine hK _ _ ?_) | (clear hK K; clear hK K; clear hK K; clear hK K; refine hK _ _ ?_) | (clear hK K; clear hK K; clear hK K; clear hK K; clear hK K; refine hK _ _ ?_)); clear hK K)) | with_reducible refine wp_cond_true (by first | (go_simp; done) | (go_simp; omega)) ?_ | with_reducible refine wp_cond_false (by first | (go_simp; done) | (go_simp; omega)) ?_ | with_reducible refine wp_exit ?_ | with_reducible refine wp_ret ?_ | with_reducible refine wp_block ?_ | with_reducible refine wp_label ?_ | with_reducible refine wp_skip ?_ | with_reducible refine wp_scope_straight ?_ | simp only [Exit.then, Exit.inBlock, Exit.noGoto, ↓reduceIte, Nat.reduceEqDiff] | simp only [undef, reduceCtorEq, ↓reduceIte]))
        (refine K_keep [0, 2] (fun f => ?_); simp only [keep_cons, keep_nil, lk_cons, lk_nil, Nat.reduceEqDiff, ↓reduceIte])
        rw [ext_dropL]
        have hlt : (l.drop n).length < k := by rw [List.length_drop, HK.out]; omega
        exact HK2.out _ _ ⟨(l.drop n).length, hlt, HJ.out _ _ _ ⟨f, l.drop n, rfl, rfl, rfl, by rw [HC.out, HS.out, if_neg hn, hr, if_pos rfl], by rw [List.length_drop]; omega⟩⟩
end Go.Proofs.YtkjnockljapnbaaGreatDoor

/- The plain law: a loose text without markup, without a semicolon, that ends in a blank. -/
namespace Go.Proofs.YtkjnockljapnbaaGreatDoor
open Go Go.RowKit

def Loose (l : Bs) : Prop := ∀ b ∈ l, b ≠ 60 ∧ b ≠ 62 ∧ b ≠ 13 ∧ b ≠ 59
theorem last_tail {b : UInt8} {r : Bs} (h : (b :: r).getLast? = some 32) (hb : b ≠ 32) : r.getLast? = some 32 := by
  cases r with
  | nil => simp at h; exact absurd h hb
  | cons c t => rw [List.getLast?_cons_cons] at h; exact h
theorem spanDig_cat (hex : Bool) (l : Bs) : (spanDig hex l).1 ++ (spanDig hex l).2 = l := by
  induction l with
  | nil => rfl
  | cons b r ih => unfold spanDig; split <;> simp [ih]
theorem spanName_cat (l : Bs) : (spanName l).1 ++ (spanName l).2 = l := by
  induction l with
  | nil => rfl
  | cons b r ih => unfold spanName; split <;> simp [ih]
theorem spanDig_last (hex : Bool) (l : Bs) (h : l.getLast? = some 32) : (spanDig hex l).2.getLast? = some 32 := by
  induction l with
  | nil => simp at h
  | cons b r ih =>
    unfold spanDig
    split
    · rename_i hd
      refine ih (last_tail h ?_)
      rintro rfl
      revert hd; cases hex <;> decide
    · exact h
theorem spanName_last (l : Bs) (h : l.getLast? = some 32) : (spanName l).2.getLast? = some 32 := by
  induction l with
  | nil => simp at h
  | cons b r ih =>
    unfold spanName
    split
    · rename_i hd
      refine ih (last_tail h ?_)
      rintro rfl
      revert hd; decide
    · exact h
/-- What a reference that is none gives. -/
def RawRef (l : Bs) (R : Except EK (Bs × Option Bs × Bs)) : Prop := ∃ raw r', R = .ok (raw, none, r') ∧ raw ++ r' = l ∧ r'.getLast? = some 32 ∧ r'.length < l.length
theorem lrNum (hex : Bool) (pre rest : Bs) (hp : pre ≠ []) (hl : rest.getLast? = some 32) (hs : ∀ b ∈ rest, b ≠ 59) : RawRef (pre ++ rest) (numRef false hex pre rest) := by
  have h1 := spanDig_last hex rest hl
  have h2 := spanDig_cat hex rest
  have hp' := List.length_pos_iff.2 hp
  unfold numRef
  revert h1 h2
  generalize (spanDig hex rest).1 = p
  generalize (spanDig hex rest).2 = s
  intro h1 h2
  cases s with
  | nil => simp at h1
  | cons b after =>
    have hb : b ≠ 59 := hs b (by rw [← h2]; simp)
    refine ⟨pre ++ p, b :: after, ?_, ?_, h1, ?_⟩
    · simp only [if_neg hb]
    · rw [← h2]; simp
    · rw [← h2]; simp; omega
theorem lrRef (r : Bs) (hl : r.getLast? = some 32) (hs : ∀ b ∈ r, b ≠ 59) : RawRef (38 :: r) (refL false none r) := by
  cases r with
  | nil => simp at hl
  | cons c r0 =>
    unfold refL
    by_cases hc : c = 35
    · subst hc
      have hl0 := last_tail hl (by decide)
      simp only [↓reduceIte]
      cases r0 with
      | nil => simp at hl0
      | cons d r2 =>
        simp only
        by_cases hd : d = 120
        · subst hd
          have hl2 := last_tail hl0 (by decide)
          simp only [↓reduceIte]
          cases r2 with
          | nil => simp at hl2
          | cons x t =>
            exact lrNum true [38, 35, 120] (x :: t) (by simp) hl2 (fun b hb => hs b (List.mem_cons_of_mem _ (List.mem_cons_of_mem _ hb)))
        · simp only [if_neg hd]
          exact lrNum false [38, 35] (d :: r2) (by simp) hl0 (fun b hb => hs b (List.mem_cons_of_mem _ hb))
    · simp only [if_neg hc]
      have h1 := spanName_last (c :: r0) hl
      have h2 := spanName_cat (c :: r0)
      revert h1 h2
      generalize (spanName (c :: r0)).1 = p
      generalize (spanName (c :: r0)).2 = s
      intro h1 h2
      cases s with
      | nil => simp at h1
      | cons b after =>
        have hb : b ≠ 59 := hs b (by rw [← h2]; simp)
        refine ⟨38 :: p, b :: after, ?_, ?_, h1, ?_⟩
        · simp only [if_neg hb]
        · rw [← h2]; simp
        · rw [← h2]; simp; omega
theorem loose_text : ∀ (n : Nat) (l : Bs), l.length ≤ n → ∀ (b0 b1 : UInt8) (buf : Bs), Loose l → b1 ≠ 13 → (l = [] ∨ l.getLast? = some 32) → charsL (buf ++ l) = true → textL loOpt none false l b0 b1 buf = .ok (buf ++ l, [])
  | n, [], _, b0, b1, buf, _, _, _, hc => by
    rw [textL_next]
    simp only [txNext, txFin]
    simp at hc
    simp [hc]
  | 0, b :: r, hn, _, _, _, _, _, _, _ => by simp at hn
  | n + 1, b :: r, hn, b0, b1, buf, hL, h1, hl, hc => by
    have hl' : (b :: r).getLast? = some 32 := by rcases hl with h | h
                                                 · cases h
                                                 · exact h
    obtain ⟨n1, n2, n3, n4⟩ := hL b (by simp)
    rw [textL_next]
    unfold txNext
    simp only [n2, and_false, ↓reduceIte, n1, false_and, reduceCtorEq]
    by_cases hb : b = 38
    · subst hb
      have hl2 := last_tail hl' (by decide)
      obtain ⟨raw, r', hR, hcat, hlast, hlen⟩ := lrRef r hl2 (fun b hb => (hL b (List.mem_cons_of_mem _ hb)).2.2.2)
      have hst : refStep loOpt r buf = .ok (r', buf ++ raw) := by
        unfold refStep
        rw [show refL loOpt.fails loOpt.ents r = _ from hR]
        rfl
      simp only [and_self, ↓reduceIte, hst]
      have := loose_text n r' (by simp at hn hlen; omega) 0 0 (buf ++ raw) (fun b hb => hL b (by rw [← hcat]; simp [hb])) (by decide) (Or.inr hlast) (by rw [List.append_assoc, hcat]; exact hc)
      rw [this, List.append_assoc, hcat]
    · simp only [hb, false_and, ↓reduceIte]
      have hst : txStep b b1 buf = buf ++ [b] := by
        unfold txStep
        rw [if_neg n3, if_neg (by rintro ⟨h, _⟩; exact h1 h)]
      rw [hst]
      have hr : r = [] ∨ r.getLast? = some 32 := by
        cases r with
        | nil => exact Or.inl rfl
        | cons c t => right; rw [List.getLast?_cons_cons] at hl'; exact hl'
      have := loose_text n r (by simp at hn; omega) b1 b (buf ++ [b]) (fun b hb => hL b (List.mem_cons_of_mem _ hb)) n3 hr (by rw [List.append_assoc]; exact hc)
      rw [this, List.append_assoc]; rfl
end Go.Proofs.YtkjnockljapnbaaGreatDoor
