/- Part of the proof that laws.FnLooseReferences returns true for every text (the claim of laws.FnLooseReferences: Le). No condition of its own. -/
import Derived.Test.YtkjnockljapnbaaGreatDoorJLc
set_option linter.all false
/- The walk of laws.FnLooseReferences. -/
namespace Go.Proofs.YtkjnockljapnbaaGreatDoor
open Go Go.RowKit

def lrBad (b : UInt8) : Bool := b == 60 || b == 62 || b == 13 || b == 59
theorem lrBad_loose (l : Bs) (h : ∀ b ∈ l, lrBad b = false) : Loose l := by
  intro b hb
  have := h b hb
  simp [lrBad] at this
  exact ⟨this.1.1.1, this.1.1.2, this.1.2, this.2⟩
def LrInv (T : Bs) (w : World) (k : Nat) (a : Act) (w' : World) : Prop :=
  ∃ f i, a = fr 81 f [(0, strV T), (2, .bool false), (31, .int .i64 T.length), (32, .int .i64 (i : Nat))] ∧ w = w' ∧ i ≤ T.length ∧ k = T.length - i ∧ ∀ b ∈ T.take i, lrBad b = false
set_option maxHeartbeats 8000000 in
set_option maxRecDepth 100000 in
theorem lrBig (T : Bs) (hT : 65536 < T.length) (w : World) : Calls Tryz.prog 5 #[strV T] w fun e w' => e = .returned (.bool true) ∧ Below w.heap.size w w' := by
  have h1 : (65536 : Int) < (T.length : Int) := by omega
  by_cases h2 : (2147483647 : Int) < (T.length : Int)
  all_goals
    refine calls_fr (vs := [_]) 81 Tryz.func5 rfl rfl (Nat.le_of_ble_eq_true rfl) fun f => ?_
    simp only [argSlots]
    (repeat (first | with_reducible refine wp_seq_k (fun K hK => ?_) | with_reducible refine wp_region_lit ?_ | with_reducible refine wpList_nil ?_ | ((with_reducible refine wpList_plain rfl (fun K hK => ?_)); go_simp) | ((with_reducible refine wpList_step (fun K hK => ?_)); go_simp) | (with_reducible ((first | refine hK _ _ ?_ | (clear hK K; refine hK _ _ ?_) | (clear hK K; clear hK K; refine hK _ _ ?_) | (clear hK K; clear hK K; clear hK K; refine hK _ _ ?_) | (clear hK K; clear hK K; clear hK K; clear hK K; refine hK _ _ ?_) | (clear hK K; clear hK K; clear hK K; clear hK K; clear hK K; refine hK _ _ ?_)); clear hK K)) | with_reducible refine wp_cond_true (by first | (go_simp; done) | (go_simp; omega)) ?_ | with_reducible refine wp_cond_false (by first | (go_simp; done) | (go_simp; omega)) ?_ | with_reducible refine wp_exit ?_ | with_reducible refine wp_ret ?_ | with_reducible refine wp_block ?_ | with_reducible refine wp_label ?_ | with_reducible refine wp_skip ?_ | with_reducible refine wp_scope_straight ?_ | simp only [Exit.then, Exit.inBlock, Exit.noGoto, ↓reduceIte, Nat.reduceEqDiff] | simp only [undef, reduceCtorEq, ↓reduceIte]))
    (refine fr_out1 rfl (by decide) (by simp only [lk_cons, lk_nil, Nat.reduceEqDiff, ↓reduceIte]; rfl) ?_)
    exact ⟨rfl, Below.refl _ w⟩
set_option maxHeartbeats 8000000 in
set_option maxRecDepth 100000 in
theorem lrSmall (T : Bs) (hT : T.length ≤ 65536) (w : World) (hE : Env w) : Calls Tryz.prog 5 #[strV T] w fun e w' => e = .returned (.bool true) ∧ Below w.heap.size w w' := by
  have h1 : ¬ (65536 : Int) < (T.length : Int) := by omega
  have h2 : ¬ (2147483647 : Int) < (T.length : Int) := by omega
  by_cases hne : T = []
  · subst hne
    refine calls_fr (vs := [_]) 81 Tryz.func5 rfl rfl (Nat.le_of_ble_eq_true rfl) fun f => ?_
    simp only [argSlots]
    (repeat (first | with_reducible refine wp_seq_k (fun K hK => ?_) | with_reducible refine wp_region_lit ?_ | with_reducible refine wpList_nil ?_ | ((with_reducible refine wpList_plain rfl (fun K hK => ?_)); go_simp) | ((with_reducible refine wpList_step (fun K hK => ?_)); go_simp) | (with_reducible ((first | refine hK _ _ ?_ | (clear hK K; refine hK _ _ ?_) | (clear hK K; clear hK K; refine hK _ _ ?_) | (clear hK K; clear hK K; clear hK K; refine hK _ _ ?_) | (clear hK K; clear hK K; clear hK K; clear hK K; refine hK _ _ ?_) | (clear hK K; clear hK K; clear hK K; clear hK K; clear hK K; refine hK _ _ ?_)); clear hK K)) | with_reducible refine wp_cond_true (by first | (go_simp; done) | (go_simp; omega)) ?_ | with_reducible refine wp_cond_false (by first | (go_simp; done) | (go_simp; omega)) ?_ | with_reducible refine wp_exit ?_ | with_reducible refine wp_ret ?_ | with_reducible refine wp_block ?_ | with_reducible refine wp_label ?_ | with_reducible refine wp_skip ?_ | with_reducible refine wp_scope_straight ?_ | simp only [Exit.then, Exit.inBlock, Exit.noGoto, ↓reduceIte, Nat.reduceEqDiff] | simp only [undef, reduceCtorEq, ↓reduceIte]))
    (refine fr_out1 rfl (by decide) (by simp only [lk_cons, lk_nil, Nat.reduceEqDiff, ↓reduceIte]; rfl) ?_)
    exact ⟨rfl, Below.refl _ w⟩
  have hie : T.isEmpty = false := by cases T with
    | nil => exact absurd rfl hne
    | cons => rfl
  have hch := Lib.hid (chars_c T (by omega) w)
  have HT := Lib.hid hT
  have HE := Lib.hid hE
  have HNE := Lib.hid hne
  clear hT hE hne
  refine calls_fr (vs := [_]) 81 Tryz.func5 rfl rfl (Nat.le_of_ble_eq_true rfl) fun f => ?_
  simp only [argSlots]
  (repeat (first | with_reducible refine wp_seq_k (fun K hK => ?_) | with_reducible refine wp_region_lit ?_ | with_reducible refine wpList_nil ?_ | ((with_reducible refine wpList_plain rfl (fun K hK => ?_)); go_simp) | ((with_reducible refine wpList_step (fun K hK => ?_)); go_simp) | (with_reducible ((first | refine hK _ _ ?_ | (clear hK K; refine hK _ _ ?_) | (clear hK K; clear hK K; refine hK _ _ ?_) | (clear hK K; clear hK K; clear hK K; refine hK _ _ ?_) | (clear hK K; clear hK K; clear hK K; clear hK K; refine hK _ _ ?_) | (clear hK K; clear hK K; clear hK K; clear hK K; clear hK K; refine hK _ _ ?_)); clear hK K)) | with_reducible refine wp_cond_true (by first | (go_simp; done) | (go_simp; omega)) ?_ | with_reducible refine wp_cond_false (by first | (go_simp; done) | (go_simp; omega)) ?_ | with_reducible refine wp_exit ?_ | with_reducible refine wp_ret ?_ | with_reducible refine wp_block ?_ | with_reducible refine wp_label ?_ | with_reducible refine wp_skip ?_ | with_reducible refine wp_scope_straight ?_ | simp only [Exit.then, Exit.inBlock, Exit.noGoto, ↓reduceIte, Nat.reduceEqDiff] | simp only [undef, reduceCtorEq, ↓reduceIte]))
  refine hch.out.mono ?_
  rintro e w' ⟨rfl, rfl⟩
  clear hch
  cases hc : charsL T
  · go_simp
    (repeat (first | with_reducible refine wp_seq_k (fun K hK => ?_) | with_reducible refine wp_region_lit ?_ | with_reducible refine wpList_nil ?_ | ((with_reducible refine wpList_plain rfl (fun K hK => ?_)); go_simp) | ((with_reducible refine wpList_step (fun K hK => ?_)); go_simp) | (with_reducible ((first | refine hK _ _ ?_ | (clear hK K; refine hK _ _ ?_) | (clear hK K; clear hK K; refine hK _ _ ?_) | (clear hK K; clear hK K; clear hK K; refine hK _ _ ?_) | (clear hK K; clear hK K; clear hK K; clear hK K; refine hK _ _ ?_) | (clear hK K; clear hK K; clear hK K; clear hK K; clear hK K; refine hK _ _ ?_)); clear hK K)) | with_reducible refine wp_cond_true (by first | (go_simp; done) | (go_simp; omega)) ?_ | with_reducible refine wp_cond_false (by first | (go_simp; done) | (go_simp; omega)) ?_ | with_reducible refine wp_exit ?_ | with_reducible refine wp_ret ?_ | with_reducible refine wp_block ?_ | with_reducible refine wp_label ?_ | with_reducible refine wp_skip ?_ | with_reducible refine wp_scope_straight ?_ | simp only [Exit.then, Exit.inBlock, Exit.noGoto, ↓reduceIte, Nat.reduceEqDiff] | simp only [undef, reduceCtorEq, ↓reduceIte]))
    (refine fr_out1 rfl (by decide) (by simp only [lk_cons, lk_nil, Nat.reduceEqDiff, ↓reduceIte]; rfl) ?_)
    exact ⟨rfl, Below.refl _ w⟩
  have hpos : 0 < T.length := List.length_pos_iff.2 HNE.out
  have hlast : IntKind.i64.wrap ((T.length : Int) - 1) = ((T.length - 1 : Nat) : Int) := by rw [IntKind.wrap_i64]; have := HT.out; omega
  have i0 := ixg T (T.length - 1)
  have hl1 : T.length - 1 < T.length := by omega
  have hl2 : ((T.length - 1 : Nat) : Int) < (T.length : Int) := by omega
  have hl3 : (0 : Int) ≤ ((T.length - 1 : Nat) : Int) := by omega
  obtain ⟨m, hm⟩ : ∃ m, m = T.length - 1 := ⟨_, rfl⟩
  rw [← hm] at hlast i0 hl1 hl2 hl3
  obtain ⟨c, hcc⟩ : ∃ c, c = T.getD m 0 := ⟨_, rfl⟩
  rw [← hcc] at i0
  have HC := Lib.hid hcc
  have HM := Lib.hid hm
  clear hcc hm
  have hc8 : ((c.toNat : Int) != 32) = true ∨ ((c.toNat : Int) != 32) = false := by cases ((c.toNat : Int) != 32) <;> simp
  rcases hc8 with hc8 | hc8
  · go_simp
    (repeat (first | with_reducible refine wp_seq_k (fun K hK => ?_) | with_reducible refine wp_region_lit ?_ | with_reducible refine wpList_nil ?_ | ((with_reducible refine wpList_plain rfl (fun K hK => ?_)); go_simp) | ((with_reducible refine wpList_step (fun K hK => ?_)); go_simp) | (with_reducible ((first | refine hK _ _ ?_ | (clear hK K; refine hK _ _ ?_) | (clear hK K; clear hK K; refine hK _ _ ?_) | (clear hK K; clear hK K; clear hK K; refine hK _ _ ?_) | (clear hK K; clear hK K; clear hK K; clear hK K; refine hK _ _ ?_) | (clear hK K; clear hK K; clear hK K; clear hK K; clear hK K; refine hK _ _ ?_)); clear hK K)) | with_reducible refine wp_cond_true (by first | (go_simp; done) | (go_simp; omega)) ?_ | with_reducible refine wp_cond_false (by first | (go_simp; done) | (go_simp; omega)) ?_ | with_reducible refine wp_exit ?_ | with_reducible refine wp_ret ?_ | with_reducible refine wp_block ?_ | with_reducible refine wp_label ?_ | with_reducible refine wp_skip ?_ | with_reducible refine wp_scope_straight ?_ | simp only [Exit.then, Exit.inBlock, Exit.noGoto, ↓reduceIte, Nat.reduceEqDiff] | simp only [undef, reduceCtorEq, ↓reduceIte]))
    (refine fr_out1 rfl (by decide) (by simp only [lk_cons, lk_nil, Nat.reduceEqDiff, ↓reduceIte]; rfl) ?_)
    exact ⟨rfl, Below.refl _ w⟩
  go_simp
  (repeat (first | with_reducible refine wp_seq_k (fun K hK => ?_) | with_reducible refine wp_region_lit ?_ | with_reducible refine wpList_nil ?_ | ((with_reducible refine wpList_plain rfl (fun K hK => ?_)); go_simp) | ((with_reducible refine wpList_step (fun K hK => ?_)); go_simp) | (with_reducible ((first | refine hK _ _ ?_ | (clear hK K; refine hK _ _ ?_) | (clear hK K; clear hK K; refine hK _ _ ?_) | (clear hK K; clear hK K; clear hK K; refine hK _ _ ?_) | (clear hK K; clear hK K; clear hK K; clear hK K; refine hK _ _ ?_) | (clear hK K; clear hK K; clear hK K; clear hK K; clear hK K; refine hK _ _ ?_)); clear hK K)) | with_reducible refine wp_cond_true (by first | (go_simp; done) | (go_simp; omega)) ?_ | with_reducible refine wp_cond_false (by first | (go_simp; done) | (go_simp; omega)) ?_ | with_reducible refine wp_exit ?_ | with_reducible refine wp_ret ?_ | with_reducible refine wp_block ?_ | with_reducible refine wp_label ?_ | with_reducible refine wp_skip ?_ | with_reducible refine wp_scope_straight ?_ | simp only [Exit.then, Exit.inBlock, Exit.noGoto, ↓reduceIte, Nat.reduceEqDiff] | simp only [undef, reduceCtorEq, ↓reduceIte]))
  (refine wp_keep [0, 2, 31, 32] (fun f => ?_); simp only [keep_cons, keep_nil, lk_cons, lk_nil, Nat.reduceEqDiff, ↓reduceIte])
  clear h1 h2 hpos hl1 hl2 hl3 hlast i0
  refine wp_loop_ghost_k (LrInv T w) T.length ⟨f, 0, rfl, rfl, Nat.zero_le _, rfl, fun b hb => by simp at hb⟩ ?_
  rintro k _ _ ⟨f, i, rfl, rfl, hi, hk, hall⟩ J K2 hJ hK2
  have HJ := Lib.hid hJ
  have HK2 := Lib.hid hK2
  have HALL := Lib.hid hall
  have HK := Lib.hid hk
  clear hJ hK2 hall hk
  by_cases hlt : i < T.length
  · have hz0 : (0 : Int) ≤ (i : Int) := by omega
    have hz1 : (i : Int) < (T.length : Int) := by omega
    have j0 := ixg T i
    have hi1 : IntKind.i64.wrap ((i : Int) + 1) = ((i + 1 : Nat) : Int) := by rw [IntKind.wrap_i64]; have := HT.out; omega
    obtain ⟨d, hd⟩ : ∃ d, d = T.getD i 0 := ⟨_, rfl⟩
    rw [← hd] at j0
    have HD := Lib.hid hd
    clear hd hi
    by_cases hb : lrBad d = true
    · have hcs : ((d.toNat : Int) == 60) = true ∨ (((d.toNat : Int) == 60) = false ∧ ((d.toNat : Int) == 62) = true) ∨ (((d.toNat : Int) == 60) = false ∧ ((d.toNat : Int) == 62) = false ∧ ((d.toNat : Int) == 13) = true) ∨ (((d.toNat : Int) == 60) = false ∧ ((d.toNat : Int) == 62) = false ∧ ((d.toNat : Int) == 13) = false ∧ ((d.toNat : Int) == 59) = true) := by
        simp only [lrBad, Bool.or_eq_true, beq_iff_eq] at hb
        rcases hb with ((rfl | rfl) | rfl) | rfl <;> decide
      rcases hcs with a1 | ⟨a1, a2⟩ | ⟨a1, a2, a3⟩ | ⟨a1, a2, a3, a4⟩
      all_goals
        (repeat (first | with_reducible refine wp_seq_k (fun K hK => ?_) | with_reducible refine wp_region_lit ?_ | with_reducible refine wpList_nil ?_ | ((with_reducible refine wpList_plain rfl (fun K hK => ?_)); go_simp) | ((with_reducible refine wpList_step (fun K hK => ?_)); go_simp) | (with_reducible ((first | refine hK _ _ ?_ | (clear hK K; refine hK _ _ ?_) | (clear hK K; clear hK K; refine hK _ _ ?_) | (clear hK K; clear hK K; clear hK K; refine hK _ _ ?_) | (clear hK K; clear hK K; clear hK K; clear hK K; refine hK _ _ ?_) | (clear hK K; clear hK K; clear hK K; clear hK K; clear hK K; refine hK _ _ ?_)); clear hK K)) | with_reducible refine wp_cond_true (by first | (go_simp; done) | (go_simp; omega)) ?_ | with_reducible refine wp_cond_false (by first | (go_simp; done) | (go_simp; omega)) ?_ | with_reducible refine wp_exit ?_ | with_reducible refine wp_ret ?_ | with_reducible refine wp_block ?_ | with_reducible refine wp_label ?_ | with_reducible refine wp_skip ?_ | with_reducible refine wp_scope_straight ?_ | simp only [Exit.then, Exit.inBlock, Exit.noGoto, ↓reduceIte, Nat.reduceEqDiff] | simp only [undef, reduceCtorEq, ↓reduceIte]))
        (refine fr_out1 rfl (by decide) (by simp only [lk_cons, lk_nil, Nat.reduceEqDiff, ↓reduceIte]; rfl) ?_)
        exact ⟨rfl, Below.refl _ w⟩
    · have hb' : lrBad d = false := by simpa using hb
      have a1 : ((d.toNat : Int) == 60) = false := u8ne (c := 60) (by rintro rfl; exact hb rfl) rfl
      have a2 : ((d.toNat : Int) == 62) = false := u8ne (c := 62) (by rintro rfl; exact hb rfl) rfl
      have a3 : ((d.toNat : Int) == 13) = false := u8ne (c := 13) (by rintro rfl; exact hb rfl) rfl
      have a4 : ((d.toNat : Int) == 59) = false := u8ne (c := 59) (by rintro rfl; exact hb rfl) rfl
      clear hb
      (repeat (first | with_reducible refine wp_seq_k (fun K hK => ?_) | with_reducible refine wp_region_lit ?_ | with_reducible refine wpList_nil ?_ | ((with_reducible refine wpList_plain rfl (fun K hK => ?_)); go_simp) | ((with_reducible refine wpList_step (fun K hK => ?_)); go_simp) | (with_reducible ((first | refine hK _ _ ?_ | (clear hK K; refine hK _ _ ?_) | (clear hK K; clear hK K; refine hK _ _ ?_) | (clear hK K; clear hK K; clear hK K; refine hK _ _ ?_) | (clear hK K; clear hK K; clear hK K; clear hK K; refine hK _ _ ?_) | (clear hK K; clear hK K; clear hK K; clear hK K; clear hK K; refine hK _ _ ?_)); clear hK K)) | with_reducible refine wp_cond_true (by first | (go_simp; done) | (go_simp; omega)) ?_ | with_reducible refine wp_cond_false (by first | (go_simp; done) | (go_simp; omega)) ?_ | with_reducible refine wp_exit ?_ | with_reducible refine wp_ret ?_ | with_reducible refine wp_block ?_ | with_reducible refine wp_label ?_ | with_reducible refine wp_skip ?_ | with_reducible refine wp_scope_straight ?_ | simp only [Exit.then, Exit.inBlock, Exit.noGoto, ↓reduceIte, Nat.reduceEqDiff] | simp only [undef, reduceCtorEq, ↓reduceIte]))
      (refine K_keep [0, 2, 31, 32] (fun f => ?_); simp only [keep_cons, keep_nil, lk_cons, lk_nil, Nat.reduceEqDiff, ↓reduceIte])
      have hall2 : ∀ b ∈ T.take (i + 1), lrBad b = false := by
        intro b hb
        rw [List.take_succ_eq_append_getElem hlt, List.mem_append] at hb
        rcases hb with hb | hb
        · exact HALL.out b hb
        · simp only [List.mem_singleton] at hb
          have : d = T[i] := by rw [HD.out]; simp [hlt]
          rw [hb, ← this]; exact hb'
      exact HK2.out _ _ ⟨T.length - (i + 1), by rw [HK.out]; omega, HJ.out _ _ _ ⟨f, i + 1, rfl, rfl, hlt, rfl, hall2⟩⟩
  · have hiT : i = T.length := by omega
    subst hiT
    have hL : Loose T := lrBad_loose T (by have := HALL.out; rwa [List.take_length] at this)
    have hlast : T.getLast? = some 32 := by
      have h1 : c = 32 := by
        have : (c.toNat : Int) = 32 := by simpa using hc8
        exact UInt8.toNat_inj.1 (by have h32 : (32 : UInt8).toNat = 32 := rfl; omega)
      have h2 := HC.out
      rw [HM.out, h1] at h2
      rw [List.getLast?_eq_getElem?]
      have hp := List.length_pos_iff.2 HNE.out
      rw [List.getElem?_eq_getElem (by omega), h2]
      simp [show T.length - 1 < T.length by omega]
    have hres := loose_text T.length T (Nat.le_refl _) 0 0 [] hL (by decide) (Or.inr hlast) (by simpa using hc)
    obtain ⟨b, r, hbr⟩ : ∃ b r, T = b :: r := by cases T with
      | nil => exact absurd rfl HNE.out
      | cons b r => exact ⟨b, r, rfl⟩
    have htk := Lib.hid (tokensOne T (by have := HT.out; omega) b r hbr (hL b (by rw [hbr]; simp)).1 (by simpa using hres) w HE.out)
    clear hL hlast hres hbr hlt hi hc8 hc hie
    (repeat (first | with_reducible refine wp_seq_k (fun K hK => ?_) | with_reducible refine wp_region_lit ?_ | with_reducible refine wpList_nil ?_ | ((with_reducible refine wpList_plain rfl (fun K hK => ?_)); go_simp) | ((with_reducible refine wpList_step (fun K hK => ?_)); go_simp) | (with_reducible ((first | refine hK _ _ ?_ | (clear hK K; refine hK _ _ ?_) | (clear hK K; clear hK K; refine hK _ _ ?_) | (clear hK K; clear hK K; clear hK K; refine hK _ _ ?_) | (clear hK K; clear hK K; clear hK K; clear hK K; refine hK _ _ ?_) | (clear hK K; clear hK K; clear hK K; clear hK K; clear hK K; refine hK _ _ ?_)); clear hK K)) | with_reducible refine wp_cond_true (by first | (go_simp; done) | (go_simp; omega)) ?_ | with_reducible refine wp_cond_false (by first | (go_simp; done) | (go_simp; omega)) ?_ | with_reducible refine wp_exit ?_ | with_reducible refine wp_ret ?_ | with_reducible refine wp_block ?_ | with_reducible refine wp_label ?_ | with_reducible refine wp_skip ?_ | with_reducible refine wp_scope_straight ?_ | simp only [Exit.then, Exit.inBlock, Exit.noGoto, ↓reduceIte, Nat.reduceEqDiff] | simp only [undef, reduceCtorEq, ↓reduceIte]))
    refine htk.out.mono ?_
    rintro e w' ⟨tb, cap, a, l, cl, rfl, hbel, htb, hcells⟩
    have hc0 := hcells 0 _ rfl
    have hc4 := hcells 4 _ rfl
    have HBEL := Lib.hid hbel
    clear hcells hbel htk
    go_simp
    (repeat (first | with_reducible refine wp_seq_k (fun K hK => ?_) | with_reducible refine wp_region_lit ?_ | with_reducible refine wpList_nil ?_ | ((with_reducible refine wpList_plain rfl (fun K hK => ?_)); go_simp) | ((with_reducible refine wpList_step (fun K hK => ?_)); go_simp) | (with_reducible ((first | refine hK _ _ ?_ | (clear hK K; refine hK _ _ ?_) | (clear hK K; clear hK K; refine hK _ _ ?_) | (clear hK K; clear hK K; clear hK K; refine hK _ _ ?_) | (clear hK K; clear hK K; clear hK K; clear hK K; refine hK _ _ ?_) | (clear hK K; clear hK K; clear hK K; clear hK K; clear hK K; refine hK _ _ ?_)); clear hK K)) | with_reducible refine wp_cond_true (by first | (go_simp; done) | (go_simp; omega)) ?_ | with_reducible refine wp_cond_false (by first | (go_simp; done) | (go_simp; omega)) ?_ | with_reducible refine wp_exit ?_ | with_reducible refine wp_ret ?_ | with_reducible refine wp_block ?_ | with_reducible refine wp_label ?_ | with_reducible refine wp_skip ?_ | with_reducible refine wp_scope_straight ?_ | simp only [Exit.then, Exit.inBlock, Exit.noGoto, ↓reduceIte, Nat.reduceEqDiff] | simp only [undef, reduceCtorEq, ↓reduceIte]))
    (refine fr_out1 rfl (by decide) (by simp only [lk_cons, lk_nil, Nat.reduceEqDiff, ↓reduceIte]; rfl) ?_)
    exact ⟨rfl, HBEL.out⟩
theorem lr_all (T : Bs) (w : World) (hE : Env w) : Calls Tryz.prog 5 #[strV T] w fun e w' => e = .returned (.bool true) ∧ Below w.heap.size w w' := by
  by_cases h : T.length ≤ 65536
  · exact lrSmall T h w hE
  · exact lrBig T (by omega) w
end Go.Proofs.YtkjnockljapnbaaGreatDoor
