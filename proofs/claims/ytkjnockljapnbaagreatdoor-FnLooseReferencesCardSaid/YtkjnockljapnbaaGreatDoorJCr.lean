/- Part of the proof that laws.FnLooseReferences returns true for every text (the claim of laws.FnLooseReferences: Cr, Po, En). No condition of its own. -/
import Derived.Test.YtkjnockljapnbaaGreatDoorJNv
set_option linter.all false
/- isInCharacterRange. -/
namespace Go.Proofs.YtkjnockljapnbaaGreatDoor
open Go Go.RowKit

theorem inRange_iff (r : Nat) : inRange r = true ↔ r = 9 ∨ r = 10 ∨ r = 13 ∨ (32 ≤ r ∧ r ≤ 55295) ∨ (57344 ≤ r ∧ r ≤ 65533) ∨ (65536 ≤ r ∧ r ≤ 1114111) := by
  simp only [inRange, Bool.or_eq_true, Bool.and_eq_true, decide_eq_true_eq, beq_iff_eq]
  omega
set_option maxHeartbeats 1000000 in
set_option maxRecDepth 100000 in
theorem inRange_c (n : Nat) (w : World) : Calls Tryz.prog 66 #[.int .i32 n] w fun e w' => e = .returned (.bool (inRange n)) ∧ w = w' := by
  have hA := Lib.hid (inRange_iff n)
  have hsplit : n < 9 ∨ n = 9 ∨ n = 10 ∨ (11 ≤ n ∧ n ≤ 12) ∨ n = 13 ∨ (14 ≤ n ∧ n ≤ 31) ∨ (32 ≤ n ∧ n ≤ 55295) ∨ (55296 ≤ n ∧ n ≤ 57343) ∨ (57344 ≤ n ∧ n ≤ 65533) ∨ (65534 ≤ n ∧ n ≤ 65535) ∨ (65536 ≤ n ∧ n ≤ 1114111) ∨ 1114112 ≤ n := by omega
  rcases hsplit with h | h | h | h | h | h | h | h | h | h | h | h
  all_goals
    have HH := Lib.hid h
    first | have : (32 : Int) ≤ (n : Int) := by omega | have : ¬ ((32 : Int) ≤ (n : Int)) := by omega
    first | have : (n : Int) ≤ 55295 := by omega | have : ¬ ((n : Int) ≤ 55295) := by omega
    first | have : (57344 : Int) ≤ (n : Int) := by omega | have : ¬ ((57344 : Int) ≤ (n : Int)) := by omega
    first | have : (n : Int) ≤ 65533 := by omega | have : ¬ ((n : Int) ≤ 65533) := by omega
    first | have : (65536 : Int) ≤ (n : Int) := by omega | have : ¬ ((65536 : Int) ≤ (n : Int)) := by omega
    first | have : (n : Int) ≤ 1114111 := by omega | have : ¬ ((n : Int) ≤ 1114111) := by omega
    first | have : (((n : Int)) == (9)) = true := by (simp; omega) | have : (((n : Int)) == (9)) = false := by (simp; omega)
    first | have : (((n : Int)) == (10)) = true := by (simp; omega) | have : (((n : Int)) == (10)) = false := by (simp; omega)
    first | have : (((n : Int)) == (13)) = true := by (simp; omega) | have : (((n : Int)) == (13)) = false := by (simp; omega)
    clear h
    go_enter Tryz.func66, Tryz.ntmps66
    go_wp2
    go_ret
    refine ⟨?_, rfl⟩
    have := HH.out
    first
      | (rw [show inRange n = true from hA.out.2 (by omega)]; rfl)
      | (rw [show inRange n = false from by
          rw [← Bool.not_eq_true]; intro hh
          have := hA.out.1 hh; omega]; rfl)
end Go.Proofs.YtkjnockljapnbaaGreatDoor

/- InputOffset, InputPos. -/
namespace Go.Proofs.YtkjnockljapnbaaGreatDoor
open Go Go.RowKit

theorem inputOffset_c (x : Cx) (c : DC) (w : World) (v : DV) (h : DecAt w x.d c v) :
    Calls Tryz.prog 32 #[.pointer (some ⟨x.d, 0, none⟩)] w fun en w' => en = .returned (.int .i64 v.off) ∧ w' = w := by
  have hc := h.cell
  have hf := h.frozen
  obtain ⟨sb, sl, snb, serr, sline, sls, soff⟩ := v
  clear h
  go_enter Tryz.func32, Tryz.ntmps32
  go_wp2
  go_ret
  exact ⟨rfl, rfl⟩
theorem inputPos_c (x : Cx) (c : DC) (w : World) (v : DV) (h : DecAt w x.d c v) (h1 : -1000000000000 ≤ v.off - v.lstart) (h2 : v.off - v.lstart ≤ 1000000000000) :
    Calls Tryz.prog 33 #[.pointer (some ⟨x.d, 0, none⟩)] w fun en w' => en = .returned (.tuple #[.int .i64 v.line, .int .i64 (v.off - v.lstart + 1)]) ∧ ∃ n, w' = w.drewN n := by
  have hc := h.cell
  have hf := h.frozen
  obtain ⟨sb, sl, snb, serr, sline, sls, soff⟩ := v
  simp only at h1 h2
  clear h
  go_enter Tryz.func33, Tryz.ntmps33
  go_wp2
  go_quiet (fail)
  go_wp2
  go_ret2
  exact ⟨rfl, _, rfl⟩
end Go.Proofs.YtkjnockljapnbaaGreatDoor

/- entity. -/
namespace Go.Proofs.YtkjnockljapnbaaGreatDoor
open Go Go.RowKit

/-- The rune that an own entity stands for; 0: none. -/
def entR (s : Bs) : Nat := if s = [108, 116] then 60 else if s = [103, 116] then 62 else if s = [97, 109, 112] then 38
  else if s = [97, 112, 111, 115] then 39 else if s = [113, 117, 111, 116] then 34 else 0
theorem stdEnt_r (s : Bs) : stdEnt s = if entR s = 0 then none else some [UInt8.ofNat (entR s)] := by
  unfold stdEnt entR
  repeat' split
  all_goals first | rfl | simp_all
theorem bne_of {s p : Bs} (h : ¬ s = p) : (s == p) = false := by simpa using h
theorem entity_c (s : Bs) (w : World) : Calls Tryz.prog 63 #[strV s] w fun en w' => en = .returned (.tuple #[.int .i32 (entR s), .bool (decide (entR s ≠ 0))]) ∧ w' = w := by
  by_cases h1 : s = [108, 116]
  · subst h1
    go_enter Tryz.func63, Tryz.ntmps63
    go_wp2
    go_ret2
    exact ⟨rfl, rfl⟩
  by_cases h2 : s = [103, 116]
  · subst h2
    go_enter Tryz.func63, Tryz.ntmps63
    go_wp2
    go_ret2
    exact ⟨rfl, rfl⟩
  by_cases h3 : s = [97, 109, 112]
  · subst h3
    go_enter Tryz.func63, Tryz.ntmps63
    go_wp2
    go_ret2
    exact ⟨rfl, rfl⟩
  by_cases h4 : s = [97, 112, 111, 115]
  · subst h4
    go_enter Tryz.func63, Tryz.ntmps63
    go_wp2
    go_ret2
    exact ⟨rfl, rfl⟩
  by_cases h5 : s = [113, 117, 111, 116]
  · subst h5
    go_enter Tryz.func63, Tryz.ntmps63
    go_wp2
    go_ret2
    exact ⟨rfl, rfl⟩
  have HR := Lib.hid (show entR s = 0 by unfold entR; rw [if_neg h1, if_neg h2, if_neg h3, if_neg h4, if_neg h5])
  have e1 := bne_of h1
  have e2 := bne_of h2
  have e3 := bne_of h3
  have e4 := bne_of h4
  have e5 := bne_of h5
  clear h1 h2 h3 h4 h5
  go_enter Tryz.func63, Tryz.ntmps63
  go_wp2
  go_ret2
  exact ⟨by rw [HR.out]; rfl, rfl⟩
end Go.Proofs.YtkjnockljapnbaaGreatDoor
