/- Part of the proof that laws.FnLooseReferences returns true for every text (the claim of laws.FnLooseReferences: Ns). No condition of its own. -/
import Derived.Test.YtkjnockljapnbaaGreatDoorJZz
set_option linter.all false
/- zzCount of a colon; nsname. -/
namespace Go.Proofs.YtkjnockljapnbaaGreatDoor
open Go Go.RowKit

theorem cnt_drop (l : Bs) (i : Nat) (hi : i < l.length) : cntColon (l.drop i) = (if [(58 : UInt8)].isPrefixOf (l.drop i) then 1 else 0) + cntColon (l.drop (i + 1)) := by
  rw [List.drop_eq_getElem_cons hi]
  unfold cntColon
  simp only [List.filter_cons, List.isPrefixOf, Bool.and_true]
  by_cases h : l[i] = 58
  · simp [h]; omega
  · have h' : ¬ (58 : UInt8) = l[i] := fun e => h e.symm
    simp [h, h']
theorem cnt_end (l : Bs) (i : Nat) (hi : l.length ≤ i) : cntColon (l.drop i) = 0 := by
  rw [List.drop_eq_nil_of_le hi]; rfl
theorem cnt_le (l : Bs) : cntColon l ≤ l.length := List.length_filter_le _ _

set_option maxHeartbeats 1000000 in
theorem zzCount_c (l : Bs) (w : World) (hl : l.length ≤ 1000000000000) :
    Calls Tryz.prog 67 #[strV l, strV [58]] w fun en w' => en = .returned (.int .i64 (cntColon l)) ∧ w' = w := by
  have hl' : (l.length : Int) ≤ 1000000000000 := by omega
  go_enter Tryz.func67, Tryz.ntmps67
  go_wp2
  go_loopg [5, 6] (l.length + 1) (fun k nv iv wr => ∃ n i : Nat, nv = .int .i64 n ∧ iv = .int .i64 i ∧ i + k = l.length + 1 ∧ n + cntColon (l.drop i) = cntColon l ∧ wr = w)
  case atStart => exact ⟨0, 0, rfl, rfl, by omega, by simp, rfl⟩
  case round =>
    obtain ⟨n, i, rfl, rfl, hk, hid, rfl⟩ := hrel
    have HID := Lib.hid hid
    have HK := Lib.hid hk
    have q0 : (0 : Int) ≤ (i : Int) := by omega
    have q1 : (i : Int) ≤ 1000000000001 := by omega
    have q2 : (n : Int) ≤ 1000000000000 := by have := cnt_le l; omega
    have q3 : (0 : Int) ≤ (n : Int) := by omega
    clear hid hk
    have hc : ((i : Int) + 1 ≤ (l.length : Int)) ∨ ¬ ((i : Int) + 1 ≤ (l.length : Int)) := by omega
    rcases hc with hc | hc
    · have HD := Lib.hid (cnt_drop l i (by omega))
      have hx : ((⟨l.toArray⟩ : ByteArray).extract i (i + 1) = ⟨[(58 : UInt8)].toArray⟩) ∨ ¬ ((⟨l.toArray⟩ : ByteArray).extract i (i + 1) = ⟨[(58 : UInt8)].toArray⟩) := Classical.em _
      rcases hx with hx | hx
      · have hh := (extract_pref l [58] i).1 hx
        have HH := Lib.hid (show n + 1 + cntColon (l.drop (i + 1)) = cntColon l by
          have h1 := HID.out
          have h2 := HD.out
          rw [if_pos hh] at h2
          omega)
        clear hh
        go_wp2
        go_roundg (gk - 1)
        case measure => have := HK.out; omega
        case rel => exact ⟨n + 1, i + 1, by simp, by simp, by have := HK.out; omega, HH.out, rfl⟩
      · have hh : [(58 : UInt8)].isPrefixOf (l.drop i) = false := by
          rw [← Bool.not_eq_true]; exact fun h => hx ((extract_pref l [58] i).2 h)
        have HH := Lib.hid (show n + cntColon (l.drop (i + 1)) = cntColon l by
          have h1 := HID.out
          have h2 := HD.out
          rw [if_neg (by rw [hh]; simp)] at h2
          omega)
        have hx2 : (((⟨l.toArray⟩ : ByteArray).extract i (i + 1)).toList == [(58 : UInt8)]) = false := by
          rw [beq_eq_false_iff_ne]
          intro h
          apply hx
          apply ByteArray.ext
          apply Array.toList_inj.1
          rw [ByteArray.toList_eq] at h
          exact h.trans (by simp)
        clear hh hx
        go_wp2
        go_roundg (gk - 1)
        case measure => have := HK.out; omega
        case rel => exact ⟨n, i + 1, rfl, by simp, by have := HK.out; omega, HH.out, rfl⟩
    · have HR := Lib.hid (show cntColon l = n by
        have := HID.out
        rw [cnt_end l i (by omega)] at this
        omega)
      go_wp2
      go_ret
      exact ⟨by rw [HR.out]; rfl, rfl⟩
end Go.Proofs.YtkjnockljapnbaaGreatDoor
