/- Part of the proof that laws.FnLooseReferences returns true for every text (the claim of laws.FnLooseReferences: Zz). No condition of its own. -/
import Derived.Test.YtkjnockljapnbaaGreatDoorJNa
set_option linter.all false
/- Searching in strings: zzIndex, zzCut, zzCount. -/
namespace Go.Proofs.YtkjnockljapnbaaGreatDoor
open Go Go.RowKit

/-- Where p stands first. -/
def idxL (p : Bs) : Bs → Option Nat
  | [] => if p = [] then some 0 else none
  | b :: r => if p.isPrefixOf (b :: r) then some 0 else (idxL p r).map (· + 1)
def idxI (p l : Bs) : Int := match idxL p l with | none => -1 | some k => k
theorem idxL_short (p : Bs) : ∀ l : Bs, l.length < p.length → idxL p l = none
  | [], h => by unfold idxL; rw [if_neg (by intro e; subst e; simp at h)]
  | b :: r, h => by
    unfold idxL
    rw [if_neg (by
      intro hp
      have := (List.isPrefixOf_iff_prefix.1 hp).length_le
      omega), idxL_short p r (by simp at h; omega)]
    rfl
theorem idxL_hit (p l : Bs) (h : p.isPrefixOf l = true) : idxL p l = some 0 := by
  cases l with
  | nil => unfold idxL; rw [if_pos (by simpa using h)]
  | cons b r => unfold idxL; rw [if_pos h]
theorem idxL_miss (p l : Bs) (h : p.isPrefixOf l = false) (hl : p.length ≤ l.length) : idxL p l = (idxL p (l.drop 1)).map (· + 1) := by
  cases l with
  | nil =>
    have : p = [] := by simpa using hl
    subst this; simp at h
  | cons b r => conv => lhs; unfold idxL
                rw [if_neg (by rw [h]; simp)]; rfl
theorem extract_pref (l p : Bs) (i : Nat) : ((⟨l.toArray⟩ : ByteArray).extract i (i + p.length) = ⟨p.toArray⟩) ↔ p.isPrefixOf (l.drop i) = true := by
  rw [List.isPrefixOf_iff_prefix, List.prefix_iff_eq_take]
  have e : ((⟨l.toArray⟩ : ByteArray).extract i (i + p.length)).data.toList = (l.drop i).take p.length := by
    rw [Lib.extract_data]; simp
  constructor
  · intro h'
    rw [h'] at e
    simpa using e
  · intro h'
    apply ByteArray.ext
    apply Array.toList_inj.1
    rw [e, ← h']

set_option maxHeartbeats 1000000 in
theorem zzIndex_c (l p : Bs) (w : World) (hl : l.length ≤ 1000000000000) (hp : p.length ≤ 1000000000000) (hp1 : 1 ≤ p.length) :
    Calls Tryz.prog 71 #[strV l, strV p] w fun en w' => en = .returned (.int .i64 (idxI p l)) ∧ w' = w := by
  have hl' : (l.length : Int) ≤ 1000000000000 := by omega
  have hp' : (p.length : Int) ≤ 1000000000000 := by omega
  go_enter Tryz.func71, Tryz.ntmps71
  go_wp2
  go_loopg [5] (l.length + 1) (fun k iv wr => ∃ i : Nat, iv = .int .i64 i ∧ i + k = l.length + 1 ∧ idxL p l = (idxL p (l.drop i)).map (· + i) ∧ wr = w)
  case atStart => exact ⟨0, rfl, by omega, by simp, rfl⟩
  case round =>
    obtain ⟨i, rfl, hk, hid, rfl⟩ := hrel
    have HID := Lib.hid hid
    have HK := Lib.hid hk
    have q0 : (0 : Int) ≤ (i : Int) := by omega
    have q1 : (i : Int) ≤ 1000000000001 := by omega
    clear hid hk
    have hc : ((i : Int) + (p.length : Int) ≤ (l.length : Int)) ∨ ¬ ((i : Int) + (p.length : Int) ≤ (l.length : Int)) := by omega
    rcases hc with hc | hc
    · have hx : ((⟨l.toArray⟩ : ByteArray).extract i (i + p.length) = ⟨p.toArray⟩) ∨ ¬ ((⟨l.toArray⟩ : ByteArray).extract i (i + p.length) = ⟨p.toArray⟩) := Classical.em _
      rcases hx with hx | hx
      · have hh := (extract_pref l p i).1 hx
        have HR := Lib.hid (show idxI p l = i by unfold idxI; rw [HID.out, idxL_hit _ _ hh]; simp)
        go_wp2
        go_ret
        exact ⟨by rw [HR.out]; rfl, rfl⟩
      · have hh : p.isPrefixOf (l.drop i) = false := by
          rw [← Bool.not_eq_true]; exact fun h => hx ((extract_pref l p i).2 h)
        have HM := Lib.hid (show idxL p l = (idxL p (l.drop (i + 1))).map (· + (i + 1)) by
          rw [HID.out, idxL_miss _ _ hh (by rw [List.length_drop]; omega), Option.map_map, List.drop_drop]
          congr 1
          funext n
          simp; omega)
        have hx2 : (((⟨l.toArray⟩ : ByteArray).extract i (i + p.length)).toList == p) = false := by
          rw [beq_eq_false_iff_ne]
          intro h
          apply hx
          apply ByteArray.ext
          apply Array.toList_inj.1
          rw [ByteArray.toList_eq] at h
          exact h.trans (by simp)
        clear hh hx
        go_wp2
        go_roundg (gk - 1)
        case measure => have := HK.out; omega
        case rel => exact ⟨i + 1, by simp, by have := HK.out; omega, HM.out, rfl⟩
    · have HR := Lib.hid (show idxI p l = -1 by
        unfold idxI
        rw [HID.out, idxL_short _ _ (by rw [List.length_drop]; omega)]; rfl)
      go_wp2
      go_ret
      exact ⟨by rw [HR.out]; rfl, rfl⟩

theorem ext_take (l : Bs) (k : Nat) : (⟨l.toArray⟩ : ByteArray).extract 0 k = ⟨(l.take k).toArray⟩ := by
  apply ByteArray.ext
  apply Array.toList_inj.1
  rw [Lib.extract_data]; simp
theorem ext_drop (l : Bs) (k : Nat) : (⟨l.toArray⟩ : ByteArray).extract k l.length = ⟨(l.drop k).toArray⟩ := by
  apply ByteArray.ext
  apply Array.toList_inj.1
  rw [Lib.extract_data]
  simp [List.take_of_length_le]
theorem idxL_le (p : Bs) : ∀ (l : Bs) (k : Nat), idxL p l = some k → k + p.length ≤ l.length
  | [], k, h => by
    unfold idxL at h
    split at h
    · rename_i hp; subst hp; simp only [Option.some.injEq] at h; subst h; simp
    · cases h
  | b :: r, k, h => by
    unfold idxL at h
    split at h
    · rename_i hp
      simp only [Option.some.injEq] at h; subst h
      have := (List.isPrefixOf_iff_prefix.1 hp).length_le
      omega
    · rw [Option.map_eq_some_iff] at h
      obtain ⟨j, hj, rfl⟩ := h
      have := idxL_le p r j hj
      simp; omega
set_option maxHeartbeats 1000000 in
theorem zzCut_c (l p : Bs) (w : World) (hl : l.length ≤ 1000000000000) (hp : p.length ≤ 1000000000000) (hp1 : 1 ≤ p.length) :
    Calls Tryz.prog 68 #[strV l, strV p] w fun en w' => ∃ n, w' = w.drewN n ∧
      ((∃ k, idxL p l = some k ∧ en = .returned (.tuple #[strV (l.take k), strV (l.drop (k + p.length)), .bool true])) ∨ (idxL p l = none ∧ en = .returned (.tuple #[strV l, strV [], .bool false]))) := by
  have hi := Lib.hid (zzIndex_c l p w hl hp hp1)
  cases hx : idxL p l with
  | none =>
    have hI : idxI p l = -1 := by unfold idxI; rw [hx]
    rw [hI] at hi
    have HXX := Lib.hid hx
    clear hx hI
    go_enter Tryz.func68, Tryz.ntmps68
    go_wp2_with fail
    refine hi.out.mono ?_
    rintro e1 w1 ⟨rfl, rfl⟩
    go_wp2
    go_ret3
    exact ⟨0, rfl, Or.inr ⟨trivial, rfl⟩⟩
  | some k =>
    have hI : idxI p l = k := by unfold idxI; rw [hx]
    rw [hI] at hi
    have hkl := idxL_le p l k hx
    have q0 : (0 : Int) ≤ (k : Int) := by omega
    have q1 : (k : Int) + (p.length : Int) ≤ (l.length : Int) := by omega
    have q2 : (l.length : Int) ≤ 1000000000000 := by omega
    have q3 : (k : Int) ≤ (l.length : Int) := by omega
    have HXX := Lib.hid hx
    clear hx hI
    go_enter Tryz.func68, Tryz.ntmps68
    go_wp2_with fail
    refine hi.out.mono ?_
    rintro e1 w1 ⟨rfl, rfl⟩
    go_wp2
    go_quiet (fail)
    go_wp2
    go_ret3
    refine ⟨nq, rfl, Or.inl ⟨k, rfl, ?_⟩⟩
    simp only [strV]
    rw [← ext_take, ← ext_drop]; rfl
end Go.Proofs.YtkjnockljapnbaaGreatDoor
