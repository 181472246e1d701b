/- Part of the proof that laws.FnLooseReferences returns true for every text (the claim of laws.FnLooseReferences: Lb). No condition of its own. -/
import Derived.Test.YtkjnockljapnbaaGreatDoorJLa
import Derived.Test.YtkjnockljapnbaaGreatDoorJLx
import Derived.Test.YtkjnockljapnbaaGreatDoorJIn2
import Derived.Test.YtkjnockljapnbaaGreatDoorJNa
set_option linter.all false
/- spec.Decode as a law: decL, or (0, 0). -/
namespace Go.Proofs.YtkjnockljapnbaaGreatDoor
open Go Go.RowKit

def specDec (l : Bs) : Nat × Nat := if (decL l).1 = 65533 ∧ (decL l).2 = 1 then (0, 0) else decL l
theorem ixg (l : Bs) (k : Nat) : ∀ h, (⟨l.toArray⟩ : ByteArray)[k]'h = l.getD k 0 := by
  intro h
  have h' : k < l.length := by simpa [ByteArray.size] using h
  show l.toArray[k] = _
  simp [h']
theorem getg (l : Bs) (k : Nat) : (⟨l.toArray⟩ : ByteArray).get! k = l.getD k 0 := by
  show l.toArray[k]! = _
  by_cases h : k < l.length
  · simp [h]
  · simp [h]; rfl
theorem decL_N (l : Bs) (h : 1 ≤ l.length) : decL l = Lib.decodeN l.length (l.getD 0 0).toNat (l.getD 1 0).toNat (l.getD 2 0).toNat (l.getD 3 0).toNat := by
  have hs : (⟨l.toArray⟩ : ByteArray).size = l.length := by simp [ByteArray.size]
  unfold decL Lib.decodeGoB
  rw [if_neg (by omega), Lib.decode_at, getg, getg, getg, getg, hs]
  rfl
theorem sd_bad (l : Bs) (h : decL l = (65533, 1)) : specDec l = (0, 0) := by
  unfold specDec; rw [h]; rfl
theorem sd_ok (l : Bs) (r n : Nat) (h : decL l = (r, n)) (hn : n ≠ 1 ∨ r < 128) : specDec l = (r, n) := by
  unfold specDec; rw [h, if_neg]
  rintro ⟨h1, h2⟩
  simp only at h1 h2
  omega
set_option maxHeartbeats 4000000 in
set_option maxRecDepth 100000 in
theorem specDecode_c (l : Bs) (hne : l ≠ []) (w : World) : Calls Tryz.prog 20 #[strV l] w fun e w' => e = .returned (.tuple #[.int .i64 (specDec l).1, .int .i64 (specDec l).2]) ∧ w = w' := by
  have hl : 1 ≤ l.length := by cases l with
    | nil => exact absurd rfl hne
    | cons => simp
  have i0 := ixg l 0
  have i1 := ixg l 1
  have i2 := ixg l 2
  have i3 := ixg l 3
  have hD := decL_N l hl
  generalize l.getD 0 0 = c at *
  generalize l.getD 1 0 = d at *
  generalize l.getD 2 0 = e at *
  generalize l.getD 3 0 = g at *
  have hc256 := c.toNat_lt
  have hd256 := d.toNat_lt
  have he256 := e.toNat_lt
  have hg256 := g.toNat_lt
  have bad : ∀ (h : Lib.decodeN l.length c.toNat d.toNat e.toNat g.toNat = (65533, 1)), specDec l = (0, 0) := fun h => sd_bad l (hD.trans h)
  have ok : ∀ r n (_ : n ≠ 1 ∨ r < 128) (_ : Lib.decodeN l.length c.toNat d.toNat e.toNat g.toNat = (r, n)), specDec l = (r, n) := fun r n hn h => sd_ok l r n (hD.trans h) hn
  clear hD
  by_cases h0 : c.toNat < 128
  · rw [ok c.toNat 1 (Or.inr h0) (by unfold Lib.decodeN; rw [if_pos h0])]
    exact dec_ascii l c w hl i0 h0
  by_cases h1 : c.toNat < 194 ∨ 245 ≤ c.toNat
  · rw [bad (by unfold Lib.decodeN; (repeat' split) <;> first | rfl | (exfalso; omega))]
    exact dec_lead l c w hl i0 (by omega)
  by_cases h2 : c.toNat < 224
  · by_cases hs : l.length < 2
    · rw [bad (by unfold Lib.decodeN; (repeat' split) <;> first | rfl | (exfalso; omega))]
      exact dec2_short l c w hl hs i0 (by omega)
    by_cases b1 : d.toNat / 64 = 2
    rotate_left
    · rw [bad (by unfold Lib.decodeN; (repeat' split) <;> first | rfl | (exfalso; omega))]
      exact dec2_bad1 l c d w (by omega) i0 i1 (by omega) b1
    ·
      rw [ok (c.toNat % 32 * 64 + d.toNat % 64) 2 (Or.inl (by decide)) (by unfold Lib.decodeN; (repeat' split) <;> first | (exfalso; omega) | (congr 1; omega) | rfl)]
      exact dec2_ok l c d w (by omega) i0 i1 (by omega) b1 trivial
  by_cases h3 : c.toNat < 240
  · by_cases hs : l.length < 3
    · rw [bad (by unfold Lib.decodeN; (repeat' split) <;> first | rfl | (exfalso; omega))]
      exact dec3_short l c w hl hs i0 (by omega)
    by_cases b1 : d.toNat / 64 = 2
    rotate_left
    · rw [bad (by unfold Lib.decodeN; (repeat' split) <;> first | rfl | (exfalso; omega))]
      exact dec3_bad1 l c d w (by omega) i0 i1 (by omega) b1
    by_cases b2 : e.toNat / 64 = 2
    rotate_left
    · rw [bad (by unfold Lib.decodeN; (repeat' split) <;> first | rfl | (exfalso; omega))]
      exact dec3_bad2 l c d e w (by omega) i0 i1 i2 (by omega) b1 b2
    by_cases r1 : (c.toNat % 16 * 64 + d.toNat % 64) * 64 + e.toNat % 64 < 2048
    · rw [bad (by unfold Lib.decodeN; (repeat' split) <;> first | rfl | (exfalso; omega))]
      exact dec3_rbad l c d e w (by omega) i0 i1 i2 (by omega) b1 b2 r1
    by_cases r2 : 55296 ≤ (c.toNat % 16 * 64 + d.toNat % 64) * 64 + e.toNat % 64 ∧ (c.toNat % 16 * 64 + d.toNat % 64) * 64 + e.toNat % 64 < 57344
    · rw [bad (by unfold Lib.decodeN; (repeat' split) <;> first | rfl | (exfalso; omega))]
      exact dec3_rsur l c d e w (by omega) i0 i1 i2 (by omega) b1 b2 r2
    ·
      rw [ok ((c.toNat % 16 * 64 + d.toNat % 64) * 64 + e.toNat % 64) 3 (Or.inl (by decide)) (by unfold Lib.decodeN; (repeat' split) <;> first | (exfalso; omega) | (congr 1; omega) | rfl)]
      exact dec3_ok l c d e w (by omega) i0 i1 i2 (by omega) b1 b2 (by omega)
  by_cases hs : l.length < 4
  · rw [bad (by unfold Lib.decodeN; (repeat' split) <;> first | rfl | (exfalso; omega))]
    exact dec4_short l c w hl hs i0 (by omega)
  by_cases b1 : d.toNat / 64 = 2
  rotate_left
  · rw [bad (by unfold Lib.decodeN; (repeat' split) <;> first | rfl | (exfalso; omega))]
    exact dec4_bad1 l c d w (by omega) i0 i1 (by omega) b1
  by_cases b2 : e.toNat / 64 = 2
  rotate_left
  · rw [bad (by unfold Lib.decodeN; (repeat' split) <;> first | rfl | (exfalso; omega))]
    exact dec4_bad2 l c d e w (by omega) i0 i1 i2 (by omega) b1 b2
  by_cases b3 : g.toNat / 64 = 2
  rotate_left
  · rw [bad (by unfold Lib.decodeN; (repeat' split) <;> first | rfl | (exfalso; omega))]
    exact dec4_bad3 l c d e g w (by omega) i0 i1 i2 i3 (by omega) b1 b2 b3
  by_cases r1 : ((c.toNat % 8 * 64 + d.toNat % 64) * 64 + e.toNat % 64) * 64 + g.toNat % 64 < 65536
  · rw [bad (by unfold Lib.decodeN; (repeat' split) <;> first | rfl | (exfalso; omega))]
    exact dec4_rbad l c d e g w (by omega) i0 i1 i2 i3 (by omega) b1 b2 b3 r1
  by_cases r2 : 1114111 < ((c.toNat % 8 * 64 + d.toNat % 64) * 64 + e.toNat % 64) * 64 + g.toNat % 64
  · rw [bad (by unfold Lib.decodeN; (repeat' split) <;> first | rfl | (exfalso; omega))]
    exact dec4_rhigh l c d e g w (by omega) i0 i1 i2 i3 (by omega) b1 b2 b3 r2
  ·
    rw [ok (((c.toNat % 8 * 64 + d.toNat % 64) * 64 + e.toNat % 64) * 64 + g.toNat % 64) 4 (Or.inl (by decide)) (by unfold Lib.decodeN; (repeat' split) <;> first | (exfalso; omega) | (congr 1; omega) | rfl)]
    exact dec4_ok l c d e g w (by omega) i0 i1 i2 i3 (by omega) b1 b2 b3 (by omega)
end Go.Proofs.YtkjnockljapnbaaGreatDoor
