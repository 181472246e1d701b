/- Part of the proof that laws.FnLooseReferences returns true for every text (the claim of laws.FnLooseReferences: Ly). No condition of its own. -/
import Derived.Test.YtkjnockljapnbaaGreatDoorJS
import Derived.Test.YtkjnockljapnbaaGreatDoorJFr
import Derived.Laws.BitsLemmas
import Derived.LoopN
set_option linter.all false
/- Masks and shifts. -/
namespace Go.Proofs.YtkjnockljapnbaaGreatDoor
open Go Go.RowKit

set_option maxRecDepth 100000 in
theorem and192 (d : UInt8) : bits .and .u8 (d.toNat : Int) 192 = ((d.toNat / 64 * 64 : Nat) : Int) := by
  have h := (bits_nat .u8 8 (by decide) wraps_u8 d.toNat 192 (by have := d.toNat_lt; omega) (by decide)).1
  have k : ∀ n : Fin 256, n.val &&& 192 = n.val / 64 * 64 := by decide
  have := k ⟨d.toNat, d.toNat_lt⟩
  simp only at this
  rw [← this]; exact h
theorem and192t (d : UInt8) (h : d.toNat / 64 = 2) : (bits .and .u8 (d.toNat : Int) 192 != 128) = false := by
  rw [and192, h]; rfl
theorem and192f (d : UInt8) (h : d.toNat / 64 ≠ 2) : (bits .and .u8 (d.toNat : Int) 192 != 128) = true := by
  rw [and192]; simp only [bne_iff_ne, ne_eq]; omega
theorem and63 (d : UInt8) : bits .and .u8 (d.toNat : Int) 63 = ((d.toNat % 64 : Nat) : Int) := by
  have := u8_and63 d.toNat (by omega) (by have := d.toNat_lt; omega)
  rw [this]; rfl
theorem wraps_i64 (n : Int) (h₀ : 0 ≤ n) (h₁ : n < 2 ^ 60) : IntKind.i64.wrap n = n := by rw [IntKind.wrap_i64]; omega
theorem i64mask (c : UInt8) : bits .and .i64 (c.toNat : Int) 31 = ((c.toNat % 32 : Nat) : Int) ∧ bits .and .i64 (c.toNat : Int) 15 = ((c.toNat % 16 : Nat) : Int) ∧ bits .and .i64 (c.toNat : Int) 7 = ((c.toNat % 8 : Nat) : Int) := by
  have hl : (c.toNat : Int) < 2 ^ 60 := by have := c.toNat_lt; omega
  have h0 : (0 : Int) ≤ (c.toNat : Int) := by omega
  have h5 := bits_mask .i64 60 (by decide) wraps_i64 5 (by decide) _ h0 hl
  have h4 := bits_mask .i64 60 (by decide) wraps_i64 4 (by decide) _ h0 hl
  have h3 := bits_mask .i64 60 (by decide) wraps_i64 3 (by decide) _ h0 hl
  exact ⟨h5, h4, h3⟩
theorem foldf (r y : Nat) (hr : r < 2 ^ 30) (hy : y < 64) : IntKind.i64.wrap ((r : Int) * 64) = (r : Int) * 64 ∧ IntKind.i64.wrap (y : Int) = (y : Int) ∧ bits .or .i64 ((r : Int) * 64) (y : Int) = ((r * 64 + y : Nat) : Int) := by
  refine ⟨wraps_i64 _ (by omega) (by omega), wraps_i64 _ (by omega) (by omega), ?_⟩
  rw [bits_join .i64 60 (by decide) wraps_i64 6 _ _ (by omega) (by omega) (by omega) (by omega) (by omega) (by omega)]
  push_cast; rfl
end Go.Proofs.YtkjnockljapnbaaGreatDoor
