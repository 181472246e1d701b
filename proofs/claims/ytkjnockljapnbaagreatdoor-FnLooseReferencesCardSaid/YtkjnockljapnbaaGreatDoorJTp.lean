/- Part of the proof that laws.FnLooseReferences returns true for every text (the claim of laws.FnLooseReferences: Tp). No condition of its own. -/
import Derived.Test.YtkjnockljapnbaaGreatDoorJF
set_option linter.all false
/- Text by its steps: plain laws. -/
namespace Go.Proofs.YtkjnockljapnbaaGreatDoor
open Go

theorem textL_nil (o : Opt) (q : Option UInt8) (cd : Bool) (b0 b1 : UInt8) (buf : Bs) :
    textL o q cd [] b0 b1 buf = if cd then .error (mustE o.fails) else if charsL buf then .ok (buf, []) else .error .syn := by
  rw [textL]
theorem textL_brk (o : Opt) (cd : Bool) (r : Bs) (buf : Bs) :
    textL o none cd (62 :: r) 93 93 buf = if cd then (if charsL (buf.take (buf.length - 2)) then .ok (buf.take (buf.length - 2), r) else .error .syn) else .error .syn := by
  rw [textL]; simp
theorem textL_lt (o : Opt) (q : Option UInt8) (r : Bs) (b0 b1 : UInt8) (buf : Bs) :
    textL o q false (60 :: r) b0 b1 buf = if q = none then (if charsL buf then .ok (buf, 60 :: r) else .error .syn) else .error .syn := by
  rw [textL]; simp
theorem textL_quote (o : Opt) (cd : Bool) (b : UInt8) (r : Bs) (b0 b1 : UInt8) (buf : Bs) (h : ¬ (b = 60 ∧ cd = false)) :
    textL o (some b) cd (b :: r) b0 b1 buf = if charsL buf then .ok (buf, r) else .error .syn := by
  rw [textL, if_neg (by simp), if_neg h, if_pos rfl]
/-- A byte that stands for itself. -/
def txStep (b b1 : UInt8) (buf : Bs) : Bs := if b = 13 then buf ++ [10] else if b1 = 13 ∧ b = 10 then buf else buf ++ [b]
theorem textL_plain (o : Opt) (q : Option UInt8) (cd : Bool) (b : UInt8) (r : Bs) (b0 b1 : UInt8) (buf : Bs) (h1 : ¬ (q = none ∧ b0 = 93 ∧ b1 = 93 ∧ b = 62)) (h2 : ¬ (b = 60 ∧ cd = false)) (h3 : q ≠ some b) (h4 : ¬ (b = 38 ∧ cd = false)) :
    textL o q cd (b :: r) b0 b1 buf = textL o q cd r b1 b (txStep b b1 buf) := by
  rw [textL, if_neg h1, if_neg h2, if_neg h3, if_neg h4]; rfl
theorem textL_ref (o : Opt) (q : Option UInt8) (r : Bs) (b0 b1 : UInt8) (buf : Bs) (h : q ≠ some 38) :
    textL o q false (38 :: r) b0 b1 buf = match refL o.fails o.ents r with
      | .error e => .error e
      | .ok (_, some t, r') => textL o q false r' 0 0 (buf ++ t)
      | .ok (raw, none, r') => if o.strict then .error .syn else textL o q false r' 0 0 (buf ++ raw) := by
  rw [textL, if_neg (by simp), if_neg (by simp), if_neg h, if_pos (by simp)]
  split <;> rename_i hh <;> rw [hh]
end Go.Proofs.YtkjnockljapnbaaGreatDoor
