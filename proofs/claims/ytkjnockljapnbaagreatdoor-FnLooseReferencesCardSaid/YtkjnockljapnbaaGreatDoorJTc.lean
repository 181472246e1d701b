/- Part of the proof that laws.FnLooseReferences returns true for every text (the claim of laws.FnLooseReferences: Tc). No condition of its own. -/
import Derived.Test.YtkjnockljapnbaaGreatDoorJDr
set_option linter.all false

namespace Go.Proofs.YtkjnockljapnbaaGreatDoor
open Go Go.RowKit
set_option maxRecDepth 1000000 in
theorem second_c (w : World) : Calls Tryz.prog 83 #[] w fun e w' => e = .returned (.pointer (some ⟨(w.alloc (.cells (rgCells secondT.r16) 229)).heap.size, 0, none⟩)) ∧ w' = tabWorld secondT w :=
  calls_run 0 Tryz.func83 rfl rfl (by kernel_rfl)
end Go.Proofs.YtkjnockljapnbaaGreatDoor
