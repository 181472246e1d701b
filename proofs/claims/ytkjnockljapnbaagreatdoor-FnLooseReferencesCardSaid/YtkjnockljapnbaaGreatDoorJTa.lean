/- Part of the proof that laws.FnLooseReferences returns true for every text (the claim of laws.FnLooseReferences: Ta). No condition of its own. -/
import Derived.Test.YtkjnockljapnbaaGreatDoorJDr
set_option linter.all false

namespace Go.Proofs.YtkjnockljapnbaaGreatDoor
open Go Go.RowKit
set_option maxRecDepth 1000000 in
theorem first_c (w : World) : Calls Tryz.prog 82 #[] w fun e w' => e = .returned (.pointer (some ⟨(w.alloc (.cells (rgCells firstT.r16) 229)).heap.size, 0, none⟩)) ∧ w' = tabWorld firstT w :=
  calls_run 0 Tryz.func82 rfl rfl (by kernel_rfl)
end Go.Proofs.YtkjnockljapnbaaGreatDoor
