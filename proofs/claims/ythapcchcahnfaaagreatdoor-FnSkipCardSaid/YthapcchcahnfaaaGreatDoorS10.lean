/- Part of the proof that laws.FnSkip returns true for every argument. No conditions. -/
import Derived.Test.YthapcchcahnfaaaGreatDoorS09
set_option linter.all false
set_option maxHeartbeats 8000000
set_option maxRecDepth 100000
namespace Go.Proofs.YthapcchcahnfaaaGreatDoor
open Go Go.RowKit
theorem RF (w:World):Calls Tryz.prog 118 #[] w fun e w'=>e=.returned (.pointer (some ⟨(w.alloc (.cells (lE iO.r16) 248)).heap.size,0,none⟩))∧w'=oD iO w:=
 zY 0 Tryz.func118 rfl rfl (by kernel_rfl)
end Go.Proofs.YthapcchcahnfaaaGreatDoor
