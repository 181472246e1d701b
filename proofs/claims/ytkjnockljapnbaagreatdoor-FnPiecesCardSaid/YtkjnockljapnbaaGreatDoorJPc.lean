/- Part of the proof that laws.FnPieces returns true for every argument (Pc). No condition of its own. -/
import Derived.Test.YtkjnockljapnbaaGreatDoorJ51
set_option linter.all false
namespace Go.Proofs.YtkjnockljapnbaaGreatDoor
open Go Go.RowKit Go.ChangeShapes Go.WideShapes Go.ChangeAt Go.Shelf
theorem pcHolds : Rows.FnPiecesSaid :=
  OpenClaim.holds_of_wide 6 Tryz.f6 rfl rfl rfl rfl rfl rfl rfl ⟨rfl, rfl, rfl, rfl, rfl⟩ rfl rfl rfl rfl rfl (by kernel_rfl) Tryz.func6 (by kernel_rfl)
    (of_decide_eq_true (by kernel_rfl)) (by unfold Func.isWrapper; first | (rw [if_pos (by decide +kernel)]; kernel_rfl) | (rw [if_neg (by decide +kernel)]; exact ⟨rfl, rfl⟩))
    (fun os started H enc _ => pcLifted os started H enc)
theorem pcPlain (f : FuncId) (fn : Func) (hf : Tryz.pinned.checked.prog.funcNamed "xmltokens/laws.FnPieces" = some f) (hfn : Tryz.pinned.checked.prog.funcs[f]? = some fn) :
    true = Tryz.pinned.checked.prog.looks [] ∧ ∀ (j : Nat) t, fn.params[j]? = some t → Tryz.pinned.checked.prog.wantsStandIn t = false := by
  obtain rfl : f = 6 := Option.some.inj ((show Tryz.prog.funcNamed "xmltokens/laws.FnPieces" = some 6 by kernel_rfl).symm.trans hf) |>.symm
  obtain rfl : fn = Tryz.f6 := (Option.some.inj (Tryz.func6.symm.trans hfn)).symm
  refine ⟨by kernel_rfl, fun j t ht => ?_⟩
  rw [Tryz.params6] at ht
  have h9 : t = 9 ∨ t = 22 ∨ t = 4 := by
    have := Array.mem_of_getElem? ht
    simpa using this
  rcases h9 with rfl | rfl | rfl
  · exact (show Tryz.prog.wantsStandIn 9 = false by kernel_rfl)
  · exact (show Tryz.prog.wantsStandIn 22 = false by kernel_rfl)
  · exact (show Tryz.prog.wantsStandIn 4 = false by kernel_rfl)
theorem pieces_card : Rows.FnPiecesCardSaid :=
  Claim7.holds_tied_plain_at .later [] _ _ _ _ pcHolds (fun _ h => by cases h) (by kernel_rfl) (fun _ h => by cases h) fnPieces_row_tie rfl ⟨rfl, rfl⟩ (by kernel_rfl) rfl pcPlain (by kernel_rfl)
#print axioms pieces_card
end Go.Proofs.YtkjnockljapnbaaGreatDoor
