/- Part of the proof that laws.FnBeginning, laws.FnPlaces returns true for every argument (Be). No condition of its own. -/
import Derived.Test.YtkjnockljapnbaaGreatDoorK51
set_option linter.all false
set_option maxHeartbeats 8000000
set_option maxRecDepth 100000
namespace Go.Proofs.YtkjnockljapnbaaGreatDoor
open Go Go.RowKit Go.ChangeShapes Go.WideShapes Go.ChangeAt Go.Shelf
theorem beginHolds:Rows.FnBeginningSaid:=
  OpenClaim.holds_of_wide 4 Tryz.f4 rfl rfl rfl rfl rfl rfl rfl ⟨rfl,rfl,rfl,rfl,rfl⟩ rfl rfl rfl rfl rfl (by kernel_rfl) Tryz.func4 (by kernel_rfl)
    (of_decide_eq_true (by kernel_rfl)) (by unfold Func.isWrapper;first|(rw [if_pos (by decide +kernel)];kernel_rfl)|(rw [if_neg (by decide +kernel)];exact ⟨rfl,rfl⟩))
    (fun os started H enc _=>beginLifted os started H enc)
theorem beginPlain (f:FuncId) (fn:Func) (hf:Tryz.pinned.checked.prog.funcNamed "xmltokens/laws.FnBeginning" = some f) (hfn:Tryz.pinned.checked.prog.funcs[f]?=some fn) :
    true=Tryz.pinned.checked.prog.looks []∧∀ (j:Nat) t,fn.params[j]?=some t → Tryz.pinned.checked.prog.wantsStandIn t=false:=by
  obtain rfl:f=4:=Option.some.inj ((show Tryz.prog.funcNamed "xmltokens/laws.FnBeginning" = some 4 by kernel_rfl).symm.trans hf) |>.symm
  obtain rfl:fn=Tryz.f4:=(Option.some.inj (Tryz.func4.symm.trans hfn)).symm
  refine ⟨by kernel_rfl,fun j t ht=>?_⟩
  rw [Tryz.params4] at ht
  have h9:t=9 ∨ t=4 ∨ t=3:=by
    have:=Array.mem_of_getElem? ht
    simpa using this
  rcases h9 with rfl|rfl|rfl
  · exact (show Tryz.prog.wantsStandIn 9=false by kernel_rfl)
  · exact (show Tryz.prog.wantsStandIn 4=false by kernel_rfl)
  · exact (show Tryz.prog.wantsStandIn 3=false by kernel_rfl)
theorem begin_card:Rows.FnBeginningCardSaid:=
  Claim7.holds_tied_plain_at .later [] _ _ _ _ beginHolds (fun _ h=>by cases h) (by kernel_rfl) (fun _ h=>by cases h) fnBeginning_row_tie rfl ⟨rfl,rfl⟩ (by kernel_rfl) rfl beginPlain (by kernel_rfl)
#print axioms begin_card
end Go.Proofs.YtkjnockljapnbaaGreatDoor
