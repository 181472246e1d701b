/- Part of the proof that laws.FnStrictIsLoose, laws.FnUnclosed, laws.FnReaderFails, laws.FnWithin, laws.FnSkip returns true for every argument. No conditions. -/
import Derived.Test.YthapcchcahnfaaaGreatDoorP51
set_option linter.all false
set_option maxHeartbeats 8000000
set_option maxRecDepth 100000
namespace Go.Proofs.YthapcchcahnfaaaGreatDoor
open Go Go.RowKit Go.ChangeShapes Go.WideShapes Go.ChangeAt Go.Shelf Go.Proofs.Tryz
theorem TC:Rows.FnStrictIsLooseSaid:=
 OpenClaim.holds_of_wide 4 Tryz.f4 rfl rfl rfl rfl rfl rfl rfl ⟨rfl,rfl,rfl,rfl,rfl⟩ rfl rfl rfl rfl rfl (by kernel_rfl) func4 (by kernel_rfl)
  (of_decide_eq_true (by kernel_rfl)) (by unfold Func.isWrapper;first|(rw [aV (by decide +kernel)];kernel_rfl)|(rw [aN (by decide +kernel)];exact ⟨rfl,rfl⟩))
  (fun os a H enc _=>OL os a H enc)
theorem TD (f:FuncId) (fn:Func) (d:Tryz.pinned.checked.prog.funcNamed "xmltokens/laws.FnStrictIsLoose" = some f) (a:Tryz.pinned.checked.prog.funcs[f]?=some fn) :
  true=Tryz.pinned.checked.prog.looks []∧∀ (j:Nat) t,fn.params[j]?=some t→Tryz.pinned.checked.prog.wantsStandIn t=false:=by
 obtain rfl:f=4:=Option.some.inj ((show prog.funcNamed "xmltokens/laws.FnStrictIsLoose" = some 4 by kernel_rfl).symm.trans d) |>.symm
 obtain rfl:fn=Tryz.f4:=(Option.some.inj (func4.symm.trans a)).symm;refine ⟨by kernel_rfl,fun j t b=>?_⟩;rw [Tryz.params4] at b;have c:t=9:=by
  have:=Array.mem_of_getElem? b;simpa using this
 rcases c with rfl
 ·exact (show prog.wantsStandIn 9=false by kernel_rfl)
theorem fsl_card:Rows.FnStrictIsLooseCardSaid:=
 Claim7.holds_tied_plain_at .later [] _ _ _ _ TC (fun _ h=>by cases h) (by kernel_rfl) (fun _ h=>by cases h) fnStrictIsLoose_row_tie rfl ⟨rfl,rfl⟩ (by kernel_rfl) rfl TD (by kernel_rfl)
#print axioms fsl_card
end Go.Proofs.YthapcchcahnfaaaGreatDoor
