/- Part of the proof that laws.FnStrictIsLoose, laws.FnUnclosed, laws.FnReaderFails, laws.FnWithin, laws.FnSkip returns true for every argument. No conditions. -/
import Derived.Test.YthapcchcahnfaaaGreatDoorP53
set_option linter.all false
set_option maxHeartbeats 8000000
set_option maxRecDepth 100000
namespace Go.Proofs.YthapcchcahnfaaaGreatDoor
open Go Go.RowKit Go.ChangeShapes Go.WideShapes Go.ChangeAt Go.Shelf Go.Proofs.Tryz
theorem TE:Rows.FnUnclosedSaid:=
 OpenClaim.holds_of_wide 5 Tryz.f5 rfl rfl rfl rfl rfl rfl rfl ⟨rfl,rfl,rfl,rfl,rfl⟩ rfl rfl rfl rfl rfl (by kernel_rfl) func5 (by kernel_rfl)
  (of_decide_eq_true (by kernel_rfl)) (by unfold Func.isWrapper;first|(rw [aV (by decide +kernel)];kernel_rfl)|(rw [aN (by decide +kernel)];exact ⟨rfl,rfl⟩))
  (fun os a H enc _=>OM os a H enc)
theorem TF (f:FuncId) (fn:Func) (d:Tryz.pinned.checked.prog.funcNamed "xmltokens/laws.FnUnclosed" = some f) (a:Tryz.pinned.checked.prog.funcs[f]?=some fn) :
  true=Tryz.pinned.checked.prog.looks []∧∀ (j:Nat) t,fn.params[j]?=some t→Tryz.pinned.checked.prog.wantsStandIn t=false:=by
 obtain rfl:f=5:=Option.some.inj ((show prog.funcNamed "xmltokens/laws.FnUnclosed" = some 5 by kernel_rfl).symm.trans d) |>.symm
 obtain rfl:fn=Tryz.f5:=(Option.some.inj (func5.symm.trans a)).symm;refine ⟨by kernel_rfl,fun j t b=>?_⟩;rw [Tryz.params5] at b;have c:t=9:=by
  have:=Array.mem_of_getElem? b;simpa using this
 rcases c with rfl
 ·exact (show prog.wantsStandIn 9=false by kernel_rfl)
theorem unc_card:Rows.FnUnclosedCardSaid:=
 Claim7.holds_tied_plain_at .later [] _ _ _ _ TE (fun _ h=>by cases h) (by kernel_rfl) (fun _ h=>by cases h) fnUnclosed_row_tie rfl ⟨rfl,rfl⟩ (by kernel_rfl) rfl TF (by kernel_rfl)
#print axioms unc_card
end Go.Proofs.YthapcchcahnfaaaGreatDoor
