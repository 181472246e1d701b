/- Part of the proof that laws.FnStrictIsLoose, laws.FnUnclosed, laws.FnReaderFails, laws.FnWithin, laws.FnSkip returns true for every argument. No conditions. -/
import Derived.Test.YthapcchcahnfaaaGreatDoorP55
set_option linter.all false
set_option maxHeartbeats 8000000
set_option maxRecDepth 100000
namespace Go.Proofs.YthapcchcahnfaaaGreatDoor
open Go Go.RowKit Go.ChangeShapes Go.WideShapes Go.ChangeAt Go.Shelf Go.Proofs.Tryz
theorem TG:Rows.FnReaderFailsSaid:=
 OpenClaim.holds_of_wide 3 Tryz.f3 rfl rfl rfl rfl rfl rfl rfl ⟨rfl,rfl,rfl,rfl,rfl⟩ rfl rfl rfl rfl rfl (by kernel_rfl) func3 (by kernel_rfl)
  (of_decide_eq_true (by kernel_rfl)) (by unfold Func.isWrapper;first|(rw [aV (by decide +kernel)];kernel_rfl)|(rw [aN (by decide +kernel)];exact ⟨rfl,rfl⟩))
  (fun os a H enc _=>ON os a H enc)
theorem TH (f:FuncId) (fn:Func) (d:Tryz.pinned.checked.prog.funcNamed "xmltokens/laws.FnReaderFails" = some f) (a:Tryz.pinned.checked.prog.funcs[f]?=some fn) :
  true=Tryz.pinned.checked.prog.looks []∧∀ (j:Nat) t,fn.params[j]?=some t→Tryz.pinned.checked.prog.wantsStandIn t=false:=by
 obtain rfl:f=3:=Option.some.inj ((show prog.funcNamed "xmltokens/laws.FnReaderFails" = some 3 by kernel_rfl).symm.trans d) |>.symm
 obtain rfl:fn=Tryz.f3:=(Option.some.inj (func3.symm.trans a)).symm;refine ⟨by kernel_rfl,fun j t b=>?_⟩;rw [Tryz.params3] at b;have c:t=9∨t=22:=by
  have:=Array.mem_of_getElem? b;simpa using this
 rcases c with rfl|rfl
 ·exact (show prog.wantsStandIn 9=false by kernel_rfl)
 ·exact (show prog.wantsStandIn 22=false by kernel_rfl)
theorem frf_card:Rows.FnReaderFailsCardSaid:=
 Claim7.holds_tied_plain_at .later [] _ _ _ _ TG (fun _ h=>by cases h) (by kernel_rfl) (fun _ h=>by cases h) fnReaderFails_row_tie rfl ⟨rfl,rfl⟩ (by kernel_rfl) rfl TH (by kernel_rfl)
#print axioms frf_card
end Go.Proofs.YthapcchcahnfaaaGreatDoor
