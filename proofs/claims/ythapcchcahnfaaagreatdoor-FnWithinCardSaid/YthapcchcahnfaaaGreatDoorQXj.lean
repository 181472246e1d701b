/- Part of the proof that laws.FnWithin returns true for every argument. No conditions. -/
import Derived.Test.YthapcchcahnfaaaGreatDoorQ51
set_option linter.all false
set_option maxHeartbeats 8000000
set_option maxRecDepth 100000
namespace Go.Proofs.YthapcchcahnfaaaGreatDoor
open Go Go.RowKit Go.ChangeShapes Go.WideShapes Go.ChangeAt Go.Shelf Go.Proofs.Tryz
theorem Q6:Rows.FnWithinSaid:=
 OpenClaim.holds_of_wide 6 Tryz.f6 rfl rfl rfl rfl rfl rfl rfl ⟨rfl,rfl,rfl,rfl,rfl⟩ rfl rfl rfl rfl rfl (by kernel_rfl) func6 (by kernel_rfl)
  (of_decide_eq_true (by kernel_rfl)) (by unfold Func.isWrapper;first|(rw [aT (by decide +kernel)];kernel_rfl)|(rw [aM (by decide +kernel)];exact ⟨rfl,rfl⟩))
  (fun os a H enc _=>ML os a H enc)
theorem Q7 (f:FuncId) (fn:Func) (d:Tryz.pinned.checked.prog.funcNamed "xmltokens/laws.FnWithin" = some f) (a:Tryz.pinned.checked.prog.funcs[f]?=some fn) :
  true=Tryz.pinned.checked.prog.looks []∧∀ (j:Nat) t,fn.params[j]?=some t→Tryz.pinned.checked.prog.wantsStandIn t=false:=by
 obtain rfl:f=6:=Option.some.inj ((show prog.funcNamed "xmltokens/laws.FnWithin" = some 6 by kernel_rfl).symm.trans d) |>.symm
 obtain rfl:fn=Tryz.f6:=(Option.some.inj (func6.symm.trans a)).symm;refine ⟨by kernel_rfl,fun j t b=>?_⟩;rw [Tryz.params6] at b;have c:t=9:=by
  have:=Array.mem_of_getElem? b;simpa using this
 rcases c with rfl
 ·exact (show prog.wantsStandIn 9=false by kernel_rfl)
theorem wit_card:Rows.FnWithinCardSaid:=
 Claim7.holds_tied_plain_at .later [] _ _ _ _ Q6 (fun _ h=>by cases h) (by kernel_rfl) (fun _ h=>by cases h) fnWithin_row_tie rfl ⟨rfl,rfl⟩ (by kernel_rfl) rfl Q7 (by kernel_rfl)
#print axioms wit_card
end Go.Proofs.YthapcchcahnfaaaGreatDoor
