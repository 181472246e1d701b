/- Part of the proof that laws.FnSkip returns true for every argument. No conditions. -/
import Derived.Test.YthapcchcahnfaaaGreatDoorS51
set_option linter.all false
set_option maxHeartbeats 8000000
set_option maxRecDepth 100000
namespace Go.Proofs.YthapcchcahnfaaaGreatDoor
open Go Go.RowKit Go.ChangeShapes Go.WideShapes Go.ChangeAt Go.Shelf Go.Proofs.Tryz
theorem QV:Rows.FnSkipSaid:=
 OpenClaim.holds_of_wide 7 Tryz.f7 rfl rfl rfl rfl rfl rfl rfl ⟨rfl,rfl,rfl,rfl,rfl⟩ rfl rfl rfl rfl rfl (by kernel_rfl) func7 (by kernel_rfl)
  (of_decide_eq_true (by kernel_rfl)) (by unfold Func.isWrapper;first|(rw [aY (by decide +kernel)];kernel_rfl)|(rw [aQ (by decide +kernel)];exact ⟨rfl,rfl⟩))
  (fun os a H enc _=>MH os a H enc)
theorem QW (f:FuncId) (fn:Func) (d:Tryz.pinned.checked.prog.funcNamed "xmltokens/laws.FnSkip" = some f) (a:Tryz.pinned.checked.prog.funcs[f]?=some fn) :
  true=Tryz.pinned.checked.prog.looks []∧∀ (j:Nat) t,fn.params[j]?=some t→Tryz.pinned.checked.prog.wantsStandIn t=false:=by
 obtain rfl:f=7:=Option.some.inj ((show prog.funcNamed "xmltokens/laws.FnSkip" = some 7 by kernel_rfl).symm.trans d) |>.symm
 obtain rfl:fn=Tryz.f7:=(Option.some.inj (func7.symm.trans a)).symm;refine ⟨by kernel_rfl,fun j t b=>?_⟩;rw [Tryz.params7] at b;have c:t=9∨t=3:=by
  have:=Array.mem_of_getElem? b;simpa using this
 rcases c with rfl|rfl
 ·exact (show prog.wantsStandIn 9=false by kernel_rfl)
 ·exact (show prog.wantsStandIn 3=false by kernel_rfl)
theorem fsk_card:Rows.FnSkipCardSaid:=
 Claim7.holds_tied_plain_at .later [] _ _ _ _ QV (fun _ h=>by cases h) (by kernel_rfl) (fun _ h=>by cases h) fnSkip_row_tie rfl ⟨rfl,rfl⟩ (by kernel_rfl) rfl QW (by kernel_rfl)
#print axioms fsk_card
end Go.Proofs.YthapcchcahnfaaaGreatDoor
