/- Part of the proof that laws.FnRawTokens returns true for every argument. No conditions. -/
import Derived.Test.YtdjdjbpnbjdaaaaGreatDoorP39
set_option linter.all false
set_option maxHeartbeats 8000000
set_option maxRecDepth 100000
namespace Go.Proofs.YtdjdjbpnbjdaaaaGreatDoor
open Go Go.RowKit Go.ChangeShapes Go.WideShapes Go.ChangeAt Go.Shelf Go.Proofs.Tryz
theorem Ep:Rows.FnRawTokensSaid:=
 OpenClaim.holds_of_wide 3 Tryz.f3 rfl rfl rfl rfl rfl rfl rfl ⟨rfl,rfl,rfl,rfl,rfl⟩ rfl rfl rfl rfl rfl (by kernel_rfl) func3 (by kernel_rfl)
  (of_decide_eq_true (by kernel_rfl)) (by unfold Func.isWrapper;first|(rw [if_pos (by decide +kernel)];kernel_rfl)|(rw [if_neg (by decide +kernel)];exact ⟨rfl,rfl⟩))
  (fun os started H enc _=>WU os started H enc)
theorem Er (f:FuncId) (fn:Func) (hf:Tryz.pinned.checked.prog.funcNamed "xmltokens/laws.FnRawTokens" = some f) (Og:Tryz.pinned.checked.prog.funcs[f]?=some fn) :
  true=Tryz.pinned.checked.prog.looks []∧∀ (j:Nat) t,fn.params[j]?=some t→Tryz.pinned.checked.prog.wantsStandIn t=false:=by
 obtain rfl:f=3:=Option.some.inj ((show prog.funcNamed "xmltokens/laws.FnRawTokens" = some 3 by kernel_rfl).symm.trans hf) |>.symm
 obtain rfl:fn=Tryz.f3:=(Option.some.inj (func3.symm.trans Og)).symm
 refine ⟨by kernel_rfl,fun j t ht=>?_⟩
 rw [Tryz.params3] at ht
 have h9:t=9∨t=22:=by
  have:=Array.mem_of_getElem? ht
  simpa using this
 rcases h9 with rfl|rfl
 ·exact (show prog.wantsStandIn 9=false by kernel_rfl)
 ·exact (show prog.wantsStandIn 22=false by kernel_rfl)
theorem frt_card:Rows.FnRawTokensCardSaid:=
 Claim7.holds_tied_plain_at .later [] _ _ _ _ Ep (fun _ h=>by cases h) (by kernel_rfl) (fun _ h=>by cases h) fnRawTokens_row_tie rfl ⟨rfl,rfl⟩ (by kernel_rfl) rfl Er (by kernel_rfl)
#print axioms frt_card
end Go.Proofs.YtdjdjbpnbjdaaaaGreatDoor
