/- Part of the proof that laws.FnBalanced returns true for every argument (Bal4). No condition of its own. -/
import Derived.Test.YtkjnockljapnbaaGreatDoorO52
set_option linter.all false
set_option maxHeartbeats 8000000
set_option maxRecDepth 100000
namespace Go.Proofs.YtkjnockljapnbaaGreatDoor
open Go Go.RowKit Go.ChangeShapes Go.WideShapes Go.ChangeAt Go.Shelf
theorem balHolds:Rows.FnBalancedSaid:=
  OpenClaim.holds_of_wide 3 Tryz.f3 rfl rfl rfl rfl rfl rfl rfl ⟨rfl,rfl,rfl,rfl,rfl⟩ rfl rfl rfl rfl rfl (by kernel_rfl) Tryz.func3 (by kernel_rfl)
    (of_decide_eq_true (by kernel_rfl)) (by unfold Func.isWrapper;first|(rw [if_pos (by decide +kernel)];kernel_rfl)|(rw [if_neg (by decide +kernel)];exact ⟨rfl,rfl⟩))
    (fun os started H enc _=>balLifted os started H enc)
theorem balPlain (f:FuncId) (fn:Func) (hf:Tryz.pinned.checked.prog.funcNamed "xmltokens/laws.FnBalanced" = some f) (hfn:Tryz.pinned.checked.prog.funcs[f]?=some fn) :
    true=Tryz.pinned.checked.prog.looks []∧∀ (j:Nat) t,fn.params[j]?=some t → Tryz.pinned.checked.prog.wantsStandIn t=false:=by
  obtain rfl:f=3:=Option.some.inj ((show Tryz.prog.funcNamed "xmltokens/laws.FnBalanced" = some 3 by kernel_rfl).symm.trans hf) |>.symm
  obtain rfl:fn=Tryz.f3:=(Option.some.inj (Tryz.func3.symm.trans hfn)).symm
  refine ⟨by kernel_rfl,fun j t ht=>?_⟩
  rw [Tryz.params3] at ht
  have h9:t=9 ∨ t=22 ∨ t=4 ∨ t=23:=by
    have:=Array.mem_of_getElem? ht
    simpa using this
  rcases h9 with rfl|rfl|rfl|rfl
  · exact (show Tryz.prog.wantsStandIn 9=false by kernel_rfl)
  · exact (show Tryz.prog.wantsStandIn 22=false by kernel_rfl)
  · exact (show Tryz.prog.wantsStandIn 4=false by kernel_rfl)
  · exact (show Tryz.prog.wantsStandIn 23=false by kernel_rfl)
theorem bal_card:Rows.FnBalancedCardSaid:=
  Claim7.holds_tied_plain_at .later [] _ _ _ _ balHolds (fun _ h=>by cases h) (by kernel_rfl) (fun _ h=>by cases h) fnBalanced_row_tie rfl ⟨rfl,rfl⟩ (by kernel_rfl) rfl balPlain (by kernel_rfl)
#print axioms bal_card
end Go.Proofs.YtkjnockljapnbaaGreatDoor
