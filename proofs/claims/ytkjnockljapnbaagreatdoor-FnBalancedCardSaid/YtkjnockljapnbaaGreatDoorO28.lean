/- Part of the proof that laws.FnBalanced returns true for every argument (Mc). No condition of its own. -/
import Derived.Test.YtkjnockljapnbaaGreatDoorO02
set_option linter.all false
set_option maxHeartbeats 8000000
set_option maxRecDepth 100000
namespace Go.Proofs.YtkjnockljapnbaaGreatDoor
open Go
theorem attrsL_fuel {o:Opt}:∀ {k k':Nat} {rest:Bs} {acc:List At3},rest.length < k → rest.length < k' → attrsL o k rest acc=attrsL o k' rest acc
  | 0,_,_,_,h,_=>by omega
  | _ + 1,0,_,_,_,h=>by omega
  | k + 1,k' + 1,rest,acc,h,h'=>by
    unfold attrsL
    cases hs:skipWs rest with
    | nil=>rfl
    | cons b r2=>
      have l1:=suf_len (skipWs_suf rest)
      rw [hs] at l1
      simp only
      split
      · rfl
      · split
        · rfl
        · cases ha:attrL o (b :: r2) with
          | error e=>rfl
          | ok p=>
            obtain ⟨a,r5⟩:=p
            have:=(attrL_suf ha).2
            exact attrsL_fuel (by omega) (by omega)
end Go.Proofs.YtkjnockljapnbaaGreatDoor
