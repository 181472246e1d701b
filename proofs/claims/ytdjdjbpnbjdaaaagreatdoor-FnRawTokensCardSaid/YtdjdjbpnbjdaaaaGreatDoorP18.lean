/- Part of the proof that laws.FnRawTokens returns true for every argument. No conditions. -/
import Derived.Test.YtdjdjbpnbjdaaaaGreatDoorP01
set_option linter.all false
set_option maxHeartbeats 8000000
set_option maxRecDepth 100000
namespace Go.Proofs.YtdjdjbpnbjdaaaaGreatDoor
open Go
theorem uI {o:cU}:∀ {k k':Nat} {rest:Bs} {acc:List eI},rest.length<k→rest.length<k'→dD o k rest acc=dD o k' rest acc
 | 0,_,_,_,h,_=>by omega
 | _+1,0,_,_,_,h=>by omega
 | k+1,k'+1,rest,acc,h,h'=>by
  unfold dD
  cases hs:aM rest with
  | nil=>rfl
  | cons b r2=>
   have l1:=fO (eO rest)
   rw [hs] at l1
   simp only
   split
   ·rfl
   ·split
    ·rfl
    ·cases ha:gY o (b::r2) with
     | error e=>rfl
     | ok p=>
      obtain ⟨a,r5⟩:=p
      have:=(qL ha).2
      exact uI (by omega) (by omega)
end Go.Proofs.YtdjdjbpnbjdaaaaGreatDoor
