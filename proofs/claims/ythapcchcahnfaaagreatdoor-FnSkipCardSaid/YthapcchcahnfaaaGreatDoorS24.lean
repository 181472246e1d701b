/- Part of the proof that laws.FnSkip returns true for every argument. No conditions. -/
import Derived.Test.YthapcchcahnfaaaGreatDoorS02
set_option linter.all false
set_option maxHeartbeats 8000000
set_option maxRecDepth 100000
namespace Go.Proofs.YthapcchcahnfaaaGreatDoor
open Go
theorem qB {o:cV}:∀ {k c:Nat} {rest:Bs} {acc:List cO},rest.length<k→rest.length<c→dL o k rest acc=dL o c rest acc
 | 0,_,_,_,h,_=>by omega
 | _+1,0,_,_,_,h=>by omega
 | k+1,c+1,rest,acc,h,h'=>by
  unfold dL;cases f:aT rest with
  | nil=>rfl
  | cons b r2=>
   have g:=fF (eO rest);rw [f] at g;simp only;split
   ·rfl
   ·split
    ·rfl
    ·cases d:gF o (b::r2) with
     | error e=>rfl
     | ok p=>
      obtain ⟨a,i⟩:=p;have:=(nY d).2;exact qB (by omega) (by omega)
end Go.Proofs.YthapcchcahnfaaaGreatDoor
