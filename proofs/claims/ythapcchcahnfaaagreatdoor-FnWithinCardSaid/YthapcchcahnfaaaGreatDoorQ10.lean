/- Part of the proof that laws.FnWithin returns true for every argument. No conditions. -/
import Derived.Test.YthapcchcahnfaaaGreatDoorQ02
set_option linter.all false
set_option maxHeartbeats 8000000
set_option maxRecDepth 100000
namespace Go.Proofs.YthapcchcahnfaaaGreatDoor
open Go
theorem nD {o:cP}:∀ {k c:Nat} {rest:Bs} {acc:List cV},rest.length<k→rest.length<c→cI o k rest acc=cI o c rest acc
 | 0,_,_,_,h,_=>by omega
 | _+1,0,_,_,_,h=>by omega
 | k+1,c+1,rest,acc,h,h'=>by
  unfold cI;cases f:aQ rest with
  | nil=>rfl
  | cons b r2=>
   have g:=eI (eV rest);rw [f] at g;simp only;split
   ·rfl
   ·split
    ·rfl
    ·cases d:fC o (b::r2) with
     | error e=>rfl
     | ok p=>
      obtain ⟨a,i⟩:=p;have:=(oB d).2;exact nD (by omega) (by omega)
end Go.Proofs.YthapcchcahnfaaaGreatDoor
