/- Part of the proof that laws.FnWithin returns true for every argument. No conditions. -/
import Derived.Test.YthapcchcahnfaaaGreatDoorQ02
set_option linter.all false
set_option maxHeartbeats 8000000
set_option maxRecDepth 100000
namespace Go.Proofs.YthapcchcahnfaaaGreatDoor
open Go
theorem x5 (a:Bs→Option Bs) (k v:Bs):gT (gT a k (some v)) k (if (a k).isSome=true then some ((a k).getD []) else none)=a:=by
 funext x
 unfold gT;split
 ·rename_i h;subst h;cases a x<;>simp
 ·rfl
theorem q9:∀ (b:List cV) (a:List gZ) (c:Bs→Option Bs),fD (dR b a c).1 (dR b a c).2=fD a c
 | [],a,c=>rfl
 | (sp,loc,v)::b,a,c=>by
  unfold dR;by_cases d:sp=bE
  ·have e:¬ (sp=[]∧loc=bE):=by rintro ⟨h,_⟩;rw [d] at h;cases h
   simp only [aT d,aM e];rw [q9 b];conv=>lhs;unfold fD
   simp only [Nat.one_ne_zero,if_false];rw [x5]
  ·by_cases e:sp=[]∧loc=bE
   ·simp only [aM d,aT e];rw [q9 b];conv=>lhs;unfold fD
    simp only [Nat.one_ne_zero,if_false];rw [x5]
   ·simp only [aM d,aM e];exact q9 b a c
theorem GB (o:cP) (a:Bs→Option Bs) (nm:Bs×Bs) (b:Bool):(cQ o a nm b).2=nm.2:=by
 unfold cQ;repeat' split
 all_goals simp only []
 all_goals repeat' split
 all_goals rfl
end Go.Proofs.YthapcchcahnfaaaGreatDoor
