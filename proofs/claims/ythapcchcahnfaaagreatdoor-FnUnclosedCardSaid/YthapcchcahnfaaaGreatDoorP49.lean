/- Part of the proof that laws.FnStrictIsLoose, laws.FnUnclosed, laws.FnReaderFails, laws.FnWithin, laws.FnSkip returns true for every argument. No conditions. -/
import Derived.Test.YthapcchcahnfaaaGreatDoorP16
set_option linter.all false
set_option maxHeartbeats 8000000
set_option maxRecDepth 100000
namespace Go.Proofs.YthapcchcahnfaaaGreatDoor
open Go
theorem J8 {o:cM} {t i:aO} {s g:St} (h:bW o t s=.ok (i,g)) (a:Bs) (j:Bool):bW o t { s with rest:=a,ended:=j }=.ok (i,{ g with rest:=a,ended:=j }):=by
 unfold bW at h ⊢;split
 ·rename_i nm l;simp only [bT,bR] at h ⊢;obtain ⟨rfl,rfl⟩:=h;exact ⟨rfl,rfl⟩
 ·rename_i nm;simp only [kR] at h ⊢;split
  ·rename_i f;rw [f] at h;cases h
  ·rename_i e k f;rw [f] at h;simp only at h;split
   ·rename_i c;rw [aV c] at h;cases h
   ·rename_i c;rw [aN c] at h;split
    ·rename_i d;rw [aV d] at h;split
     ·rename_i b;rw [aV b] at h;cases h
     ·rename_i b;rw [aN b] at h;simp only [bT,bR] at h ⊢;obtain ⟨rfl,rfl⟩:=h;exact ⟨rfl,rfl⟩
    ·rename_i d;rw [aN d] at h;split
     ·rename_i b;rw [aV b] at h;cases h
     ·rename_i b;rw [aN b] at h;simp only [bT,bR] at h ⊢;obtain ⟨rfl,rfl⟩:=h;exact ⟨rfl,rfl⟩
 ·rename_i m c d;have b:t=i∧s=g:=by
   cases t<;>first
    | exact absurd rfl (c _ _)
    | exact absurd rfl (d _)
    | (simp only [bT,bR] at h;exact h)
  obtain ⟨rfl,rfl⟩:=b;rfl
end Go.Proofs.YthapcchcahnfaaaGreatDoor
