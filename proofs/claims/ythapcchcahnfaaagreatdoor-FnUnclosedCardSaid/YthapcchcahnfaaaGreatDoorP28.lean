/- Part of the proof that laws.FnStrictIsLoose, laws.FnUnclosed, laws.FnReaderFails, laws.FnWithin, laws.FnSkip returns true for every argument. No conditions. -/
import Derived.Test.YthapcchcahnfaaaGreatDoorP02
import Derived.Test.YthapcchcahnfaaaGreatDoorP20
set_option linter.all false
set_option maxHeartbeats 8000000
set_option maxRecDepth 100000
namespace Go.Proofs.YthapcchcahnfaaaGreatDoor
open Go
theorem NN {o:cM} (e:o.ents=none) (q:Option UInt8) (g:Bool):∀ (n:Nat) (rest:Bs),rest.length≤n→∀ (b0 b1:UInt8) (a d r:Bs),bE o q g rest b0 b1 a=.ok (d,r)→d.length≤a.length+8*rest.length:=by
 intro n;induction n with
 | zero=>
  intro rest f b0 b1 a d r h;have:rest=[]:=tZ (by omega);subst this;unfold bE at h;split at h
  ·cases h
  ·split at h
   ·simp only [bT,bR] at h;rw [←h.1];omega
   ·cases h
 | succ n ih=>
  intro rest f b0 b1 a d r h;cases rest with
  | nil=>
   unfold bE at h;split at h
   ·cases h
   ·split at h
    ·simp only [bT,bR] at h;rw [←h.1];omega
    ·cases h
  | cons b t=>
   have k:t.length≤n:=by simp at f;omega
   simp only [gN];unfold bE at h;split at h
   ·split at h
    ·split at h
     ·simp only [bT,bR] at h;rw [←h.1,qQ];omega
     ·cases h
    ·cases h
   ·split at h
    ·split at h
     ·split at h
      ·simp only [bT,bR] at h;rw [←h.1];omega
      ·cases h
     ·cases h
    ·split at h
     ·split at h
      ·simp only [bT,bR] at h;rw [←h.1];omega
      ·cases h
     ·split at h
      ·split at h
       ·cases h
       ·rename_i c;have j:=eR (iE c);rw [e] at c;have i:=I5 c;have:=ih _ (by omega) _ _ _ _ _ h;rw [fY] at this;omega
       ·rename_i c;have j:=eR (iE c);have i:=rE c;split at h
        ·cases h
        ·have:=ih _ (by omega) _ _ _ _ _ h;rw [fY] at this;omega
      ·have:=ih _ k _ _ _ _ _ h;split at this
       ·rw [fY] at this;simp at this;omega
       ·split at this
        ·omega
        ·rw [fY] at this;simp at this;omega
theorem DX (s:Bs):(eP s).1.length≤s.length∧(eP s).2.length≤s.length:=by
 unfold eP;split
 ·simp
 ·rename_i b a h;have d:a.length≤s.length:=by
   have c:=(List.dropWhile_suffix (fun x:UInt8=>x != 58) (l:=s)).length_le;rw [h] at c;simp at c;omega
  have e:=(List.takeWhile_prefix (fun x:UInt8=>x != 58) (l:=s)).length_le;split
  ·simp
  ·exact ⟨e,d⟩
theorem tN {f:Bool} {l r:Bs} {nm:Bs×Bs} (h:cH f l=.ok (nm,r)):nm.1.length≤l.length∧nm.2.length≤l.length:=by
 obtain ⟨s,b,_,rfl⟩:=pN h;obtain ⟨c,_⟩:=EM b;have a:=pM l;rw [c] at a;have d:s.length≤l.length:=by rw [←a];simp
 have:=DX s;omega
def BC (N:Nat) (a:cZ):Prop:=a.1.length≤N∧a.2.1.length≤N∧a.2.2.length≤8*N
theorem F9 {o:cM} (a:o.ents=none) {l d r:Bs} (h:cS o l=.ok (d,r)):d.length≤8*l.length:=by
 unfold cS at h;split at h
 ·cases h
 ·rename_i q t;split at h
  ·have:=NN a _ _ t.length t (dD _) _ _ _ _ _ h;simp at this ⊢;omega
  ·split at h
   ·cases h
   ·split at h
    ·cases h
    ·simp only [bT] at h;have:=wR (q::t);rw [h] at this;have:=congrArg List.length this;simp at this ⊢;omega
theorem RL {o:cM} (d:o.ents=none) {l:Bs} {a:cZ} {r:Bs} (h:fO o l=.ok (a,r)):BC l.length a:=by
 unfold fO at h;split at h
 ·cases h
 ·rename_i nm j e;have c:=tN e;have n:=eR (kE e).1;have f:=eR (fH j);split at h
  ·cases h
  ·rename_i b k g;rw [g] at f;simp only [gN] at f;split at h
   ·split at h
    ·cases h
    ·rename_i v q i;simp only [bT,bR] at h;obtain ⟨rfl,_⟩:=h;have m:=F9 d i;have p:=eR (fH k);exact ⟨c.1,c.2,by simp only;omega⟩
   ·split at h
    ·cases h
    ·simp only [bT,bR] at h;obtain ⟨rfl,_⟩:=h;exact ⟨c.1,c.2,by simp only;omega⟩
theorem BC.mono {N M:Nat} {a:cZ} (h:BC N a) (e:N≤M):BC M a:=by
 obtain ⟨b,c,d⟩:=h;exact ⟨by omega,by omega,by omega⟩
theorem B9 {o:cM} (d:o.ents=none) (N:Nat):∀ {k:Nat} {rest:Bs} {acc c:List cZ} {em:Bool} {r:Bs},cQ o k rest acc=.ok (c,em,r)→rest.length≤N→(∀ a∈acc,BC N a)→∀ a∈c,BC N a
 | 0,_,_,_,_,_,h,_,_=>by unfold cQ at h;cases h
 | k+1,rest,acc,c,em,r,h,q,f=>by
  unfold cQ at h;have n:=eR (fH rest);split at h
  ·cases h
  ·rename_i b s l;rw [l] at n;split at h
   ·split at h
    ·cases h
    ·split at h
     ·simp only [bT,bR] at h;rw [←h.1];exact f
     ·cases h
   ·split at h
    ·simp only [bT,bR] at h;rw [←h.1];exact f
    ·split at h
     ·cases h
     ·rename_i a t i;have m:=RL d i;have p:=(oY i).2;refine B9 d N h (by omega) (fun j g=>?_);rcases List.mem_append.1 g with e|e
      ·exact f j e
      ·simp at e;subst e;exact m.mono (by omega)
def BD (N:Nat):aO→Prop
 | .start nm ats=>nm.1.length≤N∧nm.2.length≤N∧(∀ a∈ats,BC N a)∧ats.length≤N
 | .fin nm=>nm.1.length≤N∧nm.2.length≤N
 | _=>True
theorem LC {o:cM} (l:o.ents=none) {s u:St} {t:aO} {N:Nat} (h:dN o s=.ok (t,u)) (j:s.rest.length≤N) (f:∀ nm,s.toClose=some nm→nm.1.length≤N∧nm.2.length≤N) :
  BD N t∧∀ nm,u.toClose=some nm→nm.1.length≤N∧nm.2.length≤N:=by
 unfold dN at h;split at h
 ·cases h
 ·split at h
  ·rename_i nm m;simp only [bT,bR] at h;obtain ⟨rfl,rfl⟩:=h;exact ⟨f nm m,fun nm h=>by cases h⟩
  ·rename_i m;have k:∀ nm,s.toClose=some nm→nm.1.length≤N∧nm.2.length≤N:=f;rw [m] at k;split at h
   ·cases h
   ·rename_i b r E;rw [E] at j;simp only [gN] at j;split at h
    ·split at h
     ·cases h
     ·simp only [bT,bR] at h;obtain ⟨rfl,rfl⟩:=h;exact ⟨trivial,f⟩
    ·split at h
     ·cases h
     ·rename_i c I;simp only [gN] at j;split at h
      ·split at h
       ·cases h
       ·rename_i v p e;simp only [bT,bR] at h;obtain ⟨rfl,rfl⟩:=h;refine ⟨?_,f⟩;unfold kQ at e;split at e
        ·cases e
        ·rename_i nm H g;have:=tN g;split at e
         ·cases e
         ·split at e
          ·simp only [bT,bR] at e;obtain ⟨rfl,_⟩:=e;exact ⟨by omega,by omega⟩
          ·cases e
      ·split at h
       ·split at h
        ·cases h
        ·rename_i v p e;simp only [bT,bR] at h;obtain ⟨rfl,rfl⟩:=h;obtain ⟨_,x,y,rfl⟩:=KG e;exact ⟨trivial,f⟩
       ·split at h
        ·split at h
         ·cases h
         ·rename_i v p e;simp only [bT,bR] at h;obtain ⟨rfl,rfl⟩:=h;obtain ⟨_,D⟩:=BG e;exact ⟨by rcases D with ⟨d,rfl⟩|⟨d,rfl⟩|⟨d,rfl⟩<;>trivial,f⟩
        ·split at h
         ·cases h
         ·rename_i nm w em p e;simp only [bT,bR] at h;obtain ⟨rfl,rfl⟩:=h;have n:=(yN e).2;simp only [gN] at n;unfold eG at e;split at e
          ·cases e
          ·rename_i G H g;have z:=tN g;have A:=(kE g).2;simp only [gN] at z A;split at e
           ·cases e
           ·rename_i q i J B;simp only [bT,bR] at e;obtain ⟨⟨rfl,rfl⟩,rfl,rfl⟩:=e;have C:=B9 l N B (by omega) (fun a h=>by cases h);refine ⟨⟨by omega,by omega,C,by omega⟩,fun F h=>?_⟩;cases i
            ·cases h
            ·simp at h;subst h;exact ⟨by omega,by omega⟩
def GA:Option aO→Nat
 | none=>0
 | some (.fin _)=>2
 | some t=>4*t.wt+2
def St.mu2 (s:St):Nat:=s.mu+GA s.next
theorem wI {t:aO} (h:∃ nm,t=.fin nm):GA (some t)=2:=by obtain ⟨nm,rfl⟩:=h;rfl
theorem wJ {t:aO} (h:¬ ∃ nm,t=.fin nm):GA (some t)=4*t.wt+2:=by
 cases t with
 | fin nm=>exact absurd ⟨nm,rfl⟩ h
 | _=>rfl
theorem sJ {o:cM} {t e:aO} {s a:St} (h:bW o t s=.ok (e,a)):a.rest=s.rest∧a.next=s.next∧((∃ nm,t=.fin nm)→a.mu+3≤s.mu)∧((¬ ∃ nm,t=.fin nm)→a.mu≤s.mu+4*t.wt):=by
 obtain ⟨w1,k,f,l,m,b,g,i⟩:=l5 h;have j:=KH a;refine ⟨w1,f,fun c=>?_,fun c=>?_⟩
 ·have:=g c;unfold St.mu;rw [w1];omega
 ·have:=i c;have d:a.toClose=s.toClose:=by
   rcases b with b|⟨_,b⟩
   ·exact b
   ·exact absurd b c
  unfold St.mu;rw [w1,d];omega
theorem iK {s:St} (h:s.next=none):s.mu2=s.mu:=by unfold St.mu2;rw [h];rfl
theorem uT {fold:Bs → Bs → Bool} {o:cM} {s m:St} {t:aO} (h:stepL fold o s=.ok (t,m)):m.mu2 < s.mu2∧m.rest <:+ s.rest∧(o.raw=true → m.next=s.next):=by
  unfold stepL at h;split at h
  · have w:=(iB h).2.2.2.1
    exact ⟨by unfold St.mu2;rw [w];have:=(vQ h).1;omega,(vQ h).2.2.2,fun _=>w⟩
  · rename_i k
    refine ⟨?_,?_,fun x=>absurd x k⟩
    all_goals
      unfold hY at h;cases g:s.next with
      | some f=>
        rw [g] at h;simp only at h;have y:St.mu { s with next:=none }=s.mu:=rfl;split at h
        · obtain ⟨w1,c,d,i⟩:=sJ h
          first
            | (rw [w1];exact List.suffix_refl _)
            | (rw [iK c]
               unfold St.mu2;rw [g];by_cases a:∃ nm,f=.fin nm
               · have:=d a;rw [wI a];omega
               · have:=i a;rw [wJ a];omega)
        · split at h
          · obtain ⟨w1,c,d,i⟩:=sJ h
            first
              | (rw [w1];exact List.suffix_refl _)
              | (rw [iK c]
                 unfold St.mu2;rw [g];by_cases a:∃ nm,f=.fin nm
                 · have:=d a;rw [wI a];omega
                 · have:=i a;rw [wJ a];omega)
          · rename_i nm q
            obtain ⟨w1,c,d,i⟩:=sJ h;have n:=d ⟨nm,rfl⟩;have b:St.mu { ({ s with next:=none }:St) with next:=some f }=s.mu:=rfl
            first
              | (rw [w1];exact List.suffix_refl _)
              | (unfold St.mu2
                 rw [c,g];show _ + GA (some f) < _;rw [b] at n;omega)
      | none=>
        rw [g] at h;simp only at h;cases l:dN o s with
        | error e=>rw [l] at h;cases h
        | ok p=>
          obtain ⟨f,v⟩:=p;rw [l] at h;simp only at h;obtain ⟨z,r,A,u⟩:=vQ l;have j:v.next=none:=(iB l).2.2.2.1.trans g;split at h
          · obtain ⟨w1,c,d,i⟩:=sJ h
            first
              | (rw [w1];exact u)
              | (rw [iK (c.trans j),iK g]
                 by_cases a:∃ nm,f=.fin nm
                 · have:=d a;omega
                 · have:=i a;have:=r a;omega)
          · split at h
            · obtain ⟨w1,c,d,i⟩:=sJ h
              first
                | (rw [w1];exact u)
                | (rw [iK (c.trans j),iK g]
                   by_cases a:∃ nm,f=.fin nm
                   · have:=d a;omega
                   · have:=i a;have:=r a;omega)
            · rename_i nm q
              obtain ⟨w1,c,d,i⟩:=sJ h;have n:=d ⟨nm,rfl⟩;have b:St.mu { v with next:=some f }=v.mu:=rfl
              first
                | (rw [w1];exact u)
                | (rw [iK g]
                   unfold St.mu2;rw [c];show _ + GA (some f) < _;rw [b] at n;by_cases a:∃ nm,f=.fin nm
                   · rw [wI a];omega
                   · have:=r a;rw [wJ a];omega)
theorem xJ {o:cM} {t:aO} {s i:St} {nm:Bs×Bs} {f:List cZ} (h:bW o t s=.ok (.start nm f,i)):∃ e c,t=.start e c∧f.length=c.length:=by
 cases t with
 | start e c=>
  unfold bW at h;simp only [bT,bR,aO.start.injEq] at h;obtain ⟨⟨_,rfl⟩,_⟩:=h;exact ⟨_,_,rfl,by simp⟩
 | fin e=>
  have:=(l5 h).2.2.2.2.1.1 ⟨_,rfl⟩;obtain ⟨_,g⟩:=this;cases g
 | text d=>unfold bW at h;simp at h
 | comment d=>unfold bW at h;simp at h
 | dir d=>unfold bW at h;simp at h
 | proc a b=>unfold bW at h;simp at h
theorem wK {fold:Bs→Bs→Bool} {o:cM} (v:o.ents=none) {s B:St} {nm:Bs×Bs} {b:List cZ} {N:Nat} (h:stepL fold o s=.ok (.start nm b,B)) (z:s.rest.length≤N) (A:∀ nm,s.toClose=some nm→nm.1.length≤N∧nm.2.length≤N) (w:∀ j,s.next=some j→BD N j):b.length≤N:=by
 have c:∀ {t i},dN o s=.ok (t,i)→BD N t:=fun h=>(LC v h z A).1;have k:∀ {t:aO},BD N t→∀ {f a},t=.start f a→a.length≤N:=by
  rintro t h f a rfl;exact h.2.2.2
 have d:∀ {t:aO} {i m:St},BD N t→bW o t i=.ok (.start nm b,m)→b.length≤N:=by
  intro t i m x r;obtain ⟨f,a,u,y⟩:=xJ r;rw [y];exact k x u
 have g:∀ {l:Bs×Bs} {i m:St},bW o (.fin l) i=.ok (.start nm b,m)→b.length≤N:=by
  intro l i m r;obtain ⟨f,a,u,_⟩:=xJ r;cases u
 unfold stepL at h;split at h
 ·exact k (c h) rfl
 ·unfold hY at h;cases n:s.next with
  | some j=>
   rw [n] at h;simp only at h;split at h
   ·exact d (w j n) h
   ·split at h
    ·exact d (w j n) h
    ·exact g h
  | none=>
   rw [n] at h;simp only at h;cases q:dN o s with
   | error e=>rw [q] at h;cases h
   | ok p=>
    obtain ⟨j,i⟩:=p;rw [q] at h;simp only at h;split at h
    ·exact d (c q) h
    ·split at h
     ·exact d (c q) h
     ·exact g h
end Go.Proofs.YthapcchcahnfaaaGreatDoor
