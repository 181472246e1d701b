/- Part of the proof that laws.FnWithin returns true for every argument. No conditions. -/
import Derived.Test.YthapcchcahnfaaaGreatDoorQ02
import Derived.Test.YthapcchcahnfaaaGreatDoorQ20
set_option linter.all false
set_option maxHeartbeats 8000000
set_option maxRecDepth 100000
namespace Go.Proofs.YthapcchcahnfaaaGreatDoor
open Go
theorem LP {o:cP} (e:o.ents=none) (q:Option UInt8) (g:Bool):∀ (n:Nat) (rest:Bs),rest.length≤n→∀ (b0 b1:UInt8) (a d r:Bs),bD o q g rest b0 b1 a=.ok (d,r)→d.length≤a.length+8*rest.length:=by
 intro n;induction n with
 | zero=>
  intro rest f b0 b1 a d r h;have:rest=[]:=tZ (by omega);subst this;unfold bD at h;split at h
  ·cases h
  ·split at h
   ·simp only [bT,bP] at h;rw [←h.1];omega
   ·cases h
 | succ n ih=>
  intro rest f b0 b1 a d r h;cases rest with
  | nil=>
   unfold bD at h;split at h
   ·cases h
   ·split at h
    ·simp only [bT,bP] at h;rw [←h.1];omega
    ·cases h
  | cons b t=>
   have k:t.length≤n:=by simp at f;omega
   simp only [gF];unfold bD at h;split at h
   ·split at h
    ·split at h
     ·simp only [bT,bP] at h;rw [←h.1,rJ];omega
     ·cases h
    ·cases h
   ·split at h
    ·split at h
     ·split at h
      ·simp only [bT,bP] at h;rw [←h.1];omega
      ·cases h
     ·cases h
    ·split at h
     ·split at h
      ·simp only [bT,bP] at h;rw [←h.1];omega
      ·cases h
     ·split at h
      ·split at h
       ·cases h
       ·rename_i c;have j:=eI (gW c);rw [e] at c;have i:=GM c;have:=ih _ (by omega) _ _ _ _ _ h;rw [fU] at this;omega
       ·rename_i c;have j:=eI (gW c);have i:=qC c;split at h
        ·cases h
        ·have:=ih _ (by omega) _ _ _ _ _ h;rw [fU] at this;omega
      ·have:=ih _ k _ _ _ _ _ h;split at this
       ·rw [fU] at this;simp at this;omega
       ·split at this
        ·omega
        ·rw [fU] at this;simp at this;omega
theorem CE (s:Bs):(eG s).1.length≤s.length∧(eG s).2.length≤s.length:=by
 unfold eG;split
 ·simp
 ·rename_i b a h;have d:a.length≤s.length:=by
   have c:=(List.dropWhile_suffix (fun x:UInt8=>x != 58) (l:=s)).length_le;rw [h] at c;simp at c;omega
  have e:=(List.takeWhile_prefix (fun x:UInt8=>x != 58) (l:=s)).length_le;split
  ·simp
  ·exact ⟨e,d⟩
theorem sI {f:Bool} {l r:Bs} {nm:Bs×Bs} (h:bZ f l=.ok (nm,r)):nm.1.length≤l.length∧nm.2.length≤l.length:=by
 obtain ⟨s,b,_,rfl⟩:=oU h;obtain ⟨c,_⟩:=C4 b;have a:=oS l;rw [c] at a;have d:s.length≤l.length:=by rw [←a];simp
 have:=CE s;omega
def zU (N:Nat) (a:cV):Prop:=a.1.length≤N∧a.2.1.length≤N∧a.2.2.length≤8*N
theorem EN {o:cP} (a:o.ents=none) {l d r:Bs} (h:cK o l=.ok (d,r)):d.length≤8*l.length:=by
 unfold cK at h;split at h
 ·cases h
 ·rename_i q t;split at h
  ·have:=LP a _ _ t.length t (dC _) _ _ _ _ _ h;simp at this ⊢;omega
  ·split at h
   ·cases h
   ·split at h
    ·cases h
    ·simp only [bT] at h;have:=uX (q::t);rw [h] at this;have:=congrArg List.length this;simp at this ⊢;omega
theorem PI {o:cP} (d:o.ents=none) {l:Bs} {a:cV} {r:Bs} (h:fC o l=.ok (a,r)):zU l.length a:=by
 unfold fC at h;split at h
 ·cases h
 ·rename_i nm j e;have c:=sI e;have n:=eI (jL e).1;have f:=eI (eV j);split at h
  ·cases h
  ·rename_i b k g;rw [g] at f;simp only [gF] at f;split at h
   ·split at h
    ·cases h
    ·rename_i v q i;simp only [bT,bP] at h;obtain ⟨rfl,_⟩:=h;have m:=EN d i;have p:=eI (eV k);exact ⟨c.1,c.2,by simp only;omega⟩
   ·split at h
    ·cases h
    ·simp only [bT,bP] at h;obtain ⟨rfl,_⟩:=h;exact ⟨c.1,c.2,by simp only;omega⟩
theorem zU.mono {N M:Nat} {a:cV} (h:zU N a) (e:N≤M):zU M a:=by
 obtain ⟨b,c,d⟩:=h;exact ⟨by omega,by omega,by omega⟩
theorem A1 {o:cP} (d:o.ents=none) (N:Nat):∀ {k:Nat} {rest:Bs} {acc c:List cV} {em:Bool} {r:Bs},cI o k rest acc=.ok (c,em,r)→rest.length≤N→(∀ a∈acc,zU N a)→∀ a∈c,zU N a
 | 0,_,_,_,_,_,h,_,_=>by unfold cI at h;cases h
 | k+1,rest,acc,c,em,r,h,q,f=>by
  unfold cI at h;have n:=eI (eV rest);split at h
  ·cases h
  ·rename_i b s l;rw [l] at n;split at h
   ·split at h
    ·cases h
    ·split at h
     ·simp only [bT,bP] at h;rw [←h.1];exact f
     ·cases h
   ·split at h
    ·simp only [bT,bP] at h;rw [←h.1];exact f
    ·split at h
     ·cases h
     ·rename_i a t i;have m:=PI d i;have p:=(oB i).2;refine A1 d N h (by omega) (fun j g=>?_);rcases List.mem_append.1 g with e|e
      ·exact f j e
      ·simp at e;subst e;exact m.mono (by omega)
def zV (N:Nat):aU→Prop
 | .start nm ats=>nm.1.length≤N∧nm.2.length≤N∧(∀ a∈ats,zU N a)∧ats.length≤N
 | .fin nm=>nm.1.length≤N∧nm.2.length≤N
 | _=>True
theorem JG {o:cP} (l:o.ents=none) {s u:St} {t:aU} {N:Nat} (h:eC o s=.ok (t,u)) (j:s.rest.length≤N) (f:∀ nm,s.toClose=some nm→nm.1.length≤N∧nm.2.length≤N) :
  zV N t∧∀ nm,u.toClose=some nm→nm.1.length≤N∧nm.2.length≤N:=by
 unfold eC at h;split at h
 ·cases h
 ·split at h
  ·rename_i nm m;simp only [bT,bP] at h;obtain ⟨rfl,rfl⟩:=h;exact ⟨f nm m,fun nm h=>by cases h⟩
  ·rename_i m;have k:∀ nm,s.toClose=some nm→nm.1.length≤N∧nm.2.length≤N:=f;rw [m] at k;split at h
   ·cases h
   ·rename_i b r E;rw [E] at j;simp only [gF] at j;split at h
    ·split at h
     ·cases h
     ·simp only [bT,bP] at h;obtain ⟨rfl,rfl⟩:=h;exact ⟨trivial,f⟩
    ·split at h
     ·cases h
     ·rename_i c I;simp only [gF] at j;split at h
      ·split at h
       ·cases h
       ·rename_i v p e;simp only [bT,bP] at h;obtain ⟨rfl,rfl⟩:=h;refine ⟨?_,f⟩;unfold jW at e;split at e
        ·cases e
        ·rename_i nm H g;have:=sI g;split at e
         ·cases e
         ·split at e
          ·simp only [bT,bP] at e;obtain ⟨rfl,_⟩:=e;exact ⟨by omega,by omega⟩
          ·cases e
      ·split at h
       ·split at h
        ·cases h
        ·rename_i v p e;simp only [bT,bP] at h;obtain ⟨rfl,rfl⟩:=h;obtain ⟨_,x,y,rfl⟩:=IP e;exact ⟨trivial,f⟩
       ·split at h
        ·split at h
         ·cases h
         ·rename_i v p e;simp only [bT,bP] at h;obtain ⟨rfl,rfl⟩:=h;obtain ⟨_,D⟩:=zY e;exact ⟨by rcases D with ⟨d,rfl⟩|⟨d,rfl⟩|⟨d,rfl⟩<;>trivial,f⟩
        ·split at h
         ·cases h
         ·rename_i nm w em p e;simp only [bT,bP] at h;obtain ⟨rfl,rfl⟩:=h;have n:=(xF e).2;simp only [gF] at n;unfold dX at e;split at e
          ·cases e
          ·rename_i G H g;have z:=sI g;have A:=(jL g).2;simp only [gF] at z A;split at e
           ·cases e
           ·rename_i q i J B;simp only [bT,bP] at e;obtain ⟨⟨rfl,rfl⟩,rfl,rfl⟩:=e;have C:=A1 l N B (by omega) (fun a h=>by cases h);refine ⟨⟨by omega,by omega,C,by omega⟩,fun F h=>?_⟩;cases i
            ·cases h
            ·simp at h;subst h;exact ⟨by omega,by omega⟩
def EO:Option aU→Nat
 | none=>0
 | some (.fin _)=>2
 | some t=>4*t.wt+2
def St.mu2 (s:St):Nat:=s.mu+EO s.next
theorem uQ {t:aU} (h:∃ nm,t=.fin nm):EO (some t)=2:=by obtain ⟨nm,rfl⟩:=h;rfl
theorem uR {t:aU} (h:¬ ∃ nm,t=.fin nm):EO (some t)=4*t.wt+2:=by
 cases t with
 | fin nm=>exact absurd ⟨nm,rfl⟩ h
 | _=>rfl
theorem rC {o:cP} {t e:aU} {s a:St} (h:cG o t s=.ok (e,a)):a.rest=s.rest∧a.next=s.next∧((∃ nm,t=.fin nm)→a.mu+3≤s.mu)∧((¬ ∃ nm,t=.fin nm)→a.mu≤s.mu+4*t.wt):=by
 obtain ⟨w1,k,f,l,m,b,g,i⟩:=oD h;have j:=IQ a;refine ⟨w1,f,fun c=>?_,fun c=>?_⟩
 ·have:=g c;unfold St.mu;rw [w1];omega
 ·have:=i c;have d:a.toClose=s.toClose:=by
   rcases b with b|⟨_,b⟩
   ·exact b
   ·exact absurd b c
  unfold St.mu;rw [w1,d];omega
theorem lC {s:St} (h:s.next=none):s.mu2=s.mu:=by unfold St.mu2;rw [h];rfl
theorem PJ {fold:Bs → Bs → Bool} {o:cP} {s m:St} {t:aU} (h:fT fold o s=.ok (t,m)):m.mu2 < s.mu2∧m.rest <:+ s.rest∧(o.raw=true → m.next=s.next):=by
  unfold fT at h;split at h
  · have w:=(iN h).2.2.2.1
    exact ⟨by unfold St.mu2;rw [w];have:=(uA h).1;omega,(uA h).2.2.2,fun _=>w⟩
  · rename_i k
    refine ⟨?_,?_,fun x=>absurd x k⟩
    all_goals
      unfold kR at h;cases g:s.next with
      | some f=>
        rw [g] at h;simp only at h;have y:St.mu { s with next:=none }=s.mu:=rfl;split at h
        · obtain ⟨w1,c,d,i⟩:=rC h
          first
            | (rw [w1];exact List.suffix_refl _)
            | (rw [lC c]
               unfold St.mu2;rw [g];by_cases a:∃ nm,f=.fin nm
               · have:=d a;rw [uQ a];omega
               · have:=i a;rw [uR a];omega)
        · split at h
          · obtain ⟨w1,c,d,i⟩:=rC h
            first
              | (rw [w1];exact List.suffix_refl _)
              | (rw [lC c]
                 unfold St.mu2;rw [g];by_cases a:∃ nm,f=.fin nm
                 · have:=d a;rw [uQ a];omega
                 · have:=i a;rw [uR a];omega)
          · rename_i nm q
            obtain ⟨w1,c,d,i⟩:=rC h;have n:=d ⟨nm,rfl⟩;have b:St.mu { ({ s with next:=none }:St) with next:=some f }=s.mu:=rfl
            first
              | (rw [w1];exact List.suffix_refl _)
              | (unfold St.mu2
                 rw [c,g];show _ + EO (some f) < _;rw [b] at n;omega)
      | none=>
        rw [g] at h;simp only at h;cases l:eC o s with
        | error e=>rw [l] at h;cases h
        | ok p=>
          obtain ⟨f,v⟩:=p;rw [l] at h;simp only at h;obtain ⟨z,r,A,u⟩:=uA l;have j:v.next=none:=(iN l).2.2.2.1.trans g;split at h
          · obtain ⟨w1,c,d,i⟩:=rC h
            first
              | (rw [w1];exact u)
              | (rw [lC (c.trans j),lC g]
                 by_cases a:∃ nm,f=.fin nm
                 · have:=d a;omega
                 · have:=i a;have:=r a;omega)
          · split at h
            · obtain ⟨w1,c,d,i⟩:=rC h
              first
                | (rw [w1];exact u)
                | (rw [lC (c.trans j),lC g]
                   by_cases a:∃ nm,f=.fin nm
                   · have:=d a;omega
                   · have:=i a;have:=r a;omega)
            · rename_i nm q
              obtain ⟨w1,c,d,i⟩:=rC h;have n:=d ⟨nm,rfl⟩;have b:St.mu { v with next:=some f }=v.mu:=rfl
              first
                | (rw [w1];exact u)
                | (rw [lC g]
                   unfold St.mu2;rw [c];show _ + EO (some f) < _;rw [b] at n;by_cases a:∃ nm,f=.fin nm
                   · rw [uQ a];omega
                   · have:=r a;rw [uR a];omega)
theorem vW {o:cP} {t:aU} {s i:St} {nm:Bs×Bs} {f:List cV} (h:cG o t s=.ok (.start nm f,i)):∃ e c,t=.start e c∧f.length=c.length:=by
 cases t with
 | start e c=>
  unfold cG at h;simp only [bT,bP,aU.start.injEq] at h;obtain ⟨⟨_,rfl⟩,_⟩:=h;exact ⟨_,_,rfl,by simp⟩
 | fin e=>
  have:=(oD h).2.2.2.2.1.1 ⟨_,rfl⟩;obtain ⟨_,g⟩:=this;cases g
 | text d=>unfold cG at h;simp at h
 | comment d=>unfold cG at h;simp at h
 | dir d=>unfold cG at h;simp at h
 | proc a b=>unfold cG at h;simp at h
theorem A2 {fold:Bs→Bs→Bool} {o:cP} (v:o.ents=none) {s B:St} {nm:Bs×Bs} {b:List cV} {N:Nat} (h:fT fold o s=.ok (.start nm b,B)) (z:s.rest.length≤N) (A:∀ nm,s.toClose=some nm→nm.1.length≤N∧nm.2.length≤N) (w:∀ j,s.next=some j→zV N j):b.length≤N:=by
 have c:∀ {t i},eC o s=.ok (t,i)→zV N t:=fun h=>(JG v h z A).1;have k:∀ {t:aU},zV N t→∀ {f a},t=.start f a→a.length≤N:=by
  rintro t h f a rfl;exact h.2.2.2
 have d:∀ {t:aU} {i m:St},zV N t→cG o t i=.ok (.start nm b,m)→b.length≤N:=by
  intro t i m x r;obtain ⟨f,a,u,y⟩:=vW r;rw [y];exact k x u
 have g:∀ {l:Bs×Bs} {i m:St},cG o (.fin l) i=.ok (.start nm b,m)→b.length≤N:=by
  intro l i m r;obtain ⟨f,a,u,_⟩:=vW r;cases u
 unfold fT at h;split at h
 ·exact k (c h) rfl
 ·unfold kR at h;cases n:s.next with
  | some j=>
   rw [n] at h;simp only at h;split at h
   ·exact d (w j n) h
   ·split at h
    ·exact d (w j n) h
    ·exact g h
  | none=>
   rw [n] at h;simp only at h;cases q:eC o s with
   | error e=>rw [q] at h;cases h
   | ok p=>
    obtain ⟨j,i⟩:=p;rw [q] at h;simp only at h;split at h
    ·exact d (c q) h
    ·split at h
     ·exact d (c q) h
     ·exact g h
end Go.Proofs.YthapcchcahnfaaaGreatDoor
