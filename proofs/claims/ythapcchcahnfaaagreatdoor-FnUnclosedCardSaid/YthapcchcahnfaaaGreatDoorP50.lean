/- Part of the proof that laws.FnStrictIsLoose, laws.FnUnclosed, laws.FnReaderFails, laws.FnWithin, laws.FnSkip returns true for every argument. No conditions. -/
import Derived.Test.YthapcchcahnfaaaGreatDoorP16
import Derived.Test.YthapcchcahnfaaaGreatDoorP02
import Derived.Test.YthapcchcahnfaaaGreatDoorP49
import Derived.Test.YthapcchcahnfaaaGreatDoorP22
set_option linter.all false
set_option maxHeartbeats 8000000
set_option maxRecDepth 100000
namespace Go.Proofs.YthapcchcahnfaaaGreatDoor
open Go
theorem lT {z:Bs} {b:UInt8} {r:Bs}:∀ {a:Bs},aT a=b::r→aT (a++z)=b::(r++z)
 | [],h=>by simp [aT] at h
 | c::a,h=>by
  rw [jJ];unfold aT at h ⊢;by_cases d:mG c=true
  ·rw [aV d] at h ⊢;exact lT h
  ·rw [aN d] at h ⊢;simp only [List.cons.injEq] at h;rw [h.1,h.2]
theorem qK {z:Bs} {b:UInt8} {r:Bs}:∀ {a n:Bs},aD a=(n,b::r)→aD (a++z)=(n,b::(r++z))
 | [],n,h=>by simp [aD] at h
 | c::a,n,h=>by
  rw [jJ];unfold aD at h ⊢;by_cases d:dC c=true
  ·rw [aV d] at h ⊢;simp only [bR] at h;have e:aD a=((aD a).1,b::r):=by rw [←h.2]
   rw [qK e,h.1]
  ·rw [aN d] at h ⊢;simp only [bR,List.cons.injEq] at h;rw [h.1,h.2.1,h.2.2]
theorem xR {d:Bool} {z:Bs} {b:UInt8} {r:Bs}:∀ {a n:Bs},bQ d a=(n,b::r)→bQ d (a++z)=(n,b::(r++z))
 | [],n,h=>by simp [bQ] at h
 | c::a,n,h=>by
  rw [jJ];unfold bQ at h ⊢;by_cases e:fI d c=true
  ·rw [aV e] at h ⊢;simp only [bR] at h;have f:bQ d a=((bQ d a).1,b::r):=by rw [←h.2]
   rw [xR f,h.1]
  ·rw [aN e] at h ⊢;simp only [bR,List.cons.injEq] at h;rw [h.1,h.2.1,h.2.2]
theorem xS {z:Bs} {b:UInt8} {r:Bs}:∀ {a n:Bs},eJ a=(n,b::r)→eJ (a++z)=(n,b::(r++z))
 | [],n,h=>by simp [eJ] at h
 | c::a,n,h=>by
  rw [jJ];unfold eJ at h ⊢;by_cases d:pK c=true
  ·rw [aV d] at h ⊢;simp only [bR] at h;have e:eJ a=((eJ a).1,b::r):=by rw [←h.2]
   rw [xS e,h.1]
  ·rw [aN d] at h ⊢;simp only [bR,List.cons.injEq] at h;rw [h.1,h.2.1,h.2.2]
theorem CL {f:Bool} {a z n r:Bs} (h:eE f a=.ok (n,r)):r≠[]∧eE f (a++z)=.ok (n,r++z):=by
 unfold eE at h;split at h
 ·cases h
 ·rename_i j;cases i:(aD a).2 with
  | nil=>exact absurd i j
  | cons b q=>
   have c:aD a=((aD a).1,b::q):=by rw [←i]
   have d:=qK (z:=z) c;split at h
   ·cases h
   ·rename_i e;split at h
    ·rename_i g;simp only [bT] at h;rw [h] at c d e g;simp only [bR] at c d;obtain ⟨_,rfl⟩:=c;refine ⟨by simp,?_⟩;unfold eE;rw [d];rw [aN (by simp),aN e,aV g];simp
    ·cases h
theorem rZ {f:Bool} {a z r:Bs} {nm:Bs×Bs} (h:cH f a=.ok (nm,r)):r≠[]∧cH f (a++z)=.ok (nm,r++z):=by
 unfold cH at h;cases b:eE f a with
 | error e=>rw [b] at h;cases h
 | ok p=>
  obtain ⟨s,q⟩:=p;obtain ⟨c,d⟩:=CL (z:=z) b;rw [b] at h;simp only at h;split at h
  ·cases h
  ·rename_i g;simp only [bT,bR] at h;obtain ⟨rfl,rfl⟩:=h;refine ⟨c,?_⟩;unfold cH;rw [d];simp only [aN g]
theorem AW {fails c:Bool} {pre a z d r:Bs} {t:Option Bs} (h:eA fails c pre a=.ok (d,t,r)):eA fails c pre (a++z)=.ok (d,t,r++z):=by
 unfold eA at h;cases e:(bQ c a).2 with
 | nil=>rw [e] at h;cases h
 | cons b q=>
  have g:bQ c a=((bQ c a).1,b::q):=by rw [←e]
  have i:=xR (z:=z) g;rw [e] at h;simp only at h;unfold eA;rw [i];simp only;by_cases f:b=59
  ·rw [aV f] at h ⊢;simp only [bT,bR] at h ⊢;exact ⟨h.1,h.2.1,by rw [h.2.2]⟩
  ·rw [aN f] at h ⊢;simp only [bT,bR] at h ⊢;exact ⟨h.1,h.2.1,by rw [←h.2.2];rfl⟩
theorem G3 {fails:Bool} {ents:Option (Bs→Option Bs)} {a z f r:Bs} {t:Option Bs} (h:hH fails ents a=.ok (f,t,r)):hH fails ents (a++z)=.ok (f,t,r++z):=by
 cases a with
 | nil=>unfold hH at h;cases h
 | cons c a=>
  rw [jJ];unfold hH at h ⊢;by_cases k:c=35
  ·simp only [aV k] at h ⊢;cases a with
   | nil=>cases h
   | cons d a2=>
    simp only [jJ] at h ⊢;by_cases l:d=120
    ·simp only [aV l] at h ⊢;cases a2 with
     | nil=>cases h
     | cons e a3=>
      simp only [jJ] at h ⊢;have:=AW (z:=z) h;simpa using this
    ·simp only [aN l] at h ⊢;have:=AW (z:=z) h;simpa using this
  ·simp only [aN k] at h ⊢;cases g:(aD (c::a)).2 with
   | nil=>rw [g] at h;cases h
   | cons b q=>
    have m:aD (c::a)=((aD (c::a)).1,b::q):=by rw [←g]
    have i:=qK (z:=z) m;rw [jJ] at i;rw [g] at h;simp only at h;rw [i];simp only;by_cases j:b=59
    ·rw [aV j] at h ⊢;simp only [bT,bR] at h ⊢;exact ⟨h.1,h.2.1,by rw [h.2.2]⟩
    ·rw [aN j] at h ⊢;simp only [bT,bR] at h ⊢;exact ⟨h.1,h.2.1,by rw [←h.2.2];rfl⟩
theorem wN (o:cM) (q:Option UInt8) (s:Bool) (z:Bs):∀ (n:Nat) (a:Bs),a.length≤n→∀ (b0 b1:UInt8) (e d r:Bs),bE o q s a b0 b1 e=.ok (d,r)→(r≠[]∨s=true∨(q=none∧s=false∧∃ t,z=60::t))→bE o q s (a++z) b0 b1 e=.ok (d,r++z):=by
 intro n;induction n with
 | zero=>
  intro a B b0 b1 e d r h j;have:a=[]:=tZ (by omega);subst this;rw [bE.eq_def] at h;simp only at h;by_cases m:s=true
  ·rw [aV m] at h;cases h
  ·rw [aN m] at h;by_cases p:bM e=true
   ·rw [aV p] at h;simp only [bT,bR] at h;obtain ⟨rfl,rfl⟩:=h;rcases j with j|j|⟨rfl,rfl,t,rfl⟩
    ·exact absurd rfl j
    ·exact absurd j m
    ·rw [List.nil_append,bE.eq_def];simp only;rw [aN (by simp),aV (by simp)];simp [p]
   ·rw [aN p] at h;cases h
 | succ n ih=>
  intro a B b0 b1 e d r h j;cases a with
  | nil=>exact ih [] (by simp) b0 b1 e d r h j
  | cons b a=>
   have w:a.length≤n:=by simp at B;omega
   rw [jJ];rw [bE.eq_def] at h;rw [bE.eq_def];simp only at h ⊢;split
   ·rename_i u;rw [aV u] at h;split
    ·rename_i k;rw [aV k] at h;split
     ·rename_i f;rw [aV f] at h;simp only [bT,bR] at h ⊢;exact ⟨h.1,by rw [h.2]⟩
     ·rename_i f;rw [aN f] at h;cases h
    ·rename_i k;rw [aN k] at h;cases h
   ·rename_i u;rw [aN u] at h;split
    ·rename_i k;rw [aV k] at h;split
     ·rename_i f;rw [aV f] at h;split
      ·rename_i g;rw [aV g] at h;simp only [bT,bR] at h ⊢;exact ⟨h.1,by rw [←h.2];rfl⟩
      ·rename_i g;rw [aN g] at h;cases h
     ·rename_i f;rw [aN f] at h;cases h
    ·rename_i k;rw [aN k] at h;split
     ·rename_i f;rw [aV f] at h;split
      ·rename_i g;rw [aV g] at h;simp only [bT,bR] at h ⊢;exact ⟨h.1,by rw [h.2]⟩
      ·rename_i g;rw [aN g] at h;cases h
     ·rename_i f;rw [aN f] at h;split
      ·rename_i g;rw [aV g] at h;split at h
       ·cases h
       ·rename_i A t y i;have l:=G3 (z:=z) i;have v:=ih y (by have:=eR (iE i);omega) _ _ _ _ _ h j;split
        ·rename_i c;rw [l] at c;cases c
        ·rename_i c;rw [l] at c;simp only [bT,bR,kD] at c;obtain ⟨_,rfl,rfl⟩:=c;exact v
        ·rename_i c;rw [l] at c;simp only [bT,bR] at c;cases c.2.1
       ·rename_i A y i;have l:=G3 (z:=z) i;split at h
        ·cases h
        ·rename_i x;have v:=ih y (by have:=eR (iE i);omega) _ _ _ _ _ h j;split
         ·rename_i c;rw [l] at c;cases c
         ·rename_i c;rw [l] at c;simp only [bT,bR] at c;cases c.2.1
         ·rename_i c;rw [l] at c;simp only [bT,bR] at c;obtain ⟨rfl,_,rfl⟩:=c;rw [aN x];exact v
      ·rename_i g;rw [aN g] at h;exact ih a w _ _ _ _ _ h j
theorem EC {o:cM} {a z d r:Bs} (h:cS o a=.ok (d,r)) (j:r≠[]):cS o (a++z)=.ok (d,r++z):=by
 cases a with
 | nil=>unfold cS at h;cases h
 | cons q a=>
  rw [jJ];unfold cS at h ⊢;(try simp only at h ⊢)
  by_cases g:q=34∨q=39
  ·rw [aV g] at h ⊢;exact wN o _ _ z a.length a (dD _) _ _ _ _ _ h (aH j)
  ·rw [aN g] at h ⊢;by_cases i:o.strict=true
   ·rw [aV i] at h;cases h
   ·rw [aN i] at h ⊢;cases f:(eJ (q::a)).2 with
    | nil=>rw [f] at h;cases h
    | cons b t=>
     have c:eJ (q::a)=((eJ (q::a)).1,b::t):=by rw [←f]
     have e:=xS (z:=z) c;rw [jJ] at e;rw [f] at h;simp only [bT] at h;rw [h] at c e;simp only [bR] at c;rw [e];simp only;rw [c.2];rfl
theorem OI {o:cM} {a z r:Bs} {t:cZ} (h:fO o a=.ok (t,r)) (w:r≠[]):fO o (a++z)=.ok (t,r++z):=by
 unfold fO at h;cases g:cH o.fails a with
 | error e=>rw [g] at h;cases h
 | ok p=>
  obtain ⟨nm,q⟩:=p;have m:=(rZ (z:=z) g).2;rw [g] at h;simp only at h;cases j:aT q with
  | nil=>rw [j] at h;cases h
  | cons b r4=>
   have n:=lT (z:=z) j;rw [j] at h;simp only at h;unfold fO;rw [m];simp only;rw [n];simp only;by_cases l:b=61
   ·rw [aV l] at h ⊢;cases f:cS o (aT r4) with
    | error e=>rw [f] at h;cases h
    | ok p2=>
     obtain ⟨v,x⟩:=p2;rw [f] at h;simp only [bT,bR] at h;obtain ⟨rfl,rfl⟩:=h;have i:aT r4≠[]:=fun u=>by rw [u] at f;unfold cS at f;cases f
     cases d:aT r4 with
     | nil=>exact absurd d i
     | cons c r6=>
      have s:=lT (z:=z) d;have k:=EC (z:=z) f w;rw [d,jJ] at k;rw [s,k]
   ·rw [aN l] at h ⊢;by_cases d:o.strict=true
    ·rw [aV d] at h;cases h
    ·rw [aN d] at h ⊢;simp only [bT,bR] at h ⊢;exact ⟨h.1,by rw [←h.2];rfl⟩
theorem AX {o:cM} {z:Bs}:∀ {k:Nat} {a:Bs} {acc d:List cZ} {em:Bool} {r:Bs},cQ o k a acc=.ok (d,em,r)→cQ o k (a++z) acc=.ok (d,em,r++z)
 | 0,_,_,_,_,_,h=>by unfold cQ at h;cases h
 | k+1,a,acc,d,em,r,h=>by
  unfold cQ at h ⊢;cases j:aT a with
  | nil=>rw [j] at h;cases h
  | cons b r2=>
   have q:=lT (z:=z) j;rw [j] at h;rw [q];simp only at h ⊢;by_cases m:b=47
   ·rw [aV m] at h ⊢;cases r2 with
    | nil=>cases h
    | cons c r3=>
     simp only [jJ] at h ⊢;by_cases n:c=62
     ·rw [aV n] at h ⊢;simp only [bT,bR] at h ⊢;exact ⟨h.1,h.2.1,by rw [h.2.2]⟩
     ·rw [aN n] at h;cases h
   ·rw [aN m] at h ⊢;by_cases f:b=62
    ·rw [aV f] at h ⊢;simp only [bT,bR] at h ⊢;exact ⟨h.1,h.2.1,by rw [h.2.2]⟩
    ·rw [aN f] at h ⊢;cases g:fO o (b::r2) with
     | error e=>rw [g] at h;cases h
     | ok p=>
      obtain ⟨u,t⟩:=p;rw [g] at h;simp only at h;have i:t≠[]:=fun s=>by
       rw [s] at h;cases k with
       | zero=>unfold cQ at h;cases h
       | succ k=>unfold cQ at h;simp [aT] at h
      have l:=OI (z:=z) g i;rw [jJ] at l;rw [l];simp only;exact AX h
theorem vJ {f:Bool} {z:Bs}:∀ {a:Bs} {b0 b1:UInt8} {c d r:Bs},bZ f a b0 b1 c=.ok (d,r)→bZ f (a++z) b0 b1 c=.ok (d,r++z)
 | [],_,_,_,_,_,h=>by unfold bZ at h;cases h
 | b::a,b0,b1,c,d,r,h=>by
  rw [jJ];unfold bZ at h ⊢;by_cases e:b0=45∧b1=45
  ·rw [aV e] at h ⊢;by_cases g:b=62
   ·rw [aV g] at h ⊢;simp only [bT,bR] at h ⊢;exact ⟨h.1,by rw [h.2]⟩
   ·rw [aN g] at h;cases h
  ·rw [aN e] at h ⊢;exact vJ h
theorem CM {f:Bool} {z:Bs}:∀ {a:Bs} {b0:UInt8} {c d r:Bs},gH f a b0 c=.ok (d,r)→gH f (a++z) b0 c=.ok (d,r++z)
 | [],_,_,_,_,h=>by unfold gH at h;cases h
 | b::a,b0,c,d,r,h=>by
  rw [jJ];unfold gH at h ⊢;by_cases e:b0=63∧b=62
  ·rw [aV e] at h ⊢;simp only [bT,bR] at h ⊢;exact ⟨h.1,by rw [h.2]⟩
  ·rw [aN e] at h ⊢;exact CM h
theorem vK {f:Bool} {z:Bs}:∀ {a:Bs} {b0 b1:UInt8} {r:Bs},cJ f a b0 b1=.ok r→cJ f (a++z) b0 b1=.ok (r++z)
 | [],_,_,_,h=>by unfold cJ at h;cases h
 | b::a,b0,b1,r,h=>by
  rw [jJ];unfold cJ at h ⊢;by_cases c:b0=45∧b1=45∧b=62
  ·rw [aV c] at h ⊢;simp only [bT] at h ⊢;rw [h]
  ·rw [aN c] at h ⊢;exact vK h
theorem CN {f:Bool} {z:Bs} {n:Nat} (j:∀ a:Bs,a.length≤n→∀ (c:UInt8) (i:Int) (e d r:Bs),dW f a c i e=.ok (d,r)→dW f (a++z) c i e=.ok (d,r++z))
  (o:∀ a:Bs,a.length<n→∀ (b c:UInt8) (i:Int) (e d r:Bs),fT f b a c i e=.ok (d,r)→fT f b (a++z) c i e=.ok (d,r++z)) (a:Bs) (k:a.length≤n) (b c:UInt8) (i:Int) (e d r:Bs) (h:fT f b a c i e=.ok (d,r)):fT f b (a++z) c i e=.ok (d,r++z):=by
 rw [fT.eq_def] at h;rw [fT.eq_def];by_cases q:b=c
 ·rw [aV q] at h ⊢;exact j a k _ _ _ _ _ h
 rw [aN q] at h ⊢;by_cases s:c≠0
 ·rw [aV s] at h ⊢;exact j a k _ _ _ _ _ h
 rw [aN s] at h ⊢;by_cases t:b=39∨b=34
 ·rw [aV t] at h ⊢;exact j a k _ _ _ _ _ h
 rw [aN t] at h ⊢;by_cases u:b=62
 ·rw [aV u] at h ⊢;exact j a k _ _ _ _ _ h
 rw [aN u] at h ⊢;by_cases v:b=60
 rotate_left
 ·rw [aN v] at h ⊢;exact j a k _ _ _ _ _ h
 rw [aV v] at h ⊢;cases a with
 | nil=>cases h
 | cons c1 r1=>
  simp only [jJ] at h ⊢;have l:r1.length<n:=by simp at k;omega
  by_cases w:c1=33
  rotate_left
  ·rw [aN w] at h ⊢;exact o r1 l _ _ _ _ _ _ h
  rw [aV w] at h ⊢;cases r1 with
  | nil=>cases h
  | cons c2 r2=>
   simp only [jJ] at h ⊢;have m:r2.length<n:=by simp at l;omega
   by_cases x:c2=45
   rotate_left
   ·rw [aN x] at h ⊢;exact o r2 m _ _ _ _ _ _ h
   rw [aV x] at h ⊢;cases r2 with
   | nil=>cases h
   | cons c3 r3=>
    simp only [jJ] at h ⊢;have p:r3.length<n:=by simp at m;omega
    by_cases y:c3=45
    rotate_left
    ·rw [aN y] at h ⊢;exact o r3 p _ _ _ _ _ _ h
    rw [aV y] at h ⊢;split at h
    ·cases h
    ·rename_i C B;have A:=vK (z:=z) B;split
     ·rename_i g;rw [A] at g;cases g
     ·rename_i g;rw [A] at g;simp only [bT] at g;subst g;exact j C (by have:=jB B;omega) _ _ _ _ _ h
theorem LZ (f:Bool) (z:Bs):∀ n:Nat,(∀ a:Bs,a.length≤n→∀ (c:UInt8) (g:Int) (e d r:Bs),dW f a c g e=.ok (d,r)→dW f (a++z) c g e=.ok (d,r++z)) ∧
  (∀ a:Bs,a.length≤n→∀ (b c:UInt8) (g:Int) (e d r:Bs),fT f b a c g e=.ok (d,r)→fT f b (a++z) c g e=.ok (d,r++z))
 | 0=>by
  have i:∀ a:Bs,a.length≤0→∀ (c:UInt8) (g:Int) (e d r:Bs),dW f a c g e=.ok (d,r)→dW f (a++z) c g e=.ok (d,r++z):=by
   intro a j c g e d r h;have:a=[]:=tZ (by omega);subst this;rw [dW.eq_def] at h;cases h
  exact ⟨i,CN i (fun a j=>absurd j (Nat.not_lt_zero _))⟩
 | n+1=>by
  have ih:=LZ f z n;have i:∀ a:Bs,a.length≤n+1→∀ (c:UInt8) (g:Int) (e d r:Bs),dW f a c g e=.ok (d,r)→dW f (a++z) c g e=.ok (d,r++z):=by
   intro a j c g e d r h;cases a with
   | nil=>rw [dW.eq_def] at h;cases h
   | cons b a=>
    rw [jJ];rw [dW.eq_def] at h;rw [dW.eq_def];simp only at h ⊢;by_cases k:c=0∧b=62∧g=0
    ·rw [aV k] at h ⊢;simp only [bT,bR] at h ⊢;exact ⟨h.1,by rw [h.2]⟩
    ·rw [aN k] at h ⊢;exact ih.2 a (by simp at j;omega) _ _ _ _ _ _ h
  exact ⟨i,CN i (fun a j=>ih.2 a (by omega))⟩
theorem AY {f:Bool} {z:Bs}:∀ {p a r:Bs},dQ f p a=.ok r→dQ f p (a++z)=.ok (r++z)
 | [],a,r,h=>by unfold dQ at h ⊢;simp only [bT] at h ⊢;rw [h]
 | q::p,[],r,h=>by unfold dQ at h;cases h
 | q::p,b::a,r,h=>by
  rw [jJ];unfold dQ at h ⊢;by_cases c:b=q
  ·rw [aV c] at h ⊢;exact AY h
  ·rw [aN c] at h;cases h
theorem S6 {o:cM} {a z r:Bs} {t:aO} (h:kQ o a=.ok (t,r)):kQ o (a++z)=.ok (t,r++z):=by
 unfold kQ at h;cases c:cH o.fails a with
 | error e=>rw [c] at h;cases h
 | ok p=>
  obtain ⟨nm,q⟩:=p;have g:=(rZ (z:=z) c).2;rw [c] at h;simp only at h;cases d:aT q with
  | nil=>rw [d] at h;cases h
  | cons b r2=>
   have i:=lT (z:=z) d;rw [d] at h;simp only at h;unfold kQ;rw [g];simp only;rw [i];simp only;by_cases f:b=62
   ·rw [aV f] at h ⊢;simp only [bT,bR] at h ⊢;exact ⟨h.1,by rw [h.2]⟩
   ·rw [aN f] at h;cases h
theorem XD {o:cM} {a z r:Bs} {t:aO} (h:vL o a=.ok (t,r)):vL o (a++z)=.ok (t,r++z):=by
 unfold vL at h;cases d:eE o.fails a with
 | error e=>rw [d] at h;cases h
 | ok p=>
  obtain ⟨s,q⟩:=p;have k:=(CL (z:=z) d).2;rw [d] at h;simp only at h;cases b:gH o.fails (aT q) 0 [] with
  | error e=>rw [b] at h;cases h
  | ok p2=>
   obtain ⟨j,n⟩:=p2;have f:aT q≠[]:=fun m=>by rw [m] at b;unfold gH at b;cases b
   have i:=CM (z:=z) b;rw [b] at h;simp only at h;unfold vL;rw [k];simp only;cases g:aT q with
   | nil=>exact absurd g f
   | cons c q2=>
    rw [g,jJ] at i;rw [lT (z:=z) g,i];simp only;split at h
    ·cases h
    ·rename_i l;rw [aN l];simp only [bT,bR] at h ⊢;exact ⟨h.1,by rw [h.2]⟩
theorem OJ {o:cM} {a z r:Bs} {t:aO} (h:gS o a=.ok (t,r)):gS o (a++z)=.ok (t,r++z):=by
 cases a with
 | nil=>unfold gS at h;cases h
 | cons b a=>
  rw [jJ];unfold gS at h ⊢;(try simp only at h ⊢)
  by_cases k:b=45
  ·rw [aV k] at h ⊢;cases a with
   | nil=>cases h
   | cons c a2=>
    simp only [jJ] at h ⊢;by_cases d:c=45
    ·rw [aV d] at h ⊢;cases f:bZ o.fails a2 0 0 [] with
     | error e=>rw [f] at h;cases h
     | ok p=>
      rw [f] at h;rw [vJ (z:=z) f];simp only [bT,bR] at h ⊢;exact ⟨h.1,by rw [h.2]⟩
    ·rw [aN d] at h;cases h
  ·rw [aN k] at h ⊢;by_cases d:b=91
   ·rw [aV d] at h ⊢;cases i:dQ o.fails [67,68,65,84,65,91] a with
    | error e=>rw [i] at h;cases h
    | ok r2=>
     rw [i] at h;rw [AY (z:=z) i];simp only at h ⊢;cases j:bE o none true r2 0 0 [] with
     | error e=>rw [j] at h;cases h
     | ok p=>
      rw [j] at h;rw [wN o none true z r2.length r2 (dD _) _ _ _ _ _ j (aW (aH rfl))];simp only [bT,bR] at h ⊢;exact ⟨h.1,by rw [h.2]⟩
   ·rw [aN d] at h ⊢;cases g:dW o.fails a 0 0 [b] with
    | error e=>rw [g] at h;cases h
    | ok p=>
     rw [g] at h;rw [(LZ o.fails z a.length).1 a (dD _) _ _ _ _ _ g];simp only [bT,bR] at h ⊢;exact ⟨h.1,by rw [h.2]⟩
theorem KA {o:cM} {a z r:Bs} {x:(Bs×Bs)×List cZ} {em:Bool} (h:eG o a=.ok (x,em,r)):eG o (a++z)=.ok (x,em,r++z):=by
 unfold eG at h;cases d:cH o.fails a with
 | error e=>rw [d] at h;cases h
 | ok p=>
  obtain ⟨nm,q⟩:=p;have g:=(rZ (z:=z) d).2;rw [d] at h;simp only at h;cases f:cQ o (q.length+1) q [] with
  | error e=>rw [f] at h;cases h
  | ok p2=>
   obtain ⟨b,c,j⟩:=p2;have i:cQ o ((q++z).length+1) q []=.ok (b,c,j):=by
    rw [←f];exact oB (by rw [fY];omega) (Nat.lt_succ_self _)
   rw [f] at h;simp only [bT,bR] at h;unfold eG;rw [g];simp only;rw [AX (z:=z) i];simp only [bT,bR];exact ⟨h.1,h.2.1,by rw [h.2.2]⟩
theorem S7 {o:cM} {s q:St} {t:aO} {y:Bs} (h:dN o s=.ok (t,q)):dN o { s with rest:=s.rest++60::y }=.ok (t,{ q with rest:=q.rest++60::y,ended:=false }):=by
 obtain ⟨rest,f,g,w,x,next⟩:=s;unfold dN at h;unfold dN;(try simp only at h ⊢)
 cases f with
 | true=>simp at h
 | false=>
  simp only [sS,if_false] at h ⊢;cases g with
  | some nm=>
   simp only [bT,bR] at h ⊢;obtain ⟨rfl,rfl⟩:=h;exact ⟨rfl,rfl⟩
  | none=>
   simp only at h ⊢;cases rest with
   | nil=>cases h
   | cons b r=>
    simp only [jJ] at h ⊢;by_cases u:b≠60
    ·rw [aV u] at h ⊢;cases n:bE o none false (b::r) 0 0 [] with
     | error e=>rw [n] at h;cases h
     | ok p=>
      obtain ⟨d,m⟩:=p;have i:=wN o none false (60::y) (b::r).length (b::r) (dD _) _ _ _ _ _ n (aW (aW ⟨rfl,rfl,y,rfl⟩));rw [jJ] at i;rw [n] at h;rw [i];simp only [bT,bR] at h ⊢;obtain ⟨rfl,rfl⟩:=h;refine ⟨rfl,?_⟩;simp
    ·rw [aN u] at h ⊢;cases r with
     | nil=>cases h
     | cons c m=>
      simp only [jJ] at h ⊢;by_cases k:c=47
      ·rw [aV k] at h ⊢;cases a:kQ o m with
       | error e=>rw [a] at h;cases h
       | ok p=>
        rw [a] at h;rw [S6 (z:=60::y) a];simp only [bT,bR] at h ⊢;obtain ⟨rfl,rfl⟩:=h;exact ⟨rfl,rfl⟩
      rw [aN k] at h ⊢;by_cases l:c=63
      ·rw [aV l] at h ⊢;cases a:vL o m with
       | error e=>rw [a] at h;cases h
       | ok p=>
        rw [a] at h;rw [XD (z:=60::y) a];simp only [bT,bR] at h ⊢;obtain ⟨rfl,rfl⟩:=h;exact ⟨rfl,rfl⟩
      rw [aN l] at h ⊢;by_cases j:c=33
      ·rw [aV j] at h ⊢;cases a:gS o m with
       | error e=>rw [a] at h;cases h
       | ok p=>
        rw [a] at h;rw [OJ (z:=60::y) a];simp only [bT,bR] at h ⊢;obtain ⟨rfl,rfl⟩:=h;exact ⟨rfl,rfl⟩
      rw [aN j] at h ⊢;cases a:eG o (c::m) with
      | error e=>rw [a] at h;cases h
      | ok p=>
       obtain ⟨⟨nm,v⟩,em,A⟩:=p;have i:=KA (z:=60::y) a;rw [jJ] at i;rw [a] at h;rw [i];simp only [bT,bR] at h ⊢;obtain ⟨rfl,rfl⟩:=h;exact ⟨rfl,rfl⟩
def St.ext (s:St) (y:Bs) (E:List gT):St:={ s with rest:=s.rest++60::y,ended:=false,stk:=s.stk++E }
def nR (E:List gT):Prop:=∀ e a,E=e::a→e.kind=0
theorem nR.nil:nR []:=fun _ _ h=>by cases h
theorem sQ (E:List gT):∀ (a:List cZ) (b:List gT) (c:Bs→Option Bs),dK a (b++E) c=((dK a b c).1++E,(dK a b c).2)
 | [],b,c=>rfl
 | (sp,loc,v)::a,b,c=>by
  unfold dK;by_cases d:sp=bF
  ·have e:¬ (sp=[]∧loc=bF):=fun h=>by rw [d] at h;cases h.1
   simp only [aV d,aN e];rw [←jJ];exact sQ E a _ _
  ·by_cases e:sp=[]∧loc=bF
   ·simp only [aN d,aV e];rw [←jJ];exact sQ E a _ _
   ·simp only [aN d,aN e];exact sQ E a _ _
theorem CO {E:List gT} (c:nR E):∀ (a:List gT) (b:Bs→Option Bs),fA (a++E) b=((fA a b).1++E,(fA a b).2)
 | [],b=>by
  rw [List.nil_append];cases E with
  | nil=>rfl
  | cons e E'=>
   unfold fA;rw [aV (c e E' rfl)];rfl
 | e::a,b=>by
  rw [jJ];unfold fA;by_cases h:e.kind=0
  ·rw [aV h,aV h];rfl
  ·rw [aN h,aN h];exact CO c a _
theorem CP {o:cM} {y:Bs} {E:List gT} (l:nR E) {t k:aO} {s j:St} (h:bW o t s=.ok (k,j)):bW o t (s.ext y E)=.ok (k,j.ext y E):=by
 cases t with
 | start nm ats=>
  unfold bW at h ⊢;simp only [bT,bR,St.ext] at h ⊢;rw [sQ];obtain ⟨rfl,rfl⟩:=h;exact ⟨rfl,rfl⟩
 | fin nm=>
  unfold bW at h ⊢;simp only [kR,St.ext] at h ⊢;cases i:s.stk with
  | nil=>rw [i] at h;cases h
  | cons e stk=>
   rw [i] at h;rw [jJ];simp only at h ⊢;by_cases f:e.kind≠0
   ·rw [aV f] at h;cases h
   rw [aN f] at h ⊢;by_cases g:e.loc≠nm.2
   ·rw [aV g] at h ⊢;by_cases c:o.strict=true
    ·rw [aV c] at h;cases h
    ·rw [aN c] at h ⊢;simp only [bT,bR] at h ⊢;obtain ⟨rfl,rfl⟩:=h;exact ⟨rfl,rfl⟩
   ·rw [aN g] at h ⊢;by_cases c:e.space≠nm.1
    ·rw [aV c] at h;cases h
    ·rw [aN c] at h ⊢;rw [CO l];simp only [bT,bR] at h ⊢;obtain ⟨rfl,rfl⟩:=h;exact ⟨rfl,rfl⟩
 | text d=>unfold bW at h ⊢;simp only [bT,bR] at h ⊢;obtain ⟨rfl,rfl⟩:=h;exact ⟨rfl,rfl⟩
 | comment d=>unfold bW at h ⊢;simp only [bT,bR] at h ⊢;obtain ⟨rfl,rfl⟩:=h;exact ⟨rfl,rfl⟩
 | dir d=>unfold bW at h ⊢;simp only [bT,bR] at h ⊢;obtain ⟨rfl,rfl⟩:=h;exact ⟨rfl,rfl⟩
 | proc a b=>unfold bW at h ⊢;simp only [bT,bR] at h ⊢;obtain ⟨rfl,rfl⟩:=h;exact ⟨rfl,rfl⟩
theorem G4 {o:cM} {s m:St} {t:aO} (h:dN o s=.ok (t,m)) (k:List gT):m.stk=s.stk∧dN o { s with stk:=k }=.ok (t,{ m with stk:=k }):=by
 obtain ⟨rest,f,d,l,v,next⟩:=s;unfold dN at h ⊢;simp only at h ⊢;cases f with
 | true=>simp at h
 | false=>
  simp only [sS,if_false] at h ⊢;cases d with
  | some nm=>
   simp only [bT,bR] at h ⊢;obtain ⟨rfl,rfl⟩:=h;exact ⟨rfl,rfl,rfl⟩
  | none=>
   simp only at h ⊢;cases rest with
   | nil=>cases h
   | cons b r=>
    simp only at h ⊢;by_cases n:b≠60
    ·rw [aV n] at h ⊢;cases q:bE o none false (b::r) 0 0 [] with
     | error e=>rw [q] at h;cases h
     | ok p=>
      rw [q] at h;simp only [bT,bR] at h ⊢;obtain ⟨rfl,rfl⟩:=h;exact ⟨rfl,rfl,rfl⟩
    ·rw [aN n] at h ⊢;cases r with
     | nil=>cases h
     | cons c r2=>
      simp only at h ⊢;by_cases i:c=47
      ·rw [aV i] at h ⊢;cases a:kQ o r2 with
       | error e=>rw [a] at h;cases h
       | ok p=>rw [a] at h;simp only [bT,bR] at h ⊢;obtain ⟨rfl,rfl⟩:=h;exact ⟨rfl,rfl,rfl⟩
      rw [aN i] at h ⊢;by_cases j:c=63
      ·rw [aV j] at h ⊢;cases a:vL o r2 with
       | error e=>rw [a] at h;cases h
       | ok p=>rw [a] at h;simp only [bT,bR] at h ⊢;obtain ⟨rfl,rfl⟩:=h;exact ⟨rfl,rfl,rfl⟩
      rw [aN j] at h ⊢;by_cases g:c=33
      ·rw [aV g] at h ⊢;cases a:gS o r2 with
       | error e=>rw [a] at h;cases h
       | ok p=>rw [a] at h;simp only [bT,bR] at h ⊢;obtain ⟨rfl,rfl⟩:=h;exact ⟨rfl,rfl,rfl⟩
      rw [aN g] at h ⊢;cases a:eG o (c::r2) with
      | error e=>rw [a] at h;cases h
      | ok p=>
       obtain ⟨⟨nm,u⟩,em,w⟩:=p;rw [a] at h;simp only [bT,bR] at h ⊢;obtain ⟨rfl,rfl⟩:=h;exact ⟨rfl,rfl,rfl⟩
theorem CQ {o:cM} {t:aO} {s:St}:bW o t s≠.error .eof:=by
 intro h;cases t with
 | start nm ats=>unfold bW at h;cases h
 | fin nm=>
  unfold bW at h;simp only [kR] at h;repeat' split at h
  all_goals cases h
 | text d=>unfold bW at h;cases h
 | comment d=>unfold bW at h;cases h
 | dir d=>unfold bW at h;cases h
 | proc a b=>unfold bW at h;cases h
theorem G5 {fold:Bs→Bs→Bool} {o:cM} (b:o.raw=false) (c:o.strict=true) {s f:St} {t:aO} (u:s.next=none) (h:stepL fold o s=.ok (t,f)):f.ended=true→f.rest=[]∧f.toClose=none:=by
 intro i;unfold stepL at h;rw [aN (by rw [b];simp)] at h;unfold hY at h;rw [u] at h;simp only at h;cases j:dN o s with
 | error e=>rw [j] at h;cases h
 | ok p=>
  obtain ⟨A,l⟩:=p;rw [j] at h;simp only [aV c] at h;obtain ⟨w1,x,_,_,_,a,_⟩:=l5 h;obtain ⟨z,_,_,_,_,v,w⟩:=iB j;have y:f.toClose=l.toClose:=by
   rcases a with a|⟨a,_⟩
   ·exact a
   ·rw [c] at a;cases a
  rw [w1,y];rw [x] at i;refine ⟨v i,?_⟩;rcases w with ⟨nm,_,_,g⟩|⟨_,_,g,n⟩
  ·rw [g]
  ·cases r:l.toClose with
   | none=>rfl
   | some nm=>
    obtain ⟨d,q⟩:=g i;obtain ⟨m,k⟩:=n nm r;rw [q] at k;cases k
theorem S8 {fold:Bs→Bs→Bool} {o:cM} (b:o.raw=false) (c:o.strict=true) {y:Bs} {E:List gT} (l:nR E) {s g:St} {t:aO} (d:s.next=none) (h:stepL fold o s=.ok (t,g)):g.next=none∧stepL fold o (s.ext y E)=.ok (t,g.ext y E):=by
 have m:∀ s:St,stepL fold o s=hY fold o s:=fun s=>by unfold stepL;rw [aN (by rw [b];simp)]
 rw [m] at h ⊢;unfold hY at h ⊢;rw [d] at h;have f:(s.ext y E).next=none:=d;rw [f];simp only at h ⊢;cases a:dN o s with
 | error e=>rw [a] at h;cases h
 | ok p=>
  obtain ⟨v,i⟩:=p;rw [a] at h;simp only [aV c] at h;obtain ⟨q,r⟩:=G4 (S7 (y:=y) a) (s.stk++E);have u:dN o (s.ext y E)=.ok (v,i.ext y E):=by
   have j:=(iB a).1;have k:i.stk=s.stk:=q;simpa [St.ext,j,k] using r
  rw [u];simp only [aV c];have n:=CP (y:=y) l h;refine ⟨?_,n⟩;have:=(iB a).2.2.2.1;rw [←d,←this];exact (l5 h).2.2.1
theorem L0 {fold:Bs→Bs→Bool} {o:cM} (d:o.raw=false) (i:o.strict=true) {y:Bs} {E:List gT} (z:nR E) {s:St} {l:List (aO×St)} (h:eD fold o s l .eof):s.next=none→(s.ended=true→s.rest=[]∧s.toClose=none)→∃ t,∀ (r:List (aO×St)) (k:EK),eD fold o { rest:=60::y,ended:=false,toClose:=none,stk:=E,ns:=t,next:=none } r k→eD fold o (s.ext y E) (l.map (fun p=>(p.1,p.2.ext y E))++r) k:=by
 have B:∀ s:St,stepL fold o s=hY fold o s:=fun s=>by unfold stepL;rw [aN (by rw [d];simp)]
 generalize v:EK.eof=e at h;induction h with
 | stop c=>
  rename_i s e;intro n g;subst v;rw [B] at c;unfold hY at c;rw [n] at c;simp only at c;cases j:dN o s with
  | ok p=>rw [j] at c;obtain ⟨G,F⟩:=p;simp only [aV i] at c;exact absurd c CQ
  | error e=>
   rw [j] at c;simp only [Except.error.injEq] at c;by_cases m:e=.eof∧s.stk≠[]
   ·rw [aV m] at c;cases c
   ·rw [aN m] at c;subst c;have q:s.stk=[]:=by
     cases A:s.stk with
     | nil=>rfl
     | cons a b=>exact absurd ⟨rfl,by rw [A];simp⟩ m
    have w:s.rest=[]∧s.toClose=none:=by
     cases f:s.ended with
     | true=>exact g f
     | false=>
      refine ⟨EO (fun h=>(g h).1) j,?_⟩;cases m:s.toClose with
      | none=>rfl
      | some nm=>unfold dN at j;rw [f,m] at j;simp at j
    have:s.ext y E={ rest:=60::y,ended:=false,toClose:=none,stk:=E,ns:=s.ns,next:=none }:=by
     unfold St.ext;rw [w.1,w.2,q,n];rfl
    refine ⟨s.ns,fun r k u=>?_⟩;rw [List.map_nil,List.nil_append,this];exact u
 | more c _ ih=>
  intro n g;obtain ⟨C,D⟩:=S8 (y:=y) d i z n c;obtain ⟨t,x⟩:=ih v C (G5 d i n c);refine ⟨t,fun r k u=>?_⟩;rw [List.map_cons,jJ];exact .more D (x r k u)
theorem CR {o:cM} {E:List gT} (d:nR E) {t b:aO} {s a:St} (h:bW o t s=.ok (b,a)):bW o t { s with stk:=s.stk++E }=.ok (b,{ a with stk:=a.stk++E }):=by
 have c:=J8 (CP (y:=[]) d h) s.rest s.ended;obtain ⟨w1,e,_⟩:=l5 h;simpa [St.ext,w1,e] using c
theorem S9 {fold:Bs→Bs→Bool} {o:cM} (b:o.raw=false) (a:o.strict=true) {E:List gT} (i:nR E) {s f:St} {t:aO} (g:s.next=none) (h:stepL fold o s=.ok (t,f)):f.next=none∧stepL fold o { s with stk:=s.stk++E }=.ok (t,{ f with stk:=f.stk++E }):=by
 have l:∀ s:St,stepL fold o s=hY fold o s:=fun s=>by unfold stepL;rw [aN (by rw [b];simp)]
 rw [l] at h ⊢;unfold hY at h ⊢;rw [g] at h ⊢;simp only at h ⊢;cases c:dN o s with
 | error e=>rw [c] at h;cases h
 | ok p=>
  obtain ⟨k,d⟩:=p;rw [c] at h;simp only [aV a] at h;obtain ⟨m,n⟩:=G4 c (s.stk++E);have j:dN o { s with stk:=s.stk++E }=.ok (k,{ d with stk:=d.stk++E }):=by
   rw [m];exact n
  have q:dN o { s with stk:=s.stk++E,next:=none }=.ok (k,{ d with stk:=d.stk++E }):=by
   rw [←j]
   congr 1
   rw [g]
  refine ⟨?_,?_⟩
  ·have:=(iB c).2.2.2.1;rw [←g,←this];exact (l5 h).2.2.1
  ·first
    | (rw [j];simp only [aV a];exact CR i h)
    | (rw [q];simp only [aV a];exact CR i h)
theorem XE {fold:Bs→Bs→Bool} {o:cM} (b:o.raw=false) (g:o.strict=true) {E:List gT} (u:nR E) (m:E≠[]) {s:St} {l:List (aO×St)} (h:eD fold o s l .eof):s.next=none→(s.ended=true→s.rest=[]∧s.toClose=none)→eD fold o { s with stk:=s.stk++E } (l.map fun p=>(p.1,{ p.2 with stk:=p.2.stk++E })) .syn:=by
 have v:∀ s:St,stepL fold o s=hY fold o s:=fun s=>by unfold stepL;rw [aN (by rw [b];simp)]
 generalize q:EK.eof=e at h;induction h with
 | stop a=>
  rename_i s e;intro j d;subst q;refine .stop ?_;rw [v] at a ⊢;unfold hY at a ⊢;rw [j] at a ⊢;simp only at a ⊢;cases f:dN o s with
  | ok p=>rw [f] at a;obtain ⟨z,y⟩:=p;simp only [aV g] at a;exact absurd a CQ
  | error e=>
   rw [f] at a;simp only [Except.error.injEq] at a;by_cases i:e=.eof∧s.stk≠[]
   ·rw [aV i] at a;cases a
   ·rw [aN i] at a;subst a;have r:s.rest=[]∧s.toClose=none:=by
     cases c:s.ended with
     | true=>exact d c
     | false=>
      refine ⟨EO (fun h=>(d h).1) f,?_⟩;cases i:s.toClose with
      | none=>rfl
      | some nm=>unfold dN at f;rw [c,i] at f;simp at f
    have n:∀ k t,dN o { s with stk:=k,next:=t }=.error .eof:=by
     intro k t;rw [←f];unfold dN;simp only [r.1,r.2]
    rw [n];simp only;rw [aV (by simp [m])]
 | more a _ ih=>
  intro j d;obtain ⟨w,x⟩:=S9 b g u j a;rw [List.map_cons];exact .more x (ih q w (G5 b g j a))
def wO:gT:={ kind:=0,space:=[],loc:=[97],ok:=false }
theorem L1:nR [wO]:=fun e a h=>by
 simp only [List.cons.injEq] at h;rw [←h.1];rfl
def Ex (T:Bs):St:={ rest:=T,ended:=false,toClose:=none,stk:=[wO],ns:=fun _=>none,next:=none }
theorem TA (fold:Bs→Bs→Bool) (T:Bs):stepL fold mU (St.init (60::97::62::T))=.ok (.start ([],[97]) [],Ex T):=by rfl
theorem XF (fold:Bs→Bs→Bool) (T:Bs):stepL fold mU (St.init (60::97::47::62::T))=.ok (.start ([],[97]) [],{ Ex T with toClose:=some ([],[97]) }):=by rfl
theorem XG (fold:Bs→Bs→Bool) (T:Bs):stepL fold mU { Ex T with toClose:=some ([],[97]) }=.ok (.fin ([],[97]),St.init T):=by rfl
theorem OK (fold:Bs→Bs→Bool) (a:Bs→Option Bs):stepL fold mU { rest:=[60,47,97,62],ended:=false,toClose:=none,stk:=[],ns:=a,next:=none }=.error .syn:=by rfl
theorem XH (fold:Bs→Bs→Bool) (a:Bs→Option Bs):stepL fold mU { rest:=[60,47,97,62],ended:=false,toClose:=none,stk:=[wO],ns:=a,next:=none }=.ok (.fin (cX mU a ([],[97]) true),{ rest:=[],ended:=false,toClose:=none,stk:=[],ns:=a,next:=none }):=by rfl
theorem Ak (fold:Bs→Bs→Bool) (a:Bs→Option Bs):∃ nm,stepL fold mU { rest:=[60,47,97,62],ended:=false,toClose:=none,stk:=[wO],ns:=a,next:=none }=.ok (.fin (nm,[97]),{ rest:=[],ended:=false,toClose:=none,stk:=[],ns:=a,next:=none }):=by
 have h:∃ nm,cX mU a ([],[97]) true=(nm,[97]):=by
  unfold cX;rw [aN (by decide),aN (by decide),aN (by decide)];simp only;split
  ·exact ⟨_,rfl⟩
  ·split
   ·exact ⟨_,rfl⟩
   ·exact ⟨_,rfl⟩
 obtain ⟨nm,h⟩:=h;exact ⟨nm,by rw [XH,h]⟩
theorem Al (fold:Bs→Bs→Bool) (T:Bs) {l:List (aO×St)} (h:eD fold mU (St.init T) l .eof):∃ l',eD fold mU (St.init (60::97::62::T)) l' .syn∧0<l'.length:=
 ⟨_,.more (TA fold T) (XE (E:=[wO]) rfl rfl L1 (by simp) h rfl (fun h=>by cases h)),by simp⟩
theorem Am (fold:Bs→Bs→Bool) (T:Bs) {l:List (aO×St)} (h:eD fold mU (St.init T) l .eof):∃ l',eD fold mU (St.init (60::97::47::62::(T++[60,47,97,62]))) l' .syn∧1<l'.length:=by
 obtain ⟨b,a⟩:=L0 (y:=[47,97,62]) (E:=[]) rfl rfl nR.nil h rfl (fun h=>by cases h);have a:=a [] .syn (.stop (OK fold b));exact ⟨_,.more (XF fold _) (.more (XG fold _) (show eD fold mU (St.init (T++[60,47,97,62])) _ .syn from a)),by simp⟩
theorem TB (fold:Bs→Bs→Bool) (a:Bs→Option Bs):stepL fold mU { rest:=[],ended:=false,toClose:=none,stk:=[],ns:=a,next:=none }=.error .eof:=by rfl
theorem KB (fold:Bs→Bs→Bool) (T:Bs) {l:List (aO×St)} (h:eD fold mU (St.init T) l .eof):∃ p q,eD fold mU (St.init (60::97::62::(T++[60,47,97,62]))) (p::(l.map (fun p=>(p.1,p.2.ext [47,97,62] [wO]))++[q])) .eof∧(∃ nm b,p.1=.start nm b)∧∃ nm,q.1=.fin nm:=by
 obtain ⟨a,c⟩:=L0 (y:=[47,97,62]) (E:=[wO]) rfl rfl L1 h rfl (fun h=>by cases h);obtain ⟨nm,d⟩:=Ak fold a;have e:=c [(.fin (nm,[97]),{ rest:=[],ended:=false,toClose:=none,stk:=[],ns:=a,next:=none })] .eof (.more d (.stop (TB fold a)));exact ⟨_,_,.more (TA fold _) (show eD fold mU (Ex (T++[60,47,97,62])) _ .eof from e),⟨_,_,rfl⟩,⟨_,rfl⟩⟩
end Go.Proofs.YthapcchcahnfaaaGreatDoor
