/- Part of the proof that laws.FnSkip returns true for every argument. No conditions. -/
import Derived.Test.YthapcchcahnfaaaGreatDoorS14
import Derived.Test.YthapcchcahnfaaaGreatDoorS02
import Derived.Test.YthapcchcahnfaaaGreatDoorS27
import Derived.Test.YthapcchcahnfaaaGreatDoorS35
set_option linter.all false
set_option maxHeartbeats 8000000
set_option maxRecDepth 100000
namespace Go.Proofs.YthapcchcahnfaaaGreatDoor
open Go
def kR (o:Option (Bs→Option Bs)) (ents:aM):Prop:=∀ s,wS o s=eA (oF++ents) s
theorem yG:kR none []:=by
 intro s;unfold wS rV eA oF;simp only [List.append_nil,List.find?];by_cases a:s=[108,116]
 ·subst a;rfl
 ·by_cases b:s=[103,116]
  ·subst b;rfl
  ·by_cases c:s=[97,109,112]
   ·subst c;rfl
   ·by_cases d:s=[97,112,111,115]
    ·subst d;rfl
    ·by_cases f:s=[113,117,111,116]
     ·subst f;rfl
     ·have e:∀ k:Bs,s≠k→(k==s)=false:=fun k h=>by
       rw [lQ];exact fun g=>h g.symm
      rw [aQ a,aQ b,aQ c,aQ d,aQ f,e _ a,e _ b,e _ c,e _ d,e _ f];rfl
def P0 (a:Bool) (v:Nat) (c:Bs):Nat:=c.foldl (fun n b=>n*(if a then 16 else 10)+dP b) v
theorem yH (a:Bool):∀ (d:Bs) (n:Int) (v:Nat),(n=(v:Int)∧v≤1114111)∨(n=-1∧1114111<v)→(∀ c∈d,eU a c=true) →
  ∃ m,bP a n d=some m∧((m=(P0 a v d:Nat)∧P0 a v d≤1114111)∨(m=-1∧1114111<P0 a v d))
 | [],n,v,h,_=>⟨n,rfl,h⟩
 | b::d,n,v,h,f=>by
  unfold bP;rw [aY (f b (by simp))];refine yH a d _ (v*(if a then 16 else 10)+dP b) ?_ (fun c g=>f c (by simp [g]));rcases h with ⟨rfl,h⟩|⟨rfl,h⟩
  ·rw [aY (Int.natCast_nonneg v)];by_cases e:(1114111:Int)<(v:Int)*(if a then 16 else 10)+dP b
   ·rw [aY e];refine aU ⟨rfl,?_⟩;cases a<;>simp at e ⊢<;>omega
   ·rw [aQ e];refine aG ⟨?_,?_⟩
    ·cases a<;>simp
    ·cases a<;>simp at e ⊢<;>omega
  ·rw [aQ (by omega),aQ (by omega)];refine aU ⟨rfl,?_⟩;cases a<;>simp<;>omega
theorem yI (a:Bool):∀ (e:Bs) (n m:Int),bP a n e=some m→∀ c∈e,eU a c=true
 | [],_,_,_,c,d=>by cases d
 | b::e,n,m,h,c,d=>by
  unfold bP at h;split at h
  ·rename_i f;simp only [mF] at d;rcases d with rfl|d
   ·exact f
   ·exact yI a e _ m h c d
  ·cases h
theorem XA {a:Bool} {b:Bs} {n:Int} (h:bP a 0 b=some n) (e:iV n=true):n.toNat=fY a b∧fY a b≤1114111:=by
 obtain ⟨m,c,d⟩:=yH a b 0 0 (aG ⟨rfl,by omega⟩) (yI a b 0 n h);rw [h] at c;simp only [jW] at c;subst c;rcases d with ⟨rfl,d⟩|⟨rfl,_⟩
 ·exact ⟨by simp;rfl,d⟩
 ·simp [iV] at e
theorem U3 (a:Bool):eU a 59=false:=by cases a<;>decide
theorem AS {f b:Bool} {pre c:Bs} {n:Int} (h:bP b 0 c=some n) (g:iV n=true) (d:c≠[]) (a:Bs):eM f b pre (c++59::a)=.ok (pre++c++[59],some (gD n.toNat),a):=by
 obtain ⟨e,i⟩:=XA h g;unfold eM;rw [NN b c 59 a (yI b c 0 n h) (U3 b)];simp only [if_true];rw [aQ (by simp only [d,false_or];omega),e]
theorem U4 {l:Bs} (c:¬ bH l=2) (b:¬ bH l=1):bH l=0:=by
 rcases C9 l with a|a|a
 ·exact a
 ·exact absurd a b
 ·exact absurd a c
theorem XB {f:Bool} {ents:aM} {o:Option (Bs→Option Bs)} {rest t r:Bs} (z:kR o ents) (h:jE ents rest=.ok (t,r)):∃ a,iG f o rest=.ok (a,some t,r):=by
 unfold jE at h;cases u:hZ 59 rest with
 | none=>rw [u] at h;cases h
 | some nm=>
  rw [u] at h;cases nm with
  | nil=>cases h
  | cons c tl=>
   simp only at h;obtain ⟨b,A⟩:=AE u;rw [f5] at b;generalize rest.drop (tl.length+1+1)=after at b;have g:rest.drop (tl.length+2)=after:=by
    rw [b,rH,List.drop_succ_cons,List.drop_append,tW (by omega),List.nil_append,show tl.length+1-tl.length=1 by omega];rfl
   rw [g] at h;subst b;split at h
   ·rename_i l;subst l;cases e:hH tl with
    | none=>rw [e] at h;cases h
    | some n=>
     rw [e] at h;simp only at h;split at h
     ·rename_i w;simp only [cD,b8] at h;obtain ⟨rfl,rfl⟩:=h;unfold hH at e;cases tl with
      | nil=>cases e
      | cons d tl2=>
       simp only at e;unfold iG;simp only [rH,if_true];split at e
       ·rename_i m;split at e
        ·cases e
        ·rename_i q;rw [aY m];have v:=AS (f:=f) (pre:=[38,35,120]) e w q after;cases j:tl2++59::after with
         | nil=>simp at j
         | cons y ys=>rw [j] at v;exact ⟨_,v⟩
       ·rename_i m;rw [aQ m];exact ⟨_,AS (f:=f) (pre:=[38,35]) e w (by simp) after⟩
     ·cases h
   ·rename_i l;split at h
    ·cases h
    ·rename_i D;split at h
     ·cases h
     ·rename_i C;have B:bH (c::tl)=0:=U4 D C;obtain ⟨_,s,k⟩:=nS B;cases p:eA (oF++ents) (c::tl) with
      | none=>rw [p] at h;cases h
      | some x=>
       rw [p] at h;simp only [cD,b8] at h;obtain ⟨rfl,rfl⟩:=h;have i:=IR (c::tl) 59 after k (by decide);unfold iG;simp only [rH] at i ⊢;rw [aQ l,i];simp only [if_true];rw [aY s,z,p];exact ⟨_,rfl⟩
theorem TW {f:Bool} {ents:aM} {o:Option (Bs→Option Bs)} {rest a t r:Bs} (I:kR o ents) (h:iG f o rest=.ok (a,some t,r)):jE ents rest≠.error .bad:=by
 have u:∀ {g:Bool} {pre l:Bs},eM f g pre l=.ok (a,some t,r)→∃ i,i≠[]∧l=i++59::r∧(∀ c∈i,eU g c=true):=by
  intro g pre l j;obtain ⟨s,D⟩:=IS g l;unfold eM at j;cases A:(bX g l).2 with
  | nil=>rw [A] at j;cases j
  | cons b after=>
   rw [A] at j s;simp only at j;split at j
   ·rename_i E;subst E;simp only [cD,b8] at j;obtain ⟨_,j,rfl⟩:=j;split at j
    ·cases j
    ·rename_i p;exact ⟨(bX g l).1,fun H=>p (aG H),s.symm,D⟩
   ·simp at j
 have q:∀ {g:Bool} {i:Bs},(∀ c∈i,eU g c=true)→∃ n,bP g 0 i=some n:=by
  intro g i v;obtain ⟨m,s,_⟩:=yH g i 0 0 (aG ⟨rfl,by omega⟩) v;exact ⟨m,s⟩
 have z:∀ {g:Bool} {i:Bs},(∀ c∈i,eU g c=true)→(59:UInt8)∉i:=fun {g} {i} v j=>by
  have:=v 59 j;rw [U3] at this;cases this
 unfold iG at h;cases rest with
 | nil=>cases h
 | cons c r0=>
  simp only at h;split at h
  ·rename_i F;subst F;cases r0 with
   | nil=>cases h
   | cons d r2=>
    simp only at h;split at h
    ·rename_i v;subst v;cases r2 with
     | nil=>cases h
     | cons e r3=>
      simp only at h;obtain ⟨i,p,y,k⟩:=u h;obtain ⟨n,G⟩:=q k;have B:hZ 59 (35::120::e::r3)=some (35::120::i):=by
       rw [y];exact wG (35::120::i) r (by simp only [mF,not_or];exact ⟨by decide,by decide,z k⟩)
      unfold jE;rw [B];simp only [if_true];have x:hH (120::i)=some n:=by unfold hH;simp only [if_true];rw [aQ p];exact G
      rw [x];simp only;split<;>simp
    ·rename_i v;obtain ⟨i,p,y,k⟩:=u h;obtain ⟨n,G⟩:=q k;cases i with
     | nil=>exact absurd rfl p
     | cons d' ds'=>
      simp only [rH,List.cons.injEq] at y;obtain ⟨rfl,y⟩:=y;have B:hZ 59 (35::d::r2)=some (35::d::ds'):=by
       rw [y];exact wG (35::d::ds') r (by simp only [mF,not_or];have:=z k;simp only [mF,not_or] at this;exact ⟨by decide,this.1,this.2⟩)
      unfold jE;rw [B];simp only [if_true];have x:hH (d::ds')=some n:=by unfold hH;simp only;rw [aQ v];exact G
      rw [x];simp only;split<;>simp
  ·rename_i F;obtain ⟨s,D⟩:=pV (c::r0);cases A:(aD (c::r0)).2 with
   | nil=>rw [A] at h;cases h
   | cons b after=>
    rw [A] at h s;simp only at h;split at h
    ·rename_i E;subst E;simp only [cD,b8] at h;obtain ⟨_,h,rfl⟩:=h;split at h
     ·rename_i w;generalize (aD (c::r0)).1=nm at *;cases nm with
      | nil=>simp [cX] at w
      | cons C nm'=>
       simp only [rH,List.cons.injEq] at s;obtain ⟨rfl,s⟩:=s;have B:hZ 59 (C::r0)=some (C::nm'):=by
        rw [←s];exact wG (C::nm') after (fun j=>by have:=D 59 j;simp [cW,iX] at this)
       unfold jE;rw [B];simp only;rw [aQ F];split
       ·simp
       ·split
        ·rename_i J;rw [sS J] at w;cases w
        ·rw [I] at h;rw [h];simp
     ·cases h
    ·simp at h
theorem vN (o:cV) (q:Option UInt8) (g:Bool):∀ (n:Nat) (rest:Bs),rest.length≤n→∀ (b0 b1:UInt8) (c d r:Bs),bF o q g rest b0 b1 c=.ok (d,r)→bL d=true:=by
 intro n;induction n with
 | zero=>
  intro rest f b0 b1 c d r h;have:rest=[]:=wC (by omega);subst this;unfold bF at h;split at h
  ·cases h
  ·split at h
   ·rename_i a;simp only [cD,b8] at h;rw [←h.1];exact a
   ·cases h
 | succ n ih=>
  intro rest f b0 b1 c d r h;cases rest with
  | nil=>
   unfold bF at h;split at h
   ·cases h
   ·split at h
    ·rename_i a;simp only [cD,b8] at h;rw [←h.1];exact a
    ·cases h
  | cons b t=>
   have j:t.length≤n:=by simp at f;omega
   unfold bF at h;split at h
   ·split at h
    ·split at h
     ·rename_i a;simp only [cD,b8] at h;rw [←h.1];exact a
     ·cases h
    ·cases h
   ·split at h
    ·split at h
     ·split at h
      ·rename_i a;simp only [cD,b8] at h;rw [←h.1];exact a
      ·cases h
     ·cases h
    ·split at h
     ·split at h
      ·rename_i a;simp only [cD,b8] at h;rw [←h.1];exact a
      ·cases h
     ·split at h
      ·split at h
       ·cases h
       ·rename_i e;have i:=gE e;exact ih _ (by omega) _ _ _ _ _ h
       ·rename_i e;have i:=gE e;split at h
        ·cases h
        ·exact ih _ (by omega) _ _ _ _ _ h
      ·exact ih _ j _ _ _ _ _ h
theorem L0 (o:cV) (q:Option UInt8):∀ (n:Nat) (rest:Bs),rest.length≤n→∀ (b0 b1:UInt8) (c d r:Bs),bF o q false rest b0 b1 c=.ok (d,r)→∃ w,d=c++w:=by
 intro n;induction n with
 | zero=>
  intro rest g b0 b1 c d r h;have:rest=[]:=wC (by omega);subst this;rw [jM] at h;simp only [rW,if_false] at h;split at h
  ·simp only [cD,b8] at h;exact ⟨[],by simp [h.1]⟩
  ·cases h
 | succ n ih=>
  intro rest g b0 b1 c d r h;cases rest with
  | nil=>
   rw [jM] at h;simp only [rW,if_false] at h;split at h
   ·simp only [cD,b8] at h;exact ⟨[],by simp [h.1]⟩
   ·cases h
  | cons b t=>
   have j:t.length≤n:=by simp at g;omega
   have a:∀ {x:Bs},(∃ w,d=(c++x)++w)→∃ w,d=c++w:=fun {x} ⟨w,k⟩=>⟨x++w,by rw [k,rG]⟩;unfold bF at h;split at h
   ·simp only [rW,if_false] at h;cases h
   ·split at h
    ·split at h
     ·split at h
      ·simp only [cD,b8] at h;exact ⟨[],by simp [h.1]⟩
      ·cases h
     ·cases h
    ·split at h
     ·split at h
      ·simp only [cD,b8] at h;exact ⟨[],by simp [h.1]⟩
      ·cases h
     ·split at h
      ·split at h
       ·cases h
       ·rename_i f;have i:=gE f;exact a (ih _ (by omega) _ _ _ _ _ h)
       ·rename_i f;have i:=gE f;split at h
        ·cases h
        ·exact a (ih _ (by omega) _ _ _ _ _ h)
      ·have e:=ih _ j _ _ _ _ _ h;split at e
       ·exact a e
       ·split at e
        ·exact e
        ·exact a e
def qQ (o:cV):Prop:=∀ l a t r,iG o.fails o.ents l=.ok (a,some t,r)→t≠[]∧t.takeWhile fX=[]
theorem CG {p:UInt8→Bool} {t:Bs} (h:t≠[]) (a:t.takeWhile p=[]) (y:Bs):(t++y).takeWhile p=[]:=by
 cases t with
 | nil=>exact absurd rfl h
 | cons c t=>
  by_cases b:p c=true
  ·rw [List.takeWhile_cons_of_pos b] at a;cases a
  ·rw [rH,List.takeWhile_cons_of_neg b]
theorem L1 (o:cV) (u:o.strict=true) (p:qQ o) (q:Option UInt8) (C:∀ c,q=some c→c.toNat<128):∀ (n:Nat) (rest:Bs),rest.length≤n→∀ (b0 b1:UInt8) (e d r:Bs),b1≠13→bF o q false rest b0 b1 e=.ok (d,r)→∃ w,d=e++w∧w.takeWhile fX=rest.takeWhile fX:=by
 intro n;induction n with
 | zero=>
  intro rest v b0 b1 e d r _ h;have:rest=[]:=wC (by omega);subst this;rw [jM] at h;simp only [rW,if_false] at h;split at h
  ·simp only [cD,b8] at h;exact ⟨[],by simp [h.1],rfl⟩
  ·cases h
 | succ n ih=>
  intro rest v b0 b1 e d r m h;cases rest with
  | nil=>
   rw [jM] at h;simp only [rW,if_false] at h;split at h
   ·simp only [cD,b8] at h;exact ⟨[],by simp [h.1],rfl⟩
   ·cases h
  | cons b t=>
   have A:t.length≤n:=by simp at v;omega
   have f:∀ {c:UInt8},c.toNat<128→∀ y:Bs,([]:Bs).takeWhile fX=(c::y).takeWhile fX:=fun {c} k y=>by
    rw [List.takeWhile_cons_of_neg (by unfold fX;simp;omega)];rfl
   unfold bF at h;split at h
   ·rename_i j;simp only [rW,if_false] at h;cases h
   ·split at h
    ·rename_i j;split at h
     ·split at h
      ·simp only [cD,b8] at h;exact ⟨[],by simp [h.1],f (by rw [j.1];decide) t⟩
      ·cases h
     ·cases h
    ·split at h
     ·rename_i s;split at h
      ·simp only [cD,b8] at h;exact ⟨[],by simp [h.1],f (C b s) t⟩
      ·cases h
     ·split at h
      ·rename_i j;split at h
       ·cases h
       ·rename_i a x E z;have D:=gE z;obtain ⟨w,i,_⟩:=ih _ (by omega) _ _ _ _ _ (by decide) h;obtain ⟨B,l⟩:=p _ _ _ _ z;refine ⟨x++w,by rw [i,rG],?_⟩;rw [CG B l];exact f (by rw [j.1];decide) t
       ·first|cases h|(rw [aY u] at h;cases h)
      ·by_cases g:b=13
       ·rw [aY g] at h;have i:∃ w,d=e++[10]++w:=by
         have:=L0 o q n t A b1 b (e++[10]) d r h;exact this
        obtain ⟨w,i⟩:=i;refine ⟨10::w,by rw [i];simp,?_⟩;rw [←f (by rw [g];decide) t,←f (by decide) w]
       ·rw [aQ g,aQ (fun j=>m j.1)] at h;obtain ⟨w,i,l⟩:=ih _ A _ _ _ _ _ g h;refine ⟨b::w,by rw [i];simp,?_⟩;by_cases k:fX b=true
        ·rw [List.takeWhile_cons_of_pos k,List.takeWhile_cons_of_pos k,l]
        ·rw [List.takeWhile_cons_of_neg k,List.takeWhile_cons_of_neg k]
structure TX (rest:Bs) (b0 b1:UInt8):Prop where
 cr:b1=13→rest.head?≠some 10
 e1:b0=93→b1=93→rest.head?≠some 62
 e2:b1=93→[93,62].isPrefixOf rest=false
theorem TX.of {rest:Bs} {b0 b1:UInt8} (b:b1≠13) (a:b1≠93):TX rest b0 b1:=⟨fun h=>absurd h b,fun _ h=>absurd h a,fun h=>absurd h a⟩
theorem TX.next {b:UInt8} {r:Bs} {b0 b1:UInt8} (h:TX (b::r) b0 b1) (g:b≠13) (e:nQ.isPrefixOf (b::r)=false):TX r b1 b:=by
 refine ⟨fun a=>absurd a g,fun f d a=>?_,fun d=>?_⟩
 ·subst d;have:=h.e2 f;cases r with
  | nil=>cases a
  | cons c r=>
   simp only [List.head?_cons,jW] at a;subst a;simp [List.isPrefixOf] at this
 ·subst d;cases a:[93,62].isPrefixOf r with
  | false=>rfl
  | true=>rw [show nQ.isPrefixOf (93::r)=[93,62].isPrefixOf r by simp [nQ],a] at e;cases e
theorem yJ (o:cV) (q:Option UInt8) (l:∀ c,q=some c→c.toNat<128) (j:Bool):∀ (i rest:Bs) (b0 b1:UInt8) (a:Bs),(∀ c∈i,128≤c.toNat)→128≤b1.toNat→∃ f e,128≤e.toNat∧bF o q j (i++rest) b0 b1 a=bF o q j rest f e (a++i)
 | [],rest,b0,b1,a,_,h=>⟨b0,b1,h,by simp⟩
 | c::i,rest,b0,b1,a,m,h=>by
  have r:=m c (by simp);have g:∀ k:UInt8,k.toNat<128→c≠k:=fun k t b=>by subst b;omega
  obtain ⟨f,e,n,p⟩:=yJ o q l j i rest b1 c (a++[c]) (fun d s=>m d (by simp [s])) r;refine ⟨f,e,n,?_⟩;rw [rH,cF o q j c _ b0 b1 a (fun b=>g 62 (by decide) b.2.2.2) (fun b=>g 60 (by decide) b.1) (fun b=>by have:=l c b;omega) (fun b=>g 38 (by decide) b.1)];rw [show fH c b1 a=a++[c] by unfold fH;rw [aQ (g 13 (by decide)),aQ (fun b=>g 10 (by decide) b.2)],p];simp
theorem XC {b:UInt8} (h:128≤b.toNat):b≠13∧b≠93:=by
 refine ⟨fun a=>?_,fun a=>?_⟩
 ·subst a;simp at h
 ·subst a;simp at h
theorem CH (o:cV) (q:Option UInt8) (y:∀ c,q=some c→c.toNat<128) (f:Bool) {b:UInt8} {r:Bs} (l:(aI (b::r)).2≠0) (u:bW (aI (b::r)).1=true) {b0 b1:UInt8} (a:Bs)
  (n:¬ (q=none∧b0=93∧b1=93∧b=62)) (p:¬ (b=60∧f=false)) (s:q≠some b) (z:b≠13) (A:¬ (b1=13∧b=10)) (t:¬ (b=38∧f=false)) :
  ∃ e d,bF o q f (b::r) b0 b1 a=bF o q f ((b::r).drop (aI (b::r)).2) e d (a++(b::r).take (aI (b::r)).2)∧bL ((b::r).take (aI (b::r)).2)=true∧((b::r).drop (aI (b::r)).2).length≤r.length ∧
   ((b.toNat<128∧(b::r).drop (aI (b::r)).2=r∧e=b1∧d=b)∨(d≠13∧d≠93)):=by
 obtain ⟨j,_⟩:=KD u l;have g:fH b b1 a=a++[b]:=by unfold fH;rw [aQ z,aQ A]
 by_cases i:b.toNat<128
 ·refine ⟨b1,b,?_,j,?_,aG ⟨i,?_,rfl,rfl⟩⟩
  ·rw [kF i,cF o q f b r b0 b1 a n p s t,g];simp
  ·rw [kF i];simp
  ·rw [kF i];simp
 ·rcases oH (b:=b) (by omega) r with h|⟨x,k,h,_,B,_,C,v⟩
  ·rw [h] at l;simp at l
  ·obtain ⟨e,d,w,m⟩:=yJ o q y f (r.take k) (r.drop k) b1 b (a++[b]) (fun c j=>by have:=v c j;simp only [fX,beq_iff_eq] at this;omega) (by omega);rw [List.take_append_drop] at m;refine ⟨e,d,?_,j,?_,aU (XC w)⟩
   ·rw [h,cF o q f b r b0 b1 a n p s t,g,m];simp
   ·rw [h];simp
theorem P1 (o:cV) (f:o.strict=true) (e:qQ o) (q:Option UInt8) (m:∀ c,q=some c→c.toNat<128) {b:UInt8} {r:Bs} (k:(aI (b::r)).2=0∨bW (aI (b::r)).1=false) {b0 b1:UInt8} {a:Bs} (l:bL a=true)
  (p:¬ (q=none∧b0=93∧b1=93∧b=62)) (s:¬ (b=60∧false=false)) (t:q≠some b) (j:b≠13) (u:¬ (b1=13∧b=10)) (v:¬ (b=38∧false=false)) (d x:Bs):bF o q false (b::r) b0 b1 a≠.ok (d,x):=by
 intro h;have i:=vN o q false _ _ (dF _) _ _ _ _ _ h;rw [cF o q false b r b0 b1 a p s t v,show fH b b1 a=a++[b] by unfold fH;rw [aQ j,aQ u]] at h;obtain ⟨w,n,g⟩:=L1 o f e q m _ _ (dF _) _ _ _ _ _ j h;rw [n,rG,iW l,List.singleton_append,AB k g] at i;cases i
theorem yK (ents:aM) {b:UInt8} (a:b≠38) (r:Bs):fJ ents (b::r)=if (aI (b::r)).2=0∨bW (aI (b::r)).1=false then .error .bad else .ok ((b::r).take (aI (b::r)).2,(b::r).drop (aI (b::r)).2):=by
 rw [fJ,aQ a]
theorem AT (ents:aM) (r:Bs):fJ ents (38::r)=match jE ents r with
  | .error e=>.error e
  | .ok (t,r2)=>if bL t then .ok (t,r2) else .error .opn:=by
 rw [fJ,aY rfl];cases jE ents r<;>rfl
theorem wQ (o:cV) {ents:aM} (s:kR o.ents ents) (q:Option UInt8) (v:∀ c,q=some c→c.toNat<128) {b:UInt8} {r t j:Bs} (h:fJ ents (b::r)=.ok (t,j)) {b0 b1:UInt8} (g:Bs)
  (w:¬ (q=none∧b0=93∧b1=93∧b=62)) (y:b≠60) (p:q≠some b) (z:b≠13) (A:¬ (b1=13∧b=10)) :
  ∃ i d,bF o q false (b::r) b0 b1 g=bF o q false j i d (g++t)∧bL t=true∧j.length≤r.length∧((b.toNat<128∧j=r∧i=b1∧d=b)∨(d≠13∧d≠93)):=by
 by_cases k:b=38
 ·subst k;rw [AT] at h;cases m:jE ents r with
  | error e=>rw [m] at h;cases h
  | ok x=>
   obtain ⟨C,B⟩:=x;rw [m] at h;simp only at h;split at h
   ·rename_i u;simp only [cD,b8] at h;obtain ⟨rfl,rfl⟩:=h;obtain ⟨a,n⟩:=XB (f:=o.fails) s m;refine ⟨0,0,?_,u,gE n,aU ⟨by decide,by decide⟩⟩;rw [uB o q r b0 b1 g p,n]
   ·cases h
 ·rw [yK ents k] at h;split at h
  ·cases h
  ·rename_i l;simp only [not_or] at l;simp only [cD,b8] at h;obtain ⟨rfl,rfl⟩:=h;exact CH o q v false l.1 (by simpa using l.2) g w (fun h=>y h.1) p z A (fun h=>k h.1)
theorem ET (o:cV) {ents:aM} (n:kR o.ents ents) (g:o.strict=true) (k:qQ o) (q:Option UInt8) (v:∀ c,q=some c→c.toNat<128) {b:UInt8} {r:Bs} (h:fJ ents (b::r)=.error .bad) {b0 b1:UInt8} {f:Bs} (p:bL f=true)
  (w:¬ (q=none∧b0=93∧b1=93∧b=62)) (y:b≠60) (l:q≠some b) (z:b≠13) (A:¬ (b1=13∧b=10)) (d m:Bs):bF o q false (b::r) b0 b1 f≠.ok (d,m):=by
 by_cases j:b=38
 ·subst j;rw [AT] at h;have i:jE ents r=.error .bad:=by
   cases i:jE ents r with
   | error e=>rw [i] at h;simpa using h
   | ok x=>
    obtain ⟨C,B⟩:=x;rw [i] at h;simp only at h;split at h
    ·cases h
    ·cases h
  rw [uB o q r b0 b1 f l];cases u:iG o.fails o.ents r with
  | error e=>simp
  | ok x=>
   obtain ⟨a,t,B⟩:=x;cases t with
   | none=>simp only;rw [aY g];simp
   | some t=>exact absurd i (TW n u)
 ·rw [yK ents j] at h;split at h
  ·rename_i s;exact P1 o g k q v s p w (fun h=>y h.1) l z A (fun h=>j h.1) d m
  ·cases h
theorem yL:∀ c:UInt8,(none:Option UInt8)=some c→c.toNat<128:=fun _ h=>by cases h
theorem EU {l:Bs} (h:nQ.isPrefixOf l=true):∃ r,l=93::93::62::r:=by
 obtain ⟨r,a⟩:=List.isPrefixOf_iff_prefix.1 h;exact ⟨r,by rw [←a];rfl⟩
theorem gS {a:Bs} (h:bL a=true):bL (a++[10])=true:=by
 rw [iW h,uC (by decide),iJ];decide
theorem tN (o:cV) {ents:aM} (l:kR o.ents ents):∀ (k:Nat) (rest:Bs) (b0 b1:UInt8) (a d r:Bs),dO ents k rest a=.ok (d,r)→TX rest b0 b1→bL a=true→bF o none false rest b0 b1 a=.ok (d,r)
 | 0,_,_,_,_,_,_,h,_,_=>by unfold dO at h;cases h
 | k+1,[],b0,b1,a,d,r,h,_,j=>by
  unfold dO at h;simp only [cD,b8] at h;obtain ⟨rfl,rfl⟩:=h;rw [jM,aQ (by simp),aY j]
 | k+1,b::t,b0,b1,a,d,r,h,z,j=>by
  unfold dO at h;simp only at h;split at h
  ·rename_i C;subst C;simp only [cD,b8] at h;obtain ⟨rfl,rfl⟩:=h;rw [xK,aY rfl,aY j]
  ·rename_i v;split at h
   ·cases h
   ·rename_i A;have m:nQ.isPrefixOf (b::t)=false:=Bool.eq_false_iff.2 A;split at h
    ·rename_i f;subst f;have s:bF o none false (13::t) b0 b1 a=bF o none false t b1 13 (a++[10]):=by
      rw [cF o none false 13 t b0 b1 a (by simp) (by simp) (by simp) (by simp)];rfl
     rw [s];cases t with
     | nil=>exact tN o l k [] b1 13 _ d r h ⟨fun _=>by simp,fun _ h=>by simp at h,fun h=>by simp at h⟩ (gS j)
     | cons c n=>
      simp only at h;split at h
      ·rename_i i;subst i;rw [cF o none false 10 n b1 13 _ (by simp) (by simp) (by simp) (by simp),show fH 10 13 (a++[10])=a++[10] from rfl];exact tN o l k n 13 10 _ d r h (.of (by decide) (by decide)) (gS j)
      ·rename_i i;exact tN o l k (c::n) b1 13 _ d r h ⟨fun _ g=>i (by simpa using g),fun _ h=>by simp at h,fun h=>by simp at h⟩ (gS j)
    ·rename_i f;cases w:fJ ents (b::t) with
     | error e=>rw [w] at h;cases h
     | ok x=>
      obtain ⟨y,n⟩:=x;rw [w] at h;simp only at h;obtain ⟨p,q,s,B,_,u⟩:=wQ o l none yL w (b0:=b0) (b1:=b1) a (fun g=>z.e1 g.2.1 g.2.2.1 (by rw [g.2.2.2];rfl)) v (by simp) f (fun g=>z.cr g.1 (by rw [g.2];rfl));rw [s];refine tN o l k n p q _ d r h ?_ (by rw [iW j];exact B);rcases u with ⟨_,rfl,rfl,rfl⟩|⟨u,e4⟩
      ·exact z.next f m
      ·exact .of u e4
theorem qR (o:cV) {ents:aM} (n:kR o.ents ents) (i:o.strict=true) (g:qQ o):∀ (k:Nat) (rest:Bs) (b0 b1:UInt8) (a:Bs),dO ents k rest a=.error .bad→TX rest b0 b1→bL a=true→∀ d r,bF o none false rest b0 b1 a≠.ok (d,r)
 | 0,_,_,_,_,h,_,_=>by unfold dO at h;cases h
 | k+1,[],b0,b1,a,h,_,p=>by unfold dO at h;cases h
 | k+1,b::t,b0,b1,a,h,C,p=>by
  intro d r;unfold dO at h;simp only at h;split at h
  ·cases h
  ·rename_i q;split at h
   ·rename_i m;obtain ⟨H,D⟩:=EU m;simp only [List.cons.injEq] at D;obtain ⟨rfl,rfl⟩:=D;rw [cF o none false 93 _ b0 b1 a (by simp) (by simp) (by simp) (by simp),cF o none false 93 _ b1 93 _ (by simp) (by simp) (by simp) (by simp),qY];simp
   ·rename_i m;have s:nQ.isPrefixOf (b::t)=false:=Bool.eq_false_iff.2 m;split at h
    ·rename_i f;subst f;have A:bF o none false (13::t) b0 b1 a=bF o none false t b1 13 (a++[10]):=by
      rw [cF o none false 13 t b0 b1 a (by simp) (by simp) (by simp) (by simp)];rfl
     rw [A];cases t with
     | nil=>exact qR o n i g k [] b1 13 _ h ⟨fun _=>by simp,fun _ h=>by simp at h,fun h=>by simp at h⟩ (gS p) d r
     | cons c u=>
      simp only at h;split at h
      ·rename_i l;subst l;rw [cF o none false 10 u b1 13 _ (by simp) (by simp) (by simp) (by simp),show fH 10 13 (a++[10])=a++[10] from rfl];exact qR o n i g k u 13 10 _ h (.of (by decide) (by decide)) (gS p) d r
      ·rename_i l;exact qR o n i g k (c::u) b1 13 _ h ⟨fun _ j=>l (by simpa using j),fun _ h=>by simp at h,fun h=>by simp at h⟩ (gS p) d r
    ·rename_i f;have E:¬ ((none:Option UInt8)=none∧b0=93∧b1=93∧b=62):=fun j=>C.e1 j.2.1 j.2.2.1 (by rw [j.2.2.2];rfl);have F:¬ (b1=13∧b=10):=fun j=>C.cr j.1 (by rw [j.2];rfl);cases v:fJ ents (b::t) with
     | error e=>
      rw [v] at h;simp only [Except.error.injEq] at h;subst h;exact ET o n i g none yL v p E q (by simp) f F d r
     | ok x=>
      obtain ⟨y,u⟩:=x;rw [v] at h;simp only at h;obtain ⟨w,z,A,G,_,B⟩:=wQ o n none yL v (b0:=b0) (b1:=b1) a E q (by simp) f F;rw [A];refine qR o n i g k u w z _ h ?_ (by rw [iW p];exact G) d r;rcases B with ⟨_,rfl,rfl,rfl⟩|⟨B,e4⟩
      ·exact C.next f s
      ·exact .of B e4
theorem uP (o:cV) (b0 b1:UInt8) (a:Bs):bF o none true [] b0 b1 a=.error (bY o.fails):=by rw [jM,aY rfl]
theorem tP (o:cV):∀ (k:Nat) (rest:Bs) (b0 b1:UInt8) (a d r:Bs),eH k rest a=.ok (d,r)→TX rest b0 b1→bL a=true→bF o none true rest b0 b1 a=.ok (d,r)
 | 0,_,_,_,_,_,_,h,_,_=>by unfold eH at h;cases h
 | k+1,[],b0,b1,a,d,r,h,_,l=>by unfold eH at h;cases h
 | k+1,b::t,b0,b1,a,d,r,h,v,l=>by
  unfold eH at h;simp only at h;split at h
  ·rename_i j;obtain ⟨x,w⟩:=EU j;simp only [List.cons.injEq] at w;obtain ⟨rfl,rfl⟩:=w;simp only [cD,b8] at h;obtain ⟨rfl,rfl⟩:=h;rw [cF o none true 93 _ b0 b1 a (by simp) (by simp) (by simp) (by simp),cF o none true 93 _ b1 93 _ (by simp) (by simp) (by simp) (by simp),qY,aY rfl];have e:fH 93 93 (fH 93 b1 a)=a++[93,93]:=by simp [fH]
   rw [e];have u:(a++[93,93]).take ((a++[93,93]).length-2)=a:=by rw [fP,show a.length+[(93:UInt8),93].length-2=a.length from rfl,List.take_left' rfl]
   rw [u,aY l];rfl
  ·rename_i j;have n:nQ.isPrefixOf (b::t)=false:=Bool.eq_false_iff.2 j;split at h
   ·rename_i g;subst g;have s:bF o none true (13::t) b0 b1 a=bF o none true t b1 13 (a++[10]):=by
     rw [cF o none true 13 t b0 b1 a (by simp) (by simp) (by simp) (by simp)];rfl
    rw [s];cases t with
    | nil=>exact tP o k [] b1 13 _ d r h ⟨fun _=>by simp,fun _ h=>by simp at h,fun h=>by simp at h⟩ (gS l)
    | cons c r2=>
     simp only at h;split at h
     ·rename_i i;subst i;rw [cF o none true 10 r2 b1 13 _ (by simp) (by simp) (by simp) (by simp),show fH 10 13 (a++[10])=a++[10] from rfl];exact tP o k r2 13 10 _ d r h (.of (by decide) (by decide)) (gS l)
     ·rename_i i;exact tP o k (c::r2) b1 13 _ d r h ⟨fun _ f=>i (by simpa using f),fun _ h=>by simp at h,fun h=>by simp at h⟩ (gS l)
   ·rename_i g;split at h
    ·cases h
    ·rename_i f;simp only [not_or] at f;obtain ⟨p,q,s,u,_,m⟩:=CH o none yL true f.1 (by simpa using f.2) (b0:=b0) (b1:=b1) a (fun f=>v.e1 f.2.1 f.2.2.1 (by rw [f.2.2.2];rfl)) (by simp) (by simp) g (fun f=>v.cr f.1 (by rw [f.2];rfl)) (by simp);rw [s];refine tP o k _ p q _ d r h ?_ (by rw [iW l];exact u);rcases m with ⟨_,m,rfl,rfl⟩|⟨m,e4⟩
     ·rw [m];exact v.next g n
     ·exact .of m e4
theorem G3 (o:cV):∀ (n:Nat) (rest:Bs),rest.length≤n→∀ (b0 b1:UInt8) (e d r:Bs),(b1=93→∃ y,e=y++[93])→(b0=93→b1=93→∃ y,e=y++[93,93])→bF o none true rest b0 b1 e=.ok (d,r)→∃ w,d++[93,93]=e++w∧(b1≠13→w.takeWhile fX=rest.takeWhile fX):=by
 intro n;induction n with
 | zero=>
  intro rest p b0 b1 e d r _ _ h;have:rest=[]:=wC (by omega);subst this;rw [uP] at h;cases h
 | succ n ih=>
  intro rest p b0 b1 e d r v x h;cases rest with
  | nil=>rw [uP] at h;cases h
  | cons b t=>
   have m:t.length≤n:=by simp at p;omega
   have i:∀ {c:UInt8},c.toNat<128→∀ y:Bs,(c::y).takeWhile fX=[]:=fun {c} k y=>List.takeWhile_cons_of_neg (by unfold fX;simp;omega);by_cases j:b0=93∧b1=93∧b=62
   ·obtain ⟨rfl,rfl,rfl⟩:=j;obtain ⟨y,rfl⟩:=x rfl rfl;rw [qY,aY rfl] at h;have q:(y++[93,93]).take ((y++[93,93]).length-2)=y:=by rw [fP,show y.length+[(93:UInt8),93].length-2=y.length from rfl,List.take_left' rfl]
    rw [q] at h;split at h
    ·simp only [cD,b8] at h;exact ⟨[],by rw [h.1];simp,fun _=>(i (by decide) t).symm⟩
    ·cases h
   ·rw [cF o none true b t b0 b1 e (fun a=>j a.2) (by simp) (by simp) (by simp)] at h;unfold fH at h;by_cases f:b=13
    ·rw [aY f] at h;obtain ⟨w,l,_⟩:=ih t m b1 b _ d r (fun a=>by rw [f] at a;cases a) (fun _ a=>by rw [f] at a;cases a) h;refine ⟨10::w,by rw [l];simp,fun _=>?_⟩;rw [i (by rw [f];decide) t,i (by decide) w]
    ·rw [aQ f] at h;by_cases g:b1=13∧b=10
     ·rw [aY g] at h;obtain ⟨w,l,_⟩:=ih t m b1 b _ d r (fun a=>by rw [g.2] at a;cases a) (fun _ a=>by rw [g.2] at a;cases a) h;exact ⟨w,l,fun a=>absurd g.1 a⟩
     ·rw [aQ g] at h;obtain ⟨w,l,s⟩:=ih t m b1 b _ d r (fun a=>⟨e,by rw [a]⟩) (fun u a=>by obtain ⟨y,rfl⟩:=v u;exact ⟨y,by rw [a];simp⟩) h;refine ⟨b::w,by rw [l];simp,fun _=>?_⟩;by_cases k:fX b=true
      ·rw [List.takeWhile_cons_of_pos k,List.takeWhile_cons_of_pos k,s f]
      ·rw [List.takeWhile_cons_of_neg k,List.takeWhile_cons_of_neg k]
theorem U5 {b:UInt8} {r:Bs} (h:(aI (b::r)).2=0∨bW (aI (b::r)).1=false):b≠93:=by
 rintro rfl;rw [kF (by decide)] at h;rcases h with h|h
 ·cases h
 ·exact absurd h (by decide)
theorem qS (o:cV):∀ (k:Nat) (rest:Bs) (b0 b1:UInt8) (a:Bs),eH k rest a=.error .bad→TX rest b0 b1→bL a=true→∀ d r,bF o none true rest b0 b1 a≠.ok (d,r)
 | 0,_,_,_,_,h,_,_=>by unfold eH at h;cases h
 | k+1,[],b0,b1,a,h,_,i=>by intro d r;rw [uP];simp
 | k+1,b::t,b0,b1,a,h,u,i=>by
  intro d r;unfold eH at h;simp only at h;split at h
  ·cases h
  ·rename_i v;have l:nQ.isPrefixOf (b::t)=false:=Bool.eq_false_iff.2 v;split at h
   ·rename_i f;subst f;have p:bF o none true (13::t) b0 b1 a=bF o none true t b1 13 (a++[10]):=by
     rw [cF o none true 13 t b0 b1 a (by simp) (by simp) (by simp) (by simp)];rfl
    rw [p];cases t with
    | nil=>exact qS o k [] b1 13 _ h ⟨fun _=>by simp,fun _ h=>by simp at h,fun h=>by simp at h⟩ (gS i) d r
    | cons c r2=>
     simp only at h;split at h
     ·rename_i g;subst g;rw [cF o none true 10 r2 b1 13 _ (by simp) (by simp) (by simp) (by simp),show fH 10 13 (a++[10])=a++[10] from rfl];exact qS o k r2 13 10 _ h (.of (by decide) (by decide)) (gS i) d r
     ·rename_i g;exact qS o k (c::r2) b1 13 _ h ⟨fun _ e=>g (by simpa using e),fun _ h=>by simp at h,fun h=>by simp at h⟩ (gS i) d r
   ·rename_i f;have z:¬ ((none:Option UInt8)=none∧b0=93∧b1=93∧b=62):=fun e=>u.e1 e.2.1 e.2.2.1 (by rw [e.2.2.2];rfl);have A:¬ (b1=13∧b=10):=fun e=>u.cr e.1 (by rw [e.2];rfl);split at h
    ·rename_i e;intro q;have s:=vN o none true _ _ (dF _) _ _ _ _ _ q;rw [cF o none true b t b0 b1 a z (by simp) (by simp) (by simp),show fH b b1 a=a++[b] by unfold fH;rw [aQ f,aQ A]] at q;obtain ⟨w,C,x⟩:=G3 o _ _ (dF _) b1 b _ d r (fun h=>absurd h (U5 e)) (fun _ h=>absurd h (U5 e)) q;have y:bL (d++[93,93])=true:=by rw [iW s];decide +kernel
     rw [C,rG,iW i,List.singleton_append,AB e (x f)] at y;cases y
    ·rename_i e;simp only [not_or] at e;obtain ⟨m,n,p,B,_,j⟩:=CH o none yL true e.1 (by simpa using e.2) (b0:=b0) (b1:=b1) a z (by simp) (by simp) f A (by simp);rw [p];refine qS o k _ m n _ h ?_ (by rw [iW i];exact B) d r;rcases j with ⟨_,j,rfl,rfl⟩|⟨j,e4⟩
     ·rw [j];exact u.next f l
     ·exact .of j e4
theorem U6 (o:cV) {ents:aM} (w:kR o.ents ents) (q:UInt8) (u:q=34∨q=39):∀ (k:Nat) (rest:Bs) (b0 b1:UInt8) (a d r:Bs),pU ents q k rest a=.ok (d,r)→bL a=true→bF o (some q) false rest b0 b1 a=.ok (d,r)
 | 0,_,_,_,_,_,_,h,_=>by unfold pU at h;cases h
 | k+1,[],_,_,_,_,_,h,_=>by unfold pU at h;cases h
 | k+1,b::t,b0,b1,a,d,r,h,z=>by
  have v:∀ c,some q=some c→c.toNat<128:=fun c f=>by
   simp only [jW] at f;subst f;rcases u with rfl|rfl<;>decide
  unfold pU at h;simp only at h;split at h
  ·rename_i C;subst C;simp only [cD,b8] at h;obtain ⟨rfl,rfl⟩:=h;rw [u7 o false b t b0 b1 a (by rcases u with rfl|rfl<;>simp),aY z]
  ·rename_i p;split at h
   ·cases h
   ·rename_i n;split at h
    ·cases h
    ·rename_i g;have m:b≠13:=fun f=>g (by rw [f];exact ⟨by decide,by decide⟩);have l:b≠10:=fun f=>g (by rw [f];exact ⟨by decide,by decide⟩);cases s:fJ ents (b::t) with
     | error e=>rw [s] at h;cases h
     | ok x=>
      obtain ⟨y,D⟩:=x;rw [s] at h;simp only at h;obtain ⟨i,j,A,B,_,_⟩:=wQ o w (some q) v s (b0:=b0) (b1:=b1) a (by simp) n (fun f=>p (by simpa using f.symm)) m (fun f=>l f.2);rw [A];exact U6 o w q u k D i j _ d r h (by rw [iW z];exact B)
theorem P2 (o:cV) {ents:aM} (A:kR o.ents ents) (n:o.strict=true) (l:qQ o) (q:UInt8) (C:q=34∨q=39):∀ (k:Nat) (rest:Bs) (b0 b1:UInt8) (a d r:Bs),pU ents q k rest a=.error .bad→bL a=true→bF o (some q) false rest b0 b1 a=.ok (d,r)→r=[]
 | 0,_,_,_,_,_,_,h,_,_=>by unfold pU at h;cases h
 | k+1,[],b0,b1,a,d,r,_,u,h=>by
  rw [jM,aQ (by simp),aY u] at h;simp only [cD,b8] at h;exact h.2.symm
 | k+1,b::t,b0,b1,a,d,r,h,u,p=>by
  have m:∀ c,some q=some c→c.toNat<128:=fun c f=>by
   simp only [jW] at f;subst f;rcases C with rfl|rfl<;>decide
  unfold pU at h;simp only at h;split at h
  ·cases h
  ·rename_i B;split at h
   ·rename_i g;subst g;rw [xK,aQ (by simp)] at p;cases p
   ·rename_i g;split at h
    ·cases h
    ·rename_i s;have j:b≠13:=fun f=>s (by rw [f];exact ⟨by decide,by decide⟩);have i:b≠10:=fun f=>s (by rw [f];exact ⟨by decide,by decide⟩);have D:some q≠some b:=fun f=>B (by simpa using f.symm);cases v:fJ ents (b::t) with
     | error e=>
      rw [v] at h;simp only [Except.error.injEq] at h;subst h;exact absurd p (ET o A n l (some q) m v u (by simp) g D j (fun f=>i f.2) d r)
     | ok x=>
      obtain ⟨y,G⟩:=x;rw [v] at h;simp only at h;obtain ⟨w,z,E,F,_,_⟩:=wQ o A (some q) m v (b0:=b0) (b1:=b1) a (by simp) g D j (fun f=>i f.2);rw [E] at p;exact P2 o A n l q C k G w z _ d r h (by rw [iW u];exact F) p
theorem CI (f : Bool) : ∀ (rest : Bs), (∀ (b0 b1 : UInt8) (a : Bs), b1 ≠ 45 → cE f rest b0 b1 a = match dJ [45, 45] rest with
      | none=>.error (bY f)
      | some (_,[])=>.error (bY f)
      | some (s,c :: r)=>if c=62 then .ok (a ++ s,r) else .error .syn) ∧
    (∀ (b0:UInt8) (a:Bs),b0 ≠ 45 → cE f rest b0 45 (a ++ [45])=match dJ [45,45] (45 :: rest) with
      | none=>.error (bY f)
      | some (_,[])=>.error (bY f)
      | some (s,c :: r)=>if c=62 then .ok (a ++ s,r) else .error .syn)
  | []=>by
    refine ⟨fun b0 b1 a _=>by simp [cE,dJ],fun b0 a _=>?_⟩;simp [cE,dJ,List.isPrefixOf]
  | b :: r=>by
    obtain ⟨h,k⟩:=CI f r;refine ⟨fun b0 b1 a i=>?_,fun b0 a i=>?_⟩
    · rw [cE,aQ (fun e=>i e.2)]
      by_cases d:b=45
      · subst d
        rw [k b1 a i]
      · rw [h b1 b _ d]
        have g:[45,45].isPrefixOf (b :: r)=false:=by
          simp only [List.isPrefixOf,Bool.and_eq_false_iff,lQ];exact aG (fun e=>d e.symm)
        rw [dJ,g];simp only [rW,if_false];cases dJ [45,45] r with
        | none=>rfl
        | some x=>
          obtain ⟨s,l⟩:=x;cases l with
          | nil=>rfl
          | cons c l=>simp
    · rw [cE,aQ (fun e=>i e.1)]
      by_cases d:b=45
      · subst d
        have g:[45,45].isPrefixOf (45 :: 45 :: r)=true:=by simp [List.isPrefixOf]
        rw [dJ,g,aY rfl];cases r with
        | nil=>simp [cE]
        | cons c l=>
          rw [cE,aY ⟨rfl,rfl⟩];simp
      · rw [h 45 b _ d]
        have g:[45,45].isPrefixOf (45 :: b :: r)=false:=by
          simp only [List.isPrefixOf,Bool.and_eq_false_iff,lQ];exact aU (aG (fun e=>d e.symm))
        have j:[45,45].isPrefixOf (b :: r)=false:=by
          simp only [List.isPrefixOf,Bool.and_eq_false_iff,lQ];exact aG (fun e=>d e.symm)
        rw [dJ,g];simp only [rW,if_false];rw [dJ,j];simp only [rW,if_false];cases dJ [45,45] r with
        | none=>rfl
        | some x=>
          obtain ⟨s,l⟩:=x;cases l with
          | nil=>rfl
          | cons c l=>simp
theorem G4 {f:Bool} {rest s r:Bs} (h:dD rest=.ok (s,r)):cE f rest 0 0 []=.ok (s,r):=by
 rw [(CI f rest).1 0 0 [] (by decide)];unfold dD at h;cases b:dJ [45,45] rest with
 | none=>rw [b] at h;cases h
 | some x=>
  obtain ⟨y,l⟩:=x;rw [b] at h;cases l with
  | nil=>cases h
  | cons c l=>
   simp only at h ⊢;split at h
   ·rename_i a;split at h
    ·simp only [cD,b8] at h;obtain ⟨rfl,rfl⟩:=h;rw [aY a];rfl
    ·cases h
   ·cases h
theorem EV {f:Bool} {rest:Bs} (h:dD rest=.error .bad) (d r:Bs):cE f rest 0 0 []≠.ok (d,r):=by
 rw [(CI f rest).1 0 0 [] (by decide)];unfold dD at h;cases b:dJ [45,45] rest with
 | none=>simp
 | some x=>
  obtain ⟨y,l⟩:=x;rw [b] at h;cases l with
  | nil=>simp
  | cons c l=>
   simp only at h ⊢;split at h
   ·split at h<;>cases h
   ·rename_i a;rw [aQ a];simp
theorem yM (f : Bool) : ∀ (rest : Bs), (∀ (b0 : UInt8) (a : Bs), b0 ≠ 63 → jI f rest b0 a = match dJ [63, 62] rest with
      | none=>.error (bY f)
      | some (s,r)=>.ok (a ++ s,r)) ∧
    (∀ (a:Bs),jI f rest 63 (a ++ [63])=match dJ [63,62] (63 :: rest) with
      | none=>.error (bY f)
      | some (s,r)=>.ok (a ++ s,r))
  | []=>by
    refine ⟨fun b0 a _=>by simp [jI,dJ],fun a=>?_⟩;simp [jI,dJ,List.isPrefixOf]
  | b :: r=>by
    obtain ⟨h,i⟩:=yM f r;refine ⟨fun b0 a k=>?_,fun a=>?_⟩
    · rw [jI,aQ (fun d=>k d.1)]
      by_cases c:b=63
      · subst c
        rw [i a]
      · rw [h b _ c]
        have g:[63,62].isPrefixOf (b :: r)=false:=by
          simp only [List.isPrefixOf,Bool.and_eq_false_iff,lQ];exact aG (fun d=>c d.symm)
        rw [dJ,g];simp only [rW,if_false];cases dJ [63,62] r with
        | none=>rfl
        | some x=>simp
    · rw [jI]
      by_cases e:b=62
      · subst e
        have g:[63,62].isPrefixOf (63 :: 62 :: r)=true:=by simp [List.isPrefixOf]
        rw [aY ⟨rfl,rfl⟩,dJ,g,aY rfl];simp
      · rw [aQ (fun d=>e d.2)]
        have g:[63,62].isPrefixOf (63 :: b :: r)=false:=by
          simp only [List.isPrefixOf,Bool.and_eq_false_iff,lQ];exact aU (aG (fun d=>e d.symm))
        rw [dJ,g];simp only [rW,if_false];by_cases c:b=63
        · subst c
          rw [i];cases dJ [63,62] (63 :: r) with
          | none=>rfl
          | some x=>simp
        · rw [h b _ c]
          have j:[63,62].isPrefixOf (b :: r)=false:=by
            simp only [List.isPrefixOf,Bool.and_eq_false_iff,lQ];exact aG (fun d=>c d.symm)
          rw [dJ,j];simp only [rW,if_false];cases dJ [63,62] r with
          | none=>rfl
          | some x=>simp
theorem mD {l:Bs} (h:eD l=true):bH l=0∧(58:UInt8)∉l:=by
 unfold eD at h;simp only [FI,Bool.not_eq_true',beq_iff_eq] at h;refine ⟨h.2,fun a=>?_⟩;have:=h.1;rw [List.contains_iff_mem.2 a] at this;cases this
theorem tQ {f:Bool} {rest:Bs} (h:bH (aD rest).1=0):eT f rest=if (aD rest).2=[] then .error (bY f) else .ok (aD rest):=by
 obtain ⟨a,b,_⟩:=nS h;unfold eT;rw [aQ a,aY b]
theorem AU {f:Bool} {rest:Bs} (h:bH (aD rest).1=1) (x:Bs×Bs):eT f rest≠.ok x:=by
 have a:=sS h;unfold eT;split
 ·simp
 ·split
  ·simp
  ·rw [a];simp
theorem P3:(kC.all fun s=>A8 s)=true:=by decide +kernel
theorem TY (o:cV) {first:Bool} {rest f s r:Bs} (h:fI first rest=.ok ((f,s),r)):y4 o rest=.ok (.proc f s,r):=by
 unfold fI at h;split at h
 ·cases h
 ·split at h
  ·cases h
  ·rename_i l;obtain ⟨k,_⟩:=mD (by simpa using l);split at h
   ·cases h
   ·rename_i y n a;split at h
    ·cases h
    ·rename_i e;simp only [cD,b8] at h;obtain ⟨⟨rfl,rfl⟩,rfl⟩:=h;have c:(aD rest).2≠[]:=fun b=>by rw [b] at a;simp [aT,dJ] at a
     unfold y4;rw [tQ k,aQ c];simp only;rw [(yM o.fails (aT (aD rest).2)).1 0 [] (by decide),a];simp only [List.nil_append];rw [aQ];rintro ⟨m,j⟩;simp only [not_or] at e;have g:vY (aD rest).1=true:=by rw [m];decide
     have i:first=true∧(aD rest).1=mN∧kC.contains y=true:=Classical.byContradiction fun b=>e.2.2 ⟨g,b⟩
     have d:=List.all_eq_true.1 P3 y (List.contains_iff_mem.1 i.2.2);rw [j] at d;cases d
theorem EW (o:cV) {first:Bool} {rest:Bs} (h:fI first rest=.error .bad) (x:aP×Bs):y4 o rest≠.ok x∧y4 o rest≠.error .other:=by
 unfold fI at h;split at h
 ·rename_i c;unfold y4;cases a:eT o.fails rest with
  | error e=>
   refine ⟨by simp,?_⟩;unfold eT at a;intro d;simp only [Except.error.injEq] at d;subst d;repeat' split at a
   all_goals first
    | cases a
    | (simp only [Except.error.injEq] at a;unfold bY at a;split at a<;>cases a)
  | ok y=>exact absurd a (AU c y)
 ·split at h
  ·cases h
  ·rename_i a;obtain ⟨c,_⟩:=mD (by simpa using a);split at h
   ·rename_i f;unfold y4;rw [tQ c];by_cases b:(aD rest).2=[]
    ·rw [aY b];exact ⟨by simp,by cases o.fails<;>simp [bY]⟩
    ·rw [aQ b];simp only;rw [(yM o.fails (aT (aD rest).2)).1 0 [] (by decide),f];exact ⟨by simp,by cases o.fails<;>simp [bY]⟩
   ·split at h<;>cases h
def m5 (c:UInt8):Bool:=c != 60&&c != 62&&c != 34&&c != 39
theorem AV (f:Bool):∀ (s r a:Bs),(∀ c∈s,m5 c=true)→eZ f (s++62::r) 0 0 a=.ok (a++s,r)
 | [],r,a,_=>by rw [List.nil_append,eZ];simp
 | c::s,r,a,h=>by
  have g:=h c (by simp);simp only [m5,FI,bne_iff_ne] at g;obtain ⟨⟨⟨i,e⟩,j⟩,k⟩:=g;have ih:=AV f s r (a++[c]) (fun d l=>h d (by simp [l]));rw [rH,eZ,aQ (fun b=>e b.2.1),gP.eq_def];split
  ·rename_i m;rw [ih];simp
  ·rw [aQ (by simp),aQ (fun b=>b.elim k j)];try rw [aQ e,aQ i]
   rw [ih];simp
theorem yN:∀ {l r:Bs},lZ l=some r→∃ s,l=s++62::r∧∀ c∈s,m5 c=true
 | [],r,h=>by cases h
 | b::l,r,h=>by
  unfold lZ at h;split at h
  ·rename_i e;simp only [jW] at h;subst h;subst e;exact ⟨[],rfl,by simp⟩
  ·rename_i e;split at h
   ·cases h
   ·rename_i d;simp only [not_or] at d;obtain ⟨s,rfl,f⟩:=yN h;refine ⟨b::s,rfl,fun c a=>?_⟩;simp only [mF] at a;rcases a with rfl|a
    ·simp only [m5,FI,bne_iff_ne];exact ⟨⟨⟨d.1,e⟩,d.2.2.1⟩,d.2.2.2⟩
    ·exact f c a
theorem P4:∀ (l:Bs),∃ a,l=a++aT l∧∀ c∈a,l6 c=true
 | []=>⟨[],rfl,by simp⟩
 | b::r=>by
  unfold aT;split
  ·rename_i g;obtain ⟨a,e,f⟩:=P4 r;refine ⟨b::a,by rw [rH,←e],fun c d=>?_⟩;simp only [mF] at d;rcases d with rfl|d
   ·exact g
   ·exact f c d
  ·exact ⟨[],rfl,by simp⟩
theorem P5 {c:UInt8} (h:l6 c=true):m5 c=true:=by
 simp only [l6,Bool.or_eq_true,beq_iff_eq] at h;rcases h with ((rfl|rfl)|rfl)|rfl<;>decide
theorem P6 {c:UInt8} (h:cW c=true):m5 c=true:=by
 simp only [m5,FI,bne_iff_ne];refine ⟨⟨⟨?_,?_⟩,?_⟩,?_⟩<;>(rintro rfl;revert h;decide)
theorem XD (o:cV) {rest d r:Bs} (h:oY rest=.ok (d,r)):eZ o.fails ([79,67,84,89,80,69]++rest) 0 0 [68]=.ok (rK++d,r):=by
 unfold oY at h;split at h
 ·cases h
 ·split at h
  ·cases h
  ·rename_i f p;split at h
   ·simp only [cD,b8] at h;obtain ⟨rfl,rfl⟩:=h;obtain ⟨a,i,j⟩:=P4 rest;obtain ⟨k,l⟩:=pV (aT rest);obtain ⟨s,m,n⟩:=yN p;generalize (aD (aT rest)).1=w at *;have e:rest=(a++w++s)++62::f:=by rw [i,←k,m];simp
    have g:rest.take (rest.length-f.length-1)=a++w++s:=by
     rw [e,fP,f5,show (a++w++s).length+(f.length+1)-f.length-1=(a++w++s).length by omega,List.take_left' rfl]
    rw [g];have:=AV o.fails ([79,67,84,89,80,69]++(a++w++s)) f [68] (fun c b=>by
     rw [List.mem_append] at b;rcases b with b|b
     ·revert c;decide
     ·rw [List.mem_append,List.mem_append] at b;rcases b with (b|b)|b
      ·exact P5 (j c b)
      ·exact P6 (l c b)
      ·exact n c b)
    rw [e,←rG];exact this
   ·cases h
theorem P7 {p:UInt8→Bool} {c:UInt8}:∀ {l:Bs},c∈l.takeWhile p→p c=true
 | [],h=>by cases h
 | b::r,h=>by
  by_cases a:p b=true
  ·rw [List.takeWhile_cons_of_pos a,mF] at h;rcases h with rfl|h
   ·exact a
   ·exact P7 h
  ·rw [List.takeWhile_cons_of_neg a] at h;cases h
theorem G5 {l p a:Bs} (h:jD l=some (p,a)):dX l=(p,a)∧dW l≤1:=by
 unfold jD at h;have f:l=l.takeWhile (· != 58)++l.dropWhile (· != 58):=List.takeWhile_append_dropWhile.symm;have i:((l.takeWhile (· != 58)).filter (·==58))=[]:=by
  rw [List.filter_eq_nil_iff];intro c d;have:=P7 d;simpa using this
 unfold dX dW;cases b:l.dropWhile (· != 58) with
 | nil=>
  rw [b] at h;simp only [jW,b8] at h;obtain ⟨rfl,rfl⟩:=h;refine ⟨rfl,?_⟩;rw [b,List.append_nil] at f;rw [f,i];simp
 | cons c y=>
  rw [b] at h;simp only at h;split at h
  ·cases h
  ·rename_i k;split at h
   ·cases h
   ·rename_i j;simp only [jW,b8] at h;obtain ⟨rfl,rfl⟩:=h;refine ⟨by simp only;rw [aQ j],?_⟩;have g:y.filter (·==58)=[]:=by
     rw [List.filter_eq_nil_iff];intro c d e;have:c=58:=by simpa using e
     subst this;exact k (List.contains_iff_mem.2 d)
    conv=>lhs;rw [f,b,List.filter_append,i,List.nil_append]
    rw [List.filter_cons,g];split<;>simp
theorem nO {f:Bool} {rest r:Bs} {nm:Bs×Bs} (h:fL rest=.ok (nm,r)):(r≠[]→cL f rest=.ok (nm,r))∧(r=[]→cL f rest=.error (bY f))∧nm.2≠[]∧r.length<rest.length:=by
 unfold fL at h;split at h
 ·cases h
 ·rename_i m;split at h
  ·cases h
  ·rename_i n;have d:=U4 n m;split at h
   ·cases h
   ·rename_i p l k;split at h
    ·cases h
    ·rename_i e;simp only [not_or] at e;simp only [cD,b8] at h;obtain ⟨rfl,rfl⟩:=h;obtain ⟨g,o⟩:=G5 k;obtain ⟨b,_,_⟩:=nS d;have j:l≠[]:=fun i=>e.1 (by rw [i];decide);have a:(aD rest).2.length<rest.length:=by
      have:=congrArg List.length (pV rest).1;rw [fP] at this;have:0<(aD rest).1.length:=List.length_pos_iff.2 b;omega
     refine ⟨fun c=>?_,fun c=>?_,j,a⟩
     ·unfold cL;rw [tQ d,aQ c];simp only;rw [aQ (by omega),g]
     ·unfold cL;rw [tQ d,aY c]
theorem yO {f:Bool} {rest:Bs} (h:fL rest=.error .bad) (x:(Bs×Bs)×Bs):cL f rest≠.ok x:=by
 unfold fL at h;split at h
 ·rename_i b;unfold cL;cases a:eT f rest with
  | error e=>simp
  | ok y=>exact absurd a (AU b y)
 ·split at h
  ·cases h
  ·split at h
   ·cases h
   ·split at h<;>cases h
theorem JP (o:cV) {ents:aM} (n:kR o.ents ents) {rest r:Bs} {a:cO} (h:dZ ents rest=.ok (a,r)):gF o rest=.ok (a,r):=by
 unfold dZ at h;cases g:fL rest with
 | error e=>rw [g] at h;cases h
 | ok x=>
  obtain ⟨nm,l⟩:=x;rw [g] at h;obtain ⟨t,_,_,_⟩:=nO (f:=o.fails) g;cases c:aT l with
  | nil=>simp only [c] at h;cases h
  | cons b r2=>
   simp only [c] at h;have i:l≠[]:=fun s=>by rw [s] at c;cases c
   unfold gF;rw [t i];simp only [c];split at h
   ·rename_i p;rw [aY p];cases d:aT r2 with
    | nil=>rw [d] at h;cases h
    | cons q r3=>
     rw [d] at h;simp only at h;split at h
     ·rename_i k;cases j:pU ents q (r3.length+1) r3 [] with
      | error e=>rw [j] at h;cases h
      | ok y=>
       obtain ⟨v,u⟩:=y;rw [j] at h;simp only [cD,b8] at h;obtain ⟨rfl,rfl⟩:=h;have m:=U6 o n q k _ _ 0 0 [] v u j iJ;unfold dY;simp only;rw [aY k,m]
     ·cases h
   ·cases h
theorem P8 (o:cV) {ents:aM} (w:kR o.ents ents) (d:o.strict=true) (m:qQ o) {rest r:Bs} {a:cO} (h:dZ ents rest=.error .bad) (c:gF o rest=.ok (a,r)):r=[]:=by
 unfold dZ at h;cases j:fL rest with
 | error e=>
  rw [j] at h;simp only [Except.error.injEq] at h;subst h;unfold gF at c;cases t:cL o.fails rest with
  | error e=>rw [t] at c;cases c
  | ok x=>exact absurd t (yO j x)
 | ok x=>
  obtain ⟨nm,u⟩:=x;rw [j] at h;obtain ⟨A,B,_,_⟩:=nO (f:=o.fails) j;unfold gF at c;by_cases g:u=[]
  ·rw [B g] at c;cases c
  ·rw [A g] at c;cases s:aT u with
   | nil=>simp only [s] at c;cases c
   | cons b r2=>
    simp only [s] at h c;split at h
    ·rename_i l;rw [aY l] at c;cases i:aT r2 with
     | nil=>rw [i] at c;simp [dY] at c
     | cons q r3=>
      rw [i] at h c;simp only at h;unfold dY at c;simp only at c;split at h
      ·rename_i k;rw [aY k] at c;cases p:pU ents q (r3.length+1) r3 [] with
       | ok y=>rw [p] at h;cases h
       | error e=>
        rw [p] at h;simp only [Except.error.injEq] at h;subst h;cases n:bF o (some q) false r3 0 0 [] with
        | error e=>rw [n] at c;cases c
        | ok z=>
         obtain ⟨v,C⟩:=z;rw [n] at c;simp only [cD,b8] at c;obtain ⟨_,rfl⟩:=c;exact P2 o w d m q k _ _ 0 0 [] v C p iJ n
      ·rename_i k;rw [aQ k,aY d] at c;cases c
    ·rename_i l;rw [aQ l,aY d] at c;cases c
theorem EX (o:cV) {ents:aM} (j:kR o.ents ents):∀ (k:Nat) (rest:Bs) (acc d:List cO) (em:Bool) (r:Bs),cZ ents k rest acc=.ok (d,em,r)→dL o k rest acc=.ok (d,em,r)
 | 0,_,_,_,_,_,h=>by unfold cZ at h;cases h
 | k+1,rest,acc,d,em,r,h=>by
  unfold cZ at h;unfold dL;cases l:aT rest with
  | nil=>simp only [l] at h;cases h
  | cons b t=>
   simp only [l] at h ⊢;split at h
   ·rename_i m;subst m;simp only [cD,b8] at h;obtain ⟨rfl,rfl,rfl⟩:=h;rw [aQ (by decide),aY rfl]
   ·rename_i g;split at h
    ·rename_i f;rw [aY f];cases t with
     | nil=>cases h
     | cons c t2=>
      simp only at h ⊢;split at h
      ·rename_i n;rw [aY n];simp only [cD,b8] at h ⊢;exact h
      ·cases h
    ·rename_i f;rw [aQ f,aQ g];cases i:dZ ents (b::t) with
     | error e=>rw [i] at h;cases h
     | ok x=>
      obtain ⟨a,p⟩:=x;rw [i] at h;rw [JP o j i];simp only at h ⊢;split at h
      ·cases h
      ·split at h
       ·cases h
       ·exact EX o j k p _ d em r h
theorem AW (o:cV) {ents:aM} (l:kR o.ents ents) (g:o.strict=true) (f:qQ o):∀ (k:Nat) (rest:Bs) (acc:List cO),cZ ents k rest acc=.error .bad→∀ x,dL o k rest acc≠.ok x
 | 0,_,_,h=>by unfold cZ at h;cases h
 | k+1,rest,acc,h=>by
  intro x;unfold cZ at h;unfold dL;cases q:aT rest with
  | nil=>simp
  | cons b t=>
   simp only [q] at h ⊢;split at h
   ·cases h
   ·rename_i j;split at h
    ·rename_i d;rw [aY d];cases t with
     | nil=>simp
     | cons c t2=>
      simp only at h ⊢;split at h
      ·cases h
      ·rename_i n;rw [aQ n];simp
    ·rename_i d;rw [aQ d,aQ j];cases i:dZ ents (b::t) with
     | error e=>
      rw [i] at h;simp only [Except.error.injEq] at h;subst h;cases p:gF o (b::t) with
      | error e=>simp
      | ok y=>
       obtain ⟨a,m⟩:=y;have:=P8 o l g f i p;subst this;simp only;cases k with
       | zero=>unfold dL;simp
       | succ k=>unfold dL;simp [aT]
     | ok y=>
      obtain ⟨a,m⟩:=y;rw [i] at h;rw [JP o l i];simp only at h ⊢;split at h
      ·cases h
      ·split at h
       ·cases h
       ·exact AW o l g f k m _ h x
abbrev vO {α:Type} (f:Bool) (r:Except EK α):Prop:=∀ e,r=.error e→e=.syn∨e=bY f
theorem aZ {α:Type} (f:Bool):vO f (.error (bY f):Except EK α):=fun e h=>aU (by simpa using h.symm)
theorem bG {α:Type} {f:Bool}:vO f (.error .syn:Except EK α):=fun e h=>aG (by simpa using h.symm)
theorem bQ {α:Type} {f:Bool} (a:α):vO f (.ok a:Except EK α):=fun e h=>by cases h
theorem AX (f a:Bool) (p r:Bs):vO f (eM f a p r):=by
 unfold eM;split
 ·(first|exact aZ _|exact bG|exact bQ _)
 ·split<;>(first|exact aZ _|exact bG|exact bQ _)
theorem TZ (f:Bool) (a:Option (Bs→Option Bs)) (r:Bs):vO f (iG f a r):=by
 unfold iG;split
 ·(first|exact aZ _|exact bG|exact bQ _)
 ·split
  ·split
   ·(first|exact aZ _|exact bG|exact bQ _)
   ·split
    ·split
     ·(first|exact aZ _|exact bG|exact bQ _)
     ·exact AX _ _ _ _
    ·exact AX _ _ _ _
  ·split
   ·(first|exact aZ _|exact bG|exact bQ _)
   ·split<;>(first|exact aZ _|exact bG|exact bQ _)
theorem yP (o:cV) (q:Option UInt8) (f:Bool):∀ (n:Nat) (rest:Bs),rest.length≤n→∀ (b0 b1:UInt8) (a:Bs),vO o.fails (bF o q f rest b0 b1 a):=by
 intro n;induction n with
 | zero=>
  intro rest d b0 b1 a;have:rest=[]:=wC (by omega);subst this;unfold bF;split
  ·(first|exact aZ _|exact bG|exact bQ _)
  ·split<;>(first|exact aZ _|exact bG|exact bQ _)
 | succ n ih=>
  intro rest d b0 b1 a;cases rest with
  | nil=>
   unfold bF;split
   ·(first|exact aZ _|exact bG|exact bQ _)
   ·split<;>(first|exact aZ _|exact bG|exact bQ _)
  | cons b t=>
   have g:t.length≤n:=by simp at d;omega
   unfold bF;split
   ·split
    ·split<;>(first|exact aZ _|exact bG|exact bQ _)
    ·(first|exact aZ _|exact bG|exact bQ _)
   ·split
    ·split
     ·split<;>(first|exact aZ _|exact bG|exact bQ _)
     ·(first|exact aZ _|exact bG|exact bQ _)
    ·split
     ·split<;>(first|exact aZ _|exact bG|exact bQ _)
     ·split
      ·split
       ·rename_i e c;intro i h;simp only [Except.error.injEq] at h;subst h;exact TZ _ _ _ _ c
       ·rename_i c;have:=gE c;exact ih _ (by omega) _ _ _
       ·rename_i c;have:=gE c;split
        ·(first|exact aZ _|exact bG|exact bQ _)
        ·exact ih _ (by omega) _ _ _
      ·exact ih _ g _ _ _
theorem EY (f:Bool) (r:Bs):vO f (eT f r):=by
 unfold eT;split
 ·(first|exact aZ _|exact bG|exact bQ _)
 ·split
  ·(first|exact aZ _|exact bG|exact bQ _)
  ·split<;>(first|exact aZ _|exact bG|exact bQ _)
theorem lX {α β:Type} {f:Bool} {r:Except EK α} {e:EK} (h:vO f r) (b:r=.error e):vO f (.error e:Except EK β):=by
 intro c a;simp only [Except.error.injEq] at a;subst a;exact h _ b
theorem sI (f:Bool) (r:Bs):vO f (cL f r):=by
 unfold cL;split
 ·rename_i a;exact lX (EY _ _) a
 ·split<;>(first|exact aZ _|exact bG|exact bQ _)
theorem EZ (o:cV) (r:Bs):vO o.fails (dY o r):=by
 unfold dY;split
 ·(first|exact aZ _|exact bG|exact bQ _)
 ·split
  ·exact yP _ _ _ _ _ (dF _) _ _ _
  ·split
   ·(first|exact aZ _|exact bG|exact bQ _)
   ·split<;>(first|exact aZ _|exact bG|exact bQ _)
theorem P9 (o:cV) (r:Bs):vO o.fails (gF o r):=by
 unfold gF;split
 ·rename_i a;exact lX (sI _ _) a
 ·split
  ·(first|exact aZ _|exact bG|exact bQ _)
  ·split
   ·split
    ·rename_i a;exact lX (EZ _ _) a
    ·(first|exact aZ _|exact bG|exact bQ _)
   ·split<;>(first|exact aZ _|exact bG|exact bQ _)
theorem AY (o:cV):∀ (k:Nat) (rest:Bs) (acc:List cO),rest.length<k→vO o.fails (dL o k rest acc)
 | 0,_,_,h=>by omega
 | k+1,rest,acc,h=>by
  unfold dL;split
  ·(first|exact aZ _|exact bG|exact bQ _)
  ·rename_i b i e;split
   ·split
    ·(first|exact aZ _|exact bG|exact bQ _)
    ·split<;>(first|exact aZ _|exact bG|exact bQ _)
   ·split
    ·(first|exact aZ _|exact bG|exact bQ _)
    ·split
     ·rename_i c;exact lX (P9 _ _) c
     ·rename_i a f c;have g:=DX c;have d:(aT rest).length≤rest.length:=(eO rest).length_le;rw [e] at d;exact AY o k f _ (by omega)
theorem L3 (o:cV) (r:Bs):vO o.fails (fB o r):=by
 unfold fB;split
 ·rename_i a;exact lX (sI _ _) a
 ·split
  ·rename_i a;exact lX (AY _ _ _ _ (Nat.lt_succ_self _)) a
  ·(first|exact aZ _|exact bG|exact bQ _)
theorem T1 (o:cV) (r:Bs):vO o.fails (m8 o r):=by
 unfold m8;split
 ·rename_i a;exact lX (sI _ _) a
 ·split
  ·(first|exact aZ _|exact bG|exact bQ _)
  ·split<;>(first|exact aZ _|exact bG|exact bQ _)
theorem vQ (f:Bool):∀ (r:Bs) (b0 b1:UInt8) (a:Bs),vO f (cE f r b0 b1 a)
 | [],_,_,_=>by unfold cE;(first|exact aZ _|exact bG|exact bQ _)
 | b::r,b0,b1,a=>by
  unfold cE;split
  ·split<;>(first|exact aZ _|exact bG|exact bQ _)
  ·exact vQ f r _ _ _
theorem vR (f:Bool):∀ (r:Bs) (b0 b1:UInt8),vO f (cY f r b0 b1)
 | [],_,_=>by unfold cY;(first|exact aZ _|exact bG|exact bQ _)
 | b::r,b0,b1=>by
  unfold cY;split
  ·(first|exact aZ _|exact bG|exact bQ _)
  ·exact vR f r _ _
theorem XE (f:Bool):∀ (n:Nat),(∀ (r:Bs),r.length≤n→∀ (b c:UInt8) (d:Int) (a:Bs),vO f (gP f b r c d a))∧(∀ (r:Bs),r.length≤n→∀ (c:UInt8) (d:Int) (a:Bs),vO f (eZ f r c d a)):=by
 intro n;induction n with
 | zero=>
  have g:∀ (r:Bs),r.length≤0→∀ (c:UInt8) (d:Int) (a:Bs),vO f (eZ f r c d a):=by
   intro r e c d a;have:r=[]:=wC (by omega);subst this;unfold eZ;(first|exact aZ _|exact bG|exact bQ _)
  refine ⟨fun r e b c d a=>?_,g⟩;have:r=[]:=wC (by omega);subst this;unfold gP;repeat' split
  all_goals first|(first|exact aZ _|exact bG|exact bQ _)|contradiction|exact g _ (by simp) _ _ _
 | succ n ih=>
  have g:∀ (r:Bs),r.length≤n+1→∀ (c:UInt8) (d:Int) (a:Bs),vO f (eZ f r c d a):=by
   intro r e c d a;cases r with
   | nil=>unfold eZ;(first|exact aZ _|exact bG|exact bQ _)
   | cons b r=>
    unfold eZ;split
    ·(first|exact aZ _|exact bG|exact bQ _)
    ·exact ih.1 _ (by simp at e;omega) _ _ _ _
  refine ⟨fun r e b c d a=>?_,g⟩;unfold gP;split
  ·exact g _ e _ _ _
  ·split
   ·exact g _ e _ _ _
   ·split
    ·exact g _ e _ _ _
    ·split
     ·exact g _ e _ _ _
     ·split
      ·split
       ·(first|exact aZ _|exact bG|exact bQ _)
       ·simp only [f5] at e;split
        ·split
         ·(first|exact aZ _|exact bG|exact bQ _)
         ·simp only [f5] at e;split
          ·split
           ·(first|exact aZ _|exact bG|exact bQ _)
           ·simp only [f5] at e;split
            ·split
             ·rename_i h;exact lX (vR _ _ _ _) h
             ·rename_i h;have:=jX h;exact ih.2 _ (by omega) _ _ _
            ·exact ih.1 _ (by omega) _ _ _ _
          ·exact ih.1 _ (by omega) _ _ _ _
        ·exact ih.1 _ (by omega) _ _ _ _
      ·exact g _ e _ _ _
theorem AZ (f:Bool):∀ (p r:Bs),vO f (fA f p r)
 | [],_=>by unfold fA;(first|exact aZ _|exact bG|exact bQ _)
 | _::_,[]=>by unfold fA;(first|exact aZ _|exact bG|exact bQ _)
 | p::ps,b::r=>by
  unfold fA;split
  ·exact AZ f ps r
  ·(first|exact aZ _|exact bG|exact bQ _)
theorem QA (o:cV) (r:Bs):vO o.fails (jJ o r):=by
 unfold jJ;split
 ·(first|exact aZ _|exact bG|exact bQ _)
 ·split
  ·split
   ·(first|exact aZ _|exact bG|exact bQ _)
   ·split
    ·split
     ·rename_i a;exact lX (vQ _ _ _ _ _) a
     ·(first|exact aZ _|exact bG|exact bQ _)
    ·(first|exact aZ _|exact bG|exact bQ _)
  ·split
   ·split
    ·rename_i a;exact lX (AZ _ _ _) a
    ·split
     ·rename_i a;exact lX (yP _ _ _ _ _ (dF _) _ _ _) a
     ·(first|exact aZ _|exact bG|exact bQ _)
   ·split
    ·rename_i a;exact lX ((XE _ _).2 _ (dF _) _ _ _) a
    ·(first|exact aZ _|exact bG|exact bQ _)
theorem E0 (f:Bool):∀ (r:Bs) (b0:UInt8) (a:Bs),vO f (jI f r b0 a)
 | [],_,_=>by unfold jI;(first|exact aZ _|exact bG|exact bQ _)
 | b::r,b0,a=>by
  unfold jI;split
  ·(first|exact aZ _|exact bG|exact bQ _)
  ·exact E0 f r _ _
theorem XF (o:cV) (r:Bs) (h:y4 o r≠.error .other):vO o.fails (y4 o r):=by
 intro e a;unfold y4 at a h;cases b:eT o.fails r with
 | error e'=>
  rw [b] at a;simp only [Except.error.injEq] at a;subst a;exact EY _ _ _ b
 | ok x=>
  obtain ⟨i,f⟩:=x;rw [b] at a h;simp only at a h;cases c:jI o.fails (aT f) 0 [] with
  | error e'=>
   rw [c] at a;simp only [Except.error.injEq] at a;subst a;exact E0 _ _ _ _ _ c
  | ok y=>
   obtain ⟨s,g⟩:=y;rw [c] at a h;simp only at a h;split at a
   ·rename_i d;rw [aY d] at h;exact absurd rfl h
   ·cases a
theorem yQ (f:Bool):∀ (p r:Bs),fA f p (p++r)=.ok r
 | [],r=>by simp [fA]
 | c::p,r=>by rw [rH,fA,aY rfl];exact yQ f p r
theorem E1 {f:Bool}:∀ {p l r:Bs},fA f p l=.ok r→l=p++r
 | [],l,r,h=>by unfold fA at h;simpa using h
 | c::p,[],r,h=>by unfold fA at h;cases h
 | c::p,b::l,r,h=>by
  unfold fA at h;split at h
  ·rename_i a;subst a;rw [E1 h];rfl
  ·cases h
def G6 (t:aP) (em:Bool):Option (Bs×Bs):=
 match t with
 | .start nm _=>if em then some nm else none
 | _=>none
theorem T2 (o:cV) {r g:Bs} {t:aP} (h:l4 r=.ok (t,g)):jJ o r=.ok (t,g)∧∀ em,G6 t em=none:=by
 unfold l4 at h;split at h
 ·rename_i b;obtain ⟨y,rfl⟩:=List.isPrefixOf_iff_prefix.1 b;rw [show (([45,45]:Bs)++y).drop 2=y from rfl] at h;cases a:dD y with
  | error e=>rw [a] at h;cases h
  | ok x=>
   obtain ⟨d,f⟩:=x;rw [a] at h;simp only [cD,b8] at h;obtain ⟨rfl,rfl⟩:=h;refine ⟨?_,fun _=>rfl⟩;unfold jJ;simp only [rH,List.nil_append,if_true];rw [G4 a]
 ·split at h
  ·rename_i b;obtain ⟨y,rfl⟩:=List.isPrefixOf_iff_prefix.1 b;rw [show (BQ++y).drop 7=y from rfl] at h;cases a:eH ((BQ++y).length+1) y [] with
   | error e=>rw [a] at h;cases h
   | ok x=>
    obtain ⟨d,f⟩:=x;rw [a] at h;simp only [cD,b8] at h;obtain ⟨rfl,rfl⟩:=h;refine ⟨?_,fun _=>rfl⟩;have c:=tP o _ y 0 0 [] d f a (.of (by decide) (by decide)) iJ;have i:=yQ o.fails [67,68,65,84,65,91] y;unfold jJ;rw [show BQ++y=91::([67,68,65,84,65,91]++y) from rfl];simp only;rw [aQ (by decide)];simp only [if_true];rw [i];simp only;rw [c]
  ·split at h
   ·rename_i b;obtain ⟨y,rfl⟩:=List.isPrefixOf_iff_prefix.1 b;rw [show (rK++y).drop 7=y from rfl] at h;cases a:oY y with
    | error e=>rw [a] at h;cases h
    | ok x=>
     obtain ⟨d,f⟩:=x;rw [a] at h;simp only [cD,b8] at h;obtain ⟨rfl,rfl⟩:=h;refine ⟨?_,fun _=>rfl⟩;have c:=XD o a;unfold jJ;rw [show rK++y=68::([79,67,84,89,80,69]++y) from rfl];simp only;rw [aQ (by decide),aQ (by decide),c]
   ·split at h
    ·cases h
    ·split at h<;>cases h
theorem QB (o:cV) {r:Bs} (h:l4 r=.error .bad) (x:aP×Bs):jJ o r≠.ok x:=by
 unfold l4 at h;split at h
 ·rename_i g;obtain ⟨y,rfl⟩:=List.isPrefixOf_iff_prefix.1 g;rw [show (([45,45]:Bs)++y).drop 2=y from rfl] at h;have a:dD y=.error .bad:=by
   cases a:dD y with
   | error e=>rw [a] at h;simpa using h
   | ok z=>rw [a] at h;cases h
  unfold jJ;simp only [rH,List.nil_append,if_true];cases j:cE o.fails y 0 0 [] with
  | error e=>simp
  | ok z=>exact absurd j (EV a z.1 z.2)
 ·rename_i k;split at h
  ·rename_i g;obtain ⟨y,rfl⟩:=List.isPrefixOf_iff_prefix.1 g;rw [show (BQ++y).drop 7=y from rfl] at h;have a:eH ((BQ++y).length+1) y []=.error .bad:=by
    cases a:eH ((BQ++y).length+1) y [] with
    | error e=>rw [a] at h;simpa using h
    | ok z=>rw [a] at h;cases h
   have l:=yQ o.fails [67,68,65,84,65,91] y;unfold jJ;rw [show BQ++y=91::([67,68,65,84,65,91]++y) from rfl];simp only;rw [aQ (by decide)];simp only [if_true];rw [l];simp only;cases j:bF o none true y 0 0 [] with
   | error e=>simp
   | ok z=>exact absurd j (qS o _ y 0 0 [] a (.of (by decide) (by decide)) iJ z.1 z.2)
  ·rename_i f;split at h
   ·rename_i g;exfalso;generalize r.drop 7=y at h;cases a:oY y with
    | ok z=>rw [a] at h;cases h
    | error e=>
     rw [a] at h;simp only [Except.error.injEq] at h;subst h;unfold oY at a;split at a
     ·cases a
     ·split at a
      ·cases a
      ·split at a<;>cases a
   ·cases r with
    | nil=>unfold jJ;simp
    | cons b t=>
     simp only at h;split at h
     ·rename_i m;unfold jJ;simp only;by_cases d:b=45
      ·subst d;rw [aY rfl];cases t with
       | nil=>simp
       | cons c t2=>
        simp only;by_cases a:c=45
        ·subst a;exact absurd (show ([45,45]:Bs).isPrefixOf (45::45::t2)=true by simp [List.isPrefixOf]) k
        ·rw [aQ a];simp
      ·have i:b=91:=m.resolve_left d;subst i;rw [aQ d,aY rfl];cases n:fA o.fails [67,68,65,84,65,91] t with
       | error e=>simp
       | ok z=>
        rw [E1 n] at f;exact absurd (by rw [List.isPrefixOf_iff_prefix];exact ⟨z,rfl⟩) f
     ·cases h
theorem XG (o:cV) {r i:Bs} {nm:Bs×Bs} (h:nR r=.ok (nm,i)):m8 o r=.ok (.fin nm,i):=by
 unfold nR at h;cases c:fL r with
 | error e=>rw [c] at h;cases h
 | ok x=>
  obtain ⟨m,g⟩:=x;rw [c] at h;obtain ⟨l,_,_,_⟩:=nO (f:=o.fails) c;cases a:aT g with
  | nil=>simp only [a] at h;cases h
  | cons b t=>
   simp only [a] at h;have d:g≠[]:=fun k=>by rw [k] at a;cases a
   unfold m8;rw [l d];simp only [a];split at h
   ·rename_i j;simp only [cD,b8] at h;obtain ⟨rfl,rfl⟩:=h;rw [aY j]
   ·cases h
theorem T3 (o:cV) {r:Bs} (h:nR r=.error .bad) (x:aP×Bs):m8 o r≠.ok x:=by
 unfold nR at h;unfold m8;cases c:fL r with
 | error e=>
  rw [c] at h;simp only [Except.error.injEq] at h;subst h;cases j:cL o.fails r with
  | error e=>simp
  | ok z=>exact absurd j (yO c z)
 | ok y=>
  obtain ⟨m,g⟩:=y;rw [c] at h;obtain ⟨k,l,_,_⟩:=nO (f:=o.fails) c;by_cases a:g=[]
  ·rw [l a];simp
  ·rw [k a];cases d:aT g with
   | nil=>simp only [d];simp
   | cons b t=>
    simp only [d] at h ⊢;split at h
    ·cases h
    ·rename_i i;rw [aQ i];simp
theorem QC (o:cV) {ents:aM} (l:kR o.ents ents) {r j:Bs} {nm:Bs×Bs} {a:List cO} {em:Bool} (h:eV ents r=.ok (nm,a,em,j)):fB o r=.ok ((nm,a),em,j):=by
 unfold eV at h;cases c:fL r with
 | error e=>rw [c] at h;cases h
 | ok x=>
  obtain ⟨p,g⟩:=x;rw [c] at h;simp only at h;obtain ⟨n,_,_,_⟩:=nO (f:=o.fails) c;cases b:cZ ents (g.length+1) g [] with
  | error e=>rw [b] at h;cases h
  | ok y=>
   obtain ⟨i,k,q⟩:=y;rw [b] at h;simp only [cD,b8] at h;obtain ⟨rfl,rfl,rfl,rfl⟩:=h;have d:g≠[]:=fun m=>by rw [m] at b;simp [cZ,aT] at b
   unfold fB;rw [n d];simp only;rw [EX o l _ _ _ _ _ _ b]
theorem L4 (o:cV) {ents:aM} (j:kR o.ents ents) (i:o.strict=true) (g:qQ o) {r:Bs} (h:eV ents r=.error .bad) (x:((Bs×Bs)×List cO)×Bool×Bs):fB o r≠.ok x:=by
 unfold eV at h;unfold fB;cases c:fL r with
 | error e=>
  rw [c] at h;simp only [Except.error.injEq] at h;subst h;cases l:cL o.fails r with
  | error e=>simp
  | ok z=>exact absurd l (yO c z)
 | ok y=>
  obtain ⟨p,b⟩:=y;rw [c] at h;simp only at h;obtain ⟨m,n,_,_⟩:=nO (f:=o.fails) c;by_cases a:b=[]
  ·rw [n a];simp
  ·rw [m a];simp only;cases d:cZ ents (b.length+1) b [] with
   | ok y=>rw [d] at h;cases h
   | error e=>
    rw [d] at h;simp only [Except.error.injEq] at h;subst h;cases k:dL o (b.length+1) b [] with
    | error e=>simp
    | ok z=>exact absurd k (AW o j i g _ _ _ d z)
theorem E2 (o:cV) {ents:aM} (z:kR o.ents ents) {first em:Bool} {t:aP} {r:Bs} (st:St) (w:st.ended=false) (y:st.toClose=none) (h:kD ents first st.rest=.ok (t,em,r)) :
  ∃ v,fK o st=.ok (t,{ st with rest:=r,toClose:=G6 t em,ended:=v })∧(v=true→r=[]∧∃ d,t=.text d):=by
 obtain ⟨rest,g,f,E,F,next⟩:=st;simp only at w y h ⊢;subst w y;unfold kD at h;cases rest with
 | nil=>cases h
 | cons b l=>
  simp only at h;split at h
  ·rename_i p;cases q:dO ents ((b::l).length+1) (b::l) [] with
   | error e=>rw [q] at h;cases h
   | ok x=>
    obtain ⟨d,A⟩:=x;rw [q] at h;simp only [cD,b8] at h;obtain ⟨rfl,rfl,rfl⟩:=h;have n:=tN o z _ _ 0 0 [] d A q (.of (by decide) (by decide)) iJ;refine ⟨A==[],?_,fun h=>⟨by simpa using h,d,rfl⟩⟩;unfold fK;simp only [rW,if_false];rw [aY p,n];rfl
  ·rename_i p;cases l with
   | nil=>cases h
   | cons c l2=>
    simp only at h;refine ⟨false,?_,fun h=>by cases h⟩;unfold fK;simp only [rW,if_false];rw [aQ p];try simp only
    split at h
    ·rename_i i;rw [aY i];cases a:nR l2 with
     | error e=>rw [a] at h;cases h
     | ok x=>
      obtain ⟨nm,u⟩:=x;rw [a] at h;simp only [cD,b8] at h;obtain ⟨rfl,rfl,rfl⟩:=h;rw [XG o a];rfl
    ·rename_i k;rw [aQ k];split at h
     ·rename_i i;rw [aY i];cases a:fI first l2 with
      | error e=>rw [a] at h;cases h
      | ok x=>
       obtain ⟨⟨H,s⟩,u⟩:=x;rw [a] at h;simp only [cD,b8] at h;obtain ⟨rfl,rfl,rfl⟩:=h;rw [TY o a];rfl
     ·rename_i m;rw [aQ m];split at h
      ·rename_i i;rw [aY i];cases a:l4 l2 with
       | error e=>rw [a] at h;cases h
       | ok x=>
        obtain ⟨G,u⟩:=x;rw [a] at h;simp only [cD,b8] at h;obtain ⟨rfl,rfl,rfl⟩:=h;obtain ⟨D,n⟩:=T2 o a;rw [D,n]
      ·rename_i j;rw [aQ j];cases a:eV ents (c::l2) with
       | error e=>rw [a] at h;cases h
       | ok x=>
        obtain ⟨nm,B,C,u⟩:=x;rw [a] at h;simp only [cD,b8] at h;obtain ⟨rfl,rfl,rfl⟩:=h;rw [QC o z a];rfl
theorem L5 (o:cV) {ents:aM} (w:kR o.ents ents) (m:o.strict=true) (j:o.fails=false) (k:qQ o) {first:Bool} (st:St) (u:st.ended=false) (v:st.toClose=none) (h:kD ents first st.rest=.error .bad):fK o st=.error .syn:=by
 obtain ⟨rest,s,p,A,B,next⟩:=st;simp only at u v h ⊢;subst u v;have n:∀ {α:Type} {r:Except EK α},vO o.fails r→(∀ x,r≠.ok x)→r=.error .syn:=fun {α} {r} y z=>by
  cases r with
  | ok x=>exact absurd rfl (z x)
  | error e=>
   rcases y e rfl with rfl|rfl
   ·rfl
   ·rw [j];rfl
 unfold kD at h;cases rest with
 | nil=>cases h
 | cons b l=>
  simp only at h;unfold fK;simp only [rW,if_false];split at h
  ·rename_i t;rw [aY t];have q:dO ents ((b::l).length+1) (b::l) []=.error .bad:=by
    cases q:dO ents ((b::l).length+1) (b::l) [] with
    | error e=>rw [q] at h;simpa using h
    | ok x=>rw [q] at h;cases h
   rw [n (yP o none false _ _ (dF _) 0 0 []) (fun x=>qR o w m k _ _ 0 0 [] q (.of (by decide) (by decide)) iJ x.1 x.2)]
  ·rename_i t;rw [aQ t];cases l with
   | nil=>simp only;rw [j];rfl
   | cons c l2=>
    simp only at h ⊢;split at h
    ·rename_i d;rw [aY d];have a:nR l2=.error .bad:=by
      cases a:nR l2 with
      | error e=>rw [a] at h;simpa using h
      | ok x=>rw [a] at h;cases h
     rw [n (T1 o l2) (T3 o a)]
    ·rename_i g;rw [aQ g];split at h
     ·rename_i d;rw [aY d];have a:fI first l2=.error .bad:=by
       cases a:fI first l2 with
       | error e=>rw [a] at h;simpa using h
       | ok x=>rw [a] at h;cases h
      rw [n (XF o l2 (EW o a default).2) (fun x=>(EW o a x).1)]
     ·rename_i i;rw [aQ i];split at h
      ·rename_i d;rw [aY d];have a:l4 l2=.error .bad:=by
        cases a:l4 l2 with
        | error e=>rw [a] at h;simpa using h
        | ok x=>rw [a] at h;cases h
       rw [n (QA o l2) (QB o a)]
      ·rename_i f;rw [aQ f];have a:eV ents (c::l2)=.error .bad:=by
        cases a:eV ents (c::l2) with
        | error e=>rw [a] at h;simpa using h
        | ok x=>rw [a] at h;cases h
       rw [n (L3 o (c::l2)) (L4 o w m k a)]
def dA (T:Bs) (l:List (aP×St)):List (aP×Nat):=l.map fun p=>(p.1,T.length-p.2.rest.length)
theorem QD (t:aP):1≤t.wt:=by cases t<;>simp [aP.wt]
end Go.Proofs.YthapcchcahnfaaaGreatDoor
namespace Go.Proofs.YthapcchcahnfaaaGreatDoor
open Go Go.RowKit
theorem L6 {o:cV} {s k:St} {nm:Bs×Bs} {f:List cO} (h:wY o s=.ok (.start nm f,k)):f.length≤s.rest.length:=by
 unfold wY at h;split at h
 ·obtain ⟨_,_,_,_,_,_,i⟩:=jZ h;rcases i with ⟨_,_,g,_⟩|⟨_,g,_⟩
  ·cases g
  ·simp only [aP.wt] at g;omega
 ·unfold MM at h;cases j:fK o s with
  | error e=>rw [j] at h;cases h
  | ok p=>
   obtain ⟨l,n⟩:=p;rw [j] at h;obtain ⟨_,_,_,_,_,_,i⟩:=jZ j;have c:cI o l n=.ok (.start nm f,k):=h;cases l with
   | start nm0 ats0=>
    unfold cI at c;simp only [cD,b8,aP.start.injEq] at c;obtain ⟨⟨_,rfl⟩,_⟩:=c;rcases i with ⟨_,_,g,_⟩|⟨_,g,_⟩
    ·cases g
    ·simp only [aP.wt] at g;simp;omega
   | fin nm0=>
    have:=(sM c).2.2.2.2.1.1 ⟨_,rfl⟩;obtain ⟨_,m⟩:=this;cases m
   | text d=>unfold cI at c;simp at c
   | comment d=>unfold cI at c;simp at c
   | dir d=>unfold cI at c;simp at c
   | proc a b=>unfold cI at c;simp at c
theorem QE {fold:Bs→Bs→Bool} {o:cV} (j:o.auto=[]) {s:St} {l:List (aP×St)} {e:EK} (h:jV fold o s l e):s.next=none→∀ b∈l,∀ pre,(b.1.itok pre).attrs.length≤s.rest.length:=by
 induction h with
 | stop _=>intro _ b a;cases a
 | more i _ ih=>
  intro d b a pre;rename_i n g c r p q;have f:wY o n=.ok (g,c):=by rw [←JV (fold:=fold) j d];exact i
  obtain ⟨_,k,m⟩:=MO f;rcases mF.1 a with rfl|a
  ·cases g with
   | start nm ats=>exact L6 f
   | _=>exact jU _
  ·exact fQ (ih (m.trans d) b a pre) k.length_le
structure pG (T:Bs) (w:World) (b:Value) (l:List (aP×St)) (a:List Value):Prop where
 row:∃ base,w.ownsRow base 38 8 b l.length a
 rows:∃ base,cH (tF w base (fun _=>True) T) l a
theorem pG.below {T:Bs} {w w':World} {c:Value} {l:List (aP×St)} {d:List Value} (h:pG T w c l d) (b:Below w.heap.size w w'):pG T w' c l d:=by
 obtain ⟨b1,f⟩:=h.row;obtain ⟨e,g⟩:=h.rows;exact ⟨⟨b1,aE (S:=fun _=>False) f (aH b _) (fun _ _=>id)⟩,⟨e,g.mono (fun a j i=>i.mod (aH b (fun _=>False)) (fun _ _ _=>⟨id,trivial⟩))⟩⟩
def f0 (T:Bs) (l:List (aP×St)):List bS:=l.map fun a=>a.1.itok (T.take (T.length-a.2.rest.length))
structure Z2 (w:World) (L:List bS) (out:Value):Prop where
 ex:∃ base a b,w.ownsRow base 35 6 out L.length b∧cH (lW w a (fun _=>True)) L b
theorem L7 (T:Bs) (w:World) (v:Value) (l:List (aP×St)) (G:List Value) (h:pG T w v l G) (t:l.length≤1000000000) (o:∀ p∈f0 T l,p.attrs.length≤1000000000) :
  Calls Tryz.prog 11 #[v] w fun n w'=>∃ out,n=.returned out∧Below w.heap.size w w'∧Z2 w' (f0 T l) out:=by
 obtain ⟨b,u⟩:=h.row;obtain ⟨I,d⟩:=h.rows;have j:(f0 T l).length=l.length:=by simp [f0]
 rcases u.2 with ⟨rfl,x⟩|⟨g,cap,cur,rfl,L,A,M,B,E,F⟩
 ·have D:l=[]:=wC x;subst D;refine (LR w).mono ?_;rintro n w' ⟨rfl,rfl⟩;exact ⟨_,rfl,Below.refl _ _,⟨⟨0,0,[],⟨rfl,aG ⟨rfl,rfl⟩⟩,.nil⟩⟩⟩
 ·have q:aL w g cur 38:=A;have a:=TI w (f0 T l) (by omega) g 0 cap q.lt (fun i p a=>by
   have C:∃ e,l[i]?=some e∧e.1.itok (T.take (T.length-e.2.rest.length))=p:=by
    unfold f0 at a;rw [List.getElem?_map] at a;cases f:l[i]? with
    | none=>rw [f] at a;cases a
    | some e=>rw [f] at a;exact ⟨e,rfl,by simpa using a⟩
   obtain ⟨e,m,rfl⟩:=C;have k:0<l.length:=Nat.lt_of_le_of_lt (jU _) (A9.1 m).1;obtain ⟨J,r,s,_,_,_,_,c⟩:=gL u k;simp only [Value.slice.injEq,jW,Addr.mk.injEq] at s;obtain ⟨⟨rfl,_⟩,_⟩:=s;rw [Nat.zero_add];exact TJ d c m (o _ (List.mem_of_getElem? a)))
  rw [j] at a;refine a.mono ?_;rintro n w' ⟨out,H,rfl,m,y,z⟩;exact ⟨out,rfl,m,⟨⟨_,_,_,by rw [j];exact y,z⟩⟩⟩
theorem G7 (T:Bs) (l:List (aP×St)):(f0 T l).length=l.length:=by simp [f0]
structure E3 (x:Cx) (w0:World) (keep:Nat→Prop) (c:DC) (w:World) (v:DV) (s0 s:St) (m:Nat) (b a:List Nat) (n:Nat) (b0:Nat) (l:List (aP×St)) (f:List Value) (d:Value):Prop where
 ts:TS x c w v s m b a n
 b0l:b0<w.heap.size
 kf:∀ k,keep k→CO x v c.nextTok m b a w k∧d.ownBlock≠some k
 km:aJ (fun k=>¬ keep k) w0 w
 row:w.ownsRow b0 38 8 d l.length f
 tvf:∀ k,d.ownBlock=some k→CO x v c.nextTok m b a w k
 rows:cH (tF w b0 (fun k=>CO x v c.nextTok m b a w k∧d.ownBlock≠some k) x.T) l f
 run:∀ l' e,jV bZ x.o s l' e→jV bZ x.o s0 (l++l') e
 mu:l.length+s.mu2≤s0.mu2
structure E4 (x:Cx) (w0:World) (keep:Nat→Prop) (c:DC) (w:World) (v:DV) (s0 s:St) (m:Nat) (b a:List Nat) (n:Nat) (b0:Nat) (l:List (aP×St)) (f:List Value) (d:Value) (tk:aP):Prop where
 ts:TS x c w v s m b a n
 b0l:b0<w.heap.size
 kf:∀ k,keep k→CO x v c.nextTok m b a w k∧d.ownBlock≠some k
 km:aJ (fun k=>¬ keep k) w0 w
 row:w.ownsRow b0 38 8 d l.length f
 tvf:∀ k,d.ownBlock=some k→CO x v c.nextTok m b a w k
 rows:cH (tF w b0 (fun k=>CO x v c.nextTok m b a w k∧d.ownBlock≠some k) x.T) l f
 run:∀ l' e,jV bZ x.o s l' e→jV bZ x.o s0 (l++(tk,s)::l') e
 mu:l.length+1+s.mu2≤s0.mu2
theorem E3.step {x:Cx} {w0:World} {keep:Nat→Prop} {c:DC} {w:World} {v:DV} {F s:St} {m:Nat} {t r:List Nat} {n:Nat} {b0:Nat} {l:List (aP×St)} {I:List Value} {H:Value} (h:E3 x w0 keep c w v F s m t r n b0 l I H) {G:aP} {u:St} (f:stepL bZ x.o s=.ok (G,u))
  {y:DC} {w':World} {v':DV} {q i:List Nat} {E:Nat} (D:TS x y w' v' u m q i E) (o:aJ (fun b=>x.S1 v b∨b∈m::(t++r)∨dM c.nextTok b) w w') (z:∀ b∈m::(q++i),b∈m::(t++r)∨w.heap.size≤b) (A:∀ b,x.S1 v' b→x.S1 v b∨w.heap.size≤b) (B:∀ g,dM y.nextTok g→dM c.nextTok g∨w.heap.size≤g) :
  E4 x w0 keep y w' v' F u m q i E b0 l I H G∧u.mu2<s.mu2:=by
 obtain ⟨N,O,P⟩:=xW f;have p:∀ k,CO x v c.nextTok m t r w k→¬ (x.S1 v k∨k∈m::(t++r)∨dM c.nextTok k):=fun k C j=>by
  rcases j with j|j|j
  ·exact C.s1 j
  ·exact C.own j
  ·exact C.pend j
 refine ⟨⟨D,pL h.b0l o.size,fun k d=>⟨(h.kf k d).1.step o.size z A B,(h.kf k d).2⟩,h.km.trans o (fun k _ J d=>p k (h.kf k d).1 J),aE h.row o (fun k d=>p k (h.tvf k d)),fun k d=>(h.tvf k d).step o.size z A B,
  h.rows.mono (fun a Q L=>L.mod o (fun k d _=>⟨p k d.1,d.1.step o.size z A B,d.2⟩)),fun l' e M=>h.run _ e (.more f M),by have:=h.mu;omega⟩,N⟩
theorem E4.lay {x:Cx} {w0:World} {keep:Nat→Prop} {c:DC} {v:DV} {Z s:St} {m:Nat} {sb Y:List Nat} {n:Nat} {b0:Nat} {l:List (aP×St)} {X:List Value} {w:Value} {F p G:World} {j:aP}
  (hB:x.B≤b0) (h:E4 x w0 keep c F v Z s m sb Y n b0 l X w j)
  (J:Below F.heap.size F p) {C:Option Addr} {E D:Nat} {P Q:Int} (z:p.ownsRow F.heap.size 67 3 (.slice C E D) (j.itok (x.T.take (x.T.length-s.rest.length))).attrs.length (aN (j.itok (x.T.take (x.T.length-s.rest.length))).attrs))
  {o:Obj} {r:Value} (y:G.ownsRow b0 38 8 r (l.length+1) (X++lN (j.itok (x.T.take (x.T.length-s.rest.length))).kind (j.itok (x.T.take (x.T.length-s.rest.length))).space (j.itok (x.T.take (x.T.length-s.rest.length))).loc (.slice C E D) (j.itok (x.T.take (x.T.length-s.rest.length))).text (j.itok (x.T.take (x.T.length-s.rest.length))).at' P Q))
  (q:(p.alloc o).grownBy G w.ownBlock) (f:r.ownBlock=w.ownBlock∨r.ownBlock=some (p.heap.size+1)) (R:P=((j.itok (x.T.take (x.T.length-s.rest.length))).line:Nat)∧Q=((j.itok (x.T.take (x.T.length-s.rest.length))).col:Nat)) :
  E3 x w0 keep c G v Z s m sb Y n b0 (l++[(j,s)]) (X++lN (j.itok (x.T.take (x.T.length-s.rest.length))).kind (j.itok (x.T.take (x.T.length-s.rest.length))).space (j.itok (x.T.take (x.T.length-s.rest.length))).loc (.slice C E D) (j.itok (x.T.take (x.T.length-s.rest.length))).text (j.itok (x.T.take (x.T.length-s.rest.length))).at' P Q) r:=by
 have T:aJ (fun _=>False) F p:=aH J _;have A:aJ (fun k=>w.ownBlock=some k) p G:=(aH ((Below.refl _ p).alloc (dF _) o) _).trans (S':=fun k=>w.ownBlock=some k) ⟨q.os,q.tape,q.output,q.size,fun k b U=>q.block k b (fun u=>U u.symm)⟩ (fun i _ R=>R);have d:aJ (fun k=>w.ownBlock=some k) F G:=(T.mono (fun _ _ h=>h.elim)).trans A (fun _ _ h=>h);have O:=J.size;have W:=A.size;have aA:p.heap.size+1≤G.heap.size:=by have H:=q.size;rw [show (p.alloc o).heap.size=p.heap.size+1 from Array.size_push _] at H;exact H
 have V:∀ k,w.ownBlock=some k→b0≤k:=fun k b=>(aS h.row b).2;have M:=h.ts.mod d (fun k b=>⟨(h.tvf k b).s1,(h.tvf k b).own,fQ hB (V k b),(h.tvf k b).pend⟩);have N:∀ k,r.ownBlock=some k→k<G.heap.size:=fun k b=>(aS y b).1;have B:∀ k,k<p.heap.size→w.ownBlock≠some k→r.ownBlock≠some k:=fun k b U u=>by
  rcases f with f|f
  ·exact U (f▸u)
  ·rw [f] at u;have:p.heap.size+1=k:=by simpa using u
   omega
 refine ⟨M,pL h.b0l d.size,fun k b=>⟨(h.kf k b).1.same d.size,B k (pL (h.kf k b).1.lt O) (h.kf k b).2⟩,h.km.trans d (fun k _ hb b=>(h.kf k b).2 hb),by rw [fP];exact y,fun k b=>?_,?_,fun l' e ht=>?_,by rw [fP];exact h.mu⟩
 ·rcases f with f|f
  ·exact (h.tvf k (f▸b)).same d.size
  ·have H:p.heap.size+1=k:=by rw [f] at b;simpa using b
   exact h.ts.new (by omega) (N k b)
 ·refine .snoc (h.rows.mono (fun a ys hr=>hr.mod d (fun k b S=>⟨b.2,b.1.same d.size,B k (pL S O) b.2⟩))) ?_;have t:∀ k,(Value.slice C E D).ownBlock=some k→k<p.heap.size∧F.heap.size≤k:=fun k b=>aS z b;have I:p.ownsRow b0 67 3 (.slice C E D) (j.itok (x.T.take (x.T.length-s.rest.length))).attrs.length (aN (j.itok (x.T.take (x.T.length-s.rest.length))).attrs):=by
   refine ⟨z.1,?_⟩;rcases z.2 with H|⟨g,cap,cur,e1,e2,e3⟩
   ·exact aG H
   ·exact aU ⟨g,cap,cur,e1,fQ (Nat.le_of_lt h.b0l) e2,e3⟩
  have L:∀ k,(Value.slice C E D).ownBlock=some k→w.ownBlock≠some k:=fun k b u=>by
   have h8:=(t k b).2;have H:=(h.tvf k u).lt;omega
  exact ⟨C,E,D,P,Q,rfl,aE I A (fun k b u=>L k b u),fun k b=>⟨h.ts.new (t k b).2 (pL (t k b).1 W),B k (t k b).1 (L k b)⟩,R⟩
 ·rw [rG];exact h.run l' e ht
end Go.Proofs.YthapcchcahnfaaaGreatDoor
