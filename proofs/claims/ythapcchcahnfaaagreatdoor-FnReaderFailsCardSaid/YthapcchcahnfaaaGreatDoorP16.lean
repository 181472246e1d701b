/- Part of the proof that laws.FnStrictIsLoose, laws.FnUnclosed, laws.FnReaderFails, laws.FnWithin, laws.FnSkip returns true for every argument. No conditions. -/
import Derived.Test.YthapcchcahnfaaaGreatDoorP02
set_option linter.all false
set_option maxHeartbeats 8000000
set_option maxRecDepth 100000
namespace Go.Proofs.YthapcchcahnfaaaGreatDoor
open Go
def jW (a:Bool) (b:List (Bs×Bs)):aO→Option (List (Bs×Bs))
 | .start nm _=>some (nm::b)
 | .fin nm=>match b with
  | []=>none
  | q::b=>if (a=true∧q.1≠nm.1)∨q.2≠nm.2 then none else some b
 | _=>some b
def j9 (a:Bool):List (Bs×Bs)→List (aO×St)→Option (List (Bs×Bs))
 | op,[]=>some op
 | op,(t,_)::l=>match jW a op t with
  | none=>none
  | some op'=>j9 a op' l
inductive zH (o:cM):List gT→(Bs→Option Bs)→List (Bs×Bs)→Prop
 | nil (ns):zH o [] ns []
 | elem {stk ns op} (nm:Bs×Bs) (a:List cZ):zH o stk ns op→zH o ({ kind:=0,space:=nm.1,loc:=nm.2,ok:=false }::(dK a stk ns).1) (dK a stk ns).2 (cX o (dK a stk ns).2 nm true::op)
theorem zI (a:Bs→Option Bs) (k v:Bs):iA (iA a k (some v)) k (if (a k).isSome=true then some ((a k).getD []) else none)=a:=by
 funext x
 unfold iA;split
 ·rename_i h;subst h;cases a x<;>simp
 ·rfl
theorem pB:∀ (b:List cZ) (a:List gT) (c:Bs→Option Bs),fA (dK b a c).1 (dK b a c).2=fA a c
 | [],a,c=>rfl
 | (sp,loc,v)::b,a,c=>by
  unfold dK;by_cases d:sp=bF
  ·have e:¬ (sp=[]∧loc=bF):=by rintro ⟨h,_⟩;rw [d] at h;cases h
   simp only [aV d,aN e];rw [pB b];conv=>lhs;unfold fA
   simp only [Nat.one_ne_zero,if_false];rw [zI]
  ·by_cases e:sp=[]∧loc=bF
   ·simp only [aN d,aV e];rw [pB b];conv=>lhs;unfold fA
    simp only [Nat.one_ne_zero,if_false];rw [zI]
   ·simp only [aN d,aN e];exact pB b a c
theorem zH.undo {o:cM} {a:List gT} {b:Bs→Option Bs} {c:List (Bs×Bs)} (h:zH o a b c):fA a b=(a,b):=by
 cases h with
 | nil=>rfl
 | elem=>unfold fA;simp
theorem tK (o:cM) (a:Bs→Option Bs) (nm:Bs×Bs) (b:Bool):(cX o a nm b).2=nm.2:=by
 unfold cX;repeat' split
 all_goals simp only []
 all_goals repeat' split
 all_goals rfl
theorem IU {o:cM} {t l:aO} {s j:St} (g:o.strict=true) (h:bW o t s=.ok (l,j)) {i:List (Bs×Bs)} (a:zH o s.stk s.ns i) :
  ∃ c,jW true i l=some c∧zH o j.stk j.ns c:=by
 unfold bW at h;split at h
 ·rename_i nm k;simp only [bT,bR] at h;obtain ⟨rfl,rfl⟩:=h;exact ⟨_,rfl,zH.elem nm k a⟩
 ·rename_i nm;unfold kR at h;split at h
  ·cases h
  ·rename_i e r q;split at h
   ·cases h
   ·split at h
    ·first|(rw [aV g] at h;cases h)|cases h
    ·rename_i d;split at h
     ·cases h
     ·rename_i n;simp only [bT,bR] at h;obtain ⟨rfl,rfl⟩:=h;rw [q] at a;generalize p:s.ns=ns at a ⊢;cases a with
      | elem nm' k b=>
       have f:nm'=nm:=Prod.ext (by simpa using n) (by simpa using d);subst f;simp only [jW];refine ⟨_,by simp;rfl,?_⟩;rw [pB,b.undo];exact b
 ·rename_i u m d;simp only [bT,bR] at h;obtain ⟨rfl,rfl⟩:=h;refine ⟨i,?_,a⟩
  cases t<;>first
   | exact absurd rfl (m _ _)
   | exact absurd rfl (d _)
   | rfl
def iQ (a:List gT):List Bs:=(a.filter fun e=>e.kind==0).map (·.loc)
theorem pZ:∀ (b:List cZ) (a:List gT) (e:Bs→Option Bs),iQ (dK b a e).1=iQ a
 | [],a,e=>rfl
 | (sp,loc,v)::b,a,e=>by
  unfold dK;by_cases c:sp=bF
  ·have d:¬ (sp=[]∧loc=bF):=by rintro ⟨h,_⟩;rw [c] at h;cases h
   simp only [aV c,aN d];rw [pZ b];rfl
  ·by_cases d:sp=[]∧loc=bF
   ·simp only [aN c,aV d];rw [pZ b];rfl
   ·simp only [aN c,aN d];exact pZ b a e
theorem zJ:∀ (a:List gT) (b:Bs→Option Bs),iQ (fA a b).1=iQ a
 | [],_=>rfl
 | e::a,b=>by
  unfold fA;split
  ·rfl
  ·rename_i h;rw [zJ];unfold iQ;rw [List.filter_cons_of_neg (by simpa using h)]
theorem MM {o:cM} {t k:aO} {s j:St} (h:bW o t s=.ok (k,j)) {b:List (Bs×Bs)} (a:b.map (·.2)=iQ s.stk) :
  ∃ c,jW false b k=some c∧c.map (·.2)=iQ j.stk:=by
 unfold bW at h;split at h
 ·rename_i nm l;simp only [bT,bR] at h;obtain ⟨rfl,rfl⟩:=h;refine ⟨_,rfl,?_⟩;have:=pZ l s.stk s.ns;simp only [List.map_cons,tK,a];unfold iQ at this ⊢;rw [List.filter_cons_of_pos (by rfl),List.map_cons,this]
 ·rename_i nm;unfold kR at h;split at h
  ·cases h
  ·rename_i e i p;split at h
   ·cases h
   ·rename_i d;have n:e.kind=0:=by simpa using d
    have m:iQ s.stk=e.loc::iQ i:=by
     rw [p];unfold iQ;rw [List.filter_cons_of_pos (by simp [n])];rfl
    rw [m] at a;cases b with
    | nil=>cases a
    | cons q b=>
     simp only [List.map_cons,List.cons.injEq] at a;split at h
     ·split at h
      ·cases h
      ·simp only [bT,bR] at h;obtain ⟨rfl,rfl⟩:=h;refine ⟨b,?_,a.2⟩;simp [jW,a.1]
     ·rename_i f;have g:e.loc=nm.2:=by simpa using f
      split at h
      ·cases h
      ·simp only [bT,bR] at h;obtain ⟨rfl,rfl⟩:=h;refine ⟨b,?_,by simp only [zJ];exact a.2⟩;simp [jW,tK,a.1,g]
 ·rename_i r d f;simp only [bT,bR] at h;obtain ⟨rfl,rfl⟩:=h;refine ⟨b,?_,a⟩
  cases t<;>first
   | exact absurd rfl (d _ _)
   | exact absurd rfl (f _)
   | rfl
theorem MN {fold:Bs→Bs→Bool} {o:cM} {s j:St} {t:aO} (h:hY fold o s=.ok (t,j)):∃ l f,f.stk=s.stk∧f.ns=s.ns∧bW o l f=.ok (t,j):=by
 unfold hY at h;have c:∀ {g:Except EK (aO×St)} {b a},g=.ok (b,a)→(a.stk=s.stk∧a.ns=s.ns)→(match g with
   | .error e=>.error e
   | .ok (t,s)=>if o.strict then bW o t s else match kS fold o t s with
    | none=>bW o t s
    | some nm=>bW o (.fin nm) { s with next:=some t })=Except.ok (t,j)→∃ l f,f.stk=s.stk∧f.ns=s.ns∧bW o l f=.ok (t,j):=by
  intro g b a r i d;rw [r] at d;simp only at d;split at d
  ·exact ⟨b,a,i.1,i.2,d⟩
  ·split at d
   ·exact ⟨b,a,i.1,i.2,d⟩
   ·exact ⟨_,{ a with next:=some b },i.1,i.2,d⟩
 cases m:s.next with
 | some b=>
  rw [m] at h;exact c (g:=.ok (b,{ s with next:=none })) rfl ⟨rfl,rfl⟩ h
 | none=>
  rw [m] at h;cases k:dN o s with
  | error e=>rw [k] at h;cases h
  | ok p=>
   obtain ⟨b,a⟩:=p;rw [k] at h;obtain ⟨_,n,q,_⟩:=iB k;exact c (g:=.ok (b,a)) rfl ⟨n,q⟩ h
theorem QG {fold:Bs→Bs→Bool} {o:cM} {s:St} (h:hY fold o s=.error .eof):s.stk=[]:=by
 have b:∀ t g,bW o t g≠.error .eof:=by
  intro t g a;unfold bW at a;split at a
  ·cases a
  ·unfold kR at a;repeat' split at a
   all_goals cases a
  ·cases a
 unfold hY at h;cases d:s.next with
 | some i=>
  exfalso;rw [d] at h;simp only at h;split at h
  ·exact b _ _ h
  ·split at h<;>exact b _ _ h
 | none=>
  rw [d] at h;cases f:dN o s with
  | error e=>
   rw [f] at h;simp only [Except.error.injEq] at h;by_cases c:e=.eof∧s.stk≠[]
   ·rw [aV c] at h;cases h
   ·rw [aN c] at h;exact Classical.byContradiction fun a=>c ⟨h,a⟩
  | ok p=>
   exfalso;obtain ⟨i,j⟩:=p;rw [f] at h;simp only at h;split at h
   ·exact b _ _ h
   ·split at h<;>exact b _ _ h
theorem E6 {fold:Bs→Bs→Bool} {o:cM} (k:o.raw=false):∀ (l:List (aO×St)) (s:St) (e:EK) (g:List (Bs×Bs)),eD fold o s l e →
  (if o.strict then zH o s.stk s.ns g else g.map (·.2)=iQ s.stk)→∃ a,j9 o.strict g l=some a∧(e=.eof→a=[])
 | [],s,e,g,h,b=>by
  refine ⟨g,rfl,fun x=>?_⟩;subst x;cases h with
  | stop c=>
   have i:hY fold o s=.error .eof:=by unfold stepL at c;rw [k] at c;exact c
   have j:=QG i;rw [j] at b;split at b
   ·cases b;rfl
   ·simpa [iQ] using b
 | (t,s')::l,s,e,g,h,b=>by
  cases h with
  | more c i=>
   have j:hY fold o s=.ok (t,s'):=by unfold stepL at c;rw [k] at c;exact c
   obtain ⟨z,y,n,q,p⟩:=MN j;have f:∃ a,jW o.strict g t=some a∧(if o.strict then zH o s'.stk s'.ns a else a.map (·.2)=iQ s'.stk):=by
    cases d:o.strict with
    | true=>
     rw [d] at b;simp only [if_true] at b ⊢;exact IU d p (by rw [n,q];exact b)
    | false=>
     rw [d] at b;simp only [sS,if_false] at b ⊢;exact MM p (by rw [n];exact b)
   obtain ⟨a,r,u⟩:=f;obtain ⟨m,v,w⟩:=E6 k l s' e a i u;exact ⟨m,by unfold j9;rw [r];exact v,w⟩
theorem DM {fold:Bs→Bs→Bool} {o:cM} (b:o.raw=false) (T:Bs) {l:List (aO×St)} {e:EK} (h:eD fold o (St.init T) l e):∃ a,j9 o.strict [] l=some a∧(e=.eof→a=[]):=by
 refine E6 b l _ e [] h ?_;split
 ·exact zH.nil _
 ·rfl
theorem oB {o:cM}:∀ {k c:Nat} {rest:Bs} {acc:List cZ},rest.length<k→rest.length<c→cQ o k rest acc=cQ o c rest acc
 | 0,_,_,_,h,_=>by omega
 | _+1,0,_,_,_,h=>by omega
 | k+1,c+1,rest,acc,h,h'=>by
  unfold cQ;cases f:aT rest with
  | nil=>rfl
  | cons b r2=>
   have g:=eR (fH rest);rw [f] at g;simp only;split
   ·rfl
   ·split
    ·rfl
    ·cases d:fO o (b::r2) with
     | error e=>rfl
     | ok p=>
      obtain ⟨a,i⟩:=p;have:=(oY d).2;exact oB (by omega) (by omega)
end Go.Proofs.YthapcchcahnfaaaGreatDoor
