/- Part of the proof that laws.FnSkip returns true for every argument. No conditions. -/
import Derived.Test.YthapcchcahnfaaaGreatDoorS02
set_option linter.all false
set_option maxHeartbeats 8000000
set_option maxRecDepth 100000
namespace Go.Proofs.YthapcchcahnfaaaGreatDoor
open Go
def iZ (a:Bool) (b:List (Bs×Bs)):aP→Option (List (Bs×Bs))
 | .start nm _=>some (nm::b)
 | .fin nm=>match b with
  | []=>none
  | q::b=>if (a=true∧q.1≠nm.1)∨q.2≠nm.2 then none else some b
 | _=>some b
def jC (a:Bool):List (Bs×Bs)→List (aP×St)→Option (List (Bs×Bs))
 | op,[]=>some op
 | op,(t,_)::l=>match iZ a op t with
  | none=>none
  | some op'=>jC a op' l
inductive xH (o:cV):List iH→(Bs→Option Bs)→List (Bs×Bs)→Prop
 | nil (ns):xH o [] ns []
 | elem {stk ns op} (nm:Bs×Bs) (a:List cO):xH o stk ns op→xH o ({ kind:=0,space:=nm.1,loc:=nm.2,ok:=false }::(dH a stk ns).1) (dH a stk ns).2 (cR o (dH a stk ns).2 nm true::op)
theorem xI (a:Bs→Option Bs) (k v:Bs):gO (gO a k (some v)) k (if (a k).isSome=true then some ((a k).getD []) else none)=a:=by
 funext x
 unfold gO;split
 ·rename_i h;subst h;cases a x<;>simp
 ·rfl
theorem oE:∀ (b:List cO) (a:List iH) (c:Bs→Option Bs),fD (dH b a c).1 (dH b a c).2=fD a c
 | [],a,c=>rfl
 | (sp,loc,v)::b,a,c=>by
  unfold dH;by_cases d:sp=bD
  ·have e:¬ (sp=[]∧loc=bD):=by rintro ⟨h,_⟩;rw [d] at h;cases h
   simp only [aY d,aQ e];rw [oE b];conv=>lhs;unfold fD
   simp only [Nat.one_ne_zero,if_false];rw [xI]
  ·by_cases e:sp=[]∧loc=bD
   ·simp only [aQ d,aY e];rw [oE b];conv=>lhs;unfold fD
    simp only [Nat.one_ne_zero,if_false];rw [xI]
   ·simp only [aQ d,aQ e];exact oE b a c
theorem xH.undo {o:cV} {a:List iH} {b:Bs→Option Bs} {c:List (Bs×Bs)} (h:xH o a b c):fD a b=(a,b):=by
 cases h with
 | nil=>rfl
 | elem=>unfold fD;simp
theorem r8 (o:cV) (a:Bs→Option Bs) (nm:Bs×Bs) (b:Bool):(cR o a nm b).2=nm.2:=by
 unfold cR;repeat' split
 all_goals simp only []
 all_goals repeat' split
 all_goals rfl
theorem FX {o:cV} {t l:aP} {s j:St} (g:o.strict=true) (h:cI o t s=.ok (l,j)) {i:List (Bs×Bs)} (a:xH o s.stk s.ns i) :
  ∃ c,iZ true i l=some c∧xH o j.stk j.ns c:=by
 unfold cI at h;split at h
 ·rename_i nm k;simp only [cD,b8] at h;obtain ⟨rfl,rfl⟩:=h;exact ⟨_,rfl,xH.elem nm k a⟩
 ·rename_i nm;unfold lG at h;split at h
  ·cases h
  ·rename_i e r q;split at h
   ·cases h
   ·split at h
    ·first|(rw [aY g] at h;cases h)|cases h
    ·rename_i d;split at h
     ·cases h
     ·rename_i n;simp only [cD,b8] at h;obtain ⟨rfl,rfl⟩:=h;rw [q] at a;generalize p:s.ns=ns at a ⊢;cases a with
      | elem nm' k b=>
       have f:nm'=nm:=Prod.ext (by simpa using n) (by simpa using d);subst f;simp only [iZ];refine ⟨_,by simp;rfl,?_⟩;rw [oE,b.undo];exact b
 ·rename_i u m d;simp only [cD,b8] at h;obtain ⟨rfl,rfl⟩:=h;refine ⟨i,?_,a⟩
  cases t<;>first
   | exact absurd rfl (m _ _)
   | exact absurd rfl (d _)
   | rfl
def gZ (a:List iH):List Bs:=(a.filter fun e=>e.kind==0).map (·.loc)
theorem oX:∀ (b:List cO) (a:List iH) (e:Bs→Option Bs),gZ (dH b a e).1=gZ a
 | [],a,e=>rfl
 | (sp,loc,v)::b,a,e=>by
  unfold dH;by_cases c:sp=bD
  ·have d:¬ (sp=[]∧loc=bD):=by rintro ⟨h,_⟩;rw [c] at h;cases h
   simp only [aY c,aQ d];rw [oX b];rfl
  ·by_cases d:sp=[]∧loc=bD
   ·simp only [aQ c,aY d];rw [oX b];rfl
   ·simp only [aQ c,aQ d];exact oX b a e
theorem xJ:∀ (a:List iH) (b:Bs→Option Bs),gZ (fD a b).1=gZ a
 | [],_=>rfl
 | e::a,b=>by
  unfold fD;split
  ·rfl
  ·rename_i h;rw [xJ];unfold gZ;rw [List.filter_cons_of_neg (by simpa using h)]
theorem J8 {o:cV} {t k:aP} {s j:St} (h:cI o t s=.ok (k,j)) {b:List (Bs×Bs)} (a:b.map (·.2)=gZ s.stk) :
  ∃ c,iZ false b k=some c∧c.map (·.2)=gZ j.stk:=by
 unfold cI at h;split at h
 ·rename_i nm l;simp only [cD,b8] at h;obtain ⟨rfl,rfl⟩:=h;refine ⟨_,rfl,?_⟩;have:=oX l s.stk s.ns;simp only [List.map_cons,r8,a];unfold gZ at this ⊢;rw [List.filter_cons_of_pos (by rfl),List.map_cons,this]
 ·rename_i nm;unfold lG at h;split at h
  ·cases h
  ·rename_i e i p;split at h
   ·cases h
   ·rename_i d;have n:e.kind=0:=by simpa using d
    have m:gZ s.stk=e.loc::gZ i:=by
     rw [p];unfold gZ;rw [List.filter_cons_of_pos (by simp [n])];rfl
    rw [m] at a;cases b with
    | nil=>cases a
    | cons q b=>
     simp only [List.map_cons,List.cons.injEq] at a;split at h
     ·split at h
      ·cases h
      ·simp only [cD,b8] at h;obtain ⟨rfl,rfl⟩:=h;refine ⟨b,?_,a.2⟩;simp [iZ,a.1]
     ·rename_i f;have g:e.loc=nm.2:=by simpa using f
      split at h
      ·cases h
      ·simp only [cD,b8] at h;obtain ⟨rfl,rfl⟩:=h;refine ⟨b,?_,by simp only [xJ];exact a.2⟩;simp [iZ,r8,a.1,g]
 ·rename_i r d f;simp only [cD,b8] at h;obtain ⟨rfl,rfl⟩:=h;refine ⟨b,?_,a⟩
  cases t<;>first
   | exact absurd rfl (d _ _)
   | exact absurd rfl (f _)
   | rfl
theorem KA {fold:Bs→Bs→Bool} {o:cV} {s j:St} {t:aP} (h:jT fold o s=.ok (t,j)):∃ l f,f.stk=s.stk∧f.ns=s.ns∧cI o l f=.ok (t,j):=by
 unfold jT at h;have c:∀ {g:Except EK (aP×St)} {b a},g=.ok (b,a)→(a.stk=s.stk∧a.ns=s.ns)→(match g with
   | .error e=>.error e
   | .ok (t,s)=>if o.strict then cI o t s else match jY fold o t s with
    | none=>cI o t s
    | some nm=>cI o (.fin nm) { s with next:=some t })=Except.ok (t,j)→∃ l f,f.stk=s.stk∧f.ns=s.ns∧cI o l f=.ok (t,j):=by
  intro g b a r i d;rw [r] at d;simp only at d;split at d
  ·exact ⟨b,a,i.1,i.2,d⟩
  ·split at d
   ·exact ⟨b,a,i.1,i.2,d⟩
   ·exact ⟨_,{ a with next:=some b },i.1,i.2,d⟩
 cases m:s.next with
 | some b=>
  rw [m] at h;exact c (g:=.ok (b,{ s with next:=none })) rfl ⟨rfl,rfl⟩ h
 | none=>
  rw [m] at h;cases k:fK o s with
  | error e=>rw [k] at h;cases h
  | ok p=>
   obtain ⟨b,a⟩:=p;rw [k] at h;obtain ⟨_,n,q,_⟩:=jZ k;exact c (g:=.ok (b,a)) rfl ⟨n,q⟩ h
theorem NI {fold:Bs→Bs→Bool} {o:cV} {s:St} (h:jT fold o s=.error .eof):s.stk=[]:=by
 have b:∀ t g,cI o t g≠.error .eof:=by
  intro t g a;unfold cI at a;split at a
  ·cases a
  ·unfold lG at a;repeat' split at a
   all_goals cases a
  ·cases a
 unfold jT at h;cases d:s.next with
 | some i=>
  exfalso;rw [d] at h;simp only at h;split at h
  ·exact b _ _ h
  ·split at h<;>exact b _ _ h
 | none=>
  rw [d] at h;cases f:fK o s with
  | error e=>
   rw [f] at h;simp only [Except.error.injEq] at h;by_cases c:e=.eof∧s.stk≠[]
   ·rw [aY c] at h;cases h
   ·rw [aQ c] at h;exact Classical.byContradiction fun a=>c ⟨h,a⟩
  | ok p=>
   exfalso;obtain ⟨i,j⟩:=p;rw [f] at h;simp only at h;split at h
   ·exact b _ _ h
   ·split at h<;>exact b _ _ h
theorem C2 {fold:Bs→Bs→Bool} {o:cV} (k:o.raw=false):∀ (l:List (aP×St)) (s:St) (e:EK) (g:List (Bs×Bs)),jV fold o s l e →
  (if o.strict then xH o s.stk s.ns g else g.map (·.2)=gZ s.stk)→∃ a,jC o.strict g l=some a∧(e=.eof→a=[])
 | [],s,e,g,h,b=>by
  refine ⟨g,rfl,fun x=>?_⟩;subst x;cases h with
  | stop c=>
   have i:jT fold o s=.error .eof:=by unfold stepL at c;rw [k] at c;exact c
   have j:=NI i;rw [j] at b;split at b
   ·cases b;rfl
   ·simpa [gZ] using b
 | (t,s')::l,s,e,g,h,b=>by
  cases h with
  | more c i=>
   have j:jT fold o s=.ok (t,s'):=by unfold stepL at c;rw [k] at c;exact c
   obtain ⟨z,y,n,q,p⟩:=KA j;have f:∃ a,iZ o.strict g t=some a∧(if o.strict then xH o s'.stk s'.ns a else a.map (·.2)=gZ s'.stk):=by
    cases d:o.strict with
    | true=>
     rw [d] at b;simp only [if_true] at b ⊢;exact FX d p (by rw [n,q];exact b)
    | false=>
     rw [d] at b;simp only [rW,if_false] at b ⊢;exact J8 p (by rw [n];exact b)
   obtain ⟨a,r,u⟩:=f;obtain ⟨m,v,w⟩:=C2 k l s' e a i u;exact ⟨m,by unfold jC;rw [r];exact v,w⟩
theorem BP {fold:Bs→Bs→Bool} {o:cV} (b:o.raw=false) (T:Bs) {l:List (aP×St)} {e:EK} (h:jV fold o (St.init T) l e):∃ a,jC o.strict [] l=some a∧(e=.eof→a=[]):=by
 refine C2 b l _ e [] h ?_;split
 ·exact xH.nil _
 ·rfl
end Go.Proofs.YthapcchcahnfaaaGreatDoor
