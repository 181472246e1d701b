/- Part of the proof that laws.FnSkip returns true for every argument. No conditions. -/
import Derived.Test.YthapcchcahnfaaaGreatDoorS46
import Derived.Test.YthapcchcahnfaaaGreatDoorS13
set_option linter.all false
set_option maxHeartbeats 8000000
set_option maxRecDepth 100000
namespace Go.Proofs.YthapcchcahnfaaaGreatDoor
open Go
structure yR (ats:List cO):Prop where
 nd:(ats.map fun a=>(a.1,a.2.1)).Nodup
 nc:∀ a∈ats,(58:UInt8)∉a.1∧(58:UInt8)∉a.2.1∧a.2.1≠[]
theorem yS {rest r:Bs} {nm:Bs×Bs} (h:fL rest=.ok (nm,r)):(58:UInt8)∉nm.1∧(58:UInt8)∉nm.2∧nm.2≠[]:=by
 have c:=(nO (f:=false) h).2.2.1;unfold fL at h;split at h
 ·cases h
 ·split at h
  ·cases h
  ·split at h
   ·cases h
   ·rename_i p l e;split at h
    ·cases h
    ·rename_i a;simp only [not_or] at a;simp only [cD,b8] at h;obtain ⟨rfl,rfl⟩:=h;refine ⟨?_,(mD (by simpa using a.1)).2,c⟩;by_cases b:p=[]
     ·subst b;simp
     ·have:eD p=true:=by
       cases d:eD p with
       | true=>rfl
       | false=>exact absurd ⟨b,d⟩ a.2
      exact (mD this).2
theorem QI {ents:aM} {rest r:Bs} {a:cO} (h:dZ ents rest=.ok (a,r)):(58:UInt8)∉a.1∧(58:UInt8)∉a.2.1∧a.2.1≠[]:=by
 unfold dZ at h;cases b:fL rest with
 | error e=>rw [b] at h;cases h
 | ok x=>
  obtain ⟨nm,d⟩:=x;rw [b] at h;have c:=yS b;simp only at h;repeat' split at h
  all_goals first
   | (simp only [cD,b8] at h;obtain ⟨rfl,_⟩:=h;exact c)
   | cases h
theorem A0 {ents:aM}:∀ (k:Nat) (rest:Bs) (acc b:List cO) (em:Bool) (r:Bs),yR acc→cZ ents k rest acc=.ok (b,em,r)→yR b
 | 0,_,_,_,_,_,_,h=>by unfold cZ at h;cases h
 | k+1,rest,acc,b,em,r,f,h=>by
  unfold cZ at h;split at h
  ·cases h
  ·split at h
   ·simp only [cD,b8] at h;obtain ⟨rfl,_⟩:=h;exact f
   ·split at h
    ·split at h
     ·cases h
     ·split at h
      ·simp only [cD,b8] at h;obtain ⟨rfl,_⟩:=h;exact f
      ·cases h
    ·split at h
     ·cases h
     ·rename_i a m g;split at h
      ·cases h
      ·split at h
       ·cases h
       ·rename_i e;refine A0 k m _ b em r ⟨?_,fun x c=>?_⟩ h
        ·rw [List.map_append,List.nodup_append];refine ⟨f.nd,by simp,fun x c y j i=>?_⟩;simp only [List.map_cons,List.map_nil,List.mem_singleton] at j;subst i;subst j;obtain ⟨z,l,d⟩:=List.mem_map.1 c;refine e (List.any_eq_true.2 ⟨z,l,?_⟩);simp only [b8] at d;rw [d.1,d.2];simp
        ·rw [List.mem_append] at c;rcases c with c|c
         ·exact f.nc x c
         ·simp only [List.mem_singleton] at c;subst c;exact QI g
def jB (a:cO):Option Bs:=if a.1=bD then some a.2.1 else if a.1=[]∧a.2.1=bD then some [] else none
theorem yT {a:cO} {c:List cO} {l:aM} (h:eB (a::c)=.ok l):(jB a=none∧eB c=.ok l)∨∃ k y,jB a=some k∧eB c=.ok y∧l=(k,a.2.2)::y:=by
 obtain ⟨d,b,v⟩:=a;rw [eB] at h;by_cases f:d≠bD∧(d≠[]∨b≠bD)
 ·rw [aY f] at h;refine aG ⟨?_,h⟩;unfold jB;rw [aQ f.1,aQ (fun i=>f.2.elim (fun h=>h i.1) (fun h=>h i.2))]
 ·rw [aQ f] at h;have n:jB (d,b,v)=some (if d=bD then b else []):=by
   unfold jB;by_cases g:d=bD
   ·rw [aY g,aY g]
   ·have p:d=[]∧b=bD:=by
     refine Classical.byContradiction fun i=>f ⟨g,?_⟩;by_cases j:d=[]
     ·exact aU (fun q=>i ⟨j,q⟩)
     ·exact aG j
    rw [aQ g,aQ g,aY p]
  generalize (if d=bD then b else [])=k at h n;by_cases m:k=mN∨k=bD∨(k≠[]∧v=[])∨v=dN∨v=oG
  ·rw [aY m] at h;cases h
  ·rw [aQ m] at h;cases o:eB c with
   | error e=>rw [o] at h;cases h
   | ok y=>
    rw [o] at h;simp only [cD] at h;exact aU ⟨k,y,n,rfl,h.symm⟩
theorem pC:∀ {c:List cO} {l:aM},eB c=.ok l→∀ x∈l,∃ a∈c,jB a=some x.1
 | [],l,h,x,d=>by unfold eB at h;simp only [cD] at h;subst h;cases d
 | a::c,l,h,x,d=>by
  rcases yT h with ⟨_,e⟩|⟨k,y,e,i,rfl⟩
  ·obtain ⟨b,f,g⟩:=pC e x d;exact ⟨b,by simp [f],g⟩
  ·simp only [mF] at d;rcases d with rfl|d
   ·exact ⟨a,by simp,e⟩
   ·obtain ⟨b,f,g⟩:=pC i x d;exact ⟨b,by simp [f],g⟩
theorem E6 {a b:cO} {k:Bs} (d:jB a=some k) (c:jB b=some k) (g:a.2.1≠[]) (h:b.2.1≠[]):a.1=b.1∧a.2.1=b.2.1:=by
 unfold jB at d c;split at d
 ·rename_i e;simp only [jW] at d;split at c
  ·rename_i f;simp only [jW] at c;exact ⟨e.trans f.symm,d.trans c.symm⟩
  ·split at c
   ·simp only [jW] at c;exact absurd (d.trans c.symm) g
   ·cases c
 ·split at d
  ·rename_i e;simp only [jW] at d;split at c
   ·simp only [jW] at c;exact absurd (c.trans d.symm) h
   ·split at c
    ·rename_i f;exact ⟨e.1.trans f.1.symm,e.2.trans f.2.symm⟩
    ·cases c
  ·cases d
theorem yU {l:aM} {k:Bs} (h:∀ x∈l,x.1≠k):eA l k=none:=by
 unfold eA;rw [List.find?_eq_none.2 (fun x a=>by simpa using h x a)];rfl
theorem G9 (k v:Bs) (l:aM) (p:Bs):eA ((k,v)::l) p=if k=p then some v else eA l p:=by
 unfold eA;rw [List.find?_cons];by_cases h:k=p
 ·subst h;simp
 ·rw [show ((k,v).1==p)=false from lQ.2 h,aQ h]
theorem E7 (a:cO) (b:List cO) (j:List iH) (g:Bs→Option Bs):∃ d,dH (a::b) j g=dH b d (match jB a with|some k=>gO g k (some a.2.2)|none=>g):=by
 obtain ⟨i,c,v⟩:=a;rw [dH];unfold jB;by_cases e:i=bD
 ·have f:¬ (i=[]∧c=bD):=by rintro ⟨h,_⟩;rw [e] at h;cases h
  simp only [aY e,aQ f];exact ⟨_,rfl⟩
 ·by_cases f:i=[]∧c=bD
  ·simp only [aQ e,aY f];exact ⟨_,rfl⟩
  ·simp only [aQ e,aQ f];exact ⟨_,rfl⟩
theorem CK:∀ (c:List cO) (l:aM) (d:List iH) (f:Bs→Option Bs),eB c=.ok l→yR c→∀ p,(dH c d f).2 p=match eA l p with|some v=>some v|none=>f p
 | [],l,d,f,h,_,p=>by unfold eB at h;simp only [cD] at h;subst h;rfl
 | a::c,l,d,f,h,n,p=>by
  have e:yR c:=⟨by have:=n.nd;rw [List.map_cons,List.nodup_cons] at this;exact this.2,fun b h=>n.nc b (by simp [h])⟩;have g:∀ b∈c,¬ (b.1=a.1∧b.2.1=a.2.1):=fun b z o=>by
   have:=n.nd;rw [List.map_cons,List.nodup_cons] at this;exact this.1 (List.mem_map.2 ⟨b,z,by rw [o.1,o.2]⟩)
  obtain ⟨i,u⟩:=E7 a c d f;rw [u];rcases yT h with ⟨j,m⟩|⟨k,y,j,m,rfl⟩
  ·rw [j];exact CK c l i f m e p
  ·rw [j,CK c y _ _ m e p,G9];by_cases q:k=p
   ·subst q;have:eA y k=none:=yU fun x A r=>by
     obtain ⟨b,s,t⟩:=pC m x A;rw [r] at t;exact g b s (E6 t j (e.nc b s).2.2 (n.nc a (by simp)).2.2)
    rw [this,aY rfl];simp [gO]
   ·rw [aQ q];cases eA y p with
    | some w=>rfl
    | none=>simp only [gO];rw [aQ (fun o=>q o.symm)]
theorem E8 {b:Bs} {bound:List aM}:∀ {l acc x:List cO},f8 b bound acc l=.ok x→x=acc++l.map fun a=>(cC b bound a.1 false,a.2.1,a.2.2)
 | [],acc,x,h=>by unfold f8 at h;simp only [cD] at h;subst h;simp
 | (sp,loc,v)::l,acc,x,h=>by
  unfold f8 at h;split at h
  ·cases h
  ·rw [E8 h];simp
inductive gM:List Bs→List aM→List iH→(Bs→Option Bs)→Prop
 | nil:gM [] [] [] (fun _=>none)
 | cons {os bs stk ns} (nm:Bs×Bs) (l:aM) (a:List iH) (b:Bs→Option Bs):gM os bs stk ns→fD a b=(stk,ns)→(∀ p,b p=match eA l p with|some v=>some v|none=>ns p)→(58:UInt8)∉nm.1→nm≠([],bD)→(∀ x∈l,(58:UInt8)∉x.1) →
   gM (dG nm::os) (l::bs) ({ kind:=0,space:=nm.1,loc:=nm.2,ok:=false }::a) b
theorem gM.ns {os:List Bs} {b:List aM} {a:List iH} {c:Bs→Option Bs} (h:gM os b a c):∀ p,c p=iR b p:=by
 induction h with
 | nil=>intro p;rfl
 | cons nm l stk' ns' _ _ d _ _ _ ih=>
  intro p;rw [d,iR];cases eA l p with
  | some v=>rfl
  | none=>exact ih p
theorem gM.url {os:List Bs} {d:List aM} {a:List iH} {c:Bs→Option Bs} (h:gM os d a c):∀ p,(58:UInt8)∈p→c p=none:=by
 induction h with
 | nil=>intro p _;rfl
 | cons nm l stk' ns' _ _ e _ _ f ih=>
  intro p b;rw [e,yU fun x i g=>f x i (g▸b)];exact ih p b
theorem gM.top {os:List Bs} {c:List aM} {a:List iH} {b:Bs→Option Bs} (h:gM os c a b):fD a b=(a,b):=by
 cases h with
 | nil=>rfl
 | cons=>unfold fD;simp
theorem gM.empty {os:List Bs} {b:List aM} {a:List iH} {c:Bs→Option Bs} (h:gM os b a c):os=[]↔a=[]:=by
 cases h with
 | nil=>simp
 | cons=>simp
theorem FA:∀ {a b:Bs×Bs},(58:UInt8)∉a.1→(58:UInt8)∉b.1→dG a=dG b→a=b
 | ⟨[],y⟩,⟨[],y'⟩,_,_,h=>by simpa [dG] using h
 | ⟨[],y⟩,⟨d::x',y'⟩,_,f,h=>by
  simp only [dG,List.nil_append,rH,List.cons.injEq] at h;exact absurd (by simp [h.1]) f
 | ⟨c::x,y⟩,⟨[],y'⟩,e,_,h=>by
  simp only [dG,List.nil_append,rH,List.cons.injEq] at h;exact absurd (by simp [h.1]) e
 | ⟨c::x,y⟩,⟨d::x',y'⟩,e,f,h=>by
  simp only [dG,rH,List.cons.injEq] at h;obtain ⟨rfl,h⟩:=h;have:=@FA (x,y) (x',y') (fun g=>e (by simp [g])) (fun g=>f (by simp [g])) h;simp only [b8] at this ⊢;exact ⟨by rw [this.1],this.2⟩
theorem yV (o:cV) {os:List Bs} {e:List aM} {g:List iH} {i:Bs→Option Bs} (h:gM os e g i) (nm:Bs×Bs) (a:Bool) (k:a=true→nm≠([],bD)):cR o i nm a=(cC o.space e nm.1 a,nm.2):=by
 unfold cR cC;by_cases d:nm.1=bD
 ·rw [aY d,aY (aU d)]
 ·rw [aQ d];by_cases c:nm.1=[]∧a=false
  ·rw [aY c,aY (aG c)]
  ·rw [aQ c,aQ (show ¬ ((nm.1=[]∧a=false)∨nm.1=bD) from fun b=>b.elim c d)];by_cases f:nm.1=mN
   ·rw [aQ (show ¬ (nm.1≠mN∧nm.1=[]∧nm.2=bD) from fun b=>b.1 f)];simp only [aY f];rw [h.url dN (by decide),aQ (by decide)]
   ·have j:¬ (nm.1≠mN∧nm.1=[]∧nm.2=bD):=fun b=>by
     cases a with
     | true=>exact k rfl (Prod.ext b.2.1 b.2.2)
     | false=>exact c ⟨b.2.1,rfl⟩
    rw [aQ j];simp only [aQ f];rw [h.ns];cases iR e nm.1 with
    | some v=>rfl
    | none=>
     simp only;split<;>rfl
theorem T7 (o:cV) {s g:gN} {st:St} {nm:Bs×Bs} {b:List cO} {t:aP} (m:gM s.opens s.bound st.stk st.ns) (n:yR b) (r:(58:UInt8)∉nm.1) (h:mQ false o.space s nm b=.ok (t,g)) :
  ∃ f k,cI o (.start nm b) st=.ok (t,{ st with stk:=f,ns:=k })∧gM g.opens g.bound f k∧g.rest=s.rest∧g.opens=dG nm::s.opens:=by
 unfold mQ at h;rw [aQ (by simp)] at h;split at h
 ·cases h
 ·rename_i p;cases i:eB b with
  | error e=>rw [i] at h;cases h
  | ok l=>
   rw [i] at h;cases j:f8 o.space (l::s.bound) [] b with
   | error e=>simp only [j] at h;cases h
   | ok x=>
    simp only [j] at h;split at h
    ·cases h
    ·simp only [cD,b8] at h;obtain ⟨rfl,rfl⟩:=h
     have d:gM (dG nm::s.opens) (l::s.bound) ({ kind:=0,space:=nm.1,loc:=nm.2,ok:=false }::(dH b st.stk st.ns).1) (dH b st.stk st.ns).2:=
      .cons nm l _ _ m (by rw [oE,m.top]) (CK b l st.stk st.ns i n) r p (fun y u=>by
       obtain ⟨a,v,c⟩:=pC i y u;unfold jB at c;split at c
       ·simp only [jW] at c;rw [←c];exact (n.nc a v).2.1
       ·split at c
        ·simp only [jW] at c;rw [←c];simp
        ·cases c)
     refine ⟨_,_,?_,d,rfl,rfl⟩;have e:=E8 j;rw [List.nil_append] at e;unfold cI;simp only;rw [yV o d nm true (fun _=>p),e];have q:∀ a:cO,cR o (dH b st.stk st.ns).2 (a.1,a.2.1) false=(cC o.space (l::s.bound) a.1 false,a.2.1):=fun a=>yV o d (a.1,a.2.1) false (fun h=>by cases h);simp only [q]
theorem FB (o:cV) {s e:gN} {st:St} {nm:Bs×Bs} {t:aP} (k:gM s.opens s.bound st.stk st.ns) (u:(58:UInt8)∉nm.1) (h:eJ false o.space s nm=.ok (t,e)) :
  ∃ a c,cI o (.fin nm) st=.ok (t,{ st with stk:=a,ns:=c })∧gM e.opens e.bound a c∧e.rest=s.rest:=by
 obtain ⟨rest,opens,bound⟩:=s;obtain ⟨r,w,y,a,c,x⟩:=st;simp only at k;unfold eJ at h;rw [aQ (by simp)] at h;cases k with
 | nil=>cases h
 | cons nm' l stk' ns' b m n i j p=>
  rename_i os v d g;simp only at h;split at h
  ·rename_i q;have:=FA i u q;subst this;simp only [cD,b8] at h;obtain ⟨rfl,rfl⟩:=h;refine ⟨d,g,?_,b,rfl⟩;have f:=gM.cons nm' l stk' c b m n i j p;unfold cI lG;simp only;rw [aQ (by simp),aQ (by simp),aQ (by simp),yV o f nm' true (fun _=>j),m]
  ·cases h
theorem MA (o:cV) (b:o.strict=true) {s:gN} {st:St} {nm:Bs×Bs} (c:gM s.opens s.bound st.stk st.ns) (h:eJ false o.space s nm=.error .bad):cI o (.fin nm) st=.error .syn:=by
 obtain ⟨rest,opens,bound⟩:=s;obtain ⟨r,i,u,g,q,t⟩:=st;simp only at c;unfold eJ at h;rw [aQ (by simp)] at h;unfold cI lG;cases c with
 | nil=>rfl
 | cons nm' l stk' ns' e p j k m n=>
  simp only at h ⊢;split at h
  ·cases h
  ·rename_i f;rw [aQ (by simp)];by_cases a:nm'.2=nm.2
   ·rw [aQ (by simpa using a),aY];intro d;exact f (by rw [show nm'=nm from Prod.ext d a])
   ·rw [aY (by simpa using a),aY b]
theorem QJ {ents:aM} {first em:Bool} {rest r:Bs} {t:aP} (h:kD ents first rest=.ok (t,em,r)):(∀ nm g,t=.start nm g→yR g∧(58:UInt8)∉nm.1)∧(∀ nm,t=.fin nm→(58:UInt8)∉nm.1):=by
 unfold kD at h;cases rest with
 | nil=>cases h
 | cons b l=>
  simp only at h;split at h
  ·cases s:dO ents ((b::l).length+1) (b::l) [] with
   | error e=>rw [s] at h;cases h
   | ok x=>
    rw [s] at h;simp only [cD,b8] at h;obtain ⟨rfl,_,_⟩:=h;exact ⟨fun _ _ f=>(by cases f),fun _ f=>(by cases f)⟩
  ·cases l with
   | nil=>cases h
   | cons c l2=>
    simp only at h;split at h
    ·cases a:nR l2 with
     | error e=>rw [a] at h;cases h
     | ok x=>
      obtain ⟨nm,u⟩:=x;rw [a] at h;simp only [cD,b8] at h;obtain ⟨rfl,_,_⟩:=h;refine ⟨fun _ _ f=>(by cases f),fun k f=>?_⟩;simp only [aP.fin.injEq] at f;subst f;unfold nR at a;cases j:fL l2 with
      | error e=>rw [j] at a;cases a
      | ok y=>
       obtain ⟨k,p⟩:=y;rw [j] at a;simp only at a;split at a
       ·cases a
       ·split at a
        ·simp only [cD,b8] at a;obtain ⟨rfl,_⟩:=a;exact (yS j).1
        ·cases a
    ·split at h
     ·cases a:fI first l2 with
      | error e=>rw [a] at h;cases h
      | ok x=>
       rw [a] at h;simp only [cD,b8] at h;obtain ⟨rfl,_,_⟩:=h;exact ⟨fun _ _ f=>(by cases f),fun _ f=>(by cases f)⟩
     ·split at h
      ·cases a:l4 l2 with
       | error e=>rw [a] at h;cases h
       | ok x=>
        obtain ⟨A,u⟩:=x;rw [a] at h;simp only [cD,b8] at h;obtain ⟨rfl,_,_⟩:=h;unfold l4 at a;have o:∀ i:aP,(∃ d,i=.comment d)∨(∃ d,i=.text d)∨(∃ d,i=.dir d)→(∀ nm g,i=.start nm g→yR g∧(58:UInt8)∉nm.1)∧(∀ nm,i=.fin nm→(58:UInt8)∉nm.1):=by
         rintro i (⟨d,rfl⟩|⟨d,rfl⟩|⟨d,rfl⟩)<;>exact ⟨fun _ _ f=>(by cases f),fun _ f=>(by cases f)⟩
        refine o _ ?_;split at a
        ·split at a
         ·cases a
         ·simp only [cD,b8] at a;exact aG ⟨_,a.1.symm⟩
        ·split at a
         ·split at a
          ·cases a
          ·simp only [cD,b8] at a;exact aU (aG ⟨_,a.1.symm⟩)
         ·split at a
          ·split at a
           ·cases a
           ·simp only [cD,b8] at a;exact aU (aU ⟨_,a.1.symm⟩)
          ·split at a
           ·cases a
           ·split at a<;>cases a
      ·cases a:eV ents (c::l2) with
       | error e=>rw [a] at h;cases h
       | ok x=>
        obtain ⟨nm,g,v,u⟩:=x;rw [a] at h;simp only [cD,b8] at h;obtain ⟨rfl,_,_⟩:=h;refine ⟨fun k m f=>?_,fun _ f=>(by cases f)⟩;simp only [aP.start.injEq] at f;obtain ⟨rfl,rfl⟩:=f;unfold eV at a;cases j:fL (c::l2) with
        | error e=>rw [j] at a;cases a
        | ok y=>
         obtain ⟨k,p⟩:=y;rw [j] at a;simp only at a;cases n:cZ ents (p.length+1) p [] with
         | error e=>rw [n] at a;cases a
         | ok z=>
          obtain ⟨m,q,w⟩:=z;rw [n] at a;simp only [cD,b8] at a;obtain ⟨rfl,rfl,_,_⟩:=a;exact ⟨A0 _ _ _ _ _ _ ⟨by simp,by simp⟩ n,(yS j).1⟩
theorem uQ:∀ {a:List cO} {e:SV},eB a=.error e→e=.opn
 | [],e,h=>by unfold eB at h;cases h
 | (sp,loc,v)::a,e,h=>by
  unfold eB at h;by_cases c:sp≠bD∧(sp≠[]∨loc≠bD)
  ·rw [aY c] at h;exact uQ h
  ·rw [aQ c] at h;generalize (if sp=bD then loc else [])=k at h;by_cases d:k=mN∨k=bD∨(k≠[]∧v=[])∨v=dN∨v=oG
   ·rw [aY d] at h;simpa using h.symm
   ·rw [aQ d] at h;cases b:eB a with
    | error e'=>rw [b] at h;simp only [Except.error.injEq] at h;subst h;exact uQ b
    | ok y=>rw [b] at h;cases h
theorem A1 {a:Bs} {bound:List aM}:∀ {l acc:List cO} {e:SV},f8 a bound acc l=.error e→e=.opn
 | [],acc,e,h=>by unfold f8 at h;cases h
 | (sp,loc,v)::l,acc,e,h=>by
  unfold f8 at h;split at h
  ·simpa using h.symm
  ·exact A1 h
theorem MB {a:Bs} {s:gN} {nm:Bs×Bs} {b:List cO} {e:SV} (h:mQ false a s nm b=.error e):e=.opn:=by
 unfold mQ at h;rw [aQ (by simp)] at h;split at h
 ·simpa using h.symm
 ·cases c:eB b with
  | error e'=>rw [c] at h;simp only [Except.error.injEq] at h;subst h;exact uQ c
  | ok l=>
   rw [c] at h;cases d:f8 a (l::s.bound) [] b with
   | error e'=>simp only [d,Except.error.injEq] at h;subst h;exact A1 d
   | ok x=>
    simp only [d] at h;split at h
    ·simpa using h.symm
    ·cases h
theorem yW {fold:Bs→Bs→Bool} {o:cV} (c:o.strict=true∨o.auto=[]) {st a:St} {t:aP} (d:st.next=none) (h:fK o st=.ok (t,a)):jT fold o st=cI o t a:=by
 unfold jT;rw [d];simp only;rw [h];simp only;by_cases b:o.strict=true
 ·rw [aY b]
 ·rw [aQ b];have:jY fold o t a=none:=by
   unfold jY;split
   ·rfl
   ·split
    ·rfl
    ·rw [c.resolve_left b];simp
  rw [this]
def Bd (f:Bool):Option SV→EK
 | none=>mM f
 | some _=>.syn
theorem qT (fold:Bs→Bs→Bool) (o:cV) (q:o.raw=false) (A:o.strict=true∨o.auto=[]) (w:lR) (C:w.raw=false) (D:w.space=o.space) (V:kR o.ents w.ents) (T:Bs):∀ (k:Nat) (s:gN) (out:List (aP×Nat)) (st:St),s.rest.length<k→st.rest=s.rest→st.toClose=none→st.next=none→(st.ended=true→s.rest=[])→gM s.opens s.bound st.stk st.ns→((l5 w T k s out).2=none∨(o.strict=true∧qQ o∧o.fails=false∧(l5 w T k s out).2≠some .opn)) →
  ∃ l,jV fold o st l (Bd o.fails (l5 w T k s out).2)∧(l5 w T k s out).1=out++dA T l
 | 0,_,_,_,h,_,_,_,_,_,_=>by omega
 | k+1,s,out,st,hk,h1,h2,p,h3,M,f=>by
  have g:∀ st:St,stepL fold o st=jT fold o st:=fun st=>by unfold stepL;rw [aQ (by rw [q];simp)]
  have c:(l5 w T (k+1) s out).2≠some .opn:=by
   rcases f with f|f
   ·rw [f];simp
   ·exact f.2.2.2
  unfold l5 at f c ⊢;by_cases hr:s.rest=[]
  ·rw [aY hr];refine ⟨[],.stop ?_,by simp [dA]⟩;have O:fK o st=.error (mM o.fails):=by
    unfold fK;rw [h2,h1,hr];split<;>rfl
   rw [g];unfold jT;rw [p];simp only;rw [O];simp only;by_cases H:s.opens=[]
   ·rw [aY H,aQ (fun n=>n.2 (M.empty.1 H))];rfl
   ·have aC:o.fails=false:=by
     rcases f with f|f
     ·rw [aY hr,aQ H] at f;cases f
     ·exact f.2.2.1
    rw [aC];rw [aQ H,aY (by first|exact ⟨rfl,fun n=>H (M.empty.2 n)⟩|exact ⟨trivial,fun n=>H (M.empty.2 n)⟩)];rfl
  ·have Z:st.ended=false:=by
    cases n:st.ended with
    | false=>rfl
    | true=>exact absurd (h3 n) hr
   rw [aQ hr] at f c ⊢;unfold iS at f c ⊢;cases hp:kD w.ents (s.rest.length==T.length) s.rest with
   | error e=>
    rw [hp] at f c;simp only at f c ⊢;have hb:e=.bad:=by
     cases e with
     | bad=>rfl
     | opn=>exact absurd rfl c
    subst hb;have u:o.strict=true∧qQ o∧o.fails=false:=by
     rcases f with f|f
     ·cases f
     ·exact ⟨f.1,f.2.1,f.2.2.1⟩
    refine ⟨[],.stop ?_,by simp [dA]⟩;rw [g];unfold jT;rw [p];simp only;rw [L5 o V u.1 u.2.2 u.2.1 st Z h2 (by rw [h1];exact hp)];simp only;rw [aQ (fun n=>by cases n.1)];rfl
   | ok x=>
    obtain ⟨t,em,r⟩:=x;rw [hp] at f c;simp only at f c ⊢;obtain ⟨W,hl,F⟩:=E2 o V st Z h2 (by rw [h1];exact hp);obtain ⟨a2,a1⟩:=QJ hp;have a4:r.length<s.rest.length:=by
     obtain ⟨_,_,_,_,_,_,h7⟩:=jZ hl;rcases h7 with ⟨nm,X,_⟩|⟨_,X,_⟩
     ·rw [h2] at X;cases X
     ·have:=QD t;simp only at X;rw [h1] at X;omega
    have v:=yW (fold:=fold) A p hl;have U:(∀ nm j,t≠.start nm j)→(∀ nm,t≠.fin nm)→kE w { s with rest:=r } t em=.ok ([t],{ s with rest:=r })∧G6 t em=none∧∀ st,cI o t st=.ok (t,st):=by
     intro hs hf;cases t with
     | start nm j=>exact absurd rfl (hs nm j)
     | fin nm=>exact absurd rfl (hf nm)
     | text d=>exact ⟨rfl,rfl,fun _=>rfl⟩
     | comment d=>exact ⟨rfl,rfl,fun _=>rfl⟩
     | dir d=>exact ⟨rfl,rfl,fun _=>rfl⟩
     | proc a b=>exact ⟨rfl,rfl,fun _=>rfl⟩
    by_cases u:∃ nm j,t=.start nm j
    ·obtain ⟨nm,j,rfl⟩:=u;obtain ⟨ha,hn⟩:=a2 nm j rfl;have G:W=false:=by
      cases n:W with
      | false=>rfl
      | true=>obtain ⟨_,d,hd⟩:=F n;cases hd
     subst G;unfold kE at f c ⊢;simp only [C,D] at f c ⊢;cases H:mQ false o.space { s with rest:=r } nm j with
     | error e=>
      rw [H] at c;simp only at c;exact absurd (by rw [MB H]) c
     | ok y=>
      obtain ⟨t1,s2⟩:=y;rw [H] at f c;simp only at f c ⊢;obtain ⟨i,E,hw,Y,B,a3⟩:=T7 o (s:={ s with rest:=r }) (st:={ st with rest:=r,toClose:=G6 (.start nm j) em,ended:=false }) M ha hn H;rw [hw] at v;cases em with
      | false=>
       simp only [rW,if_false,List.map_cons,List.map_nil] at f c ⊢;obtain ⟨l,Q,R⟩:=qT fold o q A w C D V T k s2 _ { st with rest:=r,toClose:=none,ended:=false,stk:=i,ns:=E } (by rw [B];show r.length<k;omega) B.symm rfl p (fun h=>by cases h) Y f;refine ⟨_::l,.more (by rw [g];exact v) Q,?_⟩;rw [R,B];simp [dA,G6]
      | true=>
       simp only [if_true] at f c ⊢;cases J:eJ false o.space s2 nm with
       | error e=>
        exfalso;unfold eJ at J;rw [aQ (by simp),a3] at J;simp at J
       | ok z=>
        obtain ⟨t2,s3⟩:=z;rw [J] at f c;simp only [List.map_cons,List.map_nil] at f c ⊢;obtain ⟨I,S,P,N,m⟩:=FB o (st:={ st with rest:=r,toClose:=none,ended:=false,stk:=i,ns:=E }) Y hn J;have a0:fK o { st with rest:=r,toClose:=some nm,ended:=false,stk:=i,ns:=E }=.ok (.fin nm,{ st with rest:=r,toClose:=none,ended:=false,stk:=i,ns:=E }):=by
         unfold fK;rfl
        have L:=yW (fold:=fold) (st:={ st with rest:=r,toClose:=some nm,ended:=false,stk:=i,ns:=E }) A p a0;rw [P] at L;obtain ⟨l,Q,R⟩:=qT fold o q A w C D V T k s3 _ { st with rest:=r,toClose:=none,ended:=false,stk:=I,ns:=S } (by rw [m,B];show r.length<k;omega) (by rw [m,B]) rfl p (fun h=>by cases h) N f;refine ⟨_::_::l,.more (by rw [g];exact v) (.more (by rw [g];exact L) Q),?_⟩;rw [R,m,B];simp [dA]
    ·by_cases aA:∃ nm,t=.fin nm
     ·obtain ⟨nm,rfl⟩:=aA;have G:W=false:=by
       cases n:W with
       | false=>rfl
       | true=>obtain ⟨_,d,hd⟩:=F n;cases hd
      subst G;unfold kE at f c ⊢;simp only [C,D] at f c ⊢;cases J:eJ false o.space { s with rest:=r } nm with
      | error e=>
       rw [J] at f c;simp only at f c ⊢;have hb:e=.bad:=by
        cases e with
        | bad=>rfl
        | opn=>exact absurd rfl c
       subst hb;have u:o.strict=true:=by
        rcases f with f|f
        ·cases f
        ·exact f.1
       refine ⟨[],.stop ?_,by simp [dA]⟩;rw [g,v];exact MA o u (s:={ s with rest:=r }) M J
      | ok z=>
       obtain ⟨t2,s3⟩:=z;rw [J] at f c;simp only [List.map_cons,List.map_nil] at f c ⊢;obtain ⟨I,S,P,N,m⟩:=FB o (s:={ s with rest:=r }) (st:={ st with rest:=r,toClose:=G6 (.fin nm) em,ended:=false }) M (a1 nm rfl) J;rw [P] at v;obtain ⟨l,Q,R⟩:=qT fold o q A w C D V T k s3 _ { st with rest:=r,toClose:=none,ended:=false,stk:=I,ns:=S } (by rw [m];show r.length<k;omega) (by rw [m]) rfl p (fun h=>by cases h) N f;refine ⟨_::l,.more (by rw [g];exact v) Q,?_⟩;rw [R,m];simp [dA,G6]
     ·obtain ⟨p1,p2,p3⟩:=U (fun nm j n=>u ⟨nm,j,n⟩) (fun nm n=>aA ⟨nm,n⟩);rw [p1] at f c ⊢;simp only [List.map_cons,List.map_nil] at f c ⊢;rw [p3,p2] at v;obtain ⟨l,Q,R⟩:=qT fold o q A w C D V T k { s with rest:=r } _ { st with rest:=r,toClose:=none,ended:=W } (by show r.length<k;omega) rfl rfl p (fun h=>(F h).1) M f;refine ⟨_::l,.more (by rw [g];exact v) Q,?_⟩;rw [R];simp [dA]
theorem T8 (fold:Bs→Bs→Bool) (o:cV) (b:o.raw=false) (c:o.strict=true∨o.auto=[]) (a:o.ents=none) (T:Bs) (f:(gC ⟨false,[],o.space⟩ T).2=none) :
  ∃ l,jV fold o (St.init T) l (mM o.fails)∧(gC ⟨false,[],o.space⟩ T).1=dA T l:=by
 obtain ⟨l,d,e⟩:=qT fold o b c ⟨false,[],o.space⟩ rfl rfl (by rw [a];exact yG) T (T.length+1) ⟨T,[],[]⟩ [] (St.init T) (Nat.lt_succ_self _) rfl rfl rfl (fun h=>by cases h) .nil (aG f);have g:(l5 ⟨false,[],o.space⟩ T (T.length+1) ⟨T,[],[]⟩ []).2=none:=f;rw [g] at d;exact ⟨l,d,by rw [List.nil_append] at e;exact e⟩
end Go.Proofs.YthapcchcahnfaaaGreatDoor
