/- Part of the proof that laws.FnWithin returns true for every argument. No conditions. -/
import Derived.Test.YthapcchcahnfaaaGreatDoorQ37
import Derived.Test.YthapcchcahnfaaaGreatDoorQ22
import Derived.Test.YthapcchcahnfaaaGreatDoorQ16
set_option linter.all false
set_option maxHeartbeats 8000000
set_option maxRecDepth 100000
namespace Go.Proofs.YthapcchcahnfaaaGreatDoor
open Go Go.RowKit
def VP (r:Except SV (aU×gS)):Except SV (List aU×gS):=match r with
 | .error e=>.error e
 | .ok (t,s)=>.ok ([t],s)
def QK (x:PX) (a:Nat):Prop:=∀ (w:World) (c:PC) (opens:List Bs) (bound:List aN) (out:List cA),dN x a w c opens bound out→out.length≤500000000→opens.length≤500000000→bound.length=opens.length→c.at'≤x.T.length→∀ nm:Bs×Bs,nm.1.length≤1000000000→nm.2.length≤1000000000 →
 Calls Tryz.prog 51 #[jA x,aB nm.1,aB nm.2] w (fX x a out w (VP (eR x.raw x.space ⟨x.T.drop c.at',opens,bound⟩ nm)))
def UA (x:PX) (b:Nat):Prop:=∀ (w:World) (c:PC) (opens:List Bs) (bound:List aN) (out:List cA),dN x b w c opens bound out→out.length≤499999999→opens.length≤499999999→bound.length=opens.length→c.at'≤x.T.length→∀ nm:Bs×Bs,nm.1.length≤1000000000→nm.2.length≤1000000000 →
 ∀ (a:List cV) (d:Option Addr) (f e:Nat),a.length≤1000000000→w.ownsRow b 68 3 (.slice d f e) a.length (aO a)→(∀ k,(Value.slice d f e).ownBlock=some k→¬ fW x c k)→∀ (em:Bool) (o:lT),o.raw=x.raw→o.space=x.space →
 Calls Tryz.prog 60 #[jA x,P9 ((aU.start nm a).itok []) d f e 0,.bool em] w (fX x b out w (kC o ⟨x.T.drop c.at',opens,bound⟩ (.start nm a) em))
theorem fX.snoc {x:PX} {b:Nat} {out:List cA} {w i:World} {t f:aU} {d:gS} {e:Ending} {w':World} {a:Nat} (p:Below b w i) (r:a≤x.T.length) (q:d.rest=x.T.drop a) (h:fX x b (out++[{ t.itok [] with at':=a }]) i (.ok ([f],d)) e w'):fX x b out w (.ok ([t,f],d)) e w':=by
 obtain ⟨l,m,c,n,o,g⟩:=h;refine ⟨p.trans l,m,c,?_,o,g⟩;have k:c.at'=a:=by
  have:=congrArg List.length (g.symm.trans q);rw [eO,eO] at this;omega
 have j:out++List.map (fun t=>{ t.itok [] with at':=c.at' }) [t,f]=(out++[{ t.itok [] with at':=a }])++List.map (fun t=>{ t.itok [] with at':=c.at' }) [f]:=by
  simp [k]
 show dN x b w' c d.opens d.bound (out++List.map (fun t=>{ t.itok [] with at':=c.at' }) [t,f]);rw [j];exact n
end Go.Proofs.YthapcchcahnfaaaGreatDoor
namespace Go.Proofs.YthapcchcahnfaaaGreatDoor
open Go
structure yW (b:List cV):Prop where
 nd:(b.map fun a=>(a.1,a.2.1)).Nodup
 nc:∀ a∈b,(58:UInt8)∉a.1∧(58:UInt8)∉a.2.1∧a.2.1≠[]
theorem yX {rest r:Bs} {nm:Bs×Bs} (h:fP rest=.ok (nm,r)):(58:UInt8)∉nm.1∧(58:UInt8)∉nm.2∧nm.2≠[]:=by
 have c:=(nC (f:=false) h).2.2.1;unfold fP at h;split at h
 ·cases h
 ·split at h
  ·cases h
  ·split at h
   ·cases h
   ·rename_i p l e;split at h
    ·cases h
    ·rename_i a;simp only [not_or] at a;simp only [bT,bP] at h;obtain ⟨rfl,rfl⟩:=h;refine ⟨?_,(l7 (by simpa using a.1)).2,c⟩;by_cases b:p=[]
     ·subst b;simp
     ·have:eL p=true:=by
       cases d:eL p with
       | true=>rfl
       | false=>exact absurd ⟨b,d⟩ a.2
      exact (l7 this).2
theorem QL {ents:aN} {rest r:Bs} {a:cV} (h:eH ents rest=.ok (a,r)):(58:UInt8)∉a.1∧(58:UInt8)∉a.2.1∧a.2.1≠[]:=by
 unfold eH at h;cases b:fP rest with
 | error e=>rw [b] at h;cases h
 | ok x=>
  obtain ⟨nm,d⟩:=x;rw [b] at h;have c:=yX b;simp only at h;repeat' split at h
  all_goals first
   | (simp only [bT,bP] at h;obtain ⟨rfl,_⟩:=h;exact c)
   | cases h
theorem A9 {ents:aN}:∀ (k:Nat) (rest:Bs) (acc b:List cV) (em:Bool) (r:Bs),yW acc→dD ents k rest acc=.ok (b,em,r)→yW b
 | 0,_,_,_,_,_,_,h=>by unfold dD at h;cases h
 | k+1,rest,acc,b,em,r,f,h=>by
  unfold dD at h;split at h
  ·cases h
  ·split at h
   ·simp only [bT,bP] at h;obtain ⟨rfl,_⟩:=h;exact f
   ·split at h
    ·split at h
     ·cases h
     ·split at h
      ·simp only [bT,bP] at h;obtain ⟨rfl,_⟩:=h;exact f
      ·cases h
    ·split at h
     ·cases h
     ·rename_i a m g;split at h
      ·cases h
      ·split at h
       ·cases h
       ·rename_i e;refine A9 k m _ b em r ⟨?_,fun x c=>?_⟩ h
        ·rw [List.map_append,List.nodup_append];refine ⟨f.nd,by simp,fun x c y j i=>?_⟩;simp only [List.map_cons,List.map_nil,List.mem_singleton] at j;subst i;subst j;obtain ⟨z,l,d⟩:=List.mem_map.1 c;refine e (List.any_eq_true.2 ⟨z,l,?_⟩);simp only [bP] at d;rw [d.1,d.2];simp
        ·rw [List.mem_append] at c;rcases c with c|c
         ·exact f.nc x c
         ·simp only [List.mem_singleton] at c;subst c;exact QL g
def jG (a:cV):Option Bs:=if a.1=bE then some a.2.1 else if a.1=[]∧a.2.1=bE then some [] else none
theorem yY {a:cV} {c:List cV} {l:aN} (h:eK (a::c)=.ok l):(jG a=none∧eK c=.ok l)∨∃ k y,jG a=some k∧eK c=.ok y∧l=(k,a.2.2)::y:=by
 obtain ⟨d,b,v⟩:=a;rw [eK] at h;by_cases f:d≠bE∧(d≠[]∨b≠bE)
 ·rw [aT f] at h;refine aG ⟨?_,h⟩;unfold jG;rw [aM f.1,aM (fun i=>f.2.elim (fun h=>h i.1) (fun h=>h i.2))]
 ·rw [aM f] at h;have n:jG (d,b,v)=some (if d=bE then b else []):=by
   unfold jG;by_cases g:d=bE
   ·rw [aT g,aT g]
   ·have p:d=[]∧b=bE:=by
     refine Classical.byContradiction fun i=>f ⟨g,?_⟩;by_cases j:d=[]
     ·exact aX (fun q=>i ⟨j,q⟩)
     ·exact aG j
    rw [aM g,aM g,aT p]
  generalize (if d=bE then b else [])=k at h n;by_cases m:k=mM∨k=bE∨(k≠[]∧v=[])∨v=dQ∨v=oG
  ·rw [aT m] at h;cases h
  ·rw [aM m] at h;cases o:eK c with
   | error e=>rw [o] at h;cases h
   | ok y=>
    rw [o] at h;simp only [bT] at h;exact aX ⟨k,y,n,rfl,h.symm⟩
theorem pH:∀ {c:List cV} {l:aN},eK c=.ok l→∀ x∈l,∃ a∈c,jG a=some x.1
 | [],l,h,x,d=>by unfold eK at h;simp only [bT] at h;subst h;cases d
 | a::c,l,h,x,d=>by
  rcases yY h with ⟨_,e⟩|⟨k,y,e,i,rfl⟩
  ·obtain ⟨b,f,g⟩:=pH e x d;exact ⟨b,by simp [f],g⟩
  ·simp only [l6] at d;rcases d with rfl|d
   ·exact ⟨a,by simp,e⟩
   ·obtain ⟨b,f,g⟩:=pH i x d;exact ⟨b,by simp [f],g⟩
theorem FA {a b:cV} {k:Bs} (d:jG a=some k) (c:jG b=some k) (g:a.2.1≠[]) (h:b.2.1≠[]):a.1=b.1∧a.2.1=b.2.1:=by
 unfold jG at d c;split at d
 ·rename_i e;simp only [kQ] at d;split at c
  ·rename_i f;simp only [kQ] at c;exact ⟨e.trans f.symm,d.trans c.symm⟩
  ·split at c
   ·simp only [kQ] at c;exact absurd (d.trans c.symm) g
   ·cases c
 ·split at d
  ·rename_i e;simp only [kQ] at d;split at c
   ·simp only [kQ] at c;exact absurd (c.trans d.symm) h
   ·split at c
    ·rename_i f;exact ⟨e.1.trans f.1.symm,e.2.trans f.2.symm⟩
    ·cases c
  ·cases d
theorem yZ {l:aN} {k:Bs} (h:∀ x∈l,x.1≠k):eJ l k=none:=by
 unfold eJ;rw [List.find?_eq_none.2 (fun x a=>by simpa using h x a)];rfl
theorem IG (k v:Bs) (l:aN) (p:Bs):eJ ((k,v)::l) p=if k=p then some v else eJ l p:=by
 unfold eJ;rw [List.find?_cons];by_cases h:k=p
 ·subst h;simp
 ·rw [show ((k,v).1==p)=false from m6.2 h,aM h]
theorem FB (a:cV) (b:List cV) (j:List gZ) (g:Bs→Option Bs):∃ d,dR (a::b) j g=dR b d (match jG a with|some k=>gT g k (some a.2.2)|none=>g):=by
 obtain ⟨i,c,v⟩:=a;rw [dR];unfold jG;by_cases e:i=bE
 ·have f:¬ (i=[]∧c=bE):=by rintro ⟨h,_⟩;rw [e] at h;cases h
  simp only [aT e,aM f];exact ⟨_,rfl⟩
 ·by_cases f:i=[]∧c=bE
  ·simp only [aM e,aT f];exact ⟨_,rfl⟩
  ·simp only [aM e,aM f];exact ⟨_,rfl⟩
theorem CR:∀ (c:List cV) (l:aN) (d:List gZ) (f:Bs→Option Bs),eK c=.ok l→yW c→∀ p,(dR c d f).2 p=match eJ l p with|some v=>some v|none=>f p
 | [],l,d,f,h,_,p=>by unfold eK at h;simp only [bT] at h;subst h;rfl
 | a::c,l,d,f,h,n,p=>by
  have e:yW c:=⟨by have:=n.nd;rw [List.map_cons,List.nodup_cons] at this;exact this.2,fun b h=>n.nc b (by simp [h])⟩;have g:∀ b∈c,¬ (b.1=a.1∧b.2.1=a.2.1):=fun b z o=>by
   have:=n.nd;rw [List.map_cons,List.nodup_cons] at this;exact this.1 (List.mem_map.2 ⟨b,z,by rw [o.1,o.2]⟩)
  obtain ⟨i,u⟩:=FB a c d f;rw [u];rcases yY h with ⟨j,m⟩|⟨k,y,j,m,rfl⟩
  ·rw [j];exact CR c l i f m e p
  ·rw [j,CR c y _ _ m e p,IG];by_cases q:k=p
   ·subst q;have:eJ y k=none:=yZ fun x A r=>by
     obtain ⟨b,s,t⟩:=pH m x A;rw [r] at t;exact g b s (FA t j (e.nc b s).2.2 (n.nc a (by simp)).2.2)
    rw [this,aT rfl];simp [gT]
   ·rw [aM q];cases eJ y p with
    | some w=>rfl
    | none=>simp only [gT];rw [aM (fun o=>q o.symm)]
theorem FC {b:Bs} {bound:List aN}:∀ {l acc x:List cV},gE b bound acc l=.ok x→x=acc++l.map fun a=>(cE b bound a.1 false,a.2.1,a.2.2)
 | [],acc,x,h=>by unfold gE at h;simp only [bT] at h;subst h;simp
 | (sp,loc,v)::l,acc,x,h=>by
  unfold gE at h;split at h
  ·cases h
  ·rw [FC h];simp
inductive gQ:List Bs→List aN→List gZ→(Bs→Option Bs)→Prop
 | nil:gQ [] [] [] (fun _=>none)
 | cons {os bs stk ns} (nm:Bs×Bs) (l:aN) (a:List gZ) (b:Bs→Option Bs):gQ os bs stk ns→fD a b=(stk,ns)→(∀ p,b p=match eJ l p with|some v=>some v|none=>ns p)→(58:UInt8)∉nm.1→nm≠([],bE)→(∀ x∈l,(58:UInt8)∉x.1) →
   gQ (dK nm::os) (l::bs) ({ kind:=0,space:=nm.1,loc:=nm.2,ok:=false }::a) b
theorem gQ.ns {os:List Bs} {b:List aN} {a:List gZ} {c:Bs→Option Bs} (h:gQ os b a c):∀ p,c p=iV b p:=by
 induction h with
 | nil=>intro p;rfl
 | cons nm l stk' ns' _ _ d _ _ _ ih=>
  intro p;rw [d,iV];cases eJ l p with
  | some v=>rfl
  | none=>exact ih p
theorem gQ.url {os:List Bs} {d:List aN} {a:List gZ} {c:Bs→Option Bs} (h:gQ os d a c):∀ p,(58:UInt8)∈p→c p=none:=by
 induction h with
 | nil=>intro p _;rfl
 | cons nm l stk' ns' _ _ e _ _ f ih=>
  intro p b;rw [e,yZ fun x i g=>f x i (g▸b)];exact ih p b
theorem gQ.top {os:List Bs} {c:List aN} {a:List gZ} {b:Bs→Option Bs} (h:gQ os c a b):fD a b=(a,b):=by
 cases h with
 | nil=>rfl
 | cons=>unfold fD;simp
theorem gQ.empty {os:List Bs} {b:List aN} {a:List gZ} {c:Bs→Option Bs} (h:gQ os b a c):os=[]↔a=[]:=by
 cases h with
 | nil=>simp
 | cons=>simp
theorem FD:∀ {a b:Bs×Bs},(58:UInt8)∉a.1→(58:UInt8)∉b.1→dK a=dK b→a=b
 | ⟨[],y⟩,⟨[],y'⟩,_,_,h=>by simpa [dK] using h
 | ⟨[],y⟩,⟨d::x',y'⟩,_,f,h=>by
  simp only [dK,List.nil_append,iZ,List.cons.injEq] at h;exact absurd (by simp [h.1]) f
 | ⟨c::x,y⟩,⟨[],y'⟩,e,_,h=>by
  simp only [dK,List.nil_append,iZ,List.cons.injEq] at h;exact absurd (by simp [h.1]) e
 | ⟨c::x,y⟩,⟨d::x',y'⟩,e,f,h=>by
  simp only [dK,iZ,List.cons.injEq] at h;obtain ⟨rfl,h⟩:=h;have:=@FD (x,y) (x',y') (fun g=>e (by simp [g])) (fun g=>f (by simp [g])) h;simp only [bP] at this ⊢;exact ⟨by rw [this.1],this.2⟩
theorem y4 (o:cP) {os:List Bs} {e:List aN} {g:List gZ} {i:Bs→Option Bs} (h:gQ os e g i) (nm:Bs×Bs) (a:Bool) (k:a=true→nm≠([],bE)):cQ o i nm a=(cE o.space e nm.1 a,nm.2):=by
 unfold cQ cE;by_cases d:nm.1=bE
 ·rw [aT d,aT (aX d)]
 ·rw [aM d];by_cases c:nm.1=[]∧a=false
  ·rw [aT c,aT (aG c)]
  ·rw [aM c,aM (show ¬ ((nm.1=[]∧a=false)∨nm.1=bE) from fun b=>b.elim c d)];by_cases f:nm.1=mM
   ·rw [aM (show ¬ (nm.1≠mM∧nm.1=[]∧nm.2=bE) from fun b=>b.1 f)];simp only [aT f];rw [h.url dQ (by decide),aM (by decide)]
   ·have j:¬ (nm.1≠mM∧nm.1=[]∧nm.2=bE):=fun b=>by
     cases a with
     | true=>exact k rfl (Prod.ext b.2.1 b.2.2)
     | false=>exact c ⟨b.2.1,rfl⟩
    rw [aM j];simp only [aM f];rw [h.ns];cases iV e nm.1 with
    | some v=>rfl
    | none=>
     simp only;split<;>rfl
theorem UB (o:cP) {s g:gS} {st:St} {nm:Bs×Bs} {b:List cV} {t:aU} (m:gQ s.opens s.bound st.stk st.ns) (n:yW b) (r:(58:UInt8)∉nm.1) (h:mO false o.space s nm b=.ok (t,g)) :
  ∃ f k,cG o (.start nm b) st=.ok (t,{ st with stk:=f,ns:=k })∧gQ g.opens g.bound f k∧g.rest=s.rest∧g.opens=dK nm::s.opens:=by
 unfold mO at h;rw [aM (by simp)] at h;split at h
 ·cases h
 ·rename_i p;cases i:eK b with
  | error e=>rw [i] at h;cases h
  | ok l=>
   rw [i] at h;cases j:gE o.space (l::s.bound) [] b with
   | error e=>simp only [j] at h;cases h
   | ok x=>
    simp only [j] at h;split at h
    ·cases h
    ·simp only [bT,bP] at h;obtain ⟨rfl,rfl⟩:=h
     have d:gQ (dK nm::s.opens) (l::s.bound) ({ kind:=0,space:=nm.1,loc:=nm.2,ok:=false }::(dR b st.stk st.ns).1) (dR b st.stk st.ns).2:=
      .cons nm l _ _ m (by rw [q9,m.top]) (CR b l st.stk st.ns i n) r p (fun y u=>by
       obtain ⟨a,v,c⟩:=pH i y u;unfold jG at c;split at c
       ·simp only [kQ] at c;rw [←c];exact (n.nc a v).2.1
       ·split at c
        ·simp only [kQ] at c;rw [←c];simp
        ·cases c)
     refine ⟨_,_,?_,d,rfl,rfl⟩;have e:=FC j;rw [List.nil_append] at e;unfold cG;simp only;rw [y4 o d nm true (fun _=>p),e];have q:∀ a:cV,cQ o (dR b st.stk st.ns).2 (a.1,a.2.1) false=(cE o.space (l::s.bound) a.1 false,a.2.1):=fun a=>y4 o d (a.1,a.2.1) false (fun h=>by cases h);simp only [q]
theorem FE (o:cP) {s e:gS} {st:St} {nm:Bs×Bs} {t:aU} (k:gQ s.opens s.bound st.stk st.ns) (u:(58:UInt8)∉nm.1) (h:eR false o.space s nm=.ok (t,e)) :
  ∃ a c,cG o (.fin nm) st=.ok (t,{ st with stk:=a,ns:=c })∧gQ e.opens e.bound a c∧e.rest=s.rest:=by
 obtain ⟨rest,opens,bound⟩:=s;obtain ⟨r,w,y,a,c,x⟩:=st;simp only at k;unfold eR at h;rw [aM (by simp)] at h;cases k with
 | nil=>cases h
 | cons nm' l stk' ns' b m n i j p=>
  rename_i os v d g;simp only at h;split at h
  ·rename_i q;have:=FD i u q;subst this;simp only [bT,bP] at h;obtain ⟨rfl,rfl⟩:=h;refine ⟨d,g,?_,b,rfl⟩;have f:=gQ.cons nm' l stk' c b m n i j p;unfold cG lS;simp only;rw [aM (by simp),aM (by simp),aM (by simp),y4 o f nm' true (fun _=>j),m]
  ·cases h
theorem L9 (o:cP) (b:o.strict=true) {s:gS} {st:St} {nm:Bs×Bs} (c:gQ s.opens s.bound st.stk st.ns) (h:eR false o.space s nm=.error .bad):cG o (.fin nm) st=.error .syn:=by
 obtain ⟨rest,opens,bound⟩:=s;obtain ⟨r,i,u,g,q,t⟩:=st;simp only at c;unfold eR at h;rw [aM (by simp)] at h;unfold cG lS;cases c with
 | nil=>rfl
 | cons nm' l stk' ns' e p j k m n=>
  simp only at h ⊢;split at h
  ·cases h
  ·rename_i f;rw [aM (by simp)];by_cases a:nm'.2=nm.2
   ·rw [aM (by simpa using a),aT];intro d;exact f (by rw [show nm'=nm from Prod.ext d a])
   ·rw [aT (by simpa using a),aT b]
theorem QM {ents:aN} {first em:Bool} {rest r:Bs} {t:aU} (h:kB ents first rest=.ok (t,em,r)):(∀ nm g,t=.start nm g→yW g∧(58:UInt8)∉nm.1)∧(∀ nm,t=.fin nm→(58:UInt8)∉nm.1):=by
 unfold kB at h;cases rest with
 | nil=>cases h
 | cons b l=>
  simp only at h;split at h
  ·cases s:dU ents ((b::l).length+1) (b::l) [] with
   | error e=>rw [s] at h;cases h
   | ok x=>
    rw [s] at h;simp only [bT,bP] at h;obtain ⟨rfl,_,_⟩:=h;exact ⟨fun _ _ f=>(by cases f),fun _ f=>(by cases f)⟩
  ·cases l with
   | nil=>cases h
   | cons c l2=>
    simp only at h;split at h
    ·cases a:nS l2 with
     | error e=>rw [a] at h;cases h
     | ok x=>
      obtain ⟨nm,u⟩:=x;rw [a] at h;simp only [bT,bP] at h;obtain ⟨rfl,_,_⟩:=h;refine ⟨fun _ _ f=>(by cases f),fun k f=>?_⟩;simp only [aU.fin.injEq] at f;subst f;unfold nS at a;cases j:fP l2 with
      | error e=>rw [j] at a;cases a
      | ok y=>
       obtain ⟨k,p⟩:=y;rw [j] at a;simp only at a;split at a
       ·cases a
       ·split at a
        ·simp only [bT,bP] at a;obtain ⟨rfl,_⟩:=a;exact (yX j).1
        ·cases a
    ·split at h
     ·cases a:fL first l2 with
      | error e=>rw [a] at h;cases h
      | ok x=>
       rw [a] at h;simp only [bT,bP] at h;obtain ⟨rfl,_,_⟩:=h;exact ⟨fun _ _ f=>(by cases f),fun _ f=>(by cases f)⟩
     ·split at h
      ·cases a:lY l2 with
       | error e=>rw [a] at h;cases h
       | ok x=>
        obtain ⟨A,u⟩:=x;rw [a] at h;simp only [bT,bP] at h;obtain ⟨rfl,_,_⟩:=h;unfold lY at a;have o:∀ i:aU,(∃ d,i=.comment d)∨(∃ d,i=.text d)∨(∃ d,i=.dir d)→(∀ nm g,i=.start nm g→yW g∧(58:UInt8)∉nm.1)∧(∀ nm,i=.fin nm→(58:UInt8)∉nm.1):=by
         rintro i (⟨d,rfl⟩|⟨d,rfl⟩|⟨d,rfl⟩)<;>exact ⟨fun _ _ f=>(by cases f),fun _ f=>(by cases f)⟩
        refine o _ ?_;split at a
        ·split at a
         ·cases a
         ·simp only [bT,bP] at a;exact aG ⟨_,a.1.symm⟩
        ·split at a
         ·split at a
          ·cases a
          ·simp only [bT,bP] at a;exact aX (aG ⟨_,a.1.symm⟩)
         ·split at a
          ·split at a
           ·cases a
           ·simp only [bT,bP] at a;exact aX (aX ⟨_,a.1.symm⟩)
          ·split at a
           ·cases a
           ·split at a<;>cases a
      ·cases a:fA ents (c::l2) with
       | error e=>rw [a] at h;cases h
       | ok x=>
        obtain ⟨nm,g,v,u⟩:=x;rw [a] at h;simp only [bT,bP] at h;obtain ⟨rfl,_,_⟩:=h;refine ⟨fun k m f=>?_,fun _ f=>(by cases f)⟩;simp only [aU.start.injEq] at f;obtain ⟨rfl,rfl⟩:=f;unfold fA at a;cases j:fP (c::l2) with
        | error e=>rw [j] at a;cases a
        | ok y=>
         obtain ⟨k,p⟩:=y;rw [j] at a;simp only at a;cases n:dD ents (p.length+1) p [] with
         | error e=>rw [n] at a;cases a
         | ok z=>
          obtain ⟨m,q,w⟩:=z;rw [n] at a;simp only [bT,bP] at a;obtain ⟨rfl,rfl,_,_⟩:=a;exact ⟨A9 _ _ _ _ _ _ ⟨by simp,by simp⟩ n,(yX j).1⟩
theorem uT:∀ {a:List cV} {e:SV},eK a=.error e→e=.opn
 | [],e,h=>by unfold eK at h;cases h
 | (sp,loc,v)::a,e,h=>by
  unfold eK at h;by_cases c:sp≠bE∧(sp≠[]∨loc≠bE)
  ·rw [aT c] at h;exact uT h
  ·rw [aM c] at h;generalize (if sp=bE then loc else [])=k at h;by_cases d:k=mM∨k=bE∨(k≠[]∧v=[])∨v=dQ∨v=oG
   ·rw [aT d] at h;simpa using h.symm
   ·rw [aM d] at h;cases b:eK a with
    | error e'=>rw [b] at h;simp only [Except.error.injEq] at h;subst h;exact uT b
    | ok y=>rw [b] at h;cases h
theorem BA {a:Bs} {bound:List aN}:∀ {l acc:List cV} {e:SV},gE a bound acc l=.error e→e=.opn
 | [],acc,e,h=>by unfold gE at h;cases h
 | (sp,loc,v)::l,acc,e,h=>by
  unfold gE at h;split at h
  ·simpa using h.symm
  ·exact BA h
theorem MA {a:Bs} {s:gS} {nm:Bs×Bs} {b:List cV} {e:SV} (h:mO false a s nm b=.error e):e=.opn:=by
 unfold mO at h;rw [aM (by simp)] at h;split at h
 ·simpa using h.symm
 ·cases c:eK b with
  | error e'=>rw [c] at h;simp only [Except.error.injEq] at h;subst h;exact uT c
  | ok l=>
   rw [c] at h;cases d:gE a (l::s.bound) [] b with
   | error e'=>simp only [d,Except.error.injEq] at h;subst h;exact BA d
   | ok x=>
    simp only [d] at h;split at h
    ·simpa using h.symm
    ·cases h
theorem y5 {fold:Bs→Bs→Bool} {o:cP} (c:o.strict=true∨o.auto=[]) {st a:St} {t:aU} (d:st.next=none) (h:eC o st=.ok (t,a)):kR fold o st=cG o t a:=by
 unfold kR;rw [d];simp only;rw [h];simp only;by_cases b:o.strict=true
 ·rw [aT b]
 ·rw [aM b];have:kV fold o t a=none:=by
   unfold kV;split
   ·rfl
   ·split
    ·rfl
    ·rw [c.resolve_left b];simp
  rw [this]
def Bp (f:Bool):Option SV→EK
 | none=>mL f
 | some _=>.syn
theorem qU (fold:Bs→Bs→Bool) (o:cP) (q:o.raw=false) (A:o.strict=true∨o.auto=[]) (w:lT) (C:w.raw=false) (D:w.space=o.space) (V:kE o.ents w.ents) (T:Bs):∀ (k:Nat) (s:gS) (out:List (aU×Nat)) (st:St),s.rest.length<k→st.rest=s.rest→st.toClose=none→st.next=none→(st.ended=true→s.rest=[])→gQ s.opens s.bound st.stk st.ns→((lZ w T k s out).2=none∨(o.strict=true∧pU o∧o.fails=false∧(lZ w T k s out).2≠some .opn)) →
  ∃ l,jX fold o st l (Bp o.fails (lZ w T k s out).2)∧(lZ w T k s out).1=out++gM T l
 | 0,_,_,_,h,_,_,_,_,_,_=>by omega
 | k+1,s,out,st,hk,h1,h2,p,h3,M,f=>by
  have g:∀ st:St,fT fold o st=kR fold o st:=fun st=>by unfold fT;rw [aM (by rw [q];simp)]
  have c:(lZ w T (k+1) s out).2≠some .opn:=by
   rcases f with f|f
   ·rw [f];simp
   ·exact f.2.2.2
  unfold lZ at f c ⊢;by_cases hr:s.rest=[]
  ·rw [aT hr];refine ⟨[],.stop ?_,by simp [gM]⟩;have O:eC o st=.error (mL o.fails):=by
    unfold eC;rw [h2,h1,hr];split<;>rfl
   rw [g];unfold kR;rw [p];simp only;rw [O];simp only;by_cases H:s.opens=[]
   ·rw [aT H,aM (fun n=>n.2 (M.empty.1 H))];rfl
   ·have aC:o.fails=false:=by
     rcases f with f|f
     ·rw [aT hr,aM H] at f;cases f
     ·exact f.2.2.1
    rw [aC];rw [aM H,aT (by first|exact ⟨rfl,fun n=>H (M.empty.2 n)⟩|exact ⟨trivial,fun n=>H (M.empty.2 n)⟩)];rfl
  ·have Z:st.ended=false:=by
    cases n:st.ended with
    | false=>rfl
    | true=>exact absurd (h3 n) hr
   rw [aM hr] at f c ⊢;unfold iW at f c ⊢;cases hp:kB w.ents (s.rest.length==T.length) s.rest with
   | error e=>
    rw [hp] at f c;simp only at f c ⊢;have hb:e=.bad:=by
     cases e with
     | bad=>rfl
     | opn=>exact absurd rfl c
    subst hb;have u:o.strict=true∧pU o∧o.fails=false:=by
     rcases f with f|f
     ·cases f
     ·exact ⟨f.1,f.2.1,f.2.2.1⟩
    refine ⟨[],.stop ?_,by simp [gM]⟩;rw [g];unfold kR;rw [p];simp only;rw [LI o V u.1 u.2.2 u.2.1 st Z h2 (by rw [h1];exact hp)];simp only;rw [aM (fun n=>by cases n.1)];rfl
   | ok x=>
    obtain ⟨t,em,r⟩:=x;rw [hp] at f c;simp only at f c ⊢;obtain ⟨W,hl,F⟩:=EA o V st Z h2 (by rw [h1];exact hp);obtain ⟨a2,a1⟩:=QM hp;have a4:r.length<s.rest.length:=by
     obtain ⟨_,_,_,_,_,_,h7⟩:=iN hl;rcases h7 with ⟨nm,X,_⟩|⟨_,X,_⟩
     ·rw [h2] at X;cases X
     ·have:=OX t;simp only at X;rw [h1] at X;omega
    have v:=y5 (fold:=fold) A p hl;have U:(∀ nm j,t≠.start nm j)→(∀ nm,t≠.fin nm)→kC w { s with rest:=r } t em=.ok ([t],{ s with rest:=r })∧GR t em=none∧∀ st,cG o t st=.ok (t,st):=by
     intro hs hf;cases t with
     | start nm j=>exact absurd rfl (hs nm j)
     | fin nm=>exact absurd rfl (hf nm)
     | text d=>exact ⟨rfl,rfl,fun _=>rfl⟩
     | comment d=>exact ⟨rfl,rfl,fun _=>rfl⟩
     | dir d=>exact ⟨rfl,rfl,fun _=>rfl⟩
     | proc a b=>exact ⟨rfl,rfl,fun _=>rfl⟩
    by_cases u:∃ nm j,t=.start nm j
    ·obtain ⟨nm,j,rfl⟩:=u;obtain ⟨ha,hn⟩:=a2 nm j rfl;have G:W=false:=by
      cases n:W with
      | false=>rfl
      | true=>obtain ⟨_,d,hd⟩:=F n;cases hd
     subst G;unfold kC at f c ⊢;simp only [C,D] at f c ⊢;cases H:mO false o.space { s with rest:=r } nm j with
     | error e=>
      rw [H] at c;simp only at c;exact absurd (by rw [MA H]) c
     | ok y=>
      obtain ⟨t1,s2⟩:=y;rw [H] at f c;simp only at f c ⊢;obtain ⟨i,E,hw,Y,B,a3⟩:=UB o (s:={ s with rest:=r }) (st:={ st with rest:=r,toClose:=GR (.start nm j) em,ended:=false }) M ha hn H;rw [hw] at v;cases em with
      | false=>
       simp only [rQ,if_false,List.map_cons,List.map_nil] at f c ⊢;obtain ⟨l,Q,R⟩:=qU fold o q A w C D V T k s2 _ { st with rest:=r,toClose:=none,ended:=false,stk:=i,ns:=E } (by rw [B];show r.length<k;omega) B.symm rfl p (fun h=>by cases h) Y f;refine ⟨_::l,.more (by rw [g];exact v) Q,?_⟩;rw [R,B];simp [gM,GR]
      | true=>
       simp only [if_true] at f c ⊢;cases J:eR false o.space s2 nm with
       | error e=>
        exfalso;unfold eR at J;rw [aM (by simp),a3] at J;simp at J
       | ok z=>
        obtain ⟨t2,s3⟩:=z;rw [J] at f c;simp only [List.map_cons,List.map_nil] at f c ⊢;obtain ⟨I,S,P,N,m⟩:=FE o (st:={ st with rest:=r,toClose:=none,ended:=false,stk:=i,ns:=E }) Y hn J;have a0:eC o { st with rest:=r,toClose:=some nm,ended:=false,stk:=i,ns:=E }=.ok (.fin nm,{ st with rest:=r,toClose:=none,ended:=false,stk:=i,ns:=E }):=by
         unfold eC;rfl
        have L:=y5 (fold:=fold) (st:={ st with rest:=r,toClose:=some nm,ended:=false,stk:=i,ns:=E }) A p a0;rw [P] at L;obtain ⟨l,Q,R⟩:=qU fold o q A w C D V T k s3 _ { st with rest:=r,toClose:=none,ended:=false,stk:=I,ns:=S } (by rw [m,B];show r.length<k;omega) (by rw [m,B]) rfl p (fun h=>by cases h) N f;refine ⟨_::_::l,.more (by rw [g];exact v) (.more (by rw [g];exact L) Q),?_⟩;rw [R,m,B];simp [gM]
    ·by_cases aA:∃ nm,t=.fin nm
     ·obtain ⟨nm,rfl⟩:=aA;have G:W=false:=by
       cases n:W with
       | false=>rfl
       | true=>obtain ⟨_,d,hd⟩:=F n;cases hd
      subst G;unfold kC at f c ⊢;simp only [C,D] at f c ⊢;cases J:eR false o.space { s with rest:=r } nm with
      | error e=>
       rw [J] at f c;simp only at f c ⊢;have hb:e=.bad:=by
        cases e with
        | bad=>rfl
        | opn=>exact absurd rfl c
       subst hb;have u:o.strict=true:=by
        rcases f with f|f
        ·cases f
        ·exact f.1
       refine ⟨[],.stop ?_,by simp [gM]⟩;rw [g,v];exact L9 o u (s:={ s with rest:=r }) M J
      | ok z=>
       obtain ⟨t2,s3⟩:=z;rw [J] at f c;simp only [List.map_cons,List.map_nil] at f c ⊢;obtain ⟨I,S,P,N,m⟩:=FE o (s:={ s with rest:=r }) (st:={ st with rest:=r,toClose:=GR (.fin nm) em,ended:=false }) M (a1 nm rfl) J;rw [P] at v;obtain ⟨l,Q,R⟩:=qU fold o q A w C D V T k s3 _ { st with rest:=r,toClose:=none,ended:=false,stk:=I,ns:=S } (by rw [m];show r.length<k;omega) (by rw [m]) rfl p (fun h=>by cases h) N f;refine ⟨_::l,.more (by rw [g];exact v) Q,?_⟩;rw [R,m];simp [gM,GR]
     ·obtain ⟨p1,p2,p3⟩:=U (fun nm j n=>u ⟨nm,j,n⟩) (fun nm n=>aA ⟨nm,n⟩);rw [p1] at f c ⊢;simp only [List.map_cons,List.map_nil] at f c ⊢;rw [p3,p2] at v;obtain ⟨l,Q,R⟩:=qU fold o q A w C D V T k { s with rest:=r } _ { st with rest:=r,toClose:=none,ended:=W } (by show r.length<k;omega) rfl rfl p (fun h=>(F h).1) M f;refine ⟨_::l,.more (by rw [g];exact v) Q,?_⟩;rw [R];simp [gM]
theorem UC (fold:Bs→Bs→Bool) (o:cP) (b:o.raw=false) (c:o.strict=true∨o.auto=[]) (a:o.ents=none) (T:Bs) (f:(fM ⟨false,[],o.space⟩ T).2=none) :
  ∃ l,jX fold o (St.init T) l (mL o.fails)∧(fM ⟨false,[],o.space⟩ T).1=gM T l:=by
 obtain ⟨l,d,e⟩:=qU fold o b c ⟨false,[],o.space⟩ rfl rfl (by rw [a];exact xJ) T (T.length+1) ⟨T,[],[]⟩ [] (St.init T) (Nat.lt_succ_self _) rfl rfl rfl (fun h=>by cases h) .nil (aG f);have g:(lZ ⟨false,[],o.space⟩ T (T.length+1) ⟨T,[],[]⟩ []).2=none:=f;rw [g] at d;exact ⟨l,d,by rw [List.nil_append] at e;exact e⟩
end Go.Proofs.YthapcchcahnfaaaGreatDoor
