/- Part of the proof that laws.FnStrictIsLoose, laws.FnUnclosed, laws.FnReaderFails, laws.FnWithin, laws.FnSkip returns true for every argument. No conditions. -/
import Derived.Test.YthapcchcahnfaaaGreatDoorP41
import Derived.Test.YthapcchcahnfaaaGreatDoorP42
import Derived.Test.YthapcchcahnfaaaGreatDoorP46
import Derived.Test.YthapcchcahnfaaaGreatDoorP45
set_option linter.all false
set_option maxHeartbeats 8000000
set_option maxRecDepth 100000
namespace Go.Proofs.YthapcchcahnfaaaGreatDoor
open Go
theorem vH {ents:aP} (f:lN ents):∀ (k:Nat) (rest out d r:Bs),rest.length≤2147483647→eC ents k rest out=.ok (d,r)→d.length≤out.length+(rest.length-r.length)*2147483647∧r.length≤rest.length
 | 0,_,_,_,_,_,h=>by cases h
 | k+1,rest,out,d,r,j,h=>by
  have e:rest=rest.drop 0:=rfl;rw [e] at h;by_cases g:0<rest.length
  ·by_cases a:rest.getD 0 0=60
   ·rw [yD ents g a] at h;simp only [bT,bR] at h;rw [←h.1,←h.2];exact ⟨by omega,by simp⟩
   ·cases i:oN.isPrefixOf (rest.drop 0) with
    | true=>rw [u9 ents g a i] at h;cases h
    | false=>
     by_cases b:rest.getD 0 0=13
     ·rw [yE ents g a i b] at h;split at h
      ·have ih:=vH f k _ _ _ _ (by rw [eY];omega) h;rw [eY,fY,List.length_singleton] at ih;omega
      ·have ih:=vH f k _ _ _ _ (by rw [eY];omega) h;rw [eY,fY,List.length_singleton] at ih;omega
     ·rw [yF ents g a i b] at h;cases c:fW ents (rest.drop 0) with
      | error e=>rw [c] at h;cases h
      | ok p=>
       obtain ⟨t,l⟩:=p;rw [c] at h;simp only at h;have m:=oI c;have n:=pI f j c;have ih:=vH f k l _ _ _ (by omega) h;rw [fY] at ih;omega
  ·have:rest=[]:=tZ (by omega);subst this;rw [GM ents (by simp)] at h;simp only [bT,bR] at h;rw [←h.1,←h.2];exact ⟨by omega,by simp⟩
theorem vI:∀ (k:Nat) (rest out d r:Bs),fB k rest out=.ok (d,r)→d.length≤out.length+(rest.length-r.length)∧r.length≤rest.length
 | 0,_,_,_,_,h=>by cases h
 | k+1,rest,out,d,r,h=>by
  have e:rest=rest.drop 0:=rfl;rw [e] at h;by_cases c:0<rest.length
  ·cases f:oN.isPrefixOf (rest.drop 0) with
   | true=>
    rw [u7 f] at h;simp only [bT,bR] at h;rw [←h.1,←h.2,eY];omega
   | false=>
    by_cases a:rest.getD 0 0=13
    ·rw [yB c f a] at h;split at h
     ·have ih:=vI k _ _ _ _ h;rw [eY,fY,List.length_singleton] at ih;omega
     ·have ih:=vI k _ _ _ _ h;rw [eY,fY,List.length_singleton] at ih;omega
    ·rw [yC c f a] at h;split at h
     ·cases h
     ·rename_i j;have g:(aI (rest.drop 0)).2≠0:=fun b=>j (aH b);have i:=mC (rest.drop 0) (fun b=>by rw [←e] at b;rw [b] at c;simp at c);have ih:=vI k _ _ _ _ h;rw [eY,fY,qQ] at ih;rw [←e] at i ih g;omega
  ·have:rest=[]:=tZ (by omega);subst this;rw [GH (by simp)] at h;cases h
theorem EB {p:Bs}:∀ {rest s r:Bs},dY p rest=some (s,r)→s.length+r.length≤rest.length
 | [],s,r,h=>by cases h
 | b::l,s,r,h=>by
  unfold dY at h;split at h
  ·simp only [kD,bR] at h;rw [←h.1,←h.2,eY];simp
  ·cases a:dY p l with
   | none=>rw [a] at h;cases h
   | some x=>
    obtain ⟨d,c⟩:=x;rw [a] at h;simp only [Option.map_some,kD,bR] at h;have ih:=EB a;rw [←h.1,←h.2];simp only [gN];omega
theorem XA {rest s r:Bs} (h:dR rest=.ok (s,r)):s.length+r.length≤rest.length:=by
 unfold dR at h;cases a:dY [45,45] rest with
 | none=>rw [a] at h;cases h
 | some x=>
  obtain ⟨d,b⟩:=x;have:=EB a;rw [a] at h;simp only at h;cases b with
  | nil=>cases h
  | cons c r2=>
   simp only at h;split at h
   ·split at h
    ·simp only [bT,bR] at h;rw [←h.1,←h.2];simp only [gN] at this;omega
    ·cases h
   ·cases h
theorem S4 {f:Bool} {rest r:Bs} {x:Bs×Bs} (h:fV f rest=.ok (x,r)):x.2.length+r.length≤rest.length:=by
 unfold fV at h;split at h
 ·cases h
 ·split at h
  ·cases h
  ·have b:=yG (aD rest).2;have c:=rT rest;cases a:dY [63,62] (aT (aD rest).2) with
   | none=>rw [a] at h;cases h
   | some y=>
    obtain ⟨e,d⟩:=y;have:=EB a;rw [a] at h;simp only at h;split at h
    ·cases h
    ·simp only [bT,bR] at h;rw [←h.1,←h.2];simp only;omega
theorem XB {rest d r:Bs} (h:pR rest=.ok (d,r)):d.length+r.length≤rest.length∨d.length≤rest.length-r.length:=by
 unfold pR at h;split at h
 ·cases h
 ·cases a:mP (aD (aT rest)).2 with
  | none=>rw [a] at h;cases h
  | some r1=>
   rw [a] at h;simp only at h;split at h
   ·simp only [bT,bR] at h;right;rw [←h.1,←h.2,qQ];omega
   ·cases h
theorem OH {ents:aP} (o:lN ents) {first em:Bool} {rest r:Bs} {t:aO} (n:rest.length≤2147483647) (h:kX ents first rest=.ok (t,em,r)):(t.itok []).text.length≤(rest.length-r.length)*2147483647:=by
 have i:=GT h;unfold kX at h;cases rest with
 | nil=>cases h
 | cons b r0=>
  simp only at h;split at h
  ·cases a:eC ents ((b::r0).length+1) (b::r0) [] with
   | error e=>rw [a] at h;cases h
   | ok p=>
    obtain ⟨d,g⟩:=p;rw [a] at h;simp only [bT,bR] at h;have:=(vH o _ _ _ _ _ n a).1;rw [←h.1,←h.2.2];simpa [aO.itok] using this
  ·cases r0 with
   | nil=>cases h
   | cons c g=>
    simp only at h;split at h
    ·cases a:oO g with
     | error e=>rw [a] at h;cases h
     | ok p=>
      obtain ⟨nm,j⟩:=p;rw [a] at h;simp only [bT,bR] at h;rw [←h.1];exact iW _
    ·split at h
     ·cases a:fV first g with
      | error e=>rw [a] at h;cases h
      | ok p=>
       obtain ⟨x,j⟩:=p;rw [a] at h;simp only [bT,bR] at h;have:=S4 a;rw [←h.1,←h.2.2];show x.2.length≤_;simp only [gN];omega
     ·split at h
      ·cases a:mQ g with
       | error e=>rw [a] at h;cases h
       | ok p=>
        obtain ⟨s,j⟩:=p;rw [a] at h;simp only [bT,bR] at h;obtain ⟨rfl,_,rfl⟩:=h;simp only [gN] at i ⊢;unfold mQ at a;split at a
        ·cases f:dR (g.drop 2) with
         | error e=>rw [f] at a;cases a
         | ok q=>
          obtain ⟨d,k⟩:=q;rw [f] at a;simp only [bT,bR] at a;have:=XA f;rw [eY] at this;rw [←a.1,←a.2];show d.length≤_;omega
        ·split at a
         ·cases f:fB (g.length+1) (g.drop 7) [] with
          | error e=>rw [f] at a;cases a
          | ok q=>
           obtain ⟨d,k⟩:=q;rw [f] at a;simp only [bT,bR] at a;have:=vI _ _ _ _ _ f;rw [eY,List.length_nil] at this;rw [←a.1,←a.2];show d.length≤_;omega
         ·split at a
          ·cases f:pR (g.drop 7) with
           | error e=>rw [f] at a;cases a
           | ok q=>
            obtain ⟨d,k⟩:=q;rw [f] at a;simp only [bT,bR] at a;have:=XB f;rw [eY] at this;rw [←a.2] at i;rw [←a.1,←a.2];show (sV++d).length≤_;rw [fY,show sV.length=7 from rfl];omega
          ·cases g with
           | nil=>cases a
           | cons b1 l1=>
            simp only at a;split at a<;>cases a
      ·cases a:fM ents (c::g) with
       | error e=>rw [a] at h;cases h
       | ok p=>
        obtain ⟨nm,l,m,j⟩:=p;rw [a] at h;simp only [bT,bR] at h;rw [←h.1];exact iW _
theorem AV {c:Bool} {b:Bs} {s e:hZ} {nm:Bs×Bs} {t:aO} (h:fD c b s nm=.ok (t,e)):(t.itok []).text=[]:=by
 unfold fD at h;split at h
 ·simp only [bT,bR] at h;rw [←h.1];rfl
 ·cases d:s.opens with
  | nil=>rw [d] at h;cases h
  | cons a l=>
   rw [d] at h;simp only at h;split at h
   ·simp only [bT,bR] at h;rw [←h.1];rfl
   ·cases h
theorem GZ {c:Bool} {a:Bs} {s d:hZ} {nm:Bs×Bs} {b:List cZ} {t:aO} (h:nD c a s nm b=.ok (t,d)):(t.itok []).text=[]:=by
 unfold nD at h;split at h
 ·simp only [bT,bR] at h;rw [←h.1];rfl
 ·split at h
  ·cases h
  ·split at h
   ·cases h
   ·split at h
    ·cases h
    ·split at h
     ·cases h
     ·simp only [bT,bR] at h;rw [←h.1];rfl
theorem XC {o:mL} (m:lN o.ents) {first:Bool} {s i:hZ} {j:List aO} (l:s.rest.length≤2147483647) (h:jL o first s=.ok (j,i)):((j.map fun t=>(t.itok []).text.length).sum)≤(s.rest.length-i.rest.length)*2147483647:=by
 unfold jL at h;cases d:kX o.ents first s.rest with
 | error e=>rw [d] at h;cases h
 | ok x=>
  obtain ⟨t,em,r⟩:=x;have f:=OH m l d;rw [d] at h;simp only at h;unfold kY at h;split at h
  ·rename_i nm b;cases c:nD o.raw o.space { s with rest:=r } nm b with
   | error e=>rw [c] at h;cases h
   | ok y=>
    obtain ⟨u,n⟩:=y;have g:=GZ c;rw [c] at h;simp only at h;split at h
    ·cases a:fD o.raw o.space n nm with
     | error e=>rw [a] at h;cases h
     | ok z=>
      obtain ⟨q,p⟩:=z;have k:=AV a;rw [a] at h;simp only [bT,bR] at h;rw [←h.1];simp [g,k]
    ·simp only [bT,bR] at h;rw [←h.1];simp [g]
  ·rename_i nm;cases a:fD o.raw o.space { s with rest:=r } nm with
   | error e=>rw [a] at h;cases h
   | ok z=>
    obtain ⟨q,p⟩:=z;have k:=AV a;rw [a] at h;simp only [bT,bR] at h;rw [←h.1];simp [k]
  ·simp only [bT,bR] at h;rw [←h.1,←h.2];simpa using f
theorem S5 (l:List (aO×Nat)):dP (l.map dU)=(l.map fun q=>(q.1.itok []).text.length).sum:=by
 unfold dP;rw [List.map_map];rfl
theorem G0 {o:mL} (b:lN o.ents) (T:Bs) (g:T.length≤2147483647):∀ (k:Nat) (s:hZ) (out:List (aO×Nat)),s.rest.length≤T.length→dP (out.map dU)≤(T.length-s.rest.length)*2147483647→dP ((mS o T k s out).1.map dU)≤T.length*2147483647
 | 0,s,out,f,a=>by
  exact fX a (Nat.mul_le_mul_right _ (Nat.sub_le _ _))
 | k+1,s,out,f,a=>by
  unfold mS;split
  ·exact fX a (Nat.mul_le_mul_right _ (Nat.sub_le _ _))
  ·cases c:jL o (s.rest.length==T.length) s with
   | error e=>
    exact fX a (Nat.mul_le_mul_right _ (Nat.sub_le _ _))
   | ok p=>
    obtain ⟨j,d⟩:=p;have h:=XC b (by omega) c;have i:=(CF c).1;refine G0 b T g k d _ (by omega) ?_;rw [S5] at a ⊢;rw [List.map_append,List.sum_append,List.map_map];have e:((fun q:aO×Nat=>(q.1.itok []).text.length) ∘ fun t=>(t,T.length-d.rest.length))=fun t=>(t.itok []).text.length:=rfl;rw [e];omega
theorem oK {o:mL} (b:lN o.ents) (T:Bs) (a:T.length≤2147483647):dP ((cV o T).1.map dU)≤T.length*2147483647:=
 G0 b T a _ _ [] (dD _) (iW _)
end Go.Proofs.YthapcchcahnfaaaGreatDoor
namespace Go.Proofs.YthapcchcahnfaaaGreatDoor
open Go Go.RowKit
theorem CK {fold:Bs→Bs→Bool} {o:cM} {s:St} {l l':List (aO×St)} {e c:EK} (h:eD fold o s l e) (d:eD fold o s l' c):l=l'∧e=c:=by
 induction h generalizing l' c with
 | stop b=>
  cases d with
  | stop a=>rw [b] at a;cases a;exact ⟨rfl,rfl⟩
  | more a _=>rw [b] at a;cases a
 | more b _ ih=>
  cases d with
  | stop a=>rw [b] at a;cases a
  | more a f=>
   rw [b] at a;cases a;obtain ⟨rfl,rfl⟩:=ih f;exact ⟨rfl,rfl⟩
theorem iS.like {w:World} {g o b:Nat} {p q:cD} (h:iS w g o b p) (k:p.kind=q.kind) (l:p.space=q.space) (m:p.loc=q.loc) (n:p.attrs=q.attrs) (r:p.text=q.text) (s:p.at'=q.at'):iS w g o b q:=by
 obtain ⟨t,v,u,c0,a,c,i,d,e,f,j⟩:=h.ex;rw [k] at c0;rw [l] at a;rw [m] at c;rw [r] at d;rw [s] at e;rw [n] at f;exact ⟨t,v,u,c0,a,c,i,d,e,f,j⟩
theorem oL {T:Bs} {l:List (aO×St)} {i:Nat} {q:cD} (h:((bV T l).map dU)[i]?=some q):∃ p,(fE T l)[i]?=some p∧p.kind=q.kind∧p.space=q.space∧p.loc=q.loc∧p.attrs=q.attrs∧p.text=q.text∧p.at'=q.at':=by
 unfold bV at h;unfold fE;rw [List.getElem?_map,List.getElem?_map] at h;rw [List.getElem?_map];cases b:l[i]? with
 | none=>rw [b] at h;cases h
 | some ts=>
  rw [b] at h;simp only [Option.map_some,kD] at h;refine ⟨_,rfl,?_⟩;have a:(T.take (T.length-ts.2.rest.length)).length=T.length-ts.2.rest.length:=by rw [qQ];omega
  rw [←h];obtain ⟨c,d⟩:=ts;unfold dU;cases c<;>exact ⟨rfl,rfl,rfl,rfl,rfl,by first|exact congrArg _ a|exact congrArg _ a.symm|(simp only [aO.itok,a];done)|(simp only [aO.itok,a];rfl)⟩
theorem iD (T:Bs) (l:List (aO×St)):((bV T l).map dU).length=l.length:=by simp [bV]
theorem G1 {w:World} {T:Bs} {l:List (aO×St)} {out:Value} (h:Eh w (fE T l) out):∃ A C,out=.slice A ((bV T l).map dU).length C∧(0<((bV T l).map dU).length→∃ g n,A=some ⟨g,n,none⟩∧g<w.heap.size∧∀ i p,((bV T l).map dU)[i]?=some p→iS w g (n+i*6) w.heap.size p):=by
 obtain ⟨b,B,F,m,o⟩:=h.ex;have f:(fE T l).length=l.length:=J6 T l;rw [iD];rcases m.2 with ⟨c,E⟩|⟨g,cap,cur,c,_⟩
 ·refine ⟨none,0,by rw [c];congr 1;omega,fun r=>by omega⟩
 ·refine ⟨_,cap,by rw [c,f],fun r=>?_⟩;obtain ⟨D,k,d,_,e,_,_,a⟩:=eW m (by omega);rw [c] at d;simp only [Value.slice.injEq,kD,Addr.mk.injEq] at d;obtain ⟨⟨rfl,_⟩,_⟩:=d;refine ⟨_,0,rfl,e,fun i q s=>?_⟩;obtain ⟨p,j,t,u,v,x,y,z⟩:=oL s;rw [Nat.zero_add];exact (oJ o a j).like t u v x y z
theorem sP {w:World} {c:Nat} {L:List cD} {out:Value} {m:List Value} {G:Nat→Prop} {a:Nat} (j:w.ownsRow c 35 6 out L.length m) (n:cI (kC w a G) L m):∃ A C,out=.slice A L.length C∧(0<L.length→∃ g l,A=some ⟨g,l,none⟩∧g<w.heap.size∧∀ i p,L[i]?=some p→iS w g (l+i*6) w.heap.size p):=by
 rcases j.2 with ⟨d,o⟩|⟨g,cap,cur,d,_⟩
 ·exact ⟨none,0,by rw [d,o],fun k=>by omega⟩
 ·refine ⟨_,cap,d,fun k=>?_⟩;obtain ⟨s,h,e,_,f,_,_,b⟩:=eW j k;rw [d] at e;simp only [Value.slice.injEq,kD,Addr.mk.injEq] at e;obtain ⟨⟨rfl,_⟩,_⟩:=e;refine ⟨_,0,rfl,f,fun i q r=>?_⟩;rw [Nat.zero_add];exact oJ n b r
theorem kC.below {w w':World} {a:Nat} {p:cD} {b:List Value} (h:kC w a (fun _=>True) p b) (c:Below w.heap.size w w'):kC w' a (fun _=>True) p b:=
 kC.mod (S:=fun _=>False) h (aG c _) (fun _ _ _=>⟨id,trivial⟩)
theorem yH {a n:Nat} (h:a≤n*2147483647) (b:n≤65536):a≤4611686018427387904:=
 fX h (fX (Nat.mul_le_mul_right _ b) (Nat.le_of_ble_eq_true rfl))
end Go.Proofs.YthapcchcahnfaaaGreatDoor
