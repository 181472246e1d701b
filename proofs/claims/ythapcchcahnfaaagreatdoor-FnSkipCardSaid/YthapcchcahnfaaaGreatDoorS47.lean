/- Part of the proof that laws.FnSkip returns true for every argument. No conditions. -/
import Derived.Test.YthapcchcahnfaaaGreatDoorS41
import Derived.Test.YthapcchcahnfaaaGreatDoorS44
import Derived.Test.YthapcchcahnfaaaGreatDoorS46
import Derived.Test.YthapcchcahnfaaaGreatDoorS37
import Derived.Test.YthapcchcahnfaaaGreatDoorS45
set_option linter.all false
set_option maxHeartbeats 8000000
set_option maxRecDepth 100000
namespace Go.Proofs.YthapcchcahnfaaaGreatDoor
open Go Go.RowKit Go.Proofs.Tryz
theorem m6 {w:World} {b f:Nat} {e:TypeId} {a:Nat} {v:Value} {n:Nat} {j:List Value} (h:w.ownsRow b e a v n j) (p:f≤b):w.ownsRow f e a v n j:=by
 obtain ⟨i,k|⟨g,c,d,l,m,o⟩⟩:=h
 ·exact ⟨i,aG k⟩
 ·exact ⟨i,aU ⟨g,c,d,l,fQ p m,o⟩⟩
theorem T4 (ents:aM) {T:Bs} {a b m:Nat} {acc:List cO} (c:aT (T.drop a)=T.drop b) (h:T.length≤b):cZ ents (m+1) (T.drop a) acc=.error .bad:=by
 unfold cZ;rw [c,tW h]
theorem XH (ents:aM) {T:Bs} {a b m:Nat} {acc:List cO} (d:aT (T.drop a)=T.drop b) (c:b<T.length) (h:T.getD b 0=62):cZ ents (m+1) (T.drop a) acc=.ok (acc,false,T.drop (b+1)):=by
 unfold cZ;rw [d,bV T b c];simp only [aY h]
theorem XI (ents:aM) {T:Bs} {a b m:Nat} {acc:List cO} (g:aT (T.drop a)=T.drop b) (e:b<T.length) (h:T.getD b 0=47):cZ ents (m+1) (T.drop a) acc=if ([62]:Bs).isPrefixOf (T.drop (b+1)) then .ok (acc,true,T.drop (b+2)) else .error .bad:=by
 unfold cZ;rw [g,bV T b e];simp only [aQ (show ¬ T.getD b 0=62 by rw [h];decide),aY h];by_cases d:b+1<T.length
 ·rw [dC 62 T (b+1) d,bV T (b+1) d];by_cases c:T.getD (b+1) 0=62
  ·simp only [aY c];rw [aY (by rw [c];rfl)]
  ·simp only [aQ c];rw [aQ (by rw [beq_iff_eq];exact fun f=>c f.symm)]
 ·rw [tW (by omega)];rfl
theorem XJ (ents:aM) {T:Bs} {a b m:Nat} {acc:List cO} (f:aT (T.drop a)=T.drop b) (p:a≤T.length) (n:b<T.length) (h:¬ T.getD b 0=62) (i:¬ T.getD b 0=47):cZ ents (m+1) (T.drop a) acc=match dZ ents (T.drop b) with
  | .error e=>.error e
  | .ok (at',r2)=>if ¬ a<b then .error .opn else if acc.any (fun x=>x.1==at'.1&&x.2.1==at'.2.1) then .error .opn else cZ ents m r2 (acc++[at']):=by
 have e:((T.drop b).length=(T.drop a).length)↔¬ a<b:=by
  rw [eC,eC];have:=congrArg List.length f;have k:∀ l:Bs,(aT l).length≤l.length:=by
   intro l;induction l with
   | nil=>exact dF _
   | cons c r ih=>
    unfold aT;split
    ·rw [f5];omega
    ·exact dF _
  have j:=k (T.drop a);rw [this,eC,eC] at j;omega
 conv=>lhs;unfold cZ
 rw [f];have o:=bV T b n;have g:(match T.drop b with
  | []=>.error .bad
  | d::r=>
   if d=62 then .ok (acc,false,r)
   else if d=47 then (match r with
    | []=>.error .bad
    | c::r2=>if c=62 then .ok (acc,true,r2) else .error .bad)
   else match dZ ents (d::r) with
    | .error e=>.error e
    | .ok (a',r2)=>
     if (T.drop b).length=(T.drop a).length then .error .opn
     else if acc.any (fun x=>x.1==a'.1&&x.2.1==a'.2.1) then .error .opn
     else cZ ents m r2 (acc++[a']):Except SV (List cO×Bool×Bs))=match dZ ents (T.drop b) with
  | .error e=>.error e
  | .ok (at',r2)=>if ¬ a<b then .error .opn else if acc.any (fun x=>x.1==at'.1&&x.2.1==at'.2.1) then .error .opn else cZ ents m r2 (acc++[at']):=by
  simp only [e];rw [o];simp only [aQ h,aQ i]
 exact g
def JQ (o:lR) (opens:List Bs) (bound:List aM) (r:Except SV ((Bs×Bs)×List cO×Bool×Bs)):Except SV (List aP×gN):=match r with
 | .error e=>.error e
 | .ok (nm,ats,em,r)=>kE o ⟨r,opens,bound⟩ (.start nm ats) em
def Z3 (x:PX) (c:PC) (ents:aM) (b:Nat) (nm:Bs×Bs) (j i:Nat) (w0:World) (k:Nat) (h:Act) (w:World):Prop:=
 ∃ f a acc d g e m,h=fr 83 f [(0,iU x),(6,.pointer (some ⟨b,0,none⟩))]∧aV x w { c with at':=a }∧aL w b #[.int .i64 1,aB nm.1,aB nm.2,.slice d g e,aB [],.int .i64 0] 35∧w.ownsRow w0.heap.size 68 3 (.slice d g e) acc.length (aN acc)∧(Value.slice d g e).ownBlock≠some b∧aJ (fun k=>k=x.p) w0 w ∧
  k=x.T.length-a∧a≤x.T.length∧c.at'≤a∧acc.length≤a∧x.T.length-a<m∧cZ ents i (x.T.drop j) []=cZ ents m (x.T.drop a) acc
theorem rC {α:Type} {l:List α} {i:Nat} {a:α} {p:α→Bool} (h:l[i]?=some a) (b:(l.take i).any p=false) (c:p a=false):(l.take (i+1)).any p=false:=by
 rw [List.take_add_one,h,List.any_append,b];simp [c]
def Z4 (e d c v:Value) (a:cO) (acc:List cO) (w0:World) (k:Nat) (b:Act) (w:World):Prop:=
 ∃ f i,b=fr 83 f [(0,e),(6,d),(8,c),(56,v),(57,.int .i64 (acc.length:Nat)),(58,.int .i64 (i:Nat))]∧Below w0.heap.size w0 w∧k=acc.length-i∧i≤acc.length∧((acc.take i).any (fun x=>x.1==a.1&&x.2.1==a.2.1))=false
theorem QF {ents:aM} {q:UInt8}:∀ (k:Nat) (T:Bs) (a:Nat) (out v r:Bs),pU ents q k (T.drop a) out=.ok (v,r)→r.length<T.length-a
 | 0,_,_,_,_,_,h=>by cases h
 | k+1,T,a,out,v,r,h=>by
  by_cases c:a<T.length
  ·by_cases b:T.getD a 0=q
   ·rw [G0 ents c b] at h;simp only [cD,b8] at h;rw [←h.2,eC];omega
   ·by_cases d:T.getD a 0=60
    ·rw [PP ents c b d] at h;cases h
    ·by_cases g:T.getD a 0≠32∧l6 (T.getD a 0)=true
     ·rw [PQ ents c b d g] at h;cases h
     ·rw [EN ents c b d g] at h;cases f:fJ ents (T.drop a) with
      | error e=>rw [f] at h;cases h
      | ok p=>
       obtain ⟨t,i⟩:=p;rw [f] at h;simp only at h;have j:=nN f;have l:=QF k i 0 (out++t) v r (by simpa using h);omega
  ·rw [GZ ents (by omega)] at h;cases h
theorem fU.bool {x:PX} {a:Nat} {out:List bS} {w:World} {r:Except SV (List aP×gN)} {e:Ending} {w':World} (h:fU x a out w r e w'):∃ b,e=.returned (.bool b):=by
 obtain ⟨_,c⟩:=h;split at c
 ·exact ⟨_,c.1⟩
 ·exact ⟨_,c.1⟩
theorem wR:∀ l:Bs,(aT l).length≤l.length
 | []=>dF _
 | c::r=>by
  have ih:=wR r;unfold aT;split
  ·rw [f5];omega
  ·exact dF _
theorem T5 {ents:aM} {rest r:Bs} {v:cO} (h:dZ ents rest=.ok (v,r)):r.length<rest.length:=by
 unfold dZ at h;cases d:fL rest with
 | error e=>rw [d] at h;cases h
 | ok p=>
  obtain ⟨nm,k⟩:=p;have n:=(nO (f:=false) d).2.2.2;rw [d] at h;simp only at h;have g:=wR k;cases j:aT k with
  | nil=>rw [j] at h;cases h
  | cons b r2=>
   rw [j] at h g;simp only at h;rw [f5] at g;split at h
   ·have i:=wR r2;cases a:aT r2 with
    | nil=>rw [a] at h;cases h
    | cons q r3=>
     rw [a] at h i;simp only at h;rw [f5] at i;split at h
     ·cases c:pU ents q (r3.length+1) r3 [] with
      | error e=>rw [c] at h;cases h
      | ok p=>
       obtain ⟨m,l⟩:=p;rw [c] at h;simp only [cD,b8] at h;have o:=QF (r3.length+1) r3 0 [] m l (by simpa using c);rw [←h.2];omega
     ·cases h
   ·cases h
theorem QG (x:PX) (hT:x.T.length≤100000000) (y:Nat) (ents:aM) (j8:nM ents) (j3:TU x y) (o:lR) (m3:o.raw=x.raw) (m4:o.space=x.space) (w:World) (c:PC) (opens:List Bs) (bound:List aM) (out:List bS) (h:dK x y w c opens bound out) (g3:out.length≤499999999) (m2:opens.length≤499999999) (l1:bound.length=opens.length) (ha:c.at'≤x.T.length) (hE:pF x y ents w) :
  Calls prog 34 #[iU x] w (fU x y out w (JQ o opens bound (eV ents (x.T.drop c.at')))):=by
 have hN:x.T.length≤1000000000:=by omega
 have HN:=Lh (B9 x hN w c h.blk ha);have ⟨H,HT,V,HE,oC,i5⟩:=gT h hT hN hE j8 g3;have ⟨p1,n9,p2,p3,p4⟩:=pM m2 l1 j3 m3 m4;have c2:=Lh (show eV ents (x.T.drop c.at')=match fL (x.T.drop c.at') with
  | .error e=>.error e
  | .ok (nm,r)=>match cZ ents (r.length+1) r [] with
   | .error e=>.error e
   | .ok (ats,em,r2)=>.ok (nm,ats,em,r2) from rfl)
 clear h hT hN hE j8 g3 m2 l1 j3 ha m3 m4;refine eL 83 func34 [_] fun f=>?_;simp only [aF];refine vg ?_;intro K hK K hK;refine HN.o.mono ?_;rintro e1 w1 ⟨c6,W⟩;have i6:=Lh c6;cases hn:fL (x.T.drop c.at') with
 | error k=>
  rw [hn] at W c2;obtain ⟨⟨a1,a9⟩,rfl⟩:=W;have p5:=Lh a9;clear a9 c6 HN;(repeat revert K);refine vS ?_;intro K hK;refine cM ?_;exact fU.err (w1:=w) (k:=k) H.o p5.o i6.o (by rw [c2.o];rfl)
 | ok q=>
  obtain ⟨nm,r⟩:=q;have j2:=Lh (ER hn);rw [hn] at W c2;obtain ⟨a1,n2,g0,f7,a9,rfl⟩:=W;have n3:r=x.T.drop a1:=n2;subst n3;obtain ⟨wa,dI⟩:=cK (w1.alloc (.cells #[.int .i64 1,aB nm.1,aB nm.2,.slice none 0 0,aB [],.int .i64 0] 35));have j6:=Lh (show aV x wa { c with at':=a1 } by rw [dI];exact a9.alloc _);have Z:=Lh (show aL wa w1.heap.size #[.int .i64 1,aB nm.1,aB nm.2,.slice none 0 0,aB [],.int .i64 0] 35 by rw [dI];exact aL.new w1 _ _);have j0:=Lh (show aJ (fun k=>k=x.p) w wa by rw [dI];exact c6.alloc _);obtain ⟨bt,d9⟩:=cK w1.heap.size;rw [←d9] at Z;have oA:=Lh (show w.heap.size≤bt by rw [d9];exact c6.size);have L:=Lh (show ¬ bt=x.p by have:=aL.lt a9;omega);have o2:=Lh g0;have oT:=Lh (show c.at'≤a1 from f7);obtain ⟨m0,hR⟩:=cK ((x.T.drop a1).length+1);have o9:=Lh (show x.T.length-a1<m0 by rw [hR,eC];omega);have D:=Lh (show eV ents (x.T.drop c.at')=match cZ ents m0 (x.T.drop a1) [] with
   | .error e=>.error e
   | .ok (ats,em,r2)=>.ok (nm,ats,em,r2) by rw [c2.o,hR])
  clear a9 c6 HN n2 g0 f7 hR c2;(repeat revert K);refine vS ?_;rw [←dI,←d9];clear dI d9;refine cG [0,6] fun f=>?_;refine wp_loop_ghost_k (Z3 x c ents bt nm a1 m0 w) (x.T.length-a1) ⟨f,a1,[],none,0,0,m0,rfl,j6.o,Z.o,⟨rfl,aG ⟨rfl,rfl⟩⟩,by simp [Value.ownBlock],j0.o,rfl,o2.o,oT.o,jU _,o9.o,rfl⟩ ?_;clear j6 Z j0 i6;rintro k _ w2 ⟨f,a,acc,sa,sl,sc,m,rfl,hp,hb,a5,g4,hm,hk,hQ,mI,k7,m1,n6⟩ J K2 hJ k4;obtain ⟨m',rfl⟩:∃ m',m=m'+1:=⟨m-1,by omega⟩;have ⟨HJ,o1,HB,f3,j1,HM⟩:=gT hJ k4 hb a5 g4 hm;have ⟨HK,d3,o0,dT,p0,d7⟩:=gT hk hQ mI k7 m1 n6;have i1:=Lh (mL x V.o w2 { c with at':=a } hp hQ);have n7:=tE a5;subst n7;have M:=Lh (show (Value.slice sa acc.length sc).ownBlock≠some x.p from fun A=>by have W:=(aS a5 A).2;have h2:=aL.lt H.o.blk;omega);clear hJ k4 hp hb a5 g4 hm hk hQ mI k7 m1 n6;refine vg ?_;intro K hK K hK;refine i1.o.mono ?_;rintro e2 w3 ⟨n,rfl,n0,e3,g1,gB,n8⟩;have j5:=Lh (show aV x w3 { c with at':=n } from n0);have hX:=Lh (HB.o.mod e3 L.o);have b6:=Lh (aE f3.o e3 (fun g E A=>M.o (by rw [←A];exact E)));have i7:=Lh (HM.o.trans e3 (fun _ _ h=>h));have b2:=Lh g1;have d2:=Lh (show a≤n from gB);have d8:=Lh (show aT (x.T.drop a)=x.T.drop n from n8);obtain ⟨sp,hS⟩:=cK (decide (a<n));have g8:decide ((({ c with at':=a }:PC).at':Int)<(n:Int))=sp:=by rw [hS];simp
  rw [g8];have f4:=Lh hS;clear n0 e3 g1 gB n8 i1 hS g8 HB f3 HM;have d1:=Lh (fun (b:Nat) (w':World) (W:aV x w' { c with at':=b }) (h2:aJ (fun k=>k=x.p) w w') (v:Int)=>gW x w w' { c with at':=b } W h2 v);have b5:=Lh (fun (b:Nat) (hb:b≤x.T.length) (w':World) (W:aV x w' { c with at':=b }) (h2:aJ (fun k=>k=x.p) w w') (h3:w'.ownsRow w.heap.size 68 3 (.slice sa acc.length sc) acc.length (aN acc)) (em:Bool)=>
   p2.o w' { c with at':=b } opens bound out (H.o.own W h2 rfl rfl rfl) i5.o p1.o n9.o hb nm (by have s:=j2.o.1;rw [eC] at s;have:=HT.o;omega) (by have s:=j2.o.2;rw [eC] at s;have:=HT.o;omega) acc sa acc.length sc (by have:=dT.o;have:=HT.o;have:=d3.o;omega)
    (m6 h3 H.o.size) (fun g E hP=>by have h8:=(H.o.busy (show fS x c g from hP)).2;have s:=(aS h3 E).2;omega) em o p3.o p4.o)
  go_simp;cases Q:([62]:Bs).isPrefixOf (x.T.drop n) with
  | true=>
   have U:=Lh (iE x V.o w3 { c with at':=n } j5.o b2.o [62] (by decide) Q);have z:=kQ Q (by decide);have HR:=Lh (show eV ents (x.T.drop c.at')=.ok (nm,acc,false,x.T.drop (n+1)) by
    have s:=dC 62 x.T n z;rw [Q] at s;have hM:x.T.getD n 0=62:=(beq_iff_eq.1 s.symm).symm;rw [D.o,d7.o,XH ents d8.o z hM])
   have d4:=Lh z;clear Q z;(repeat revert K);refine vg ?_;intro K hK K hK K hK;refine U.o.mono ?_;rintro eh w4 ⟨rfl,t,l⟩;have d5:=Lh (show aV x w4 { c with at':=n+1 } from t);have b3:=Lh (i7.o.trans l (fun _ _ h=>h));have N:=Lh (aE b6.o l (fun g E A=>M.o (by rw [←A];exact E)));have bC:=Lh (hX.o.mod l L.o);clear t l U;have hc:=bC.o.cell;have hf:=bC.o.frozen;(repeat revert K);refine vS ?_;intro K hK K hK K hK;refine (b5.o (n+1) d4.o _ (by exact d5.o) (by exact eE b3.o rfl rfl rfl rfl) (by exact N.o) false).mono ?_;rintro e9 T s;have h5:fU x y out w (JQ o opens bound (eV ents (x.T.drop c.at'))) e9 T:=by rw [HR.o];exact fU.base (aJ.below (Below.refl y w) H.o.size (show aJ (fun k=>k=x.p) w _ from eE b3.o rfl rfl rfl rfl) (fun i hi=>by rw [hi];exact H.o.pb)) s
   obtain ⟨b9,rfl⟩:=fU.bool s;have H5:=Lh h5;clear s h5;(repeat revert K);refine vS ?_;intro K hK;refine cM ?_;exact H5.o
  | false=>
   have U:=Lh (gX x V.o w3 { c with at':=n } j5.o b2.o [62] (by decide) Q);(repeat revert K);refine vg ?_;intro K hK K hK K hK;refine U.o.mono ?_;rintro eh w4 ⟨rfl,t,l⟩;have d5:=Lh (show aV x w4 { c with at':=n } from t);have b3:=Lh (i7.o.trans l (fun _ _ h=>h));have N:=Lh (aE b6.o l (fun g E A=>M.o (by rw [←A];exact E)));have bC:=Lh (hX.o.mod l L.o);clear t l U;go_simp;cases Y:([47]:Bs).isPrefixOf (x.T.drop n) with
   | true=>
    have U:=Lh (iE x V.o w4 { c with at':=n } d5.o b2.o [47] (by decide) Y);have z:=kQ Y (by decide);have j7:=Lh (show cZ ents m0 (x.T.drop a1) []=if ([62]:Bs).isPrefixOf (x.T.drop (n+1)) then .ok (acc,true,x.T.drop (n+2)) else .error .bad by
     have s:=dC 47 x.T n z;rw [Y] at s;have hM:x.T.getD n 0=47:=(beq_iff_eq.1 s.symm).symm;rw [d7.o,XI ents d8.o z hM])
    have d4:=Lh z;clear Q Y z;(repeat revert K);refine vg ?_;intro K hK K hK K hK;refine U.o.mono ?_;rintro eh w5 ⟨rfl,t,l⟩;have aA:=Lh (show aV x w5 { c with at':=n+1 } from t);have a8:=Lh (b3.o.trans l (fun _ _ h=>h));have O:=Lh (aE N.o l (fun g E A=>M.o (by rw [←A];exact E)));have d0:=Lh (bC.o.mod l L.o);clear t l U;go_simp;cases a0:([62]:Bs).isPrefixOf (x.T.drop (n+1)) with
    | true=>
     have U:=Lh (iE x V.o w5 { c with at':=n+1 } aA.o d4.o [62] (by decide) a0);have o3:=Lh (show n+2≤x.T.length by have:=kQ a0 (by decide);omega);have HR:=Lh (show eV ents (x.T.drop c.at')=.ok (nm,acc,true,x.T.drop (n+2)) by rw [D.o,j7.o,aY a0]);clear a0;(repeat revert K);refine vg ?_;intro K hK K hK K hK K hK;refine U.o.mono ?_;rintro eh w6 ⟨rfl,t,l⟩;have C:=Lh (show aV x w6 { c with at':=n+1+1 } from t);have B:=Lh (a8.o.trans l (fun _ _ h=>h));have b7:=Lh (aE O.o l (fun g E A=>M.o (by rw [←A];exact E)));have g9:=Lh (d0.o.mod l L.o);clear t l U;have hc:=g9.o.cell;have hf:=g9.o.frozen;(repeat revert K);refine vS ?_;intro K hK K hK K hK;refine (b5.o (n+2) o3.o _ (by exact C.o) (by exact eE B.o rfl rfl rfl rfl) (by exact b7.o) true).mono ?_;rintro e9 T s;have h5:fU x y out w (JQ o opens bound (eV ents (x.T.drop c.at'))) e9 T:=by rw [HR.o];exact fU.base (aJ.below (Below.refl y w) H.o.size (show aJ (fun k=>k=x.p) w _ from eE B.o rfl rfl rfl rfl) (fun i hi=>by rw [hi];exact H.o.pb)) s
     obtain ⟨b9,rfl⟩:=fU.bool s;have H5:=Lh h5;clear s h5;(repeat revert K);refine vS ?_;intro K hK;refine cM ?_;exact H5.o
    | false=>
     have U:=Lh (gX x V.o w5 { c with at':=n+1 } aA.o d4.o [62] (by decide) a0);have HR:=Lh (show eV ents (x.T.drop c.at')=.error .bad by rw [D.o,j7.o,aQ (by rw [a0];simp)]);clear a0;(repeat revert K);refine vg ?_;intro K hK K hK K hK K hK;refine U.o.mono ?_;rintro eh w6 ⟨rfl,t,l⟩;have C:=Lh (show aV x w6 { c with at':=n+1 } from t);have B:=Lh (a8.o.trans l (fun _ _ h=>h));have b7:=Lh (aE O.o l (fun g E A=>M.o (by rw [←A];exact E)));have g9:=Lh (d0.o.mod l L.o);clear t l U;(repeat revert K);refine vS ?_;intro K hK K hK K hK K hK;refine (d1.o (n+1) _ (by exact C.o) (by exact eE B.o rfl rfl rfl rfl) _).mono ?_;rintro e6 w6 ⟨rfl,G,F⟩;have ⟨C,B⟩:=cB G F;clear G F;(repeat revert K);refine vS ?_;intro K hK K hK;refine cM ?_;exact fU.err (w1:=w) (k:=.bad) H.o C.o B.o (by rw [HR.o];rfl)
   | false=>
    have U:=Lh (gX x V.o w4 { c with at':=n } d5.o b2.o [47] (by decide) Y);(repeat revert K);refine vg ?_;intro K hK K hK K hK;refine U.o.mono ?_;rintro eh w5 ⟨rfl,t,l⟩;have aA:=Lh (show aV x w5 { c with at':=n } from t);have a8:=Lh (b3.o.trans l (fun _ _ h=>h));have O:=Lh (aE N.o l (fun g E A=>M.o (by rw [←A];exact E)));have d0:=Lh (bC.o.mod l L.o);clear t l U;go_simp;by_cases z:n<x.T.length
    rotate_left
    ·have HR:=Lh (show eV ents (x.T.drop c.at')=.error .bad by rw [D.o,d7.o,T4 ents d8.o (by omega)]);have hC:=Lh (fun (w':World) (W:aV x w' { c with at':=n })=>nU x w' { c with at':=n } W (by simp;omega));clear Q Y;(repeat revert K);refine vg ?_;intro K hK K hK K hK;refine (hC.o _ (by exact aA.o)).mono ?_;rintro e6 w6 ⟨rfl,k6,rfl⟩;(repeat revert K);refine vS ?_;intro K hK K hK K hK;refine (d1.o (n) _ (by exact aA.o) (by exact eE a8.o rfl rfl rfl rfl) _).mono ?_;rintro e6 w6 ⟨rfl,G,F⟩;have ⟨C,B⟩:=cB G F;clear G F;(repeat revert K);refine vS ?_;intro K hK;refine cM ?_;exact fU.err (w1:=w) (k:=.bad) H.o C.o B.o (by rw [HR.o];rfl)
    have hC:=Lh (fun (w':World) (W:aV x w' { c with at':=n })=>nV x w' { c with at':=n } W z)
    have hV:=Lh (show cZ ents m0 (x.T.drop a1) []=_ from d7.o.trans (XJ ents (m:=m') (acc:=acc) d8.o d3.o z
     (fun hh=>by have s:=dC 62 x.T n z;rw [Q,hh] at s;cases s)
     (fun hh=>by have s:=dC 47 x.T n z;rw [Y,hh] at s;cases s)))
    clear Q Y;(repeat revert K);refine vg ?_;intro K hK K hK K hK;refine (hC.o _ (by exact aA.o)).mono ?_;rintro e6 w6 ⟨rfl,k6,rfl⟩;have f1:=Lh (TT x V.o y H.o.pb ents oC.o (w5.drewN k6) { c with at':=n } aA.o b2.o (HE.o.below (aJ.below (Below.refl _ w) H.o.size (a8.o.drewN k6) (fun i hi=>by rw [hi];exact H.o.pb))));(repeat revert K);refine vS ?_;intro K hK K hK;refine f1.o.mono ?_;rintro e7 w7 ⟨e4,h7⟩;have i8:=Lh (show aJ (fun k=>k=x.p) w w7 from aJ.trans (a8.o.drewN k6) e4 (fun _ _ h=>h));have cT:=Lh (show w7.ownsRow w.heap.size 68 3 (.slice sa acc.length sc) acc.length (aN acc) from aE (w:=w5.drewN k6) O.o e4 (fun g E A=>M.o (by rw [←A];exact E)));have h0:=Lh (aL.mod (S:=fun k=>k=x.p) (w:=w5.drewN k6) d0.o e4 L.o);clear e4 f1;rw [show ({ c with at':=n }:PC).at'=n from rfl] at h7;cases hr:dZ ents (x.T.drop n) with
    | error k=>
     rw [hr] at h7;obtain ⟨⟨a7,c8⟩,rfl⟩:=h7;have d6:=Lh c8;have HR:=Lh (show eV ents (x.T.drop c.at')=.error k by rw [D.o,hV.o,hr]);clear c8;(repeat revert K);refine vS ?_;intro K hK;refine cM ?_;exact fU.err (w1:=w) (k:=k) (a:=a7) H.o (aL.alloc (w:=w7) d6.o _) (i8.o.alloc _) (by rw [HR.o];rfl)
    | ok q=>
     rw [hr] at h7;obtain ⟨d,r7⟩:=q;obtain ⟨a7,n4,g2,mK,c8,rfl⟩:=h7;have n5:r7=x.T.drop a7:=n4;subst n5;have d6:=Lh (show aV x w7 { c with at':=a7 } from c8);have hD:=Lh g2;have a3:=Lh (show n<a7 by have:=T5 hr;rw [eC,eC] at this;omega);have e5:=Lh (show cZ ents m0 (x.T.drop a1) []=if ¬ a<n then .error .opn else if acc.any (fun x=>x.1==d.1&&x.2.1==d.2.1) then .error .opn else cZ ents m' (x.T.drop a7) (acc++[d]) by rw [hV.o,hr]);obtain ⟨w8,c9⟩:=cK (w7.alloc (.cells #[aB d.1,aB d.2.1,aB d.2.2] 68));have Z:=Lh (show aL w8 w7.heap.size #[aB d.1,aB d.2.1,aB d.2.2] 68 by rw [c9];exact aL.new w7 _ _);have hG:=Lh (show aJ (fun k=>k=x.p) w w8 by rw [c9];exact i8.o.alloc _);have a4:aJ (fun _=>False) w7 w8:=by rw [c9];exact (aJ.refl _ w7).alloc _
     have aC:=Lh (aE (S:=fun _=>False) cT.o a4 (fun _ _=>id));have h6:=Lh (h0.o.mod a4 id);have hL:=Lh (show aV x w8 { c with at':=a7 } from d6.o.mod a4 id);obtain ⟨ba,hO⟩:=cK w7.heap.size;rw [←hO] at Z;have q4:=Lh (show ba≠bt∧ba≠x.p∧(Value.slice sa acc.length sc).ownBlock≠some ba by
      refine ⟨?_,?_,?_⟩
      ·have:=aL.lt h0.o;omega
      ·have:=aL.lt d6.o;omega
      ·intro A;have:=(aS cT.o A).1;omega)
     clear c8 hr n4 g2 mK a4;go_simp;(repeat revert K);refine vT 15 ?_;rw [←c9,←hO];clear c9 hO;cases sp with
     | false=>
      have HR:=Lh (show eV ents (x.T.drop c.at')=.error .opn by rw [D.o,e5.o,aY (of_decide_eq_false f4.o.symm)]);refine vg ?_;intro K hK K hK K hK;refine (d1.o (a7) _ (by exact hL.o) (by exact eE hG.o rfl rfl rfl rfl) _).mono ?_;rintro e6 w6 ⟨rfl,G,F⟩;have ⟨C,B⟩:=cB G F;clear G F;(repeat revert K);refine vS ?_;intro K hK;refine cM ?_;exact fU.err (w1:=w) (k:=.opn) H.o C.o B.o (by rw [HR.o];rfl)
     | true=>
      have e8:=Lh (e5.o.trans (aQ (fun h=>h (of_decide_eq_true f4.o.symm))));have hc:=h6.o.cell;refine vg ?_;intro K hK;refine cG [0,6,8,56,57,58] fun f=>?_;clear hc;refine wp_loop_ghost_k (Z4 (iU x) (.pointer (some ⟨bt,0,none⟩)) (.pointer (some ⟨ba,0,none⟩)) (.slice sa acc.length sc) d acc w8) acc.length ⟨f,0,rfl,Below.refl _ w8,rfl,jU _,rfl⟩ ?_;rintro k9 _ T ⟨f,i,rfl,l0,mR,r0,c3⟩ J9 K9 k0 k5;have ⟨i2,i3,a6,i4,bA⟩:=pM k0 k5 l0 mR c3;clear k0 k5 l0 mR c3;by_cases c5:i<acc.length
      ·have t0:(0:Int)≤(i:Int):=by omega
       have t1:(i:Int)<(acc.length:Int):=by omega
       have wi:IntKind.i64.wrap ((i:Int)+1)=((i+1:Nat):Int):=by rw [IntKind.wrap_i64];have h2:=dT.o;have h3:=HT.o;have h4:=d3.o;omega
       obtain ⟨b,hb⟩:∃ b,acc[i]?=some b:=⟨acc[i],by simp [c5]⟩;obtain ⟨g,q1,_,k1,k2,k3⟩:=jR aC.o hb;subst q1;have e0:g<w8.heap.size:=(aS aC.o (g:=g) rfl).1;have l3:T.cell? ⟨g,i*3,none⟩=some (aB b.1):=(a6.o.cell (p:=⟨g,i*3,none⟩) e0).trans k1;have mA:T.cell? ⟨g,i*3+1,none⟩=some (aB b.2.1):=(a6.o.cell (p:=⟨g,i*3+1,none⟩) e0).trans k2;have mE:T.cell? ⟨g,i*3+2,none⟩=some (aB b.2.2):=(a6.o.cell (p:=⟨g,i*3+2,none⟩) e0).trans k3;obtain ⟨wq,R⟩:=cK (T.alloc (.cells #[aB b.1,aB b.2.1,aB b.2.2] 68));have c4:aL wq T.heap.size #[aB b.1,aB b.2.1,aB b.2.2] 68:=by rw [R];exact aL.new T _ _
       have b0:=Lh (show Below w8.heap.size w8 wq by rw [R];exact a6.o.alloc a6.o.size _);have f6:aL wq ba #[aB d.1,aB d.2.1,aB d.2.2] 68:=Z.o.mod (S:=fun _=>False) (aH b0.o _) id;have q7:=c4.cell;have q6:=f6.cell;have hA:=Lh hb;clear hb k1 k2 k3 e0 c4 f6;revert K;refine vT 22 ?_;intro K hK K hK;rw [←R];clear R l3 mA mE;have X:aJ (fun k=>k=x.p) w wq:=hG.o.trans (aH b0.o (fun _=>False)) (fun _ _ h=>h.elim);have n1:aV x wq { c with at':=a7 }:=hL.o.mod (S:=fun _=>False) (aH b0.o _) id;have ⟨b4,p7⟩:=cB X n1;clear X n1;cases W:(b.1==d.1) with
       | true=>
        cases h2:(b.2.1==d.2.1) with
        | true=>
         have HR:=Lh (show eV ents (x.T.drop c.at')=.error .opn by
          have s:acc.any (fun x=>x.1==d.1&&x.2.1==d.2.1)=true:=by
           rw [List.any_eq_true];exact ⟨b,List.mem_of_getElem? hA.o,by rw [W,h2];rfl⟩
          rw [D.o,e8.o,aY s])
         (repeat revert K);refine vg ?_;intro K hK K hK K hK K hK;refine (d1.o (a7) _ (by exact p7.o) (by exact eE b4.o rfl rfl rfl rfl) _).mono ?_;rintro e6 w6 ⟨rfl,G,F⟩;have ⟨C,B⟩:=cB G F;clear G F;(repeat revert K);refine vS ?_;intro K hK K hK;refine cM ?_;exact fU.err (w1:=w) (k:=.opn) H.o C.o B.o (by rw [HR.o];rfl)
        | false=>
         have hI:=Lh (rC (p:=fun x=>x.1==d.1&&x.2.1==d.2.1) hA.o bA.o (by rw [W,h2];rfl));(repeat revert K);refine vg ?_;intro K hK;refine Kk [0,6,8,56,57,58] fun f=>?_;exact i3.o _ _ ⟨acc.length-(i+1),by rw [i4.o];omega,i2.o _ _ _ ⟨f,i+1,rfl,b0.o,rfl,c5,hI.o⟩⟩
       | false=>
        have hI:=Lh (rC (p:=fun x=>x.1==d.1&&x.2.1==d.2.1) hA.o bA.o (by rw [W];rfl));(repeat revert K);refine vg ?_;intro K hK;refine Kk [0,6,8,56,57,58] fun f=>?_;exact i3.o _ _ ⟨acc.length-(i+1),by rw [i4.o];omega,i2.o _ _ _ ⟨f,i+1,rfl,b0.o,rfl,c5,hI.o⟩⟩
      ·have p9:i=acc.length:=by omega
       subst p9;have t1:¬ ((acc.length:Int)<(acc.length:Int)):=by omega
       have hW:=Lh (show cZ ents m0 (x.T.drop a1) []=cZ ents m' (x.T.drop a7) (acc++[d]) by
        have s:=bA.o;rw [List.take_length] at s;rw [e8.o,aQ (by rw [s];simp)])
       have I:aJ (fun _=>False) w8 T:=aH a6.o _;have i9:=Lh (hG.o.trans I (fun _ _ h=>h.elim));have p6:=Lh (show aV x T { c with at':=a7 } from hL.o.mod I id);have b1:=Lh (h6.o.mod I id);have i0:=Lh (Z.o.mod I id);have c1:=Lh (aE (S:=fun _=>False) aC.o I (fun _ _=>id));obtain ⟨wq,R⟩:=cK (T.alloc (.cells #[aB d.1,aB d.2.1,aB d.2.2] 68));have c4:aL wq T.heap.size #[aB d.1,aB d.2.1,aB d.2.2] 68:=by rw [R];exact aL.new T _ _
       have X:aJ (fun _=>False) T wq:=by rw [R];exact (aJ.refl _ T).alloc _
       obtain ⟨v',hU,g7,g6,c7,hv,gv,cv,q3⟩:=nL CA underlying33 rfl (by decide) (by decide) wq w.heap.size (fQ i9.o.size X.size) (.slice sa acc.length sc) acc.length (by have:=dT.o;have:=HT.o;have:=d3.o;omega) (aN acc) (aE (S:=fun _=>False) c1.o X (fun _ _=>id)) T.heap.size [aB d.1,aB d.2.1,aB d.2.2] rfl
        (fun j u hj=>by rw [c4.cell];simpa using hj)
        (fun u hu=>by
         simp only [mF,y5,or_false] at hu;rcases hu with rfl|rfl|rfl<;>rfl)
       subst q3;have p8:=b1.o.cell;have l2:=i0.o.cell;have ⟨j4,f2,HV,b4⟩:=kS g6 c7 hv X;have P:aL hU bt _ _:=(b1.o.mod X id).mod c7 (fun A=>j1.o A);have hB:=Lh P;clear I c4 X g6 c7 hv;revert K;refine vB ?_;rw [←R];clear R p8 l2;refine eP rfl (.tmp 78) (.tmp 80) _ _ rfl _ _ _ (by rw [bU (by decide)];(try simp only [aK,aO,aR,aW,Nat.reduceEqDiff,↓reduceIte]);(try rfl)) (by rw [bU (by decide)];(try simp only [aK,aO,aR,aW,Nat.reduceEqDiff,↓reduceIte]);(try rfl)) g7 ?_;clear g7;rw [fG (by decide)];have hc:=P.cell;have hf:=P.frozen;clear P;refine vg ?_;refine Kk [0,6] fun f=>?_;have q2:∀ g,(Value.slice (some ⟨gv,0,none⟩) (acc.length+1) cv).ownBlock=some g→(Value.slice sa acc.length sc).ownBlock=some g∨wq.heap.size≤g:=fun g E=>by
        rcases HV.o with s|s
        ·exact aG (s▸E)
        ·rw [s] at E;right;simp at E;omega
       have q5:=aL.lt b1.o;have g5:(Value.slice (some ⟨gv,0,none⟩) (acc.length+1) cv).ownBlock≠some bt:=fun A=>by
        rcases q2 bt A with s|s
        ·exact j1.o s
        ·have:=b4.o.size;omega
       have q0:aJ (fun k=>k=x.p) w hU:=(i9.o.trans b4.o (fun _ _ h=>h.elim)).trans f2.o (fun i hi hP=>by
        have s:=(aS c1.o hP).2;omega)
       have nE:aV x hU { c with at':=a7 }:=(p6.o.mod b4.o id).mod f2.o M.o;refine o1.o _ _ ⟨x.T.length-a7,by rw [HK.o];have:=a3.o;have:=hD.o;have:=d2.o;omega,HJ.o _ _ _ ⟨f,a7,acc++[d],some ⟨gv,0,none⟩,acc.length+1,cv,m',rfl,aL.set_ne nE (fun A=>L.o A.symm) _,?_,?_,g5,aJ.setCell (S:=fun k=>k=x.p) q0 (p:=⟨bt,3,none⟩) (aU oA.o) _,rfl,hD.o,by have:=o0.o;have:=d2.o;have:=a3.o;omega,by rw [fP];have:=dT.o;have:=d2.o;have:=a3.o;simp;omega,by have:=p0.o;have:=a3.o;have:=hD.o;have:=d2.o;omega,hW.o⟩⟩
       ·have:=hB.o.set 3 (.slice (some ⟨gv,0,none⟩) (acc.length+1) cv);simpa using this
       ·have e9:aN (acc++[d])=aN acc++[aB d.1,aB d.2.1,aB d.2.2]:=by simp [aN]
        rw [e9,fP];exact aE (S:=fun k=>k=bt) j4.o (aJ.setCell (S:=fun k=>k=bt) (aJ.refl _ _) (p:=⟨bt,3,none⟩) (aG rfl) _) (fun g E A=>g5 (by rw [←A];exact E))
theorem E5 (acc l:List cO) (a:cO) (s:Bs):(aN (acc++a::l)).set (acc.length*3) (aB s)=aN ((acc++[(s,a.2.1,a.2.2)])++l):=by
 have b:aN (acc++a::l)=aN acc++([aB a.1,aB a.2.1,aB a.2.2]++aN l):=by simp [aN]
 have c:aN ((acc++[(s,a.2.1,a.2.2)])++l)=aN acc++([aB s,aB a.2.1,aB a.2.2]++aN l):=by simp [aN]
 rw [b,c,List.set_append_right _ _ (by rw [lM];omega),lM,Nat.sub_self];rfl
theorem L8 {b:Bs} {bound:List aM} {acc l:List cO} {a:cO} (h:acc.any (fun y=>y.1==cC b bound a.1 false&&y.2.1==a.2.1)=true):f8 b bound acc (a::l)=.error .opn:=by
 obtain ⟨d,c,v⟩:=a;unfold f8;exact aY h
theorem G8 {b:Bs} {bound:List aM} {acc l:List cO} {a:cO} (h:acc.any (fun y=>y.1==cC b bound a.1 false&&y.2.1==a.2.1)=false):f8 b bound acc (a::l)=f8 b bound (acc++[(cC b bound a.1 false,a.2.1,a.2.2)]) l:=by
 obtain ⟨d,c,v⟩:=a;conv=>lhs;unfold f8
 exact aQ (by rw [h];simp)
def Z5 (x:PX) (em:Bool) (c:Nat) (nm:Bs×Bs) (v:Value) (b:List cO) (bound:List aM) (w0:World) (k:Nat) (a:Act) (w:World):Prop:=
 ∃ f i acc,a=fr 182 f [(0,iU x),(2,.bool em),(4,.pointer (some ⟨c,0,none⟩)),(7,aB nm.1),(8,aB nm.2),(13,v),(126,v),(127,.int .i64 (b.length:Nat)),(128,.int .i64 (i:Nat))]∧Below w0.heap.size w0 w ∧
  w.ownsRow w0.heap.size 68 3 v (acc++b.drop i).length (aN (acc++b.drop i))∧acc.length=i∧k=b.length-i∧i≤b.length∧f8 x.space bound [] b=f8 x.space bound acc (b.drop i)
def Z6 (x:PX) (em:Bool) (d c:Nat) (nm:Bs×Bs) (v g:Value) (n i:Nat) (acc:List cO) (e b:Bs) (w0:World) (k:Nat) (a:Act) (w:World):Prop:=
 ∃ f j,a=fr 182 f [(0,iU x),(2,.bool em),(4,.pointer (some ⟨d,0,none⟩)),(7,aB nm.1),(8,aB nm.2),(13,v),(14,.int .i64 (i:Nat)),(15,.pointer (some ⟨c,0,none⟩)),(126,v),(127,.int .i64 (n:Nat)),(128,.int .i64 (i:Nat)),(143,g),(144,.int .i64 (i:Nat)),(145,.int .i64 (j:Nat))]∧Below w0.heap.size w0 w ∧
  k=i-j∧j≤i∧((acc.take j).any fun y=>y.1==e&&y.2.1==b)=false
theorem vU {b:Nat} {w w':World} (h:Below b w w') (k:Nat):Below b w (w'.drewN k):=⟨h.os,h.tape,h.output,h.size,h.block⟩
theorem T6 (x:PX) (a1:Nat) (w0:World) (c:PC) (opens:List Bs) (bound:List aM) (out:List bS) (h:dK x a1 w0 c opens bound out) (d6:bound.length≤1000000000) (em:Bool) (bt:Nat) (nm:Bs×Bs) (d:List cO) (d3:d.length≤1000000000) (g r:Nat) (W:World) (hb:Below w0.heap.size w0 W)
  (a5:W.ownsRow w0.heap.size 68 3 (.slice (some ⟨g,0,none⟩) d.length r) d.length (aN d)) (a4:d.length≤r) (e5:r≤maxLen) (Q:Exit→Act→World→Prop)
  (hE:f8 x.space bound [] d=.error .opn→∀ f w',aV x w' { c with verd:=2 }→aJ (fun k=>k=x.p) w0 w'→Q .ret (fr 182 f [(6,.bool false)]) w')
  (hN:∀ l,f8 x.space bound [] d=.ok l→l.length=d.length→∀ f w',Below w0.heap.size w0 w'→w'.ownsRow w0.heap.size 68 3 (.slice (some ⟨g,0,none⟩) d.length r) l.length (aN l)→Q .normal (fr 182 f [(0,iU x),(2,.bool em),(4,.pointer (some ⟨bt,0,none⟩)),(7,aB nm.1),(8,aB nm.2),(13,.slice (some ⟨g,0,none⟩) d.length r)]) w') (f:Nat→Value) (c1:Code) (hC:c1=.loop (nX 21)) :
  c1.wp prog (Exit.inBlock 2 Q) (fr 182 f [(0,iU x),(2,.bool em),(4,.pointer (some ⟨bt,0,none⟩)),(7,aB nm.1),(8,aB nm.2),(13,.slice (some ⟨g,0,none⟩) d.length r),(126,.slice (some ⟨g,0,none⟩) d.length r),(127,.int .i64 (d.length:Nat)),(128,.int .i64 0)]) W:=by
 subst hC;have ⟨H,g0,b4,cT,hP,HE⟩:=gT h d6 d3 a4 e5 hE;have HN:=Lh hN;have g2:=Lh (fun (w':World) (h1:aV x w' c) (h2:aJ (fun k=>k=x.p) w0 w')=>gW x w0 w' c h1 h2 2);refine wp_loop_ghost_k (Z5 x em bt nm (.slice (some ⟨g,0,none⟩) d.length r) d bound w0) d.length ⟨f,0,[],rfl,hb,by rw [List.drop_zero,List.nil_append];exact a5,rfl,by rw [Nat.sub_zero],jU _,by rw [List.drop_zero]⟩ ?_;clear h hb a5 d6 d3 hE hN a4 e5;rintro k _ w ⟨f,i,acc,rfl,hb,hr,d2,hk,hi,f6⟩ J K2 hJ dT;have ⟨HJ,g3,HB,HR,HK,m⟩:=gT hJ dT hb hr hk d2;have c9:=Lh f6;clear hJ dT hb hr hk d2 f6;unfold nX;conv=>arg 2;whnf
 by_cases f1:i<d.length
 ·have t1:(i:Int)<(d.length:Int):=by omega
  have t0:(0:Int)≤(i:Int):=by omega
  have t2:(i:Int)≤(r:Int):=by have:=cT.o;omega
  have wi:IntKind.i64.wrap ((i:Int)+1)=((i+1:Nat):Int):=by rw [IntKind.wrap_i64];have:=b4.o;omega
  obtain ⟨⟨s,e,n⟩,ha⟩:∃ a,d[i]?=some a:=⟨d[i],by simp [f1]⟩;have b0:d.drop i=(s,e,n)::d.drop (i+1):=by
   obtain ⟨hI,he⟩:=A9.1 ha;rw [CN hI,he]
  have G:=HR.o;have L:=c9.o;rw [b0] at G L;have D:(acc++(s,e,n)::d.drop (i+1))[i]?=some (s,e,n):=by
   rw [CQ (by rw [m.o];exact dF _),m.o,Nat.sub_self];rfl
  obtain ⟨g',f7,-,k1,k2,k3⟩:=jR G D;simp only [jW,Addr.mk.injEq] at f7;obtain ⟨rfl,-⟩:=f7;have e1:w.cell? ⟨g,i*3,none⟩=some (aB s):=k1;have e2:w.cell? ⟨g,i*3+1,none⟩=some (aB e):=k2;have e4:w.cell? ⟨g,i*3+2,none⟩=some (aB n):=k3;obtain ⟨wa,N⟩:=cK (w.alloc (.cells #[aB s,aB e,aB n] 68));have d5:aL wa w.heap.size #[aB s,aB e,aB n] 68:=by rw [N];exact aL.new w _ _
  have P:=Lh d5;obtain ⟨ba,E⟩:=cK w.heap.size;rw [←E] at P;have gB:=Lh (show ba≠g from fun he=>by have:=(aS G (g:=g) rfl).1;omega);have a7:=Lh (show Below w0.heap.size w0 wa by rw [N];exact HB.o.alloc HB.o.size _);have f3:aJ (fun _=>False) w wa:=by rw [N];exact (aJ.refl _ w).alloc _
  have hA:=Lh (aE (S:=fun _=>False) G f3 (fun _ _=>id));have hB:=Lh (H.o.fresh (aH a7.o (fun _=>False)));have c8:=Lh (sH x a1 wa c opens bound out hB.o g0.o s false);have ⟨a0,c2⟩:=cB L b0;clear k1 k2 k3 d5 ha G L D f3 b0;refine vT 23 ?_;intro K hK;rw [←N,←E];clear N E e1 e2 e4;have bC:=P.o.cell;have e7:=P.o.frozen;revert K;refine vg ?_;intro K hK K hK K hK;refine c8.o.mono ?_;rintro e3 w3 ⟨rfl,T⟩;obtain ⟨O,M⟩:=cK (cC x.space bound s false);rw [←M];have V:=aE (S:=fun _=>False) hA.o (aH T _) (fun _ _=>id);have b6:=Lh (a7.o.trans (T.mono a7.o.size));have z:aL w3 ba #[aB s,aB e,aB n] 68:=P.o.mod (aH T (fun _=>False)) id;have F:(acc++(s,e,n)::d.drop (i+1)).length=d.length:=by
   rw [←c2.o,fP,eC,m.o];omega
  have I:=V;rw [F] at I;have hG:=fun j=>mZ I j;have hD:w3.cell? ⟨g,i*3,none⟩=some (aB s):=by
   obtain ⟨g1,u,-,k1,-,-⟩:=jR V (i:=i) (a:=(s,e,n)) (by rw [CQ (by rw [m.o];exact dF _),m.o,Nat.sub_self];rfl);simp only [jW,Addr.mk.injEq] at u;obtain ⟨rfl,-⟩:=u;exact k1
  clear F I;have ⟨c6,b7,C⟩:=kV V z M;have bC:=z.cell;have e7:=z.frozen;clear T V z M;go_simp;(repeat revert K);refine vT 24 ?_;intro K hK;obtain ⟨wb,Y⟩:=cK (w3.setCell ⟨g,i*3,none⟩ (aB O));rw [←Y];obtain ⟨o,q⟩:∃ o,o=acc++[(O,e,n)]:=⟨_,rfl⟩;have b3:i*3<(acc++(s,e,n)::d.drop (i+1)).length*3:=by rw [fP,f5,m.o];omega
  have X:wb.ownsRow w0.heap.size 68 3 (.slice (some ⟨g,0,none⟩) d.length r) (o++d.drop (i+1)).length (aN (o++d.drop (i+1))):=by
   have hl:(o++d.drop (i+1)).length=(acc++(s,e,n)::d.drop (i+1)).length:=by rw [q];simp
   have h9:=c6.o;have F:(acc++(s,e,n)::d.drop (i+1)).length=d.length:=by rw [←c2.o,fP,eC,m.o];omega
   rw [F] at h9 b3;have h8:=qO h9 (i*3) b3 (aB O);rw [←Y] at h8;have h7:=E5 acc (d.drop (i+1)) (s,e,n) O;rw [m.o] at h7;rw [h7] at h8;rw [hl,F,q];exact h8
  have b1:aJ (fun k=>k=g) w3 wb:=by rw [Y];exact aJ.setCell (S:=fun k=>k=g) (aJ.refl _ _) (p:=⟨g,i*3,none⟩) (aG rfl) _
  have e8:w0.heap.size≤g:=(aS c6.o (g:=g) rfl).2;have R:=Lh (show Below w0.heap.size w0 wb from aJ.below b6.o b6.o.size b1 (fun j hj=>by rw [hj];exact e8));have b9:=Lh (b7.o.mod b1 gB.o);have ⟨c7,aA⟩:=cB X q;have b5:=Lh (show o.length=i+1 by rw [q,fP,m.o];rfl);have D:(o++d.drop (i+1))[i]?=some (O,e,n):=by
   rw [q,rG,CQ (by rw [m.o];exact dF _),m.o,Nat.sub_self];rfl
  obtain ⟨g1,u,-,k1,k2,k3⟩:=jR X D;simp only [jW,Addr.mk.injEq] at u;obtain ⟨rfl,-⟩:=u;have U:g<wb.heap.size:=(aS X (g:=g) rfl).1;clear X b1 e8 Y q b3 hG bC e7 D k2 k3 hD;revert K;refine vg ?_;intro K hK;refine cG [0,2,4,7,8,13,14,15,126,127,128,143,144,145] fun f=>?_;refine wp_loop_ghost_k (Z6 x em bt ba nm (.slice (some ⟨g,0,none⟩) d.length r) (.slice (some ⟨g,0,none⟩) i r) d.length i acc O e wb) i ⟨f,0,rfl,Below.refl _ _,by simp,jU _,rfl⟩ ?_;rintro k9 _ w9 ⟨f,j,rfl,d4,e9,hR,a2⟩ J3 K3 dI d0;have ⟨c3,c4,v,c5,A⟩:=pM dI d0 d4 e9 a2;clear dI d0 d4 e9 a2;by_cases t:j<i
  ·have t3:(0:Int)≤(j:Int):=by omega
   have t4:(j:Int)<(i:Int):=by omega
   have wj:IntKind.i64.wrap ((j:Int)+1)=((j+1:Nat):Int):=by rw [IntKind.wrap_i64];have h2:=b4.o;omega
   obtain ⟨b,bA⟩:∃ b,acc[j]?=some b:=⟨acc[j]'(by rw [m.o];exact t),by simp [m.o,t]⟩;have d1:(o++d.drop (i+1))[j]?=some b:=by
    rw [aA.o,rG,List.getElem?_append_left (by rw [m.o];exact t)];exact bA
   obtain ⟨g1,u,-,m1,m2,m3⟩:=jR c7.o d1;simp only [jW,Addr.mk.injEq] at u;obtain ⟨rfl,-⟩:=u;have d8:w9.cell? ⟨g,j*3,none⟩=some (aB b.1):=(v.o.cell (p:=⟨g,j*3,none⟩) U).trans m1;have d9:w9.cell? ⟨g,j*3+1,none⟩=some (aB b.2.1):=(v.o.cell (p:=⟨g,j*3+1,none⟩) U).trans m2;have e0:w9.cell? ⟨g,j*3+2,none⟩=some (aB b.2.2):=(v.o.cell (p:=⟨g,j*3+2,none⟩) U).trans m3;obtain ⟨wq,Z⟩:=cK (w9.alloc (.cells #[aB b.1,aB b.2.1,aB b.2.2] 68));have d7:aL wq w9.heap.size #[aB b.1,aB b.2.1,aB b.2.2] 68:=by rw [Z];exact aL.new w9 _ _
   have B:=Lh (show Below wb.heap.size wb wq by rw [Z];exact v.o.alloc v.o.size _);have a3:aL wq ba #[aB s,aB e,aB n] 68:=b9.o.mod (S:=fun _=>False) (aH B.o _) id;have hO:wq.cell? ⟨g,i*3,none⟩=some (aB O):=(B.o.cell (p:=⟨g,i*3,none⟩) U).trans k1;have hQ:=d7.cell;have bC:=a3.cell;have a6:=Lh bA;clear d1 m1 m2 m3 bA d7 a3;revert K;refine vT 27 ?_;intro K hK K hK;rw [←Z];clear Z d8 d9 e0;refine cG [0,2,4,7,8,13,14,15,17,126,127,128,143,144,145] fun f=>?_;have aC:=Lh (R.o.trans (B.o.mono R.o.size));have g5:=Lh (show aJ (fun k=>k=x.p) w0 wq from aH aC.o _);have g9:=Lh (show aV x wq c from H.o.blk.mod (S:=fun _=>False) (aH aC.o _) id);cases h1:(b.1==O) with
   | true=>
    cases h2:(b.2.1==e) with
    | true=>
     have a9:=Lh (show f8 x.space bound [] d=.error .opn by
      rw [a0.o];refine L8 ?_;rw [List.any_eq_true];exact ⟨b,List.mem_of_getElem? a6.o,by show (b.1==cC x.space bound s false&&b.2.1==e)=true;rw [←C.o,h1,h2];rfl⟩)
     (repeat revert K);refine vg ?_;intro K hK K hK K hK;go_quiet (fail);(repeat revert K);refine vg ?_;intro K hK K hK K hK K hK;refine (g2.o _ (by exact g9.o) (by exact eE g5.o rfl rfl rfl rfl)).mono ?_;rintro e6 w6 ⟨rfl,f4,f2⟩;have ⟨g8,g4⟩:=cB f4 f2;clear f4 f2;(repeat revert K);refine vS ?_;intro K hK K hK;refine Qk [6] fun f=>?_;exact HE.o a9.o f _ g8.o g4.o
    | false=>
     have a8:=Lh (rC (p:=fun y=>y.1==O&&y.2.1==e) a6.o A.o (by rw [h1,h2];rfl));(repeat revert K);refine vg ?_;intro K hK K hK K hK;go_quiet (fail);(repeat revert K);refine vg ?_;intro K hK;refine Kk [0,2,4,7,8,13,14,15,126,127,128,143,144,145] fun f=>?_;exact c4.o _ _ ⟨i-(j+1),by rw [c5.o];omega,c3.o _ _ _ ⟨f,j+1,rfl,vU B.o _,rfl,t,a8.o⟩⟩
   | false=>
    have a8:=Lh (rC (p:=fun y=>y.1==O&&y.2.1==e) a6.o A.o (by rw [h1];rfl));(repeat revert K);refine vg ?_;intro K hK K hK K hK;go_quiet (fail);(repeat revert K);refine vg ?_;intro K hK;refine Kk [0,2,4,7,8,13,14,15,126,127,128,143,144,145] fun f=>?_;exact c4.o _ _ ⟨i-(j+1),by rw [c5.o];omega,c3.o _ _ _ ⟨f,j+1,rfl,vU B.o _,rfl,t,a8.o⟩⟩
  ·have hM:j=i:=by omega
   subst hM;have t4:¬ ((j:Int)<(j:Int)):=by omega
   have g7:=Lh (show f8 x.space bound [] d=f8 x.space bound o (d.drop (j+1)) by
    have h9:=A.o;rw [show acc.take j=acc from List.take_of_length_le (by rw [m.o];exact dF _)] at h9;rw [a0.o,G8 (by show (acc.any fun y=>y.1==cC x.space bound s false&&y.2.1==e)=false;rw [←C.o];exact h9),aA.o,C.o])
   revert K;refine vg ?_;refine Kk [0,2,4,7,8,13,126,127,128] fun f=>?_;exact g3.o _ _ ⟨d.length-(j+1),by rw [HK.o];omega,HJ.o _ _ _ ⟨f,j+1,o,rfl,R.o.trans (v.o.mono R.o.size),aE (S:=fun _=>False) c7.o (aH v.o _) (fun _ _=>id),b5.o,rfl,f1,g7.o⟩⟩
 ·have hL:i=d.length:=by omega
  subst hL;have t1:¬ ((d.length:Int)<(d.length:Int)):=by omega
  have g6:=Lh (HN.o acc (by rw [c9.o,List.drop_length];unfold f8;rfl) m.o);have b2:=HR.o;rw [List.drop_length,List.append_nil] at b2;have a9:=Lh b2;clear b2;refine vg ?_;intro K hK;refine Qk [0,2,4,7,8,13] fun f=>?_;exact g6.o f w HB.o a9.o
theorem row_ne {w:World} {a k:Nat} {e t:TypeId} {b n:Nat} {v:Value} {p:List Value} {cs:Array Value} (h:w.ownsRow a e b v n p) (c:aL w k cs t) (j:e≠t):∀ g,v.ownBlock=some g→g≠k:=by
 intro g d o;subst o;rcases h.2 with ⟨f,_⟩|⟨g',cap',cur,f,_,m,_⟩
 ·rw [f] at d;cases d
 ·rw [f] at d;have i:g'=g:=by simpa [Value.ownBlock] using d
  subst i;have l:aL w g' cur e:=m;unfold aL at l c;rw [l] at c;simp only [jW,Obj.cells.injEq] at c;exact j c.2.1
theorem dK.poke {x:PX} {b:Nat} {w:World} {c:PC} {opens:List Bs} {bound:List aM} {out:List bS} (h:dK x b w c opens bound out) {d:Nat} {cs:Array Value} (z:aL w d cs 35) (n:¬ fS x c d) (j:Nat) (u:Value):dK x b (w.setCell ⟨d,j,none⟩ u) c opens bound out:=by
 have f:aJ (fun k=>k=d) w (w.setCell ⟨d,j,none⟩ u):=aJ.setCell (S:=fun k=>k=d) (aJ.refl _ _) (p:=⟨d,j,none⟩) (aG rfl) _;obtain ⟨C,B,s⟩:=h.out;obtain ⟨D,r,l⟩:=h.op;obtain ⟨E,o,i⟩:=h.bd;refine ⟨h.blk.mod f (fun e=>n (aG e.symm)),h.pb,⟨C,aE B f (fun g a e=>n (aU (aG (e▸a)))),s.mono (fun _ _ q=>?_)⟩,⟨D,aE r f (fun g a e=>n (aU (aU (aG (e▸a))))),l⟩,⟨E,aE o f (fun g a e=>n (aU (aU (aU (e▸a))))),i.mono (fun _ _ q=>?_)⟩,h.s1,h.s2,h.s3⟩
 ·obtain ⟨t,y,v,rfl,m,a⟩:=q;exact ⟨t,y,v,rfl,aE m f (row_ne m z (by decide)),a⟩
 ·obtain ⟨t,y,v,rfl,m,a,A⟩:=q;exact ⟨t,y,v,rfl,aE m f (row_ne m z (by decide)),a,A⟩
theorem XK (b:Nat) (a:List cO) (J:a.length≤1000000000) (W:World) (D:Option Addr) (A b0:Nat) (o:W.ownsRow b0 68 3 (.slice D a.length A) a.length (aN a)) (g:Nat) (B:aL W g #[] 68) (l:b≤g) :
  ∃ v' r,(Builtin.append_ #[33,33] 33 #[.slice (some ⟨g,0,none⟩) 0 0,.slice D a.length A]).run prog W=.ok v' r∧r.ownsRow b 68 3 v' a.length (aN a)∧aJ (fun k=>k=g) W r∧∃ s c,v'=.slice (some ⟨s,0,none⟩) a.length c∧a.length≤c∧c≤maxLen:=by
 obtain ⟨i,C,Q,E,F⟩:=info_parts CA;have e:W.ownsRow b 68 3 (.slice (some ⟨g,0,none⟩) 0 0) 0 []:=⟨rfl,aU ⟨g,0,#[],rfl,l,B,dF _,by decide,rfl,rfl⟩⟩;rcases o.2 with ⟨f,I⟩|⟨g1,cap1,cur,f,_,G,_,_,_,H⟩
 ·have h:a=[]:=wC I;subst h;simp only [Value.slice.injEq] at f;obtain ⟨rfl,_,rfl⟩:=f;exact ⟨_,_,run_append_owned_none W b _ _ _ i 3 underlying33 C _ 0 [] e,e,aJ.refl _ _,g,0,rfl,dF _,by decide⟩
 ·simp only [Value.slice.injEq] at f;obtain ⟨rfl,_,rfl⟩:=f;have t:aL W g1 cur 68:=G
  obtain ⟨v',r,O,z,d,n,_⟩:=run_append_own_at (P:=prog) (w:=W) b 33 33 68 i _ 3 48 underlying33 C Q E F rfl (by omega) _ 0 [] e ⟨g1,0,none⟩ a.length A (aN a) (lM a)
   (fun j u y=>by
    rw [show ((⟨g1,0,none⟩:Addr).add j)=⟨g1,j,none⟩ by cases j<;>simp [Addr.add],t.cell];have m:j<(aN a).length:=(A9.1 y).1;rw [←H,List.getElem?_take,aY (by rw [lM] at m;exact m),Array.getElem?_toList] at y;exact y)
   (fun u q=>by
    unfold aN at q;obtain ⟨p,_,q⟩:=List.mem_flatMap.1 q;simp only [mF,y5,or_false] at q;rcases q with rfl|rfl|rfl<;>rfl) (by unfold maxLen;omega) (by omega) (fQ l (Nat.le_of_lt B.lt))
  rw [Nat.zero_add,List.nil_append] at z;refine ⟨v',r,O,z,⟨d.os,d.tape,d.output,d.size,fun k M N=>d.block k M (fun L=>N (by simpa [Value.ownBlock] using L))⟩,?_⟩;rcases z.2 with ⟨f,_⟩|⟨s,c,_,f,_,_,v,x,_⟩
  ·have:=(n.1 f).1;simp at this
  ·exact ⟨s,c,f,v,x⟩
def vV (x:PX) (a:Nat) (out:List bS) (w w':World):Prop:=Below a w w'∧∃ b d c,dK x a w' b d c out∧b.verd=2
theorem XL (x:PX) (a:Nat) (w:World) (c:PC) (opens:List Bs) (bound:List aM) (out:List bS) (h:dK x a w c opens bound out) (c6:opens.length≤499999999) (X:bound.length=opens.length) (em:Bool) (d:Nat) (nm:Bs×Bs) (c4:nm.1.length≤1000000000) (c5:nm.2.length≤1000000000) (b:List cO) (b1:b.length≤1000000000) (sa:Option Addr) (sc:Nat)
  (b2:w.ownsRow a 68 3 (.slice sa b.length sc) b.length (aN b)) (c1:∀ k,(Value.slice sa b.length sc).ownBlock=some k→¬ fS x c k) (tx:Value) (b7:aL w d #[.int .i64 1,aB nm.1,aB nm.2,.slice sa b.length sc,tx,.int .i64 0] 35) (b5:a≤d) (b6:¬ fS x c d)
  (l:aM) (v9:Value) (hl:w.ownsRow a 177 2 v9 l.length (cJ l)) (c2:l.length≤1000000000) (c8:∀ k,v9.ownBlock=some k→¬ fS x c k) (Q:Exit→Act→World→Prop)
  (hE:(f8 x.space (l::bound) [] b=.error .opn∨(∃ A,f8 x.space (l::bound) [] b=.ok A∧nm.1=bD))→∀ f w',vV x a out w w'→Q .ret (fr 182 f [(6,.bool false)]) w')
  (hN:∀ A,f8 x.space (l::bound) [] b=.ok A→nm.1≠bD→A.length=b.length→∀ f w' c' g m,Below a w w'→c'.at'=c.at'→dK x a w' c' (dG nm::opens) (l::bound) out→aL w' d #[.int .i64 1,aB (cC x.space (l::bound) nm.1 true),aB nm.2,.slice (some ⟨g,0,none⟩) A.length m,tx,.int .i64 0] 35 →
   w'.ownsRow a 68 3 (.slice (some ⟨g,0,none⟩) A.length m) A.length (aN A)→¬ fS x c' g→Q .normal (fr 182 f [(0,iU x),(2,.bool em),(4,.pointer (some ⟨d,0,none⟩)),(7,aB nm.1),(8,aB nm.2)]) w') (f:Nat→Value) :
  (nX 17).wp prog Q (fr 182 f [(0,iU x),(2,.bool em),(4,.pointer (some ⟨d,0,none⟩)),(7,aB nm.1),(8,aB nm.2),(9,v9)]) w:=by
 have ⟨H,a9,a5,aC,a0,a8⟩:=gT h c6 X b1 b2 c1;have ⟨U,a4,D,HE,HN⟩:=pM b7 b5 b6 hE hN;have HO:=Lh (fun (Q:Exit→Act→World→Prop) hQ f=>Bc x a w c opens bound out h (by omega) X em d nm l v9 hl c2 c8 c4 c5 Q hQ f);clear h c6 X b1 b2 c1 b7 b5 b6 hE hN hl c2 c8 c4 c5;unfold nX;conv=>arg 2;whnf
 refine wp_seq_k (fun K hK=>?_);refine bB (HO.o _ (fun f w1 v6 v7 b3 F i=>?_) f) (by kernel_rfl);have dI:=Lh b3;have a6:=Lh (U.o.mod F D.o);have a1:=Lh (aE a0.o F a8.o);have L:=Lh (show ¬ fS x { c with op:=v6,bd:=v7 } d from fun j=>by
  obtain ⟨_,h6,_⟩:=i.op;obtain ⟨_,h7,_⟩:=i.bd;have h8:=aL.mod U.o F D.o;rcases j with j|j|j|j
  ·exact D.o (aG j)
  ·exact D.o (aU (aG j))
  ·exact row_ne h6 h8 (by decide) d j rfl
  ·exact row_ne h7 h8 (by decide) d j rfl)
 have M:=Lh (sH x a w1 { c with op:=v6,bd:=v7 } _ _ out i (by rw [f5,a5.o];have:=a9.o;omega) nm.1 true);have N:=Lh i;clear b3 F i HO U a0 a8;revert K;refine vg ?_;intro K hK K hK;refine M.o.mono ?_;rintro e2 w2 ⟨rfl,v⟩;obtain ⟨rs,aA⟩:=cK (cC x.space (l::bound) nm.1 true);rw [←aA];have d3:=Lh aA;have o:=a6.o.mod (aH v (fun _=>False)) id;have s:=Lh o;have J:=Lh (aE (S:=fun _=>False) a1.o (aH v _) (fun _ _=>id));have b0:=Lh (N.o.fresh (aH v (fun _=>False)));have a3:=Lh (dI.o.trans (v.mono N.o.size));have Y:=o.cell;have d4:=o.frozen;clear v o aA M;go_simp;(repeat revert K);refine vT 19 ?_;obtain ⟨n,z⟩:=cK (w2.setCell ⟨d,1,none⟩ (aB rs));rw [←z];have y:aL n d #[.int .i64 1,aB rs,aB nm.2,.slice sa b.length sc,tx,.int .i64 0] 35:=by
  have:=s.o.set 1 (aB rs);rw [z];simpa using this
 have R:dK x a n { c with op:=v6,bd:=v7 } (dG nm::opens) (l::bound) out:=by rw [z];exact b0.o.poke s.o L.o 1 _
 have Z:aJ (fun k=>k=d) w2 n:=by rw [z];exact aJ.setCell (S:=fun k=>k=d) (aJ.refl _ _) (p:=⟨d,1,none⟩) (aG rfl) _
 have a2:=Lh (aE J.o Z (row_ne J.o s.o (by decide)));have B:=Lh (aJ.below a3.o (fQ H.o.size a3.o.size) Z (fun k E=>by rw [E];exact a4.o));have ⟨a7,e⟩:=cB y R;obtain ⟨w4,I⟩:=cK (n.alloc (.cells #[] 68));have b4:aL w4 n.heap.size #[] 68:=by rw [I];exact aL.new n _ _
 have G:aJ (fun _=>False) n w4:=by rw [I];exact (aJ.refl _ n).alloc _
 obtain ⟨v',w5,P,O,c3,g,m,d5,b9,cT⟩:=XK n.heap.size b aC.o w4 sa sc a (aE (S:=fun _=>False) a2.o G (fun _ _=>id)) n.heap.size b4 (dF _);subst d5;have bA:=Lh O;have dT:=Lh (show Below n.heap.size n w5 from aJ.below (aJ.below (Below.refl _ n) (dF _) G (fun _ h=>h.elim)) G.size c3 (fun k E=>by rw [E];exact dF _));have ⟨d0,d1⟩:=cB b9 cT;have Y:=(show aL (n.alloc (.cells #[] 68)) d _ _ from y.alloc _).cell;clear z y R Z b4 G O c3 b9 cT;refine vB ?_;intro K hK;rw [←I];clear I;refine eP rfl (.tmp 122) (.tmp 124) _ _ rfl _ _ _ (by rw [bU (by decide)];(try simp only [aK,aO,aR,aW,Nat.reduceEqDiff,↓reduceIte]);(try rfl)) (by rw [bU (by decide)];(try simp only [aK,aO,aR,aW,Nat.reduceEqDiff,↓reduceIte]);(try rfl)) P ?_;clear P Y;rw [fG (by decide)];revert K;refine vg ?_;intro K hK;refine cG [0,2,4,7,8,13,126,127,128] fun f=>?_;refine T6 x a n { c with op:=v6,bd:=v7 } (dG nm::opens) (l::bound) out e.o (by rw [f5,a5.o];have:=a9.o;omega) em d nm b aC.o g m w5 dT.o bA.o d0.o d1.o _ (fun he f w' hp hm=>?_) (fun A hx c9 f w' j hr=>?_) f _ (by kernel_rfl)
 ·have V:=Lh (HE.o (aG he) f w' ⟨aJ.below B.o (fQ H.o.size B.o.size) hm (fun k E=>by rw [E];exact H.o.pb),_,_,_,e.o.own hp hm rfl rfl rfl,rfl⟩);clear he hp hm;revert K;refine vg ?_;intro K hK;exact V.o
 ·have T:=e.o.fresh (aH j (fun _=>False));have q:=a7.o.mod (aH j (fun _=>False)) id;have C:=Lh (B.o.trans (j.mono (fQ H.o.size B.o.size)));have ⟨u,t,bC,HX,W⟩:=pM T q hr hx c9;have Y:=q.cell;have d4:=q.frozen;clear T q j hr hx c9;cases h1:(nm.1==[120,109,108,110,115]) with
  | true=>
   have HF:=Lh (gW x w' w' { c with op:=v6,bd:=v7 } u.o.blk (aJ.refl _ _) 2);revert K;refine vg ?_;intro K hK K hK K hK;refine HF.o.mono ?_;rintro e7 w7 ⟨rfl,c7,r⟩;have V:=Lh (fun f=>HE.o (aU ⟨A,HX.o,yE h1⟩) f w7 ⟨aJ.below C.o (fQ H.o.size C.o.size) r (fun k E=>by rw [E];exact H.o.pb),_,_,_,u.o.own c7 r rfl rfl rfl,rfl⟩);clear c7 r;(repeat revert K);refine vS ?_;intro K hK;refine Qk [6] fun f=>?_;exact V.o f
  | false=>
   have d2:=Lh (HN.o A HX.o (yF h1) W.o);revert K;refine vg ?_;refine Qk [0,2,4,7,8] fun f=>?_;have r:aJ (fun k=>k=d) w' (w'.setCell ⟨d,3,none⟩ (.slice (some ⟨g,0,none⟩) b.length m)):=aJ.setCell (S:=fun k=>k=d) (aJ.refl _ _) (p:=⟨d,3,none⟩) (aG rfl) _;refine d2.o f _ { c with op:=v6,bd:=v7 } g m (aJ.below C.o (fQ H.o.size C.o.size) r (fun k E=>by rw [E];exact a4.o)) rfl (u.o.poke t.o L.o 3 _) ?_ ?_ ?_
   ·have:=t.o.set 3 (.slice (some ⟨g,0,none⟩) b.length m);rw [W.o,←d3.o];simpa using this
   ·have h9:=bC.o;rw [W.o] at h9 ⊢;exact m6 (aE h9 r (row_ne h9 t.o (by decide))) e.o.size
   ·intro j;have h8:=(e.o.busy j).2;have h9:=(aS bC.o (g:=g) rfl).2;omega
def CJ (a:Bs) (bound:List aM) (nm:Bs×Bs) (b:List cO):Except SV (aM×List cO):=match eB b with
 | .error e=>.error e
 | .ok l=>match f8 a (l::bound) [] b with
  | .error e=>.error e
  | .ok xs=>if nm.1=bD then .error .opn else .ok (l,xs)
theorem L9 (a:Bs) (s:gN) (nm:Bs×Bs) (b:List cO) (h:¬ nm=([],bD)):mQ false a s nm b=match CJ a s.bound nm b with
  | .error e=>.error e
  | .ok (l,xs)=>.ok (.start (cC a (l::s.bound) nm.1 true,nm.2) xs,{ s with opens:=dG nm::s.opens,bound:=l::s.bound }):=by
 unfold mQ CJ;rw [aQ (by simp),aQ h];cases eB b with
 | error e=>rfl
 | ok l=>
  simp only;cases f8 a (l::s.bound) [] b with
  | error e=>rfl
  | ok xs=>
   simp only;by_cases c:nm.1=bD
   ·rw [aY c,aY c]
   ·rw [aQ c,aQ c]
theorem vV.of {x:PX} {a:Nat} {out:List bS} {w w1 w':World} (b:Below a w w1) (h:vV x a out w1 w'):vV x a out w w':=⟨b.trans h.1,h.2⟩
theorem Z7 (x:PX) (a:Nat) (w:World) (c:PC) (opens:List Bs) (bound:List aM) (out:List bS) (h:dK x a w c opens bound out) (L:opens.length≤499999999) (B:bound.length=opens.length) (em:Bool) (j:Nat) (nm:Bs×Bs) (F:nm.1.length≤1000000000) (G:nm.2.length≤1000000000) (b:List cO) (u:b.length≤1000000000) (O:Option Addr) (P:Nat)
  (y:w.ownsRow a 68 3 (.slice O b.length P) b.length (aN b)) (D:∀ k,(Value.slice O b.length P).ownBlock=some k→¬ fS x c k) (tx:Value) (p:aL w j #[.int .i64 1,aB nm.1,aB nm.2,.slice O b.length P,tx,.int .i64 0] 35) (z:a≤j) (C:¬ fS x c j) (Q:Exit→Act→World→Prop)
  (hE:CJ x.space bound nm b=.error .opn→∀ f w',vV x a out w w'→Q .ret (fr 182 f [(6,.bool false)]) w')
  (hN:∀ l i,CJ x.space bound nm b=.ok (l,i)→i.length=b.length→∀ f w' t g d,Below a w w'→t.at'=c.at'→dK x a w' t (dG nm::opens) (l::bound) out→aL w' j #[.int .i64 1,aB (cC x.space (l::bound) nm.1 true),aB nm.2,.slice (some ⟨g,0,none⟩) i.length d,tx,.int .i64 0] 35 →
   w'.ownsRow a 68 3 (.slice (some ⟨g,0,none⟩) i.length d) i.length (aN i)→¬ fS x t g→Q .normal (fr 182 f [(0,iU x),(2,.bool em),(4,.pointer (some ⟨j,0,none⟩)),(7,aB nm.1),(8,aB nm.2)]) w') (f:Nat→Value) :
  (nX 5).wp prog Q (fr 182 f [(0,iU x),(2,.bool em),(4,.pointer (some ⟨j,0,none⟩)),(7,aB nm.1),(8,aB nm.2)]) w:=by
 have a3:=p.cell;have ⟨H,a0,U,n,q,X⟩:=gT h L B u y D;have ⟨W,T,V,HE,HN,Z⟩:=gT p z C hE hN F;have aA:=Lh G;clear h L B u y D p z C hE hN F G;unfold nX;conv=>arg 2;whnf
 refine vg ?_;intro K hK;refine cG [0,2,4,7,8,9,36,37,38] fun f=>?_;clear a3;refine W8 x w c H.o.blk em j nm b n.o O P a q.o _ (fun e f w' hp hm=>?_) (fun l hl E f v w' m hr=>?_) f _ (by kernel_rfl)
 ·have o:=Lh (HE.o (by unfold CJ;rw [e]) f w' ⟨aJ.below (Below.refl _ w) H.o.size hm (fun k hk=>by rw [hk];exact H.o.pb),_,_,_,H.o.own hp hm rfl rfl rfl,rfl⟩);clear e hp hm;revert K;refine vg ?_;intro K hK;exact o.o
 ·have HB:=Lh (m.mono H.o.size);have a1:=Lh (H.o.fresh (aH m (fun _=>False)));have r:=Lh (aE (S:=fun _=>False) q.o (aH m _) (fun _ _=>id));have s:=Lh (W.o.mod (aH m (fun _=>False)) id);have HR:=Lh (m6 hr H.o.size);have HV:=Lh (show ∀ k,v.ownBlock=some k→¬ fS x c k from fun k hk a2=>by
   have h8:=(H.o.busy a2).2;have h9:=(aS hr hk).2;omega)
  have ⟨HL,Y⟩:=cB hl E;clear m hr hl E;revert K;refine vT 17 ?_;refine cG [0,2,4,7,8,9] fun f=>?_;refine bB (XL x a w' c opens bound out a1.o a0.o U.o em j nm Z.o aA.o b n.o O P r.o X.o tx s.o T.o V.o l v HR.o (by have:=Y.o;have:=n.o;omega) HV.o _ (fun e f w2 ho=>?_) (fun i R J N f w2 t g d m ha hs A M I=>?_) f) (by kernel_rfl)
  ·have o:=Lh (HE.o (by
    unfold CJ;rw [HL.o];rcases e with e|⟨i,e,R⟩
    ·simp only [e]
    ·simp only [e,aY R]) f w2 (vV.of HB.o ho))
   clear e ho;refine vg ?_;exact o.o
  ·have aC:=Lh (HN.o l i (by unfold CJ;rw [HL.o];simp only [R,aQ J]) N f w2 t g d (HB.o.trans m) ha hs A M I);clear R J N m ha hs A M I;refine vg ?_;exact aC.o
theorem QH (x:PX) (d:Nat) (O:x.raw=false) (cT:PS x d):TU x d:=by
 intro w c opens bound out h aC dI c5 ha nm c8 c9 p sa sl sc c4 bA c6 em o b3 dT;have e0:=tE bA;subst e0;show Calls prog 60 #[iU x,.agg #[.int .i64 1,aB nm.1,aB nm.2,.slice sa p.length sc,aB [],.int .i64 0],.bool em] w _;obtain ⟨wa,Y⟩:=cK (w.alloc (.cells #[.int .i64 1,aB nm.1,aB nm.2,.slice sa p.length sc,aB [],.int .i64 0] 35));have X:aJ (fun _=>False) w wa:=by rw [Y];exact (aJ.refl _ w).alloc _
 have bC:aL wa w.heap.size #[.int .i64 1,aB nm.1,aB nm.2,.slice sa p.length sc,aB [],.int .i64 0] 35:=by rw [Y];exact aL.new w _ _
 have b4:dK x d wa c opens bound out:=h.fresh X;have d9:=b4.blk.cell;have L:=bC.cell;have ⟨c1,d4⟩:=cB b4 bC;have d3:=Lh (aE (S:=fun _=>False) bA X (fun _ _=>id));have d6:=Lh c6;have d5:=Lh (show Below d w wa from aJ.below (Below.refl _ w) h.size X (fun i hi=>hi.elim));have b7:=Lh (show d≤w.heap.size∧¬ fS x c w.heap.size from ⟨h.size,fun hb=>Nat.lt_irrefl _ (h.busy hb).2⟩);have ⟨z,HA,a5,a1,a3,a4⟩:=gT aC ha dI c5 c8 c9;have ⟨d1,b9⟩:=cB c4 cT;have aA:=Lh (show ∀ (q:¬ nm=([],bD)),kE o ⟨x.T.drop c.at',opens,bound⟩ (.start nm p) em=match CJ x.space bound nm p with
   | .error e=>.error e
   | .ok (l,m)=>if em then (match eJ x.raw x.space ⟨x.T.drop c.at',dG nm::opens,l::bound⟩ nm with
     | .error e=>.error e
     | .ok (t2,s3)=>.ok ([.start (cC x.space (l::bound) nm.1 true,nm.2) m,t2],s3))
    else .ok ([.start (cC x.space (l::bound) nm.1 true,nm.2) m],⟨x.T.drop c.at',dG nm::opens,l::bound⟩) by
  intro q;unfold kE;rw [b3,O,dT];simp only;rw [L9 _ _ _ _ q];simp only;cases CJ x.space bound nm p with
  | error e=>rfl
  | ok y=>rfl)
 have V:=Lh (show ∀ l,eJ x.raw x.space ⟨x.T.drop c.at',dG nm::opens,l::bound⟩ nm=.ok (.fin (cC x.space (l::bound) nm.1 true,nm.2),⟨x.T.drop c.at',opens,bound⟩) from fun l=>by
  unfold eJ;rw [O];simp)
 have d7:=Lh (show nm=([],bD)→kE o ⟨x.T.drop c.at',opens,bound⟩ (.start nm p) em=.error .opn from fun he=>by
  unfold kE mQ;rw [b3,O];simp only;rw [aQ (by simp),aY he])
 clear h aC dI c5 ha c8 c9 bA c6 X bC b4 cT b3 dT c4;refine eL 182 func60 [_,_,_] fun f=>?_;simp only [aF];refine vT 1 ?_;rw [←Y];clear Y;refine vg ?_;intro K hK;go_quiet (fail);revert K;refine vT 2 ?_;obtain ⟨wb,b5⟩:=cK (wa.drewN nq);rw [←b5];have M:aJ (fun _=>False) wa wb:=by rw [b5];exact (aJ.refl _ wa).drewN _
 have j:=Lh (c1.o.fresh M);have n:=Lh (show Below d w wb from aJ.below d5.o c1.o.size M (fun _ h=>h.elim));have Z:=Lh (fun (Q:Exit→Act→World→Prop) hE hN f=>Z7 x d wb c opens bound out j.o a5.o a1.o em w.heap.size nm a3.o a4.o p d1.o sa sc (aE (S:=fun _=>False) d3.o M (fun _ _=>id)) d6.o (aB []) (d4.o.mod M id) b7.o.1 b7.o.2 Q hE hN f);have hc:=j.o.blk.cell;have hf:=j.o.blk.frozen;clear b5 M d9 L;by_cases B:nm.1=[]
 ·cases h2:(nm.2==[120,109,108,110,115]) with
  | true=>
   have HR:=Lh (d7.o (by obtain ⟨a,b⟩:=nm;simp only at B h2;rw [B,yE h2]));have HF:=Lh (gW x wb wb c j.o.blk (aJ.refl _ _) 2);have h3:nm.1.isEmpty=true:=by rw [B];rfl
   refine vg ?_;intro K hK K hK K hK K hK;refine HF.o.mono ?_;rintro e6 w6 ⟨rfl,d0,b1⟩;have r:=Lh (aJ.below n.o j.o.size b1 (fun k hk=>by rw [hk];exact j.o.pb));have c3:=Lh (j.o.own d0 b1 rfl rfl rfl);clear d0 b1;(repeat revert K);refine vS ?_;intro K hK K hK;refine cM ?_;rw [HR.o];exact ⟨r.o,rfl,_,_,_,c3.o,rfl⟩
  | false=>
   have q:¬ nm=([],bD):=fun hh=>yF h2 (by rw [hh]);have h3:nm.1.isEmpty=true:=by rw [B];rfl
   clear B;have HR:=Lh (aA.o q);clear q;refine vT 5 ?_;intro K hK;refine cG [0,2,4,7,8] fun f=>?_;refine bB (Z.o _ (fun he f w2 ho=>?_) (fun l m hx T f w2 c2 g E hb I hs u P N=>?_) f) (by kernel_rfl)
   ·have HO:=Lh (vV.of n.o ho);have a6:=Lh (HR.o.trans (by rw [he]));clear he ho hc hf;revert K;refine vg ?_;intro K hK;refine cM ?_;rw [a6.o];obtain ⟨W,c7,b6,a9,h8,t⟩:=HO.o;exact ⟨W,rfl,c7,b6,a9,h8,t⟩
   ·obtain ⟨a2,o2,U,D,F⟩:=c2;have J:a2=c.at':=I;subst J;clear I hc hf;have a0:=Lh (n.o.trans hb);have ⟨a8,a7⟩:=cB hs P;have HX:=Lh (HR.o.trans (by rw [hx]));have d8:=Lh T;obtain ⟨A,v⟩:=cK (cC x.space (l::bound) nm.1 true);have s:=Lh v;rw [←v] at u;have L:=u.cell;have C:=Lh (fun (w':World) (B:dK x d w' ⟨c.at',o2,U,D,F⟩ (dG nm::opens) (l::bound) out) (h2:w'.ownsRow d 68 3 (.slice (some ⟨g,0,none⟩) m.length E) m.length (aN m))=>GS x d w' ⟨c.at',o2,U,D,F⟩ (dG nm::opens) (l::bound) out B (by have:=z.o;omega) ((aP.start (A,nm.2) m).itok []) (some ⟨g,0,none⟩) m.length E 0 h2 (fun k hk=>by
     have b0:g=k:=by simpa [Value.ownBlock] using hk
     rw [←b0];exact N))
    clear hb hs u P hx T v N;revert K;refine vg ?_;intro K hK K hK;refine (C.o _ (by exact a8.o) (by exact a7.o)).mono ?_;rintro e6 w6 ⟨rfl,H,v6,h6⟩;have r:=Lh (a0.o.trans H);have H6:=Lh h6;clear H h6 L;go_simp;cases em with
    | false=>
     (repeat revert K);refine vg ?_;refine cM ?_;rw [HX.o];refine ⟨r.o,rfl,⟨c.at',v6,U,D,F⟩,?_,HA.o,rfl⟩;rw [←s.o];exact H6.o
    | true=>
     have HC:=Lh (b9.o w6 ⟨c.at',v6,U,D,F⟩ (dG nm::opens) (l::bound) _ H6.o (by have:=z.o;rw [fP];simp;omega) (by have:=a5.o;rw [f5];omega) (by rw [f5,f5,a1.o]) HA.o nm a3.o a4.o);(repeat revert K);refine vg ?_;intro K hK K hK K hK;refine HC.o.mono ?_;rintro e7 w7 W;have h8:fU x d out w (.ok ([.start (A,nm.2) m,.fin (A,nm.2)],⟨x.T.drop c.at',opens,bound⟩)) e7 w7:=fU.snoc (a:=c.at') r.o HA.o rfl (by
      have t:=W;rw [show eJ x.raw x.space ⟨x.T.drop (⟨c.at',v6,U,D,F⟩:PC).at',dG nm::opens,l::bound⟩ nm=.ok (.fin (A,nm.2),⟨x.T.drop c.at',opens,bound⟩) by rw [s.o];exact V.o l] at t;exact t)
     obtain ⟨t,rfl,G⟩:=h8;have H8:=Lh (show fU x d out w (.ok ([.start (A,nm.2) m,.fin (A,nm.2)],⟨x.T.drop c.at',opens,bound⟩)) (.returned (.bool true)) w7 from ⟨t,rfl,G⟩);clear W t G;(repeat revert K);refine vS ?_;intro K hK;refine cM ?_;have R:=HX.o;simp only [↓reduceIte,V.o] at R;rw [R,←s.o];exact H8.o
 ·have q:¬ nm=([],bD):=fun hh=>B (by rw [hh]);have h3:nm.1.isEmpty=false:=by
   obtain ⟨a,b⟩:=nm;cases a with
   | nil=>exact absurd rfl B
   | cons=>rfl
  clear B;have HR:=Lh (aA.o q);clear q;refine vT 5 ?_;intro K hK;refine cG [0,2,4,7,8] fun f=>?_;refine bB (Z.o _ (fun he f w2 ho=>?_) (fun l m hx T f w2 c2 g E hb I hs u P N=>?_) f) (by kernel_rfl)
  ·have HO:=Lh (vV.of n.o ho);have a6:=Lh (HR.o.trans (by rw [he]));clear he ho hc hf;revert K;refine vg ?_;intro K hK;refine cM ?_;rw [a6.o];obtain ⟨W,c7,b6,a9,h8,t⟩:=HO.o;exact ⟨W,rfl,c7,b6,a9,h8,t⟩
  ·obtain ⟨a2,o2,U,D,F⟩:=c2;have J:a2=c.at':=I;subst J;clear I hc hf;have a0:=Lh (n.o.trans hb);have ⟨a8,a7⟩:=cB hs P;have HX:=Lh (HR.o.trans (by rw [hx]));have d8:=Lh T;obtain ⟨A,v⟩:=cK (cC x.space (l::bound) nm.1 true);have s:=Lh v;rw [←v] at u;have L:=u.cell;have C:=Lh (fun (w':World) (B:dK x d w' ⟨c.at',o2,U,D,F⟩ (dG nm::opens) (l::bound) out) (h2:w'.ownsRow d 68 3 (.slice (some ⟨g,0,none⟩) m.length E) m.length (aN m))=>GS x d w' ⟨c.at',o2,U,D,F⟩ (dG nm::opens) (l::bound) out B (by have:=z.o;omega) ((aP.start (A,nm.2) m).itok []) (some ⟨g,0,none⟩) m.length E 0 h2 (fun k hk=>by
    have b0:g=k:=by simpa [Value.ownBlock] using hk
    rw [←b0];exact N))
   clear hb hs u P hx T v N;revert K;refine vg ?_;intro K hK K hK;refine (C.o _ (by exact a8.o) (by exact a7.o)).mono ?_;rintro e6 w6 ⟨rfl,H,v6,h6⟩;have r:=Lh (a0.o.trans H);have H6:=Lh h6;clear H h6 L;go_simp;cases em with
   | false=>
    (repeat revert K);refine vg ?_;refine cM ?_;rw [HX.o];refine ⟨r.o,rfl,⟨c.at',v6,U,D,F⟩,?_,HA.o,rfl⟩;rw [←s.o];exact H6.o
   | true=>
    have HC:=Lh (b9.o w6 ⟨c.at',v6,U,D,F⟩ (dG nm::opens) (l::bound) _ H6.o (by have:=z.o;rw [fP];simp;omega) (by have:=a5.o;rw [f5];omega) (by rw [f5,f5,a1.o]) HA.o nm a3.o a4.o);(repeat revert K);refine vg ?_;intro K hK K hK K hK;refine HC.o.mono ?_;rintro e7 w7 W;have h8:fU x d out w (.ok ([.start (A,nm.2) m,.fin (A,nm.2)],⟨x.T.drop c.at',opens,bound⟩)) e7 w7:=fU.snoc (a:=c.at') r.o HA.o rfl (by
     have t:=W;rw [show eJ x.raw x.space ⟨x.T.drop (⟨c.at',v6,U,D,F⟩:PC).at',dG nm::opens,l::bound⟩ nm=.ok (.fin (A,nm.2),⟨x.T.drop c.at',opens,bound⟩) by rw [s.o];exact V.o l] at t;exact t)
    obtain ⟨t,rfl,G⟩:=h8;have H8:=Lh (show fU x d out w (.ok ([.start (A,nm.2) m,.fin (A,nm.2)],⟨x.T.drop c.at',opens,bound⟩)) (.returned (.bool true)) w7 from ⟨t,rfl,G⟩);clear W t G;(repeat revert K);refine vS ?_;intro K hK;refine cM ?_;have R:=HX.o;simp only [↓reduceIte,V.o] at R;rw [R,←s.o];exact H8.o
end Go.Proofs.YthapcchcahnfaaaGreatDoor
