/- Part of the proof that laws.FnWithin returns true for every argument. No conditions. -/
import Derived.Test.YthapcchcahnfaaaGreatDoorQ43
import Derived.Test.YthapcchcahnfaaaGreatDoorQ46
import Derived.Test.YthapcchcahnfaaaGreatDoorQ09
import Derived.Test.YthapcchcahnfaaaGreatDoorQ39
import Derived.Test.YthapcchcahnfaaaGreatDoorQ47
set_option linter.all false
set_option maxHeartbeats 8000000
set_option maxRecDepth 100000
namespace Go.Proofs.YthapcchcahnfaaaGreatDoor
open Go Go.RowKit Go.Proofs.Tryz
theorem m5 {w:World} {b f:Nat} {e:TypeId} {a:Nat} {v:Value} {n:Nat} {j:List Value} (h:w.ownsRow b e a v n j) (p:f≤b):w.ownsRow f e a v n j:=by
 obtain ⟨i,k|⟨g,c,d,l,m,o⟩⟩:=h
 ·exact ⟨i,aG k⟩
 ·exact ⟨i,aX ⟨g,c,d,l,gA p m,o⟩⟩
theorem UE (ents:aN) {T:Bs} {a b m:Nat} {acc:List cV} (c:aQ (T.drop a)=T.drop b) (h:T.length≤b):dD ents (m+1) (T.drop a) acc=.error .bad:=by
 unfold dD;rw [c,t6 h]
theorem XZ (ents:aN) {T:Bs} {a b m:Nat} {acc:List cV} (d:aQ (T.drop a)=T.drop b) (c:b<T.length) (h:T.getD b 0=62):dD ents (m+1) (T.drop a) acc=.ok (acc,false,T.drop (b+1)):=by
 unfold dD;rw [d,bX T b c];simp only [aT h]
theorem X0 (ents:aN) {T:Bs} {a b m:Nat} {acc:List cV} (g:aQ (T.drop a)=T.drop b) (e:b<T.length) (h:T.getD b 0=47):dD ents (m+1) (T.drop a) acc=if ([62]:Bs).isPrefixOf (T.drop (b+1)) then .ok (acc,true,T.drop (b+2)) else .error .bad:=by
 unfold dD;rw [g,bX T b e];simp only [aM (show ¬ T.getD b 0=62 by rw [h];decide),aT h];by_cases d:b+1<T.length
 ·rw [dG 62 T (b+1) d,bX T (b+1) d];by_cases c:T.getD (b+1) 0=62
  ·simp only [aT c];rw [aT (by rw [c];rfl)]
  ·simp only [aM c];rw [aM (by rw [beq_iff_eq];exact fun f=>c f.symm)]
 ·rw [t6 (by omega)];rfl
theorem X1 (ents:aN) {T:Bs} {a b m:Nat} {acc:List cV} (f:aQ (T.drop a)=T.drop b) (p:a≤T.length) (n:b<T.length) (h:¬ T.getD b 0=62) (i:¬ T.getD b 0=47):dD ents (m+1) (T.drop a) acc=match eH ents (T.drop b) with
  | .error e=>.error e
  | .ok (at',r2)=>if ¬ a<b then .error .opn else if acc.any (fun x=>x.1==at'.1&&x.2.1==at'.2.1) then .error .opn else dD ents m r2 (acc++[at']):=by
 have e:((T.drop b).length=(T.drop a).length)↔¬ a<b:=by
  rw [eO,eO];have:=congrArg List.length f;have k:∀ l:Bs,(aQ l).length≤l.length:=by
   intro l;induction l with
   | nil=>exact dC _
   | cons c r ih=>
    unfold aQ;split
    ·rw [gF];omega
    ·exact dC _
  have j:=k (T.drop a);rw [this,eO,eO] at j;omega
 conv=>lhs;unfold dD
 rw [f];have o:=bX T b n;have g:(match T.drop b with
  | []=>.error .bad
  | d::r=>
   if d=62 then .ok (acc,false,r)
   else if d=47 then (match r with
    | []=>.error .bad
    | c::r2=>if c=62 then .ok (acc,true,r2) else .error .bad)
   else match eH ents (d::r) with
    | .error e=>.error e
    | .ok (a',r2)=>
     if (T.drop b).length=(T.drop a).length then .error .opn
     else if acc.any (fun x=>x.1==a'.1&&x.2.1==a'.2.1) then .error .opn
     else dD ents m r2 (acc++[a']):Except SV (List cV×Bool×Bs))=match eH ents (T.drop b) with
  | .error e=>.error e
  | .ok (at',r2)=>if ¬ a<b then .error .opn else if acc.any (fun x=>x.1==at'.1&&x.2.1==at'.2.1) then .error .opn else dD ents m r2 (acc++[at']):=by
  simp only [e];rw [o];simp only [aM h,aM i]
 exact g
def JW (o:lT) (opens:List Bs) (bound:List aN) (r:Except SV ((Bs×Bs)×List cV×Bool×Bs)):Except SV (List aU×gS):=match r with
 | .error e=>.error e
 | .ok (nm,ats,em,r)=>kC o ⟨r,opens,bound⟩ (.start nm ats) em
def Aj (x:PX) (c:PC) (ents:aN) (b:Nat) (nm:Bs×Bs) (j i:Nat) (w0:World) (k:Nat) (h:Act) (w:World):Prop:=
 ∃ f a acc d g e m,h=fr 83 f [(0,jA x),(6,.pointer (some ⟨b,0,none⟩))]∧aV x w { c with at':=a }∧aJ w b #[.int .i64 1,aB nm.1,aB nm.2,.slice d g e,aB [],.int .i64 0] 35∧w.ownsRow w0.heap.size 68 3 (.slice d g e) acc.length (aO acc)∧(Value.slice d g e).ownBlock≠some b∧aK (fun k=>k=x.p) w0 w ∧
  k=x.T.length-a∧a≤x.T.length∧c.at'≤a∧acc.length≤a∧x.T.length-a<m∧dD ents i (x.T.drop j) []=dD ents m (x.T.drop a) acc
theorem rF {α:Type} {l:List α} {i:Nat} {a:α} {p:α→Bool} (h:l[i]?=some a) (b:(l.take i).any p=false) (c:p a=false):(l.take (i+1)).any p=false:=by
 rw [List.take_add_one,h,List.any_append,b];simp [c]
def Ak (e d c v:Value) (a:cV) (acc:List cV) (w0:World) (k:Nat) (b:Act) (w:World):Prop:=
 ∃ f i,b=fr 83 f [(0,e),(6,d),(8,c),(56,v),(57,.int .i64 (acc.length:Nat)),(58,.int .i64 (i:Nat))]∧Below w0.heap.size w0 w∧k=acc.length-i∧i≤acc.length∧((acc.take i).any (fun x=>x.1==a.1&&x.2.1==a.2.1))=false
theorem QS {ents:aN} {q:UInt8}:∀ (k:Nat) (T:Bs) (a:Nat) (out v r:Bs),pS ents q k (T.drop a) out=.ok (v,r)→r.length<T.length-a
 | 0,_,_,_,_,_,h=>by cases h
 | k+1,T,a,out,v,r,h=>by
  by_cases c:a<T.length
  ·by_cases b:T.getD a 0=q
   ·rw [IE ents c b] at h;simp only [bT,bP] at h;rw [←h.2,eO];omega
   ·by_cases d:T.getD a 0=60
    ·rw [QH ents c b d] at h;cases h
    ·by_cases g:T.getD a 0≠32∧lR (T.getD a 0)=true
     ·rw [QI ents c b d g] at h;cases h
     ·rw [E5 ents c b d g] at h;cases f:fN ents (T.drop a) with
      | error e=>rw [f] at h;cases h
      | ok p=>
       obtain ⟨t,i⟩:=p;rw [f] at h;simp only at h;have j:=nP f;have l:=QS k i 0 (out++t) v r (by simpa using h);omega
  ·rw [ID ents (by omega)] at h;cases h
theorem fX.bool {x:PX} {a:Nat} {out:List cA} {w:World} {r:Except SV (List aU×gS)} {e:Ending} {w':World} (h:fX x a out w r e w'):∃ b,e=.returned (.bool b):=by
 obtain ⟨_,c⟩:=h;split at c
 ·exact ⟨_,c.1⟩
 ·exact ⟨_,c.1⟩
theorem wZ:∀ l:Bs,(aQ l).length≤l.length
 | []=>dC _
 | c::r=>by
  have ih:=wZ r;unfold aQ;split
  ·rw [gF];omega
  ·exact dC _
theorem UF {ents:aN} {rest r:Bs} {v:cV} (h:eH ents rest=.ok (v,r)):r.length<rest.length:=by
 unfold eH at h;cases d:fP rest with
 | error e=>rw [d] at h;cases h
 | ok p=>
  obtain ⟨nm,k⟩:=p;have n:=(nC (f:=false) d).2.2.2;rw [d] at h;simp only at h;have g:=wZ k;cases j:aQ k with
  | nil=>rw [j] at h;cases h
  | cons b r2=>
   rw [j] at h g;simp only at h;rw [gF] at g;split at h
   ·have i:=wZ r2;cases a:aQ r2 with
    | nil=>rw [a] at h;cases h
    | cons q r3=>
     rw [a] at h i;simp only at h;rw [gF] at i;split at h
     ·cases c:pS ents q (r3.length+1) r3 [] with
      | error e=>rw [c] at h;cases h
      | ok p=>
       obtain ⟨m,l⟩:=p;rw [c] at h;simp only [bT,bP] at h;have o:=QS (r3.length+1) r3 0 [] m l (by simpa using c);rw [←h.2];omega
     ·cases h
   ·cases h
theorem QT (x:PX) (hT:x.T.length≤100000000) (y:Nat) (ents:aN) (j5:nO ents) (j0:UA x y) (o:lT) (mR:o.raw=x.raw) (m1:o.space=x.space) (w:World) (c:PC) (opens:List Bs) (bound:List aN) (out:List cA) (h:dN x y w c opens bound out) (g0:out.length≤499999999) (mK:opens.length≤499999999) (k5:bound.length=opens.length) (ha:c.at'≤x.T.length) (hE:pK x y ents w) :
  Calls prog 34 #[jA x] w (fX x y out w (JW o opens bound (fA ents (x.T.drop c.at')))):=by
 have hI:x.T.length≤1000000000:=by omega
 have HN:=Lh (CG x hI w c h.blk ha);have ⟨H,HT,V,HE,n8,i2⟩:=iD h hT hI hE j5 g0;have ⟨o3,n6,o9,p0,p1⟩:=pI mK k5 j0 mR m1;have c1:=Lh (show fA ents (x.T.drop c.at')=match fP (x.T.drop c.at') with
  | .error e=>.error e
  | .ok (nm,r)=>match dD ents (r.length+1) r [] with
   | .error e=>.error e
   | .ok (ats,em,r2)=>.ok (nm,ats,em,r2) from rfl)
 clear h hT hI hE j5 g0 mK k5 j0 ha mR m1;refine eT 83 func34 [_] fun f=>?_;simp only [aF];refine vg ?_;intro K hK K hK;refine HN.o.mono ?_;rintro e1 w1 ⟨c5,W⟩;have i3:=Lh c5;cases hn:fP (x.T.drop c.at') with
 | error k=>
  rw [hn] at W c1;obtain ⟨⟨a1,a9⟩,rfl⟩:=W;have p2:=Lh a9;clear a9 c5 HN;(repeat revert K);refine vS ?_;intro K hK;refine cX ?_;exact fX.err (w1:=w) (k:=k) H.o p2.o i3.o (by rw [c1.o];rfl)
 | ok q=>
  obtain ⟨nm,r⟩:=q;have i9:=Lh (FF hn);rw [hn] at W c1;obtain ⟨a1,nE,f7,f4,a9,rfl⟩:=W;have n0:r=x.T.drop a1:=nE;subst n0;obtain ⟨wa,c9⟩:=cR (w1.alloc (.cells #[.int .i64 1,aB nm.1,aB nm.2,.slice none 0 0,aB [],.int .i64 0] 35));have j3:=Lh (show aV x wa { c with at':=a1 } by rw [c9];exact a9.alloc _);have Z:=Lh (show aJ wa w1.heap.size #[.int .i64 1,aB nm.1,aB nm.2,.slice none 0 0,aB [],.int .i64 0] 35 by rw [c9];exact aJ.new w1 _ _);have i7:=Lh (show aK (fun k=>k=x.p) w wa by rw [c9];exact c5.alloc _);obtain ⟨bt,d8⟩:=cR w1.heap.size;rw [←d8] at Z;have n7:=Lh (show w.heap.size≤bt by rw [d8];exact c5.size);have L:=Lh (show ¬ bt=x.p by have:=aJ.lt a9;omega);have oT:=Lh f7;have n9:=Lh (show c.at'≤a1 from f4);obtain ⟨m0,hO⟩:=cR ((x.T.drop a1).length+1);have o1:=Lh (show x.T.length-a1<m0 by rw [hO,eO];omega);have D:=Lh (show fA ents (x.T.drop c.at')=match dD ents m0 (x.T.drop a1) [] with
   | .error e=>.error e
   | .ok (ats,em,r2)=>.ok (nm,ats,em,r2) by rw [c1.o,hO])
  clear a9 c5 HN nE f7 f4 hO c1;(repeat revert K);refine vS ?_;rw [←c9,←d8];clear c9 d8;refine cM [0,6] fun f=>?_;refine wp_loop_ghost_k (Aj x c ents bt nm a1 m0 w) (x.T.length-a1) ⟨f,a1,[],none,0,0,m0,rfl,j3.o,Z.o,⟨rfl,aG ⟨rfl,rfl⟩⟩,by simp [Value.ownBlock],i7.o,rfl,oT.o,n9.o,kW _,o1.o,rfl⟩ ?_;clear j3 Z i7 i3;rintro k _ w2 ⟨f,a,acc,sa,sl,sc,m,rfl,hp,hb,a5,g1,hm,hk,hN,l3,k0,mI,n3⟩ J K2 hJ j7;obtain ⟨m',rfl⟩:∃ m',m=m'+1:=⟨m-1,by omega⟩;have ⟨HJ,oC,HB,f1,i8,HM⟩:=iD hJ j7 hb a5 g1 hm;have ⟨HK,d2,oA,dI,o2,d6⟩:=iD hk hN l3 k0 mI n3;have h0:=Lh (mH x V.o w2 { c with at':=a } hp hN);have n4:=tH a5;subst n4;have M:=Lh (show (Value.slice sa acc.length sc).ownBlock≠some x.p from fun A=>by have W:=(aS a5 A).2;have h2:=aJ.lt H.o.blk;omega);clear hJ j7 hp hb a5 g1 hm hk hN l3 k0 mI n3;refine vg ?_;intro K hK K hK;refine h0.o.mono ?_;rintro e2 w3 ⟨n,rfl,m3,e0,f9,f6,n5⟩;have j2:=Lh (show aV x w3 { c with at':=n } from m3);have hU:=Lh (HB.o.mod e0 L.o);have b6:=Lh (aE f1.o e0 (fun g E A=>M.o (by rw [←A];exact E)));have i4:=Lh (HM.o.trans e0 (fun _ _ h=>h));have b2:=Lh f9;have d1:=Lh (show a≤n from f6);have d7:=Lh (show aQ (x.T.drop a)=x.T.drop n from n5);obtain ⟨sp,hP⟩:=cR (decide (a<n));have g5:decide ((({ c with at':=a }:PC).at':Int)<(n:Int))=sp:=by rw [hP];simp
  rw [g5];have f2:=Lh hP;clear m3 e0 f9 f6 n5 h0 hP g5 HB f1 HM;have d0:=Lh (fun (b:Nat) (w':World) (W:aV x w' { c with at':=b }) (h2:aK (fun k=>k=x.p) w w') (v:Int)=>hZ x w w' { c with at':=b } W h2 v);have b5:=Lh (fun (b:Nat) (hb:b≤x.T.length) (w':World) (W:aV x w' { c with at':=b }) (h2:aK (fun k=>k=x.p) w w') (h3:w'.ownsRow w.heap.size 68 3 (.slice sa acc.length sc) acc.length (aO acc)) (em:Bool)=>
   o9.o w' { c with at':=b } opens bound out (H.o.own W h2 rfl rfl rfl) i2.o o3.o n6.o hb nm (by have s:=i9.o.1;rw [eO] at s;have:=HT.o;omega) (by have s:=i9.o.2;rw [eO] at s;have:=HT.o;omega) acc sa acc.length sc (by have:=dI.o;have:=HT.o;have:=d2.o;omega)
    (m5 h3 H.o.size) (fun g E hM=>by have h8:=(H.o.busy (show fW x c g from hM)).2;have s:=(aS h3 E).2;omega) em o p0.o p1.o)
  go_simp;cases Q:([62]:Bs).isPrefixOf (x.T.drop n) with
  | true=>
   have U:=Lh (iL x V.o w3 { c with at':=n } j2.o b2.o [62] (by decide) Q);have z:=kO Q (by decide);have HR:=Lh (show fA ents (x.T.drop c.at')=.ok (nm,acc,false,x.T.drop (n+1)) by
    have s:=dG 62 x.T n z;rw [Q] at s;have hG:x.T.getD n 0=62:=(beq_iff_eq.1 s.symm).symm;rw [D.o,d6.o,XZ ents d7.o z hG])
   have d3:=Lh z;clear Q z;(repeat revert K);refine vg ?_;intro K hK K hK K hK;refine U.o.mono ?_;rintro eh w4 ⟨rfl,t,l⟩;have d4:=Lh (show aV x w4 { c with at':=n+1 } from t);have b3:=Lh (i4.o.trans l (fun _ _ h=>h));have N:=Lh (aE b6.o l (fun g E A=>M.o (by rw [←A];exact E)));have bC:=Lh (hU.o.mod l L.o);clear t l U;have hc:=bC.o.cell;have hf:=bC.o.frozen;(repeat revert K);refine vS ?_;intro K hK K hK K hK;refine (b5.o (n+1) d3.o _ (by exact d4.o) (by exact eM b3.o rfl rfl rfl rfl) (by exact N.o) false).mono ?_;rintro e9 T s;have h5:fX x y out w (JW o opens bound (fA ents (x.T.drop c.at'))) e9 T:=by rw [HR.o];exact fX.base (aK.below (Below.refl y w) H.o.size (show aK (fun k=>k=x.p) w _ from eM b3.o rfl rfl rfl rfl) (fun i hi=>by rw [hi];exact H.o.pb)) s
   obtain ⟨b9,rfl⟩:=fX.bool s;have H5:=Lh h5;clear s h5;(repeat revert K);refine vS ?_;intro K hK;refine cX ?_;exact H5.o
  | false=>
   have U:=Lh (iA x V.o w3 { c with at':=n } j2.o b2.o [62] (by decide) Q);(repeat revert K);refine vg ?_;intro K hK K hK K hK;refine U.o.mono ?_;rintro eh w4 ⟨rfl,t,l⟩;have d4:=Lh (show aV x w4 { c with at':=n } from t);have b3:=Lh (i4.o.trans l (fun _ _ h=>h));have N:=Lh (aE b6.o l (fun g E A=>M.o (by rw [←A];exact E)));have bC:=Lh (hU.o.mod l L.o);clear t l U;go_simp;cases Y:([47]:Bs).isPrefixOf (x.T.drop n) with
   | true=>
    have U:=Lh (iL x V.o w4 { c with at':=n } d4.o b2.o [47] (by decide) Y);have z:=kO Y (by decide);have j4:=Lh (show dD ents m0 (x.T.drop a1) []=if ([62]:Bs).isPrefixOf (x.T.drop (n+1)) then .ok (acc,true,x.T.drop (n+2)) else .error .bad by
     have s:=dG 47 x.T n z;rw [Y] at s;have hG:x.T.getD n 0=47:=(beq_iff_eq.1 s.symm).symm;rw [d6.o,X0 ents d7.o z hG])
    have d3:=Lh z;clear Q Y z;(repeat revert K);refine vg ?_;intro K hK K hK K hK;refine U.o.mono ?_;rintro eh w5 ⟨rfl,t,l⟩;have aA:=Lh (show aV x w5 { c with at':=n+1 } from t);have a8:=Lh (b3.o.trans l (fun _ _ h=>h));have O:=Lh (aE N.o l (fun g E A=>M.o (by rw [←A];exact E)));have dT:=Lh (bC.o.mod l L.o);clear t l U;go_simp;cases a0:([62]:Bs).isPrefixOf (x.T.drop (n+1)) with
    | true=>
     have U:=Lh (iL x V.o w5 { c with at':=n+1 } aA.o d3.o [62] (by decide) a0);have o0:=Lh (show n+2≤x.T.length by have:=kO a0 (by decide);omega);have HR:=Lh (show fA ents (x.T.drop c.at')=.ok (nm,acc,true,x.T.drop (n+2)) by rw [D.o,j4.o,aT a0]);clear a0;(repeat revert K);refine vg ?_;intro K hK K hK K hK K hK;refine U.o.mono ?_;rintro eh w6 ⟨rfl,t,l⟩;have C:=Lh (show aV x w6 { c with at':=n+1+1 } from t);have B:=Lh (a8.o.trans l (fun _ _ h=>h));have b7:=Lh (aE O.o l (fun g E A=>M.o (by rw [←A];exact E)));have g6:=Lh (dT.o.mod l L.o);clear t l U;have hc:=g6.o.cell;have hf:=g6.o.frozen;(repeat revert K);refine vS ?_;intro K hK K hK K hK;refine (b5.o (n+2) o0.o _ (by exact C.o) (by exact eM B.o rfl rfl rfl rfl) (by exact b7.o) true).mono ?_;rintro e9 T s;have h5:fX x y out w (JW o opens bound (fA ents (x.T.drop c.at'))) e9 T:=by rw [HR.o];exact fX.base (aK.below (Below.refl y w) H.o.size (show aK (fun k=>k=x.p) w _ from eM B.o rfl rfl rfl rfl) (fun i hi=>by rw [hi];exact H.o.pb)) s
     obtain ⟨b9,rfl⟩:=fX.bool s;have H5:=Lh h5;clear s h5;(repeat revert K);refine vS ?_;intro K hK;refine cX ?_;exact H5.o
    | false=>
     have U:=Lh (iA x V.o w5 { c with at':=n+1 } aA.o d3.o [62] (by decide) a0);have HR:=Lh (show fA ents (x.T.drop c.at')=.error .bad by rw [D.o,j4.o,aM (by rw [a0];simp)]);clear a0;(repeat revert K);refine vg ?_;intro K hK K hK K hK K hK;refine U.o.mono ?_;rintro eh w6 ⟨rfl,t,l⟩;have C:=Lh (show aV x w6 { c with at':=n+1 } from t);have B:=Lh (a8.o.trans l (fun _ _ h=>h));have b7:=Lh (aE O.o l (fun g E A=>M.o (by rw [←A];exact E)));have g6:=Lh (dT.o.mod l L.o);clear t l U;(repeat revert K);refine vS ?_;intro K hK K hK K hK K hK;refine (d0.o (n+1) _ (by exact C.o) (by exact eM B.o rfl rfl rfl rfl) _).mono ?_;rintro e6 w6 ⟨rfl,G,F⟩;have ⟨C,B⟩:=cH G F;clear G F;(repeat revert K);refine vS ?_;intro K hK K hK;refine cX ?_;exact fX.err (w1:=w) (k:=.bad) H.o C.o B.o (by rw [HR.o];rfl)
   | false=>
    have U:=Lh (iA x V.o w4 { c with at':=n } d4.o b2.o [47] (by decide) Y);(repeat revert K);refine vg ?_;intro K hK K hK K hK;refine U.o.mono ?_;rintro eh w5 ⟨rfl,t,l⟩;have aA:=Lh (show aV x w5 { c with at':=n } from t);have a8:=Lh (b3.o.trans l (fun _ _ h=>h));have O:=Lh (aE N.o l (fun g E A=>M.o (by rw [←A];exact E)));have dT:=Lh (bC.o.mod l L.o);clear t l U;go_simp;by_cases z:n<x.T.length
    rotate_left
    ·have HR:=Lh (show fA ents (x.T.drop c.at')=.error .bad by rw [D.o,d6.o,UE ents d7.o (by omega)]);have g9:=Lh (fun (w':World) (W:aV x w' { c with at':=n })=>nV x w' { c with at':=n } W (by simp;omega));clear Q Y;(repeat revert K);refine vg ?_;intro K hK K hK K hK;refine (g9.o _ (by exact aA.o)).mono ?_;rintro e6 w6 ⟨rfl,k6,rfl⟩;(repeat revert K);refine vS ?_;intro K hK K hK K hK;refine (d0.o (n) _ (by exact aA.o) (by exact eM a8.o rfl rfl rfl rfl) _).mono ?_;rintro e6 w6 ⟨rfl,G,F⟩;have ⟨C,B⟩:=cH G F;clear G F;(repeat revert K);refine vS ?_;intro K hK;refine cX ?_;exact fX.err (w1:=w) (k:=.bad) H.o C.o B.o (by rw [HR.o];rfl)
    have g9:=Lh (fun (w':World) (W:aV x w' { c with at':=n })=>nW x w' { c with at':=n } W z)
    have hR:=Lh (show dD ents m0 (x.T.drop a1) []=_ from d6.o.trans (X1 ents (m:=m') (acc:=acc) d7.o d2.o z
     (fun hh=>by have s:=dG 62 x.T n z;rw [Q,hh] at s;cases s)
     (fun hh=>by have s:=dG 47 x.T n z;rw [Y,hh] at s;cases s)))
    clear Q Y;(repeat revert K);refine vg ?_;intro K hK K hK K hK;refine (g9.o _ (by exact aA.o)).mono ?_;rintro e6 w6 ⟨rfl,k6,rfl⟩;have e8:=Lh (T9 x V.o y H.o.pb ents n8.o (w5.drewN k6) { c with at':=n } aA.o b2.o (HE.o.below (aK.below (Below.refl _ w) H.o.size (a8.o.drewN k6) (fun i hi=>by rw [hi];exact H.o.pb))));(repeat revert K);refine vS ?_;intro K hK K hK;refine e8.o.mono ?_;rintro e7 w7 ⟨e3,h7⟩;have i5:=Lh (show aK (fun k=>k=x.p) w w7 from aK.trans (a8.o.drewN k6) e3 (fun _ _ h=>h));have b8:=Lh (show w7.ownsRow w.heap.size 68 3 (.slice sa acc.length sc) acc.length (aO acc) from aE (w:=w5.drewN k6) O.o e3 (fun g E A=>M.o (by rw [←A];exact E)));have hV:=Lh (aJ.mod (S:=fun k=>k=x.p) (w:=w5.drewN k6) dT.o e3 L.o);clear e3 e8;rw [show ({ c with at':=n }:PC).at'=n from rfl] at h7;cases hr:eH ents (x.T.drop n) with
    | error k=>
     rw [hr] at h7;obtain ⟨⟨a7,c7⟩,rfl⟩:=h7;have d5:=Lh c7;have HR:=Lh (show fA ents (x.T.drop c.at')=.error k by rw [D.o,hR.o,hr]);clear c7;(repeat revert K);refine vS ?_;intro K hK;refine cX ?_;exact fX.err (w1:=w) (k:=k) (a:=a7) H.o (aJ.alloc (w:=w7) d5.o _) (i5.o.alloc _) (by rw [HR.o];rfl)
    | ok q=>
     rw [hr] at h7;obtain ⟨d,r7⟩:=q;obtain ⟨a7,n1,gB,mA,c7,rfl⟩:=h7;have n2:r7=x.T.drop a7:=n1;subst n2;have d5:=Lh (show aV x w7 { c with at':=a7 } from c7);have hA:=Lh gB;have a3:=Lh (show n<a7 by have:=UF hr;rw [eO,eO] at this;omega);have e4:=Lh (show dD ents m0 (x.T.drop a1) []=if ¬ a<n then .error .opn else if acc.any (fun x=>x.1==d.1&&x.2.1==d.2.1) then .error .opn else dD ents m' (x.T.drop a7) (acc++[d]) by rw [hR.o,hr]);obtain ⟨w8,c8⟩:=cR (w7.alloc (.cells #[aB d.1,aB d.2.1,aB d.2.2] 68));have Z:=Lh (show aJ w8 w7.heap.size #[aB d.1,aB d.2.1,aB d.2.2] 68 by rw [c8];exact aJ.new w7 _ _);have hB:=Lh (show aK (fun k=>k=x.p) w w8 by rw [c8];exact i5.o.alloc _);have a4:aK (fun _=>False) w7 w8:=by rw [c8];exact (aK.refl _ w7).alloc _
     have aC:=Lh (aE (S:=fun _=>False) b8.o a4 (fun _ _=>id));have hW:=Lh (hV.o.mod a4 id);have hD:=Lh (show aV x w8 { c with at':=a7 } from d5.o.mod a4 id);obtain ⟨ba,hL⟩:=cR w7.heap.size;rw [←hL] at Z;have q1:=Lh (show ba≠bt∧ba≠x.p∧(Value.slice sa acc.length sc).ownBlock≠some ba by
      refine ⟨?_,?_,?_⟩
      ·have:=aJ.lt hV.o;omega
      ·have:=aJ.lt d5.o;omega
      ·intro A;have:=(aS b8.o A).1;omega)
     clear c7 hr n1 gB mA a4;go_simp;(repeat revert K);refine vT 15 ?_;rw [←c8,←hL];clear c8 hL;cases sp with
     | false=>
      have HR:=Lh (show fA ents (x.T.drop c.at')=.error .opn by rw [D.o,e4.o,aT (of_decide_eq_false f2.o.symm)]);refine vg ?_;intro K hK K hK K hK;refine (d0.o (a7) _ (by exact hD.o) (by exact eM hB.o rfl rfl rfl rfl) _).mono ?_;rintro e6 w6 ⟨rfl,G,F⟩;have ⟨C,B⟩:=cH G F;clear G F;(repeat revert K);refine vS ?_;intro K hK;refine cX ?_;exact fX.err (w1:=w) (k:=.opn) H.o C.o B.o (by rw [HR.o];rfl)
     | true=>
      have e5:=Lh (e4.o.trans (aM (fun h=>h (of_decide_eq_true f2.o.symm))));have hc:=hW.o.cell;refine vg ?_;intro K hK;refine cM [0,6,8,56,57,58] fun f=>?_;clear hc;refine wp_loop_ghost_k (Ak (jA x) (.pointer (some ⟨bt,0,none⟩)) (.pointer (some ⟨ba,0,none⟩)) (.slice sa acc.length sc) d acc w8) acc.length ⟨f,0,rfl,Below.refl _ w8,rfl,kW _,rfl⟩ ?_;rintro k9 _ T ⟨f,i,rfl,k4,mE,q5,c2⟩ J9 K9 j6 j8;have ⟨h6,i0,a6,i1,bA⟩:=pI j6 j8 k4 mE c2;clear j6 j8 k4 mE c2;by_cases c4:i<acc.length
      ·have t0:(0:Int)≤(i:Int):=by omega
       have t1:(i:Int)<(acc.length:Int):=by omega
       have wi:IntKind.i64.wrap ((i:Int)+1)=((i+1:Nat):Int):=by rw [IntKind.wrap_i64];have h2:=dI.o;have h3:=HT.o;have h4:=d2.o;omega
       obtain ⟨b,hb⟩:∃ b,acc[i]?=some b:=⟨acc[i],by simp [c4]⟩;obtain ⟨g,p8,_,k1,k2,k3⟩:=jU aC.o hb;subst p8;have d9:g<w8.heap.size:=(aS aC.o (g:=g) rfl).1;have l0:T.cell? ⟨g,i*3,none⟩=some (aB b.1):=(a6.o.cell (p:=⟨g,i*3,none⟩) d9).trans k1;have l1:T.cell? ⟨g,i*3+1,none⟩=some (aB b.2.1):=(a6.o.cell (p:=⟨g,i*3+1,none⟩) d9).trans k2;have l2:T.cell? ⟨g,i*3+2,none⟩=some (aB b.2.2):=(a6.o.cell (p:=⟨g,i*3+2,none⟩) d9).trans k3;obtain ⟨wq,R⟩:=cR (T.alloc (.cells #[aB b.1,aB b.2.1,aB b.2.2] 68));have c3:aJ wq T.heap.size #[aB b.1,aB b.2.1,aB b.2.2] 68:=by rw [R];exact aJ.new T _ _
       have b0:=Lh (show Below w8.heap.size w8 wq by rw [R];exact a6.o.alloc a6.o.size _);have f3:aJ wq ba #[aB d.1,aB d.2.1,aB d.2.2] 68:=Z.o.mod (S:=fun _=>False) (aH b0.o _) id;have q4:=c3.cell;have q3:=f3.cell;have g7:=Lh hb;clear hb k1 k2 k3 d9 c3 f3;revert K;refine vT 22 ?_;intro K hK K hK;rw [←R];clear R l0 l1 l2;have X:aK (fun k=>k=x.p) w wq:=hB.o.trans (aH b0.o (fun _=>False)) (fun _ _ h=>h.elim);have m4:aV x wq { c with at':=a7 }:=hD.o.mod (S:=fun _=>False) (aH b0.o _) id;have ⟨b4,p4⟩:=cH X m4;clear X m4;cases W:(b.1==d.1) with
       | true=>
        cases h2:(b.2.1==d.2.1) with
        | true=>
         have HR:=Lh (show fA ents (x.T.drop c.at')=.error .opn by
          have s:acc.any (fun x=>x.1==d.1&&x.2.1==d.2.1)=true:=by
           rw [List.any_eq_true];exact ⟨b,List.mem_of_getElem? g7.o,by rw [W,h2];rfl⟩
          rw [D.o,e5.o,aT s])
         (repeat revert K);refine vg ?_;intro K hK K hK K hK K hK;refine (d0.o (a7) _ (by exact p4.o) (by exact eM b4.o rfl rfl rfl rfl) _).mono ?_;rintro e6 w6 ⟨rfl,G,F⟩;have ⟨C,B⟩:=cH G F;clear G F;(repeat revert K);refine vS ?_;intro K hK K hK;refine cX ?_;exact fX.err (w1:=w) (k:=.opn) H.o C.o B.o (by rw [HR.o];rfl)
        | false=>
         have hC:=Lh (rF (p:=fun x=>x.1==d.1&&x.2.1==d.2.1) g7.o bA.o (by rw [W,h2];rfl));(repeat revert K);refine vg ?_;intro K hK;refine Kk [0,6,8,56,57,58] fun f=>?_;exact i0.o _ _ ⟨acc.length-(i+1),by rw [i1.o];omega,h6.o _ _ _ ⟨f,i+1,rfl,b0.o,rfl,c4,hC.o⟩⟩
       | false=>
        have hC:=Lh (rF (p:=fun x=>x.1==d.1&&x.2.1==d.2.1) g7.o bA.o (by rw [W];rfl));(repeat revert K);refine vg ?_;intro K hK;refine Kk [0,6,8,56,57,58] fun f=>?_;exact i0.o _ _ ⟨acc.length-(i+1),by rw [i1.o];omega,h6.o _ _ _ ⟨f,i+1,rfl,b0.o,rfl,c4,hC.o⟩⟩
      ·have p6:i=acc.length:=by omega
       subst p6;have t1:¬ ((acc.length:Int)<(acc.length:Int)):=by omega
       have hS:=Lh (show dD ents m0 (x.T.drop a1) []=dD ents m' (x.T.drop a7) (acc++[d]) by
        have s:=bA.o;rw [List.take_length] at s;rw [e5.o,aM (by rw [s];simp)])
       have I:aK (fun _=>False) w8 T:=aH a6.o _;have i6:=Lh (hB.o.trans I (fun _ _ h=>h.elim));have p3:=Lh (show aV x T { c with at':=a7 } from hD.o.mod I id);have b1:=Lh (hW.o.mod I id);have hX:=Lh (Z.o.mod I id);have cT:=Lh (aE (S:=fun _=>False) aC.o I (fun _ _=>id));obtain ⟨wq,R⟩:=cR (T.alloc (.cells #[aB d.1,aB d.2.1,aB d.2.2] 68));have c3:aJ wq T.heap.size #[aB d.1,aB d.2.1,aB d.2.2] 68:=by rw [R];exact aJ.new T _ _
       have X:aK (fun _=>False) T wq:=by rw [R];exact (aK.refl _ T).alloc _
       obtain ⟨v',hQ,g4,g3,c6,hv,gv,cv,q0⟩:=nN CL underlying33 rfl (by decide) (by decide) wq w.heap.size (gA i6.o.size X.size) (.slice sa acc.length sc) acc.length (by have:=dI.o;have:=HT.o;have:=d2.o;omega) (aO acc) (aE (S:=fun _=>False) cT.o X (fun _ _=>id)) T.heap.size [aB d.1,aB d.2.1,aB d.2.2] rfl
        (fun j u hj=>by rw [c3.cell];simpa using hj)
        (fun u hu=>by
         simp only [l6,zF,or_false] at hu;rcases hu with rfl|rfl|rfl<;>rfl)
       subst q0;have p5:=b1.o.cell;have k7:=hX.o.cell;have ⟨j1,f0,HV,b4⟩:=kY g3 c6 hv X;have P:aJ hQ bt _ _:=(b1.o.mod X id).mod c6 (fun A=>i8.o A);have g8:=Lh P;clear I c3 X g3 c6 hv;revert K;refine vB ?_;rw [←R];clear R p5 k7;refine fI rfl (.tmp 78) (.tmp 80) _ _ rfl _ _ _ (by rw [cB (by decide)];(try simp only [aL,aP,aR,aZ,Nat.reduceEqDiff,↓reduceIte]);(try rfl)) (by rw [cB (by decide)];(try simp only [aL,aP,aR,aZ,Nat.reduceEqDiff,↓reduceIte]);(try rfl)) g4 ?_;clear g4;rw [fO (by decide)];have hc:=P.cell;have hf:=P.frozen;clear P;refine vg ?_;refine Kk [0,6] fun f=>?_;have p9:∀ g,(Value.slice (some ⟨gv,0,none⟩) (acc.length+1) cv).ownBlock=some g→(Value.slice sa acc.length sc).ownBlock=some g∨wq.heap.size≤g:=fun g E=>by
        rcases HV.o with s|s
        ·exact aG (s▸E)
        ·rw [s] at E;right;simp at E;omega
       have q2:=aJ.lt b1.o;have g2:(Value.slice (some ⟨gv,0,none⟩) (acc.length+1) cv).ownBlock≠some bt:=fun A=>by
        rcases p9 bt A with s|s
        ·exact i8.o s
        ·have:=b4.o.size;omega
       have p7:aK (fun k=>k=x.p) w hQ:=(i6.o.trans b4.o (fun _ _ h=>h.elim)).trans f0.o (fun i hi hM=>by
        have s:=(aS cT.o hM).2;omega)
       have m2:aV x hQ { c with at':=a7 }:=(p3.o.mod b4.o id).mod f0.o M.o;refine oC.o _ _ ⟨x.T.length-a7,by rw [HK.o];have:=a3.o;have:=hA.o;have:=d1.o;omega,HJ.o _ _ _ ⟨f,a7,acc++[d],some ⟨gv,0,none⟩,acc.length+1,cv,m',rfl,aJ.set_ne m2 (fun A=>L.o A.symm) _,?_,?_,g2,aK.setCell (S:=fun k=>k=x.p) p7 (p:=⟨bt,3,none⟩) (aX n7.o) _,rfl,hA.o,by have:=oA.o;have:=d1.o;have:=a3.o;omega,by rw [fU];have:=dI.o;have:=d1.o;have:=a3.o;simp;omega,by have:=o2.o;have:=a3.o;have:=hA.o;have:=d1.o;omega,hS.o⟩⟩
       ·have:=g8.o.set 3 (.slice (some ⟨gv,0,none⟩) (acc.length+1) cv);simpa using this
       ·have e9:aO (acc++[d])=aO acc++[aB d.1,aB d.2.1,aB d.2.2]:=by simp [aO]
        rw [e9,fU];exact aE (S:=fun k=>k=bt) j1.o (aK.setCell (S:=fun k=>k=bt) (aK.refl _ _) (p:=⟨bt,3,none⟩) (aG rfl) _) (fun g E A=>g2 (by rw [←A];exact E))
theorem FH (acc l:List cV) (a:cV) (s:Bs):(aO (acc++a::l)).set (acc.length*3) (aB s)=aO ((acc++[(s,a.2.1,a.2.2)])++l):=by
 have b:aO (acc++a::l)=aO acc++([aB a.1,aB a.2.1,aB a.2.2]++aO l):=by simp [aO]
 have c:aO ((acc++[(s,a.2.1,a.2.2)])++l)=aO acc++([aB s,aB a.2.1,aB a.2.2]++aO l):=by simp [aO]
 rw [b,c,List.set_append_right _ _ (by rw [lM];omega),lM,Nat.sub_self];rfl
theorem ME {b:Bs} {bound:List aN} {acc l:List cV} {a:cV} (h:acc.any (fun y=>y.1==cE b bound a.1 false&&y.2.1==a.2.1)=true):gE b bound acc (a::l)=.error .opn:=by
 obtain ⟨d,c,v⟩:=a;unfold gE;exact aT h
theorem II {b:Bs} {bound:List aN} {acc l:List cV} {a:cV} (h:acc.any (fun y=>y.1==cE b bound a.1 false&&y.2.1==a.2.1)=false):gE b bound acc (a::l)=gE b bound (acc++[(cE b bound a.1 false,a.2.1,a.2.2)]) l:=by
 obtain ⟨d,c,v⟩:=a;conv=>lhs;unfold gE
 exact aM (by rw [h];simp)
def Al (x:PX) (em:Bool) (c:Nat) (nm:Bs×Bs) (v:Value) (b:List cV) (bound:List aN) (w0:World) (k:Nat) (a:Act) (w:World):Prop:=
 ∃ f i acc,a=fr 182 f [(0,jA x),(2,.bool em),(4,.pointer (some ⟨c,0,none⟩)),(7,aB nm.1),(8,aB nm.2),(13,v),(126,v),(127,.int .i64 (b.length:Nat)),(128,.int .i64 (i:Nat))]∧Below w0.heap.size w0 w ∧
  w.ownsRow w0.heap.size 68 3 v (acc++b.drop i).length (aO (acc++b.drop i))∧acc.length=i∧k=b.length-i∧i≤b.length∧gE x.space bound [] b=gE x.space bound acc (b.drop i)
def Am (x:PX) (em:Bool) (d c:Nat) (nm:Bs×Bs) (v g:Value) (n i:Nat) (acc:List cV) (e b:Bs) (w0:World) (k:Nat) (a:Act) (w:World):Prop:=
 ∃ f j,a=fr 182 f [(0,jA x),(2,.bool em),(4,.pointer (some ⟨d,0,none⟩)),(7,aB nm.1),(8,aB nm.2),(13,v),(14,.int .i64 (i:Nat)),(15,.pointer (some ⟨c,0,none⟩)),(126,v),(127,.int .i64 (n:Nat)),(128,.int .i64 (i:Nat)),(143,g),(144,.int .i64 (i:Nat)),(145,.int .i64 (j:Nat))]∧Below w0.heap.size w0 w ∧
  k=i-j∧j≤i∧((acc.take j).any fun y=>y.1==e&&y.2.1==b)=false
theorem wD {b:Nat} {w w':World} (h:Below b w w') (k:Nat):Below b w (w'.drewN k):=⟨h.os,h.tape,h.output,h.size,h.block⟩
theorem UG (x:PX) (a1:Nat) (w0:World) (c:PC) (opens:List Bs) (bound:List aN) (out:List cA) (h:dN x a1 w0 c opens bound out) (d5:bound.length≤1000000000) (em:Bool) (bt:Nat) (nm:Bs×Bs) (d:List cV) (d2:d.length≤1000000000) (g r:Nat) (W:World) (hb:Below w0.heap.size w0 W)
  (a5:W.ownsRow w0.heap.size 68 3 (.slice (some ⟨g,0,none⟩) d.length r) d.length (aO d)) (a4:d.length≤r) (e4:r≤maxLen) (Q:Exit→Act→World→Prop)
  (hE:gE x.space bound [] d=.error .opn→∀ f w',aV x w' { c with verd:=2 }→aK (fun k=>k=x.p) w0 w'→Q .ret (fr 182 f [(6,.bool false)]) w')
  (hN:∀ l,gE x.space bound [] d=.ok l→l.length=d.length→∀ f w',Below w0.heap.size w0 w'→w'.ownsRow w0.heap.size 68 3 (.slice (some ⟨g,0,none⟩) d.length r) l.length (aO l)→Q .normal (fr 182 f [(0,jA x),(2,.bool em),(4,.pointer (some ⟨bt,0,none⟩)),(7,aB nm.1),(8,aB nm.2),(13,.slice (some ⟨g,0,none⟩) d.length r)]) w') (f:Nat→Value) (c1:Code) (g9:c1=.loop (nY 21)) :
  c1.wp prog (Exit.inBlock 2 Q) (fr 182 f [(0,jA x),(2,.bool em),(4,.pointer (some ⟨bt,0,none⟩)),(7,aB nm.1),(8,aB nm.2),(13,.slice (some ⟨g,0,none⟩) d.length r),(126,.slice (some ⟨g,0,none⟩) d.length r),(127,.int .i64 (d.length:Nat)),(128,.int .i64 0)]) W:=by
 subst g9;have ⟨H,f7,b4,b9,hL,HE⟩:=iD h d5 d2 a4 e4 hE;have HN:=Lh hN;have f9:=Lh (fun (w':World) (h1:aV x w' c) (h2:aK (fun k=>k=x.p) w0 w')=>hZ x w0 w' c h1 h2 2);refine wp_loop_ghost_k (Al x em bt nm (.slice (some ⟨g,0,none⟩) d.length r) d bound w0) d.length ⟨f,0,[],rfl,hb,by rw [List.drop_zero,List.nil_append];exact a5,rfl,by rw [Nat.sub_zero],kW _,by rw [List.drop_zero]⟩ ?_;clear h hb a5 d5 d2 hE hN a4 e4;rintro k _ w ⟨f,i,acc,rfl,hb,hr,d1,hk,hi,f3⟩ J K2 hJ dI;have ⟨HJ,gB,HB,HR,HK,m⟩:=iD hJ dI hb hr hk d1;have c8:=Lh f3;clear hJ dI hb hr hk d1 f3;unfold nY;conv=>arg 2;whnf
 by_cases e9:i<d.length
 ·have t1:(i:Int)<(d.length:Int):=by omega
  have t0:(0:Int)≤(i:Int):=by omega
  have t2:(i:Int)≤(r:Int):=by have:=b9.o;omega
  have wi:IntKind.i64.wrap ((i:Int)+1)=((i+1:Nat):Int):=by rw [IntKind.wrap_i64];have:=b4.o;omega
  obtain ⟨⟨s,e,n⟩,ha⟩:∃ a,d[i]?=some a:=⟨d[i],by simp [e9]⟩;have b0:d.drop i=(s,e,n)::d.drop (i+1):=by
   obtain ⟨hC,he⟩:=FP.1 ha;rw [CZ hC,he]
  have G:=HR.o;have L:=c8.o;rw [b0] at G L;have D:(acc++(s,e,n)::d.drop (i+1))[i]?=some (s,e,n):=by
   rw [C0 (by rw [m.o];exact dC _),m.o,Nat.sub_self];rfl
  obtain ⟨g',f4,-,k1,k2,k3⟩:=jU G D;simp only [kQ,Addr.mk.injEq] at f4;obtain ⟨rfl,-⟩:=f4;have e0:w.cell? ⟨g,i*3,none⟩=some (aB s):=k1;have e1:w.cell? ⟨g,i*3+1,none⟩=some (aB e):=k2;have e2:w.cell? ⟨g,i*3+2,none⟩=some (aB n):=k3;obtain ⟨wa,N⟩:=cR (w.alloc (.cells #[aB s,aB e,aB n] 68));have d4:aJ wa w.heap.size #[aB s,aB e,aB n] 68:=by rw [N];exact aJ.new w _ _
  have P:=Lh d4;obtain ⟨ba,E⟩:=cR w.heap.size;rw [←E] at P;have f6:=Lh (show ba≠g from fun he=>by have:=(aS G (g:=g) rfl).1;omega);have a7:=Lh (show Below w0.heap.size w0 wa by rw [N];exact HB.o.alloc HB.o.size _);have f1:aK (fun _=>False) w wa:=by rw [N];exact (aK.refl _ w).alloc _
  have g7:=Lh (aE (S:=fun _=>False) G f1 (fun _ _=>id));have g8:=Lh (H.o.fresh (aH a7.o (fun _=>False)));have c7:=Lh (sM x a1 wa c opens bound out g8.o f7.o s false);have ⟨a0,cT⟩:=cH L b0;clear k1 k2 k3 d4 ha G L D f1 b0;refine vT 23 ?_;intro K hK;rw [←N,←E];clear N E e0 e1 e2;have bC:=P.o.cell;have e5:=P.o.frozen;revert K;refine vg ?_;intro K hK K hK K hK;refine c7.o.mono ?_;rintro e3 w3 ⟨rfl,T⟩;obtain ⟨O,M⟩:=cR (cE x.space bound s false);rw [←M];have V:=aE (S:=fun _=>False) g7.o (aH T _) (fun _ _=>id);have b6:=Lh (a7.o.trans (T.mono a7.o.size));have z:aJ w3 ba #[aB s,aB e,aB n] 68:=P.o.mod (aH T (fun _=>False)) id;have F:(acc++(s,e,n)::d.drop (i+1)).length=d.length:=by
   rw [←cT.o,fU,eO,m.o];omega
  have I:=V;rw [F] at I;have hB:=fun j=>mZ I j;have hA:w3.cell? ⟨g,i*3,none⟩=some (aB s):=by
   obtain ⟨g1,u,-,k1,-,-⟩:=jU V (i:=i) (a:=(s,e,n)) (by rw [C0 (by rw [m.o];exact dC _),m.o,Nat.sub_self];rfl);simp only [kQ,Addr.mk.injEq] at u;obtain ⟨rfl,-⟩:=u;exact k1
  clear F I;have ⟨c5,b7,C⟩:=lQ V z M;have bC:=z.cell;have e5:=z.frozen;clear T V z M;go_simp;(repeat revert K);refine vT 24 ?_;intro K hK;obtain ⟨wb,Y⟩:=cR (w3.setCell ⟨g,i*3,none⟩ (aB O));rw [←Y];obtain ⟨o,q⟩:∃ o,o=acc++[(O,e,n)]:=⟨_,rfl⟩;have b3:i*3<(acc++(s,e,n)::d.drop (i+1)).length*3:=by rw [fU,gF,m.o];omega
  have X:wb.ownsRow w0.heap.size 68 3 (.slice (some ⟨g,0,none⟩) d.length r) (o++d.drop (i+1)).length (aO (o++d.drop (i+1))):=by
   have hl:(o++d.drop (i+1)).length=(acc++(s,e,n)::d.drop (i+1)).length:=by rw [q];simp
   have h9:=c5.o;have F:(acc++(s,e,n)::d.drop (i+1)).length=d.length:=by rw [←cT.o,fU,eO,m.o];omega
   rw [F] at h9 b3;have h8:=qS h9 (i*3) b3 (aB O);rw [←Y] at h8;have h7:=FH acc (d.drop (i+1)) (s,e,n) O;rw [m.o] at h7;rw [h7] at h8;rw [hl,F,q];exact h8
  have b1:aK (fun k=>k=g) w3 wb:=by rw [Y];exact aK.setCell (S:=fun k=>k=g) (aK.refl _ _) (p:=⟨g,i*3,none⟩) (aG rfl) _
  have e7:w0.heap.size≤g:=(aS c5.o (g:=g) rfl).2;have R:=Lh (show Below w0.heap.size w0 wb from aK.below b6.o b6.o.size b1 (fun j hj=>by rw [hj];exact e7));have b8:=Lh (b7.o.mod b1 f6.o);have ⟨c6,aA⟩:=cH X q;have b5:=Lh (show o.length=i+1 by rw [q,fU,m.o];rfl);have D:(o++d.drop (i+1))[i]?=some (O,e,n):=by
   rw [q,rR,C0 (by rw [m.o];exact dC _),m.o,Nat.sub_self];rfl
  obtain ⟨g1,u,-,k1,k2,k3⟩:=jU X D;simp only [kQ,Addr.mk.injEq] at u;obtain ⟨rfl,-⟩:=u;have U:g<wb.heap.size:=(aS X (g:=g) rfl).1;clear X b1 e7 Y q b3 hB bC e5 D k2 k3 hA;revert K;refine vg ?_;intro K hK;refine cM [0,2,4,7,8,13,14,15,126,127,128,143,144,145] fun f=>?_;refine wp_loop_ghost_k (Am x em bt ba nm (.slice (some ⟨g,0,none⟩) d.length r) (.slice (some ⟨g,0,none⟩) i r) d.length i acc O e wb) i ⟨f,0,rfl,Below.refl _ _,by simp,kW _,rfl⟩ ?_;rintro k9 _ w9 ⟨f,j,rfl,d3,e8,hO,a2⟩ J3 K3 c9 dT;have ⟨c2,c3,v,c4,A⟩:=pI c9 dT d3 e8 a2;clear c9 dT d3 e8 a2;by_cases t:j<i
  ·have t3:(0:Int)≤(j:Int):=by omega
   have t4:(j:Int)<(i:Int):=by omega
   have wj:IntKind.i64.wrap ((j:Int)+1)=((j+1:Nat):Int):=by rw [IntKind.wrap_i64];have h2:=b4.o;omega
   obtain ⟨b,bA⟩:∃ b,acc[j]?=some b:=⟨acc[j]'(by rw [m.o];exact t),by simp [m.o,t]⟩;have d0:(o++d.drop (i+1))[j]?=some b:=by
    rw [aA.o,rR,List.getElem?_append_left (by rw [m.o];exact t)];exact bA
   obtain ⟨g1,u,-,m1,m2,m3⟩:=jU c6.o d0;simp only [kQ,Addr.mk.injEq] at u;obtain ⟨rfl,-⟩:=u;have d7:w9.cell? ⟨g,j*3,none⟩=some (aB b.1):=(v.o.cell (p:=⟨g,j*3,none⟩) U).trans m1;have d8:w9.cell? ⟨g,j*3+1,none⟩=some (aB b.2.1):=(v.o.cell (p:=⟨g,j*3+1,none⟩) U).trans m2;have d9:w9.cell? ⟨g,j*3+2,none⟩=some (aB b.2.2):=(v.o.cell (p:=⟨g,j*3+2,none⟩) U).trans m3;obtain ⟨wq,Z⟩:=cR (w9.alloc (.cells #[aB b.1,aB b.2.1,aB b.2.2] 68));have d6:aJ wq w9.heap.size #[aB b.1,aB b.2.1,aB b.2.2] 68:=by rw [Z];exact aJ.new w9 _ _
   have B:=Lh (show Below wb.heap.size wb wq by rw [Z];exact v.o.alloc v.o.size _);have a3:aJ wq ba #[aB s,aB e,aB n] 68:=b8.o.mod (S:=fun _=>False) (aH B.o _) id;have hI:wq.cell? ⟨g,i*3,none⟩=some (aB O):=(B.o.cell (p:=⟨g,i*3,none⟩) U).trans k1;have hM:=d6.cell;have bC:=a3.cell;have a6:=Lh bA;clear d0 m1 m2 m3 bA d6 a3;revert K;refine vT 27 ?_;intro K hK K hK;rw [←Z];clear Z d7 d8 d9;refine cM [0,2,4,7,8,13,14,15,17,126,127,128,143,144,145] fun f=>?_;have aC:=Lh (R.o.trans (B.o.mono R.o.size));have g2:=Lh (show aK (fun k=>k=x.p) w0 wq from aH aC.o _);have g6:=Lh (show aV x wq c from H.o.blk.mod (S:=fun _=>False) (aH aC.o _) id);cases h1:(b.1==O) with
   | true=>
    cases h2:(b.2.1==e) with
    | true=>
     have a9:=Lh (show gE x.space bound [] d=.error .opn by
      rw [a0.o];refine ME ?_;rw [List.any_eq_true];exact ⟨b,List.mem_of_getElem? a6.o,by show (b.1==cE x.space bound s false&&b.2.1==e)=true;rw [←C.o,h1,h2];rfl⟩)
     (repeat revert K);refine vg ?_;intro K hK K hK K hK;go_quiet (fail);(repeat revert K);refine vg ?_;intro K hK K hK K hK K hK;refine (f9.o _ (by exact g6.o) (by exact eM g2.o rfl rfl rfl rfl)).mono ?_;rintro e6 w6 ⟨rfl,f2,f0⟩;have ⟨g5,g0⟩:=cH f2 f0;clear f2 f0;(repeat revert K);refine vS ?_;intro K hK K hK;refine Qk [6] fun f=>?_;exact HE.o a9.o f _ g5.o g0.o
    | false=>
     have a8:=Lh (rF (p:=fun y=>y.1==O&&y.2.1==e) a6.o A.o (by rw [h1,h2];rfl));(repeat revert K);refine vg ?_;intro K hK K hK K hK;go_quiet (fail);(repeat revert K);refine vg ?_;intro K hK;refine Kk [0,2,4,7,8,13,14,15,126,127,128,143,144,145] fun f=>?_;exact c3.o _ _ ⟨i-(j+1),by rw [c4.o];omega,c2.o _ _ _ ⟨f,j+1,rfl,wD B.o _,rfl,t,a8.o⟩⟩
   | false=>
    have a8:=Lh (rF (p:=fun y=>y.1==O&&y.2.1==e) a6.o A.o (by rw [h1];rfl));(repeat revert K);refine vg ?_;intro K hK K hK K hK;go_quiet (fail);(repeat revert K);refine vg ?_;intro K hK;refine Kk [0,2,4,7,8,13,14,15,126,127,128,143,144,145] fun f=>?_;exact c3.o _ _ ⟨i-(j+1),by rw [c4.o];omega,c2.o _ _ _ ⟨f,j+1,rfl,wD B.o _,rfl,t,a8.o⟩⟩
  ·have hG:j=i:=by omega
   subst hG;have t4:¬ ((j:Int)<(j:Int)):=by omega
   have g4:=Lh (show gE x.space bound [] d=gE x.space bound o (d.drop (j+1)) by
    have h9:=A.o;rw [show acc.take j=acc from List.take_of_length_le (by rw [m.o];exact dC _)] at h9;rw [a0.o,II (by show (acc.any fun y=>y.1==cE x.space bound s false&&y.2.1==e)=false;rw [←C.o];exact h9),aA.o,C.o])
   revert K;refine vg ?_;refine Kk [0,2,4,7,8,13,126,127,128] fun f=>?_;exact gB.o _ _ ⟨d.length-(j+1),by rw [HK.o];omega,HJ.o _ _ _ ⟨f,j+1,o,rfl,R.o.trans (v.o.mono R.o.size),aE (S:=fun _=>False) c6.o (aH v.o _) (fun _ _=>id),b5.o,rfl,e9,g4.o⟩⟩
 ·have hD:i=d.length:=by omega
  subst hD;have t1:¬ ((d.length:Int)<(d.length:Int)):=by omega
  have g3:=Lh (HN.o acc (by rw [c8.o,List.drop_length];unfold gE;rfl) m.o);have b2:=HR.o;rw [List.drop_length,List.append_nil] at b2;have a9:=Lh b2;clear b2;refine vg ?_;intro K hK;refine Qk [0,2,4,7,8,13] fun f=>?_;exact g3.o f w HB.o a9.o
theorem row_ne {w:World} {a k:Nat} {e t:TypeId} {b n:Nat} {v:Value} {p:List Value} {cs:Array Value} (h:w.ownsRow a e b v n p) (c:aJ w k cs t) (j:e≠t):∀ g,v.ownBlock=some g→g≠k:=by
 intro g d o;subst o;rcases h.2 with ⟨f,_⟩|⟨g',cap',cur,f,_,m,_⟩
 ·rw [f] at d;cases d
 ·rw [f] at d;have i:g'=g:=by simpa [Value.ownBlock] using d
  subst i;have l:aJ w g' cur e:=m;unfold aJ at l c;rw [l] at c;simp only [kQ,Obj.cells.injEq] at c;exact j c.2.1
theorem dN.poke {x:PX} {b:Nat} {w:World} {c:PC} {opens:List Bs} {bound:List aN} {out:List cA} (h:dN x b w c opens bound out) {d:Nat} {cs:Array Value} (z:aJ w d cs 35) (n:¬ fW x c d) (j:Nat) (u:Value):dN x b (w.setCell ⟨d,j,none⟩ u) c opens bound out:=by
 have f:aK (fun k=>k=d) w (w.setCell ⟨d,j,none⟩ u):=aK.setCell (S:=fun k=>k=d) (aK.refl _ _) (p:=⟨d,j,none⟩) (aG rfl) _;obtain ⟨C,B,s⟩:=h.out;obtain ⟨D,r,l⟩:=h.op;obtain ⟨E,o,i⟩:=h.bd;refine ⟨h.blk.mod f (fun e=>n (aG e.symm)),h.pb,⟨C,aE B f (fun g a e=>n (aX (aG (e▸a)))),s.mono (fun _ _ q=>?_)⟩,⟨D,aE r f (fun g a e=>n (aX (aX (aG (e▸a))))),l⟩,⟨E,aE o f (fun g a e=>n (aX (aX (aX (e▸a))))),i.mono (fun _ _ q=>?_)⟩,h.s1,h.s2,h.s3⟩
 ·obtain ⟨t,y,v,rfl,m,a⟩:=q;exact ⟨t,y,v,rfl,aE m f (row_ne m z (by decide)),a⟩
 ·obtain ⟨t,y,v,rfl,m,a,A⟩:=q;exact ⟨t,y,v,rfl,aE m f (row_ne m z (by decide)),a,A⟩
theorem X2 (b:Nat) (a:List cV) (J:a.length≤1000000000) (W:World) (D:Option Addr) (A b0:Nat) (o:W.ownsRow b0 68 3 (.slice D a.length A) a.length (aO a)) (g:Nat) (B:aJ W g #[] 68) (l:b≤g) :
  ∃ v' r,(Builtin.append_ #[33,33] 33 #[.slice (some ⟨g,0,none⟩) 0 0,.slice D a.length A]).run prog W=.ok v' r∧r.ownsRow b 68 3 v' a.length (aO a)∧aK (fun k=>k=g) W r∧∃ s c,v'=.slice (some ⟨s,0,none⟩) a.length c∧a.length≤c∧c≤maxLen:=by
 obtain ⟨i,C,Q,E,F⟩:=info_parts CL;have e:W.ownsRow b 68 3 (.slice (some ⟨g,0,none⟩) 0 0) 0 []:=⟨rfl,aX ⟨g,0,#[],rfl,l,B,dC _,by decide,rfl,rfl⟩⟩;rcases o.2 with ⟨f,I⟩|⟨g1,cap1,cur,f,_,G,_,_,_,H⟩
 ·have h:a=[]:=tZ I;subst h;simp only [Value.slice.injEq] at f;obtain ⟨rfl,_,rfl⟩:=f;exact ⟨_,_,run_append_owned_none W b _ _ _ i 3 underlying33 C _ 0 [] e,e,aK.refl _ _,g,0,rfl,dC _,by decide⟩
 ·simp only [Value.slice.injEq] at f;obtain ⟨rfl,_,rfl⟩:=f;have t:aJ W g1 cur 68:=G
  obtain ⟨v',r,O,z,d,n,_⟩:=run_append_own_at (P:=prog) (w:=W) b 33 33 68 i _ 3 48 underlying33 C Q E F rfl (by omega) _ 0 [] e ⟨g1,0,none⟩ a.length A (aO a) (lM a)
   (fun j u y=>by
    rw [show ((⟨g1,0,none⟩:Addr).add j)=⟨g1,j,none⟩ by cases j<;>simp [Addr.add],t.cell];have m:j<(aO a).length:=(FP.1 y).1;rw [←H,List.getElem?_take,aT (by rw [lM] at m;exact m),Array.getElem?_toList] at y;exact y)
   (fun u q=>by
    unfold aO at q;obtain ⟨p,_,q⟩:=List.mem_flatMap.1 q;simp only [l6,zF,or_false] at q;rcases q with rfl|rfl|rfl<;>rfl) (by unfold maxLen;omega) (by omega) (gA l (Nat.le_of_lt B.lt))
  rw [Nat.zero_add,List.nil_append] at z;refine ⟨v',r,O,z,⟨d.os,d.tape,d.output,d.size,fun k M N=>d.block k M (fun L=>N (by simpa [Value.ownBlock] using L))⟩,?_⟩;rcases z.2 with ⟨f,_⟩|⟨s,c,_,f,_,_,v,x,_⟩
  ·have:=(n.1 f).1;simp at this
  ·exact ⟨s,c,f,v,x⟩
def wE (x:PX) (a:Nat) (out:List cA) (w w':World):Prop:=Below a w w'∧∃ b d c,dN x a w' b d c out∧b.verd=2
theorem X3 (x:PX) (a:Nat) (w:World) (c:PC) (opens:List Bs) (bound:List aN) (out:List cA) (h:dN x a w c opens bound out) (c5:opens.length≤499999999) (X:bound.length=opens.length) (em:Bool) (d:Nat) (nm:Bs×Bs) (c3:nm.1.length≤1000000000) (c4:nm.2.length≤1000000000) (b:List cV) (b1:b.length≤1000000000) (sa:Option Addr) (sc:Nat)
  (b2:w.ownsRow a 68 3 (.slice sa b.length sc) b.length (aO b)) (cT:∀ k,(Value.slice sa b.length sc).ownBlock=some k→¬ fW x c k) (tx:Value) (b7:aJ w d #[.int .i64 1,aB nm.1,aB nm.2,.slice sa b.length sc,tx,.int .i64 0] 35) (b5:a≤d) (b6:¬ fW x c d)
  (l:aN) (v9:Value) (hl:w.ownsRow a 177 2 v9 l.length (cO l)) (c1:l.length≤1000000000) (c7:∀ k,v9.ownBlock=some k→¬ fW x c k) (Q:Exit→Act→World→Prop)
  (hE:(gE x.space (l::bound) [] b=.error .opn∨(∃ A,gE x.space (l::bound) [] b=.ok A∧nm.1=bE))→∀ f w',wE x a out w w'→Q .ret (fr 182 f [(6,.bool false)]) w')
  (hN:∀ A,gE x.space (l::bound) [] b=.ok A→nm.1≠bE→A.length=b.length→∀ f w' c' g m,Below a w w'→c'.at'=c.at'→dN x a w' c' (dK nm::opens) (l::bound) out→aJ w' d #[.int .i64 1,aB (cE x.space (l::bound) nm.1 true),aB nm.2,.slice (some ⟨g,0,none⟩) A.length m,tx,.int .i64 0] 35 →
   w'.ownsRow a 68 3 (.slice (some ⟨g,0,none⟩) A.length m) A.length (aO A)→¬ fW x c' g→Q .normal (fr 182 f [(0,jA x),(2,.bool em),(4,.pointer (some ⟨d,0,none⟩)),(7,aB nm.1),(8,aB nm.2)]) w') (f:Nat→Value) :
  (nY 17).wp prog Q (fr 182 f [(0,jA x),(2,.bool em),(4,.pointer (some ⟨d,0,none⟩)),(7,aB nm.1),(8,aB nm.2),(9,v9)]) w:=by
 have ⟨H,a9,a5,aC,a0,a8⟩:=iD h c5 X b1 b2 cT;have ⟨U,a4,D,HE,HN⟩:=pI b7 b5 b6 hE hN;have HO:=Lh (fun (Q:Exit→Act→World→Prop) hQ f=>Bt x a w c opens bound out h (by omega) X em d nm l v9 hl c1 c7 c3 c4 Q hQ f);clear h c5 X b1 b2 cT b7 b5 b6 hE hN hl c1 c7 c3 c4;unfold nY;conv=>arg 2;whnf
 refine wp_seq_k (fun K hK=>?_);refine bB (HO.o _ (fun f w1 v6 v7 b3 F i=>?_) f) (by kernel_rfl);have c9:=Lh b3;have a6:=Lh (U.o.mod F D.o);have a1:=Lh (aE a0.o F a8.o);have L:=Lh (show ¬ fW x { c with op:=v6,bd:=v7 } d from fun j=>by
  obtain ⟨_,h6,_⟩:=i.op;obtain ⟨_,h7,_⟩:=i.bd;have h8:=aJ.mod U.o F D.o;rcases j with j|j|j|j
  ·exact D.o (aG j)
  ·exact D.o (aX (aG j))
  ·exact row_ne h6 h8 (by decide) d j rfl
  ·exact row_ne h7 h8 (by decide) d j rfl)
 have M:=Lh (sM x a w1 { c with op:=v6,bd:=v7 } _ _ out i (by rw [gF,a5.o];have:=a9.o;omega) nm.1 true);have N:=Lh i;clear b3 F i HO U a0 a8;revert K;refine vg ?_;intro K hK K hK;refine M.o.mono ?_;rintro e2 w2 ⟨rfl,v⟩;obtain ⟨rs,aA⟩:=cR (cE x.space (l::bound) nm.1 true);rw [←aA];have d2:=Lh aA;have o:=a6.o.mod (aH v (fun _=>False)) id;have s:=Lh o;have J:=Lh (aE (S:=fun _=>False) a1.o (aH v _) (fun _ _=>id));have b0:=Lh (N.o.fresh (aH v (fun _=>False)));have a3:=Lh (c9.o.trans (v.mono N.o.size));have Y:=o.cell;have d3:=o.frozen;clear v o aA M;go_simp;(repeat revert K);refine vT 19 ?_;obtain ⟨n,z⟩:=cR (w2.setCell ⟨d,1,none⟩ (aB rs));rw [←z];have y:aJ n d #[.int .i64 1,aB rs,aB nm.2,.slice sa b.length sc,tx,.int .i64 0] 35:=by
  have:=s.o.set 1 (aB rs);rw [z];simpa using this
 have R:dN x a n { c with op:=v6,bd:=v7 } (dK nm::opens) (l::bound) out:=by rw [z];exact b0.o.poke s.o L.o 1 _
 have Z:aK (fun k=>k=d) w2 n:=by rw [z];exact aK.setCell (S:=fun k=>k=d) (aK.refl _ _) (p:=⟨d,1,none⟩) (aG rfl) _
 have a2:=Lh (aE J.o Z (row_ne J.o s.o (by decide)));have B:=Lh (aK.below a3.o (gA H.o.size a3.o.size) Z (fun k E=>by rw [E];exact a4.o));have ⟨a7,e⟩:=cH y R;obtain ⟨w4,I⟩:=cR (n.alloc (.cells #[] 68));have b4:aJ w4 n.heap.size #[] 68:=by rw [I];exact aJ.new n _ _
 have G:aK (fun _=>False) n w4:=by rw [I];exact (aK.refl _ n).alloc _
 obtain ⟨v',w5,P,O,c2,g,m,d4,b8,b9⟩:=X2 n.heap.size b aC.o w4 sa sc a (aE (S:=fun _=>False) a2.o G (fun _ _=>id)) n.heap.size b4 (dC _);subst d4;have bA:=Lh O;have dI:=Lh (show Below n.heap.size n w5 from aK.below (aK.below (Below.refl _ n) (dC _) G (fun _ h=>h.elim)) G.size c2 (fun k E=>by rw [E];exact dC _));have ⟨dT,d0⟩:=cH b8 b9;have Y:=(show aJ (n.alloc (.cells #[] 68)) d _ _ from y.alloc _).cell;clear z y R Z b4 G O c2 b8 b9;refine vB ?_;intro K hK;rw [←I];clear I;refine fI rfl (.tmp 122) (.tmp 124) _ _ rfl _ _ _ (by rw [cB (by decide)];(try simp only [aL,aP,aR,aZ,Nat.reduceEqDiff,↓reduceIte]);(try rfl)) (by rw [cB (by decide)];(try simp only [aL,aP,aR,aZ,Nat.reduceEqDiff,↓reduceIte]);(try rfl)) P ?_;clear P Y;rw [fO (by decide)];revert K;refine vg ?_;intro K hK;refine cM [0,2,4,7,8,13,126,127,128] fun f=>?_;refine UG x a n { c with op:=v6,bd:=v7 } (dK nm::opens) (l::bound) out e.o (by rw [gF,a5.o];have:=a9.o;omega) em d nm b aC.o g m w5 dI.o bA.o dT.o d0.o _ (fun he f w' hp hm=>?_) (fun A hx c8 f w' j hr=>?_) f _ (by kernel_rfl)
 ·have V:=Lh (HE.o (aG he) f w' ⟨aK.below B.o (gA H.o.size B.o.size) hm (fun k E=>by rw [E];exact H.o.pb),_,_,_,e.o.own hp hm rfl rfl rfl,rfl⟩);clear he hp hm;revert K;refine vg ?_;intro K hK;exact V.o
 ·have T:=e.o.fresh (aH j (fun _=>False));have q:=a7.o.mod (aH j (fun _=>False)) id;have C:=Lh (B.o.trans (j.mono (gA H.o.size B.o.size)));have ⟨u,t,bC,HX,W⟩:=pI T q hr hx c8;have Y:=q.cell;have d3:=q.frozen;clear T q j hr hx c8;cases h1:(nm.1==[120,109,108,110,115]) with
  | true=>
   have HF:=Lh (hZ x w' w' { c with op:=v6,bd:=v7 } u.o.blk (aK.refl _ _) 2);revert K;refine vg ?_;intro K hK K hK K hK;refine HF.o.mono ?_;rintro e7 w7 ⟨rfl,c6,r⟩;have V:=Lh (fun f=>HE.o (aX ⟨A,HX.o,y6 h1⟩) f w7 ⟨aK.below C.o (gA H.o.size C.o.size) r (fun k E=>by rw [E];exact H.o.pb),_,_,_,u.o.own c6 r rfl rfl rfl,rfl⟩);clear c6 r;(repeat revert K);refine vS ?_;intro K hK;refine Qk [6] fun f=>?_;exact V.o f
  | false=>
   have d1:=Lh (HN.o A HX.o (y7 h1) W.o);revert K;refine vg ?_;refine Qk [0,2,4,7,8] fun f=>?_;have r:aK (fun k=>k=d) w' (w'.setCell ⟨d,3,none⟩ (.slice (some ⟨g,0,none⟩) b.length m)):=aK.setCell (S:=fun k=>k=d) (aK.refl _ _) (p:=⟨d,3,none⟩) (aG rfl) _;refine d1.o f _ { c with op:=v6,bd:=v7 } g m (aK.below C.o (gA H.o.size C.o.size) r (fun k E=>by rw [E];exact a4.o)) rfl (u.o.poke t.o L.o 3 _) ?_ ?_ ?_
   ·have:=t.o.set 3 (.slice (some ⟨g,0,none⟩) b.length m);rw [W.o,←d2.o];simpa using this
   ·have h9:=bC.o;rw [W.o] at h9 ⊢;exact m5 (aE h9 r (row_ne h9 t.o (by decide))) e.o.size
   ·intro j;have h8:=(e.o.busy j).2;have h9:=(aS bC.o (g:=g) rfl).2;omega
def CT (a:Bs) (bound:List aN) (nm:Bs×Bs) (b:List cV):Except SV (aN×List cV):=match eK b with
 | .error e=>.error e
 | .ok l=>match gE a (l::bound) [] b with
  | .error e=>.error e
  | .ok xs=>if nm.1=bE then .error .opn else .ok (l,xs)
theorem MF (a:Bs) (s:gS) (nm:Bs×Bs) (b:List cV) (h:¬ nm=([],bE)):mO false a s nm b=match CT a s.bound nm b with
  | .error e=>.error e
  | .ok (l,xs)=>.ok (.start (cE a (l::s.bound) nm.1 true,nm.2) xs,{ s with opens:=dK nm::s.opens,bound:=l::s.bound }):=by
 unfold mO CT;rw [aM (by simp),aM h];cases eK b with
 | error e=>rfl
 | ok l=>
  simp only;cases gE a (l::s.bound) [] b with
  | error e=>rfl
  | ok xs=>
   simp only;by_cases c:nm.1=bE
   ·rw [aT c,aT c]
   ·rw [aM c,aM c]
theorem wE.of {x:PX} {a:Nat} {out:List cA} {w w1 w':World} (b:Below a w w1) (h:wE x a out w1 w'):wE x a out w w':=⟨b.trans h.1,h.2⟩
theorem An (x:PX) (a:Nat) (w:World) (c:PC) (opens:List Bs) (bound:List aN) (out:List cA) (h:dN x a w c opens bound out) (L:opens.length≤499999999) (B:bound.length=opens.length) (em:Bool) (j:Nat) (nm:Bs×Bs) (F:nm.1.length≤1000000000) (G:nm.2.length≤1000000000) (b:List cV) (u:b.length≤1000000000) (O:Option Addr) (P:Nat)
  (y:w.ownsRow a 68 3 (.slice O b.length P) b.length (aO b)) (D:∀ k,(Value.slice O b.length P).ownBlock=some k→¬ fW x c k) (tx:Value) (p:aJ w j #[.int .i64 1,aB nm.1,aB nm.2,.slice O b.length P,tx,.int .i64 0] 35) (z:a≤j) (C:¬ fW x c j) (Q:Exit→Act→World→Prop)
  (hE:CT x.space bound nm b=.error .opn→∀ f w',wE x a out w w'→Q .ret (fr 182 f [(6,.bool false)]) w')
  (hN:∀ l i,CT x.space bound nm b=.ok (l,i)→i.length=b.length→∀ f w' t g d,Below a w w'→t.at'=c.at'→dN x a w' t (dK nm::opens) (l::bound) out→aJ w' j #[.int .i64 1,aB (cE x.space (l::bound) nm.1 true),aB nm.2,.slice (some ⟨g,0,none⟩) i.length d,tx,.int .i64 0] 35 →
   w'.ownsRow a 68 3 (.slice (some ⟨g,0,none⟩) i.length d) i.length (aO i)→¬ fW x t g→Q .normal (fr 182 f [(0,jA x),(2,.bool em),(4,.pointer (some ⟨j,0,none⟩)),(7,aB nm.1),(8,aB nm.2)]) w') (f:Nat→Value) :
  (nY 5).wp prog Q (fr 182 f [(0,jA x),(2,.bool em),(4,.pointer (some ⟨j,0,none⟩)),(7,aB nm.1),(8,aB nm.2)]) w:=by
 have a3:=p.cell;have ⟨H,a0,U,n,q,X⟩:=iD h L B u y D;have ⟨W,T,V,HE,HN,Z⟩:=iD p z C hE hN F;have aA:=Lh G;clear h L B u y D p z C hE hN F G;unfold nY;conv=>arg 2;whnf
 refine vg ?_;intro K hK;refine cM [0,2,4,7,8,9,36,37,38] fun f=>?_;clear a3;refine XX x w c H.o.blk em j nm b n.o O P a q.o _ (fun e f w' hp hm=>?_) (fun l hl E f v w' m hr=>?_) f _ (by kernel_rfl)
 ·have o:=Lh (HE.o (by unfold CT;rw [e]) f w' ⟨aK.below (Below.refl _ w) H.o.size hm (fun k hk=>by rw [hk];exact H.o.pb),_,_,_,H.o.own hp hm rfl rfl rfl,rfl⟩);clear e hp hm;revert K;refine vg ?_;intro K hK;exact o.o
 ·have HB:=Lh (m.mono H.o.size);have a1:=Lh (H.o.fresh (aH m (fun _=>False)));have r:=Lh (aE (S:=fun _=>False) q.o (aH m _) (fun _ _=>id));have s:=Lh (W.o.mod (aH m (fun _=>False)) id);have HR:=Lh (m5 hr H.o.size);have HV:=Lh (show ∀ k,v.ownBlock=some k→¬ fW x c k from fun k hk a2=>by
   have h8:=(H.o.busy a2).2;have h9:=(aS hr hk).2;omega)
  have ⟨HL,Y⟩:=cH hl E;clear m hr hl E;revert K;refine vT 17 ?_;refine cM [0,2,4,7,8,9] fun f=>?_;refine bB (X3 x a w' c opens bound out a1.o a0.o U.o em j nm Z.o aA.o b n.o O P r.o X.o tx s.o T.o V.o l v HR.o (by have:=Y.o;have:=n.o;omega) HV.o _ (fun e f w2 ho=>?_) (fun i R J N f w2 t g d m ha hs A M I=>?_) f) (by kernel_rfl)
  ·have o:=Lh (HE.o (by
    unfold CT;rw [HL.o];rcases e with e|⟨i,e,R⟩
    ·simp only [e]
    ·simp only [e,aT R]) f w2 (wE.of HB.o ho))
   clear e ho;refine vg ?_;exact o.o
  ·have aC:=Lh (HN.o l i (by unfold CT;rw [HL.o];simp only [R,aM J]) N f w2 t g d (HB.o.trans m) ha hs A M I);clear R J N m ha hs A M I;refine vg ?_;exact aC.o
theorem QU (x:PX) (d:Nat) (O:x.raw=false) (b9:QK x d):UA x d:=by
 intro w c opens bound out h aC c9 c4 ha nm c6 c8 p sa sl sc c3 bA c5 em o b3 dI;have d9:=tH bA;subst d9;show Calls prog 60 #[jA x,.agg #[.int .i64 1,aB nm.1,aB nm.2,.slice sa p.length sc,aB [],.int .i64 0],.bool em] w _;obtain ⟨wa,Y⟩:=cR (w.alloc (.cells #[.int .i64 1,aB nm.1,aB nm.2,.slice sa p.length sc,aB [],.int .i64 0] 35));have X:aK (fun _=>False) w wa:=by rw [Y];exact (aK.refl _ w).alloc _
 have bC:aJ wa w.heap.size #[.int .i64 1,aB nm.1,aB nm.2,.slice sa p.length sc,aB [],.int .i64 0] 35:=by rw [Y];exact aJ.new w _ _
 have b4:dN x d wa c opens bound out:=h.fresh X;have d8:=b4.blk.cell;have L:=bC.cell;have ⟨cT,d3⟩:=cH b4 bC;have d1:=Lh (aE (S:=fun _=>False) bA X (fun _ _=>id));have d5:=Lh c5;have d4:=Lh (show Below d w wa from aK.below (Below.refl _ w) h.size X (fun i hi=>hi.elim));have b7:=Lh (show d≤w.heap.size∧¬ fW x c w.heap.size from ⟨h.size,fun hb=>Nat.lt_irrefl _ (h.busy hb).2⟩);have ⟨z,HA,a5,a1,a3,a4⟩:=iD aC ha c9 c4 c6 c8;have ⟨d0,b8⟩:=cH c3 b9;have aA:=Lh (show ∀ (q:¬ nm=([],bE)),kC o ⟨x.T.drop c.at',opens,bound⟩ (.start nm p) em=match CT x.space bound nm p with
   | .error e=>.error e
   | .ok (l,m)=>if em then (match eR x.raw x.space ⟨x.T.drop c.at',dK nm::opens,l::bound⟩ nm with
     | .error e=>.error e
     | .ok (t2,s3)=>.ok ([.start (cE x.space (l::bound) nm.1 true,nm.2) m,t2],s3))
    else .ok ([.start (cE x.space (l::bound) nm.1 true,nm.2) m],⟨x.T.drop c.at',dK nm::opens,l::bound⟩) by
  intro q;unfold kC;rw [b3,O,dI];simp only;rw [MF _ _ _ _ q];simp only;cases CT x.space bound nm p with
  | error e=>rfl
  | ok y=>rfl)
 have V:=Lh (show ∀ l,eR x.raw x.space ⟨x.T.drop c.at',dK nm::opens,l::bound⟩ nm=.ok (.fin (cE x.space (l::bound) nm.1 true,nm.2),⟨x.T.drop c.at',opens,bound⟩) from fun l=>by
  unfold eR;rw [O];simp)
 have d6:=Lh (show nm=([],bE)→kC o ⟨x.T.drop c.at',opens,bound⟩ (.start nm p) em=.error .opn from fun he=>by
  unfold kC mO;rw [b3,O];simp only;rw [aM (by simp),aT he])
 clear h aC c9 c4 ha c6 c8 bA c5 X bC b4 b9 b3 dI c3;refine eT 182 func60 [_,_,_] fun f=>?_;simp only [aF];refine vT 1 ?_;rw [←Y];clear Y;refine vg ?_;intro K hK;go_quiet (fail);revert K;refine vT 2 ?_;obtain ⟨wb,b5⟩:=cR (wa.drewN nq);rw [←b5];have M:aK (fun _=>False) wa wb:=by rw [b5];exact (aK.refl _ wa).drewN _
 have j:=Lh (cT.o.fresh M);have n:=Lh (show Below d w wb from aK.below d4.o cT.o.size M (fun _ h=>h.elim));have Z:=Lh (fun (Q:Exit→Act→World→Prop) hE hN f=>An x d wb c opens bound out j.o a5.o a1.o em w.heap.size nm a3.o a4.o p d0.o sa sc (aE (S:=fun _=>False) d1.o M (fun _ _=>id)) d5.o (aB []) (d3.o.mod M id) b7.o.1 b7.o.2 Q hE hN f);have hc:=j.o.blk.cell;have hf:=j.o.blk.frozen;clear b5 M d8 L;by_cases B:nm.1=[]
 ·cases h2:(nm.2==[120,109,108,110,115]) with
  | true=>
   have HR:=Lh (d6.o (by obtain ⟨a,b⟩:=nm;simp only at B h2;rw [B,y6 h2]));have HF:=Lh (hZ x wb wb c j.o.blk (aK.refl _ _) 2);have h3:nm.1.isEmpty=true:=by rw [B];rfl
   refine vg ?_;intro K hK K hK K hK K hK;refine HF.o.mono ?_;rintro e6 w6 ⟨rfl,dT,b1⟩;have r:=Lh (aK.below n.o j.o.size b1 (fun k hk=>by rw [hk];exact j.o.pb));have c1:=Lh (j.o.own dT b1 rfl rfl rfl);clear dT b1;(repeat revert K);refine vS ?_;intro K hK K hK;refine cX ?_;rw [HR.o];exact ⟨r.o,rfl,_,_,_,c1.o,rfl⟩
  | false=>
   have q:¬ nm=([],bE):=fun hh=>y7 h2 (by rw [hh]);have h3:nm.1.isEmpty=true:=by rw [B];rfl
   clear B;have HR:=Lh (aA.o q);clear q;refine vT 5 ?_;intro K hK;refine cM [0,2,4,7,8] fun f=>?_;refine bB (Z.o _ (fun he f w2 ho=>?_) (fun l m hx T f w2 c2 g E hb I hs u P N=>?_) f) (by kernel_rfl)
   ·have HO:=Lh (wE.of n.o ho);have a6:=Lh (HR.o.trans (by rw [he]));clear he ho hc hf;revert K;refine vg ?_;intro K hK;refine cX ?_;rw [a6.o];obtain ⟨W,c7,b6,a9,h8,t⟩:=HO.o;exact ⟨W,rfl,c7,b6,a9,h8,t⟩
   ·obtain ⟨a2,o2,U,D,F⟩:=c2;have J:a2=c.at':=I;subst J;clear I hc hf;have a0:=Lh (n.o.trans hb);have ⟨a8,a7⟩:=cH hs P;have HX:=Lh (HR.o.trans (by rw [hx]));have d7:=Lh T;obtain ⟨A,v⟩:=cR (cE x.space (l::bound) nm.1 true);have s:=Lh v;rw [←v] at u;have L:=u.cell;have C:=Lh (fun (w':World) (B:dN x d w' ⟨c.at',o2,U,D,F⟩ (dK nm::opens) (l::bound) out) (h2:w'.ownsRow d 68 3 (.slice (some ⟨g,0,none⟩) m.length E) m.length (aO m))=>G6 x d w' ⟨c.at',o2,U,D,F⟩ (dK nm::opens) (l::bound) out B (by have:=z.o;omega) ((aU.start (A,nm.2) m).itok []) (some ⟨g,0,none⟩) m.length E 0 h2 (fun k hk=>by
     have b0:g=k:=by simpa [Value.ownBlock] using hk
     rw [←b0];exact N))
    clear hb hs u P hx T v N;revert K;refine vg ?_;intro K hK K hK;refine (C.o _ (by exact a8.o) (by exact a7.o)).mono ?_;rintro e6 w6 ⟨rfl,H,v6,h6⟩;have r:=Lh (a0.o.trans H);have H6:=Lh h6;clear H h6 L;go_simp;cases em with
    | false=>
     (repeat revert K);refine vg ?_;refine cX ?_;rw [HX.o];refine ⟨r.o,rfl,⟨c.at',v6,U,D,F⟩,?_,HA.o,rfl⟩;rw [←s.o];exact H6.o
    | true=>
     have HC:=Lh (b8.o w6 ⟨c.at',v6,U,D,F⟩ (dK nm::opens) (l::bound) _ H6.o (by have:=z.o;rw [fU];simp;omega) (by have:=a5.o;rw [gF];omega) (by rw [gF,gF,a1.o]) HA.o nm a3.o a4.o);(repeat revert K);refine vg ?_;intro K hK K hK K hK;refine HC.o.mono ?_;rintro e7 w7 W;have h8:fX x d out w (.ok ([.start (A,nm.2) m,.fin (A,nm.2)],⟨x.T.drop c.at',opens,bound⟩)) e7 w7:=fX.snoc (a:=c.at') r.o HA.o rfl (by
      have t:=W;rw [show eR x.raw x.space ⟨x.T.drop (⟨c.at',v6,U,D,F⟩:PC).at',dK nm::opens,l::bound⟩ nm=.ok (.fin (A,nm.2),⟨x.T.drop c.at',opens,bound⟩) by rw [s.o];exact V.o l] at t;exact t)
     obtain ⟨t,rfl,G⟩:=h8;have H8:=Lh (show fX x d out w (.ok ([.start (A,nm.2) m,.fin (A,nm.2)],⟨x.T.drop c.at',opens,bound⟩)) (.returned (.bool true)) w7 from ⟨t,rfl,G⟩);clear W t G;(repeat revert K);refine vS ?_;intro K hK;refine cX ?_;have R:=HX.o;simp only [↓reduceIte,V.o] at R;rw [R,←s.o];exact H8.o
 ·have q:¬ nm=([],bE):=fun hh=>B (by rw [hh]);have h3:nm.1.isEmpty=false:=by
   obtain ⟨a,b⟩:=nm;cases a with
   | nil=>exact absurd rfl B
   | cons=>rfl
  clear B;have HR:=Lh (aA.o q);clear q;refine vT 5 ?_;intro K hK;refine cM [0,2,4,7,8] fun f=>?_;refine bB (Z.o _ (fun he f w2 ho=>?_) (fun l m hx T f w2 c2 g E hb I hs u P N=>?_) f) (by kernel_rfl)
  ·have HO:=Lh (wE.of n.o ho);have a6:=Lh (HR.o.trans (by rw [he]));clear he ho hc hf;revert K;refine vg ?_;intro K hK;refine cX ?_;rw [a6.o];obtain ⟨W,c7,b6,a9,h8,t⟩:=HO.o;exact ⟨W,rfl,c7,b6,a9,h8,t⟩
  ·obtain ⟨a2,o2,U,D,F⟩:=c2;have J:a2=c.at':=I;subst J;clear I hc hf;have a0:=Lh (n.o.trans hb);have ⟨a8,a7⟩:=cH hs P;have HX:=Lh (HR.o.trans (by rw [hx]));have d7:=Lh T;obtain ⟨A,v⟩:=cR (cE x.space (l::bound) nm.1 true);have s:=Lh v;rw [←v] at u;have L:=u.cell;have C:=Lh (fun (w':World) (B:dN x d w' ⟨c.at',o2,U,D,F⟩ (dK nm::opens) (l::bound) out) (h2:w'.ownsRow d 68 3 (.slice (some ⟨g,0,none⟩) m.length E) m.length (aO m))=>G6 x d w' ⟨c.at',o2,U,D,F⟩ (dK nm::opens) (l::bound) out B (by have:=z.o;omega) ((aU.start (A,nm.2) m).itok []) (some ⟨g,0,none⟩) m.length E 0 h2 (fun k hk=>by
    have b0:g=k:=by simpa [Value.ownBlock] using hk
    rw [←b0];exact N))
   clear hb hs u P hx T v N;revert K;refine vg ?_;intro K hK K hK;refine (C.o _ (by exact a8.o) (by exact a7.o)).mono ?_;rintro e6 w6 ⟨rfl,H,v6,h6⟩;have r:=Lh (a0.o.trans H);have H6:=Lh h6;clear H h6 L;go_simp;cases em with
   | false=>
    (repeat revert K);refine vg ?_;refine cX ?_;rw [HX.o];refine ⟨r.o,rfl,⟨c.at',v6,U,D,F⟩,?_,HA.o,rfl⟩;rw [←s.o];exact H6.o
   | true=>
    have HC:=Lh (b8.o w6 ⟨c.at',v6,U,D,F⟩ (dK nm::opens) (l::bound) _ H6.o (by have:=z.o;rw [fU];simp;omega) (by have:=a5.o;rw [gF];omega) (by rw [gF,gF,a1.o]) HA.o nm a3.o a4.o);(repeat revert K);refine vg ?_;intro K hK K hK K hK;refine HC.o.mono ?_;rintro e7 w7 W;have h8:fX x d out w (.ok ([.start (A,nm.2) m,.fin (A,nm.2)],⟨x.T.drop c.at',opens,bound⟩)) e7 w7:=fX.snoc (a:=c.at') r.o HA.o rfl (by
     have t:=W;rw [show eR x.raw x.space ⟨x.T.drop (⟨c.at',v6,U,D,F⟩:PC).at',dK nm::opens,l::bound⟩ nm=.ok (.fin (A,nm.2),⟨x.T.drop c.at',opens,bound⟩) by rw [s.o];exact V.o l] at t;exact t)
    obtain ⟨t,rfl,G⟩:=h8;have H8:=Lh (show fX x d out w (.ok ([.start (A,nm.2) m,.fin (A,nm.2)],⟨x.T.drop c.at',opens,bound⟩)) (.returned (.bool true)) w7 from ⟨t,rfl,G⟩);clear W t G;(repeat revert K);refine vS ?_;intro K hK;refine cX ?_;have R:=HX.o;simp only [↓reduceIte,V.o] at R;rw [R,←s.o];exact H8.o
end Go.Proofs.YthapcchcahnfaaaGreatDoor
