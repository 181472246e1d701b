/- Part of the proof that laws.FnStrictIsLoose, laws.FnUnclosed, laws.FnReaderFails, laws.FnWithin, laws.FnSkip returns true for every argument. No conditions. -/
import Derived.Test.YthapcchcahnfaaaGreatDoorP37
import Derived.Test.YthapcchcahnfaaaGreatDoorP38
import Derived.Test.YthapcchcahnfaaaGreatDoorP10
set_option linter.all false
set_option maxHeartbeats 8000000
set_option maxRecDepth 100000
namespace Go.Proofs.YthapcchcahnfaaaGreatDoor
open Go Go.RowKit
theorem nP {w:World} {b f:Nat} {e:TypeId} {a:Nat} {v:Value} {n:Nat} {j:List Value} (h:w.ownsRow b e a v n j) (p:f≤b):w.ownsRow f e a v n j:=by
 obtain ⟨i,k|⟨g,c,d,l,m,o⟩⟩:=h
 ·exact ⟨i,aH k⟩
 ·exact ⟨i,aW ⟨g,c,d,l,fX p m,o⟩⟩
theorem WO (ents:aP) {T:Bs} {a b m:Nat} {acc:List cZ} (c:aT (T.drop a)=T.drop b) (h:T.length≤b):dL ents (m+1) (T.drop a) acc=.error .bad:=by
 unfold dL;rw [c,vN h]
theorem Z9 (ents:aP) {T:Bs} {a b m:Nat} {acc:List cZ} (d:aT (T.drop a)=T.drop b) (c:b<T.length) (h:T.getD b 0=62):dL ents (m+1) (T.drop a) acc=.ok (acc,false,T.drop (b+1)):=by
 unfold dL;rw [d,cF T b c];simp only [aV h]
theorem Aa (ents:aP) {T:Bs} {a b m:Nat} {acc:List cZ} (g:aT (T.drop a)=T.drop b) (e:b<T.length) (h:T.getD b 0=47):dL ents (m+1) (T.drop a) acc=if ([62]:Bs).isPrefixOf (T.drop (b+1)) then .ok (acc,true,T.drop (b+2)) else .error .bad:=by
 unfold dL;rw [g,cF T b e];simp only [aN (show ¬ T.getD b 0=62 by rw [h];decide),aV h];by_cases d:b+1<T.length
 ·rw [dO 62 T (b+1) d,cF T (b+1) d];by_cases c:T.getD (b+1) 0=62
  ·simp only [aV c];rw [aV (by rw [c];rfl)]
  ·simp only [aN c];rw [aN (by rw [beq_iff_eq];exact fun f=>c f.symm)]
 ·rw [vN (by omega)];rfl
theorem Ab (ents:aP) {T:Bs} {a b m:Nat} {acc:List cZ} (f:aT (T.drop a)=T.drop b) (p:a≤T.length) (n:b<T.length) (h:¬ T.getD b 0=62) (i:¬ T.getD b 0=47):dL ents (m+1) (T.drop a) acc=match eQ ents (T.drop b) with
  | .error e=>.error e
  | .ok (at',r2)=>if ¬ a<b then .error .opn else if acc.any (fun x=>x.1==at'.1&&x.2.1==at'.2.1) then .error .opn else dL ents m r2 (acc++[at']):=by
 have e:((T.drop b).length=(T.drop a).length)↔¬ a<b:=by
  rw [eY,eY];have:=congrArg List.length f;have k:∀ l:Bs,(aT l).length≤l.length:=by
   intro l;induction l with
   | nil=>exact dD _
   | cons c r ih=>
    unfold aT;split
    ·rw [gN];omega
    ·exact dD _
  have j:=k (T.drop a);rw [this,eY,eY] at j;omega
 conv=>lhs;unfold dL
 rw [f];have o:=cF T b n;have g:(match T.drop b with
  | []=>.error .bad
  | d::r=>
   if d=62 then .ok (acc,false,r)
   else if d=47 then (match r with
    | []=>.error .bad
    | c::r2=>if c=62 then .ok (acc,true,r2) else .error .bad)
   else match eQ ents (d::r) with
    | .error e=>.error e
    | .ok (a',r2)=>
     if (T.drop b).length=(T.drop a).length then .error .opn
     else if acc.any (fun x=>x.1==a'.1&&x.2.1==a'.2.1) then .error .opn
     else dL ents m r2 (acc++[a']):Except SV (List cZ×Bool×Bs))=match eQ ents (T.drop b) with
  | .error e=>.error e
  | .ok (at',r2)=>if ¬ a<b then .error .opn else if acc.any (fun x=>x.1==at'.1&&x.2.1==at'.2.1) then .error .opn else dL ents m r2 (acc++[at']):=by
  simp only [e];rw [o];simp only [aN h,aN i]
 exact g
def LX (o:mL) (opens:List Bs) (bound:List aP) (r:Except SV ((Bs×Bs)×List cZ×Bool×Bs)):Except SV (List aO×hZ):=match r with
 | .error e=>.error e
 | .ok (nm,ats,em,r)=>kY o ⟨r,opens,bound⟩ (.start nm ats) em
def Dx (x:PX) (c:PC) (ents:aP) (b:Nat) (nm:Bs×Bs) (j i:Nat) (w0:World) (k:Nat) (h:Act) (w:World):Prop:=
 ∃ f a acc d g e m,h=fr 83 f [(0,jP x),(6,.pointer (some ⟨b,0,none⟩))]∧aY x w { c with at':=a }∧aJ w b #[.int .i64 1,aB nm.1,aB nm.2,.slice d g e,aB [],.int .i64 0] 35∧w.ownsRow w0.heap.size 68 3 (.slice d g e) acc.length (aR acc)∧(Value.slice d g e).ownBlock≠some b∧aM (fun k=>k=x.p) w0 w ∧
  k=x.T.length-a∧a≤x.T.length∧c.at'≤a∧acc.length≤a∧x.T.length-a<m∧dL ents i (x.T.drop j) []=dL ents m (x.T.drop a) acc
theorem sM {α:Type} {l:List α} {i:Nat} {a:α} {p:α→Bool} (h:l[i]?=some a) (b:(l.take i).any p=false) (c:p a=false):(l.take (i+1)).any p=false:=by
 rw [List.take_add_one,h,List.any_append,b];simp [c]
def Dy (e d c v:Value) (a:cZ) (acc:List cZ) (w0:World) (k:Nat) (b:Act) (w:World):Prop:=
 ∃ f i,b=fr 83 f [(0,e),(6,d),(8,c),(56,v),(57,.int .i64 (acc.length:Nat)),(58,.int .i64 (i:Nat))]∧Below w0.heap.size w0 w∧k=acc.length-i∧i≤acc.length∧((acc.take i).any (fun x=>x.1==a.1&&x.2.1==a.2.1))=false
theorem SP {ents:aP} {q:UInt8}:∀ (k:Nat) (T:Bs) (a:Nat) (out v r:Bs),qX ents q k (T.drop a) out=.ok (v,r)→r.length<T.length-a
 | 0,_,_,_,_,_,h=>by cases h
 | k+1,T,a,out,v,r,h=>by
  by_cases c:a<T.length
  ·by_cases b:T.getD a 0=q
   ·rw [JY ents c b] at h;simp only [bT,bR] at h;rw [←h.2,eY];omega
   ·by_cases d:T.getD a 0=60
    ·rw [SI ents c b d] at h;cases h
    ·by_cases g:T.getD a 0≠32∧mG (T.getD a 0)=true
     ·rw [SJ ents c b d g] at h;cases h
     ·rw [GN ents c b d g] at h;cases f:fW ents (T.drop a) with
      | error e=>rw [f] at h;cases h
      | ok p=>
       obtain ⟨t,i⟩:=p;rw [f] at h;simp only at h;have j:=oI f;have l:=SP k i 0 (out++t) v r (by simpa using h);omega
  ·rw [JX ents (by omega)] at h;cases h
theorem gG.bool {x:PX} {a:Nat} {out:List cD} {w:World} {r:Except SV (List aO×hZ)} {e:Ending} {w':World} (h:gG x a out w r e w'):∃ b,e=.returned (.bool b):=by
 obtain ⟨_,c⟩:=h;split at c
 ·exact ⟨_,c.1⟩
 ·exact ⟨_,c.1⟩
theorem yG:∀ l:Bs,(aT l).length≤l.length
 | []=>dD _
 | c::r=>by
  have ih:=yG r;unfold aT;split
  ·rw [gN];omega
  ·exact dD _
theorem WP {ents:aP} {rest r:Bs} {v:cZ} (h:eQ ents rest=.ok (v,r)):r.length<rest.length:=by
 unfold eQ at h;cases d:fZ rest with
 | error e=>rw [d] at h;cases h
 | ok p=>
  obtain ⟨nm,k⟩:=p;have n:=(nT (f:=false) d).2.2.2;rw [d] at h;simp only at h;have g:=yG k;cases j:aT k with
  | nil=>rw [j] at h;cases h
  | cons b r2=>
   rw [j] at h g;simp only at h;rw [gN] at g;split at h
   ·have i:=yG r2;cases a:aT r2 with
    | nil=>rw [a] at h;cases h
    | cons q r3=>
     rw [a] at h i;simp only at h;rw [gN] at i;split at h
     ·cases c:qX ents q (r3.length+1) r3 [] with
      | error e=>rw [c] at h;cases h
      | ok p=>
       obtain ⟨m,l⟩:=p;rw [c] at h;simp only [bT,bR] at h;have o:=SP (r3.length+1) r3 0 [] m l (by simpa using c);rw [←h.2];omega
     ·cases h
   ·cases h
theorem SQ (x:PX) (hT:x.T.length≤100000000) (y:Nat) (ents:aP) (j2:lN ents) (i7:WN x y) (o:mL) (mE:o.raw=x.raw) (mI:o.space=x.space) (w:World) (c:PC) (opens:List Bs) (bound:List aP) (out:List cD) (h:dZ x y w c opens bound out) (f7:out.length≤499999999) (mA:opens.length≤499999999) (j8:bound.length=opens.length) (ha:c.at'≤x.T.length) (hE:qM x y ents w) :
  Calls Tryz.prog 34 #[jP x] w (gG x y out w (LX o opens bound (fM ents (x.T.drop c.at')))):=by
 have hC:x.T.length≤1000000000:=by omega
 have HN:=Lh (D4 x hC w c h.blk ha);have ⟨H,HT,V,HE,n5,h6⟩:=iH h hT hC hE j2 f7;have ⟨o0,n3,o1,o2,o3⟩:=o4 mA j8 i7 mE mI;have b8:=Lh (show fM ents (x.T.drop c.at')=match fZ (x.T.drop c.at') with
  | .error e=>.error e
  | .ok (nm,r)=>match dL ents (r.length+1) r [] with
   | .error e=>.error e
   | .ok (ats,em,r2)=>.ok (nm,ats,em,r2) from rfl)
 clear h hT hC hE j2 f7 mA j8 i7 ha mE mI;refine eI 83 Tryz.func34 [_] fun f=>?_;simp only [aF];refine vg ?_;intro K hK K hK;refine HN.o.mono ?_;rintro e1 w1 ⟨c3,W⟩;have i0:=Lh c3;cases hn:fZ (x.T.drop c.at') with
 | error k=>
  rw [hn] at W b8;obtain ⟨⟨a1,a8⟩,rfl⟩:=W;have o9:=Lh a8;clear a8 c3 HN;(repeat revert K);refine vS ?_;intro K hK;refine cO ?_;exact gG.err (w1:=w) (k:=k) H.o o9.o i0.o (by rw [b8.o];rfl)
 | ok q=>
  obtain ⟨nm,r⟩:=q;have i6:=Lh (GR hn);rw [hn] at W b8;obtain ⟨a1,m2,f4,f2,a8,rfl⟩:=W;have m3:r=x.T.drop a1:=m2;subst m3;obtain ⟨wa,c7⟩:=cY (w1.alloc (.cells #[.int .i64 1,aB nm.1,aB nm.2,.slice none 0 0,aB [],.int .i64 0] 35));have j0:=Lh (show aY x wa { c with at':=a1 } by rw [c7];exact a8.alloc _);have Z:=Lh (show aJ wa w1.heap.size #[.int .i64 1,aB nm.1,aB nm.2,.slice none 0 0,aB [],.int .i64 0] 35 by rw [c7];exact aJ.new w1 _ _);have i4:=Lh (show aM (fun k=>k=x.p) w wa by rw [c7];exact c3.alloc _);obtain ⟨bt,d6⟩:=cY w1.heap.size;rw [←d6] at Z;have n4:=Lh (show w.heap.size≤bt by rw [d6];exact c3.size);have L:=Lh (show ¬ bt=x.p by have:=aJ.lt a8;omega);have n9:=Lh f4;have n6:=Lh (show c.at'≤a1 from f2);obtain ⟨m0,hL⟩:=cY ((x.T.drop a1).length+1);have oC:=Lh (show x.T.length-a1<m0 by rw [hL,eY];omega);have D:=Lh (show fM ents (x.T.drop c.at')=match dL ents m0 (x.T.drop a1) [] with
   | .error e=>.error e
   | .ok (ats,em,r2)=>.ok (nm,ats,em,r2) by rw [b8.o,hL])
  clear a8 c3 HN m2 f4 f2 hL b8;(repeat revert K);refine vS ?_;rw [←c7,←d6];clear c7 d6;refine cP [0,6] fun f=>?_;refine wp_loop_ghost_k (Dx x c ents bt nm a1 m0 w) (x.T.length-a1) ⟨f,a1,[],none,0,0,m0,rfl,j0.o,Z.o,⟨rfl,aH ⟨rfl,rfl⟩⟩,by simp [Value.ownBlock],i4.o,rfl,n9.o,n6.o,iW _,oC.o,rfl⟩ ?_;clear j0 Z i4 i0;rintro k _ w2 ⟨f,a,acc,sa,sl,sc,m,rfl,hp,hb,a4,f9,hm,hk,hI,l0,j6,l3,n0⟩ J K2 hJ j4;obtain ⟨m',rfl⟩:∃ m',m=m'+1:=⟨m-1,by omega⟩;have ⟨HJ,n8,HB,e8,i5,HM⟩:=iH hJ j4 hb a4 f9 hm;have ⟨HK,d0,n7,c8,oT,d4⟩:=iH hk hI l0 j6 l3 n0;have hV:=Lh (m9 x V.o w2 { c with at':=a } hp hI);have n1:=qF a4;subst n1;have M:=Lh (show (Value.slice sa acc.length sc).ownBlock≠some x.p from fun A=>by have W:=(aU a4 A).2;have h2:=aJ.lt H.o.blk;omega);clear hJ j4 hp hb a4 f9 hm hk hI l0 j6 l3 n0;refine vg ?_;intro K hK K hK;refine hV.o.mono ?_;rintro e2 w3 ⟨n,rfl,mR,d8,f5,f3,n2⟩;have i9:=Lh (show aY x w3 { c with at':=n } from mR);have hQ:=Lh (HB.o.mod d8 L.o);have b4:=Lh (aE e8.o d8 (fun g E A=>M.o (by rw [←A];exact E)));have i1:=Lh (HM.o.trans d8 (fun _ _ h=>h));have b0:=Lh f5;have dT:=Lh (show a≤n from f3);have d5:=Lh (show aT (x.T.drop a)=x.T.drop n from n2);obtain ⟨sp,hM⟩:=cY (decide (a<n));have g2:decide ((({ c with at':=a }:PC).at':Int)<(n:Int))=sp:=by rw [hM];simp
  rw [g2];have f0:=Lh hM;clear mR d8 f5 f3 n2 hV hM g2 HB e8 HM;have dI:=Lh (fun (b:Nat) (w':World) (W:aY x w' { c with at':=b }) (h2:aM (fun k=>k=x.p) w w') (v:Int)=>iL x w w' { c with at':=b } W h2 v);have b3:=Lh (fun (b:Nat) (hb:b≤x.T.length) (w':World) (W:aY x w' { c with at':=b }) (h2:aM (fun k=>k=x.p) w w') (h3:w'.ownsRow w.heap.size 68 3 (.slice sa acc.length sc) acc.length (aR acc)) (em:Bool)=>
   o1.o w' { c with at':=b } opens bound out (H.o.own W h2 rfl rfl rfl) h6.o o0.o n3.o hb nm (by have s:=i6.o.1;rw [eY] at s;have:=HT.o;omega) (by have s:=i6.o.2;rw [eY] at s;have:=HT.o;omega) acc sa acc.length sc (by have:=c8.o;have:=HT.o;have:=d0.o;omega)
    (nP h3 H.o.size) (fun g E hG=>by have h8:=(H.o.busy (show gE x c g from hG)).2;have s:=(aU h3 E).2;omega) em o o2.o o3.o)
  go_simp;cases Q:([62]:Bs).isPrefixOf (x.T.drop n) with
  | true=>
   have U:=Lh (jA x V.o w3 { c with at':=n } i9.o b0.o [62] (by decide) Q);have z:=lI Q (by decide);have HR:=Lh (show fM ents (x.T.drop c.at')=.ok (nm,acc,false,x.T.drop (n+1)) by
    have s:=dO 62 x.T n z;rw [Q] at s;have hB:x.T.getD n 0=62:=(beq_iff_eq.1 s.symm).symm;rw [D.o,d4.o,Z9 ents d5.o z hB])
   have d1:=Lh z;clear Q z;(repeat revert K);refine vg ?_;intro K hK K hK K hK;refine U.o.mono ?_;rintro eh w4 ⟨rfl,t,l⟩;have d2:=Lh (show aY x w4 { c with at':=n+1 } from t);have b1:=Lh (i1.o.trans l (fun _ _ h=>h));have N:=Lh (aE b4.o l (fun g E A=>M.o (by rw [←A];exact E)));have bA:=Lh (hQ.o.mod l L.o);clear t l U;have hc:=bA.o.cell;have hf:=bA.o.frozen;(repeat revert K);refine vS ?_;intro K hK K hK K hK;refine (b3.o (n+1) d1.o _ (by exact d2.o) (by exact eX b1.o rfl rfl rfl rfl) (by exact N.o) false).mono ?_;rintro e9 T s;have h5:gG x y out w (LX o opens bound (fM ents (x.T.drop c.at'))) e9 T:=by rw [HR.o];exact gG.base (aM.below (Below.refl y w) H.o.size (show aM (fun k=>k=x.p) w _ from eX b1.o rfl rfl rfl rfl) (fun i hi=>by rw [hi];exact H.o.pb)) s
   obtain ⟨b9,rfl⟩:=gG.bool s;have H5:=Lh h5;clear s h5;(repeat revert K);refine vS ?_;intro K hK;refine cO ?_;exact H5.o
  | false=>
   have U:=Lh (iM x V.o w3 { c with at':=n } i9.o b0.o [62] (by decide) Q);(repeat revert K);refine vg ?_;intro K hK K hK K hK;refine U.o.mono ?_;rintro eh w4 ⟨rfl,t,l⟩;have d2:=Lh (show aY x w4 { c with at':=n } from t);have b1:=Lh (i1.o.trans l (fun _ _ h=>h));have N:=Lh (aE b4.o l (fun g E A=>M.o (by rw [←A];exact E)));have bA:=Lh (hQ.o.mod l L.o);clear t l U;go_simp;cases Y:([47]:Bs).isPrefixOf (x.T.drop n) with
   | true=>
    have U:=Lh (jA x V.o w4 { c with at':=n } d2.o b0.o [47] (by decide) Y);have z:=lI Y (by decide);have j1:=Lh (show dL ents m0 (x.T.drop a1) []=if ([62]:Bs).isPrefixOf (x.T.drop (n+1)) then .ok (acc,true,x.T.drop (n+2)) else .error .bad by
     have s:=dO 47 x.T n z;rw [Y] at s;have hB:x.T.getD n 0=47:=(beq_iff_eq.1 s.symm).symm;rw [d4.o,Aa ents d5.o z hB])
    have d1:=Lh z;clear Q Y z;(repeat revert K);refine vg ?_;intro K hK K hK K hK;refine U.o.mono ?_;rintro eh w5 ⟨rfl,t,l⟩;have aA:=Lh (show aY x w5 { c with at':=n+1 } from t);have a6:=Lh (b1.o.trans l (fun _ _ h=>h));have O:=Lh (aE N.o l (fun g E A=>M.o (by rw [←A];exact E)));have c9:=Lh (bA.o.mod l L.o);clear t l U;go_simp;cases aL:([62]:Bs).isPrefixOf (x.T.drop (n+1)) with
    | true=>
     have U:=Lh (jA x V.o w5 { c with at':=n+1 } aA.o d1.o [62] (by decide) aL);have oA:=Lh (show n+2≤x.T.length by have:=lI aL (by decide);omega);have HR:=Lh (show fM ents (x.T.drop c.at')=.ok (nm,acc,true,x.T.drop (n+2)) by rw [D.o,j1.o,aV aL]);clear aL;(repeat revert K);refine vg ?_;intro K hK K hK K hK K hK;refine U.o.mono ?_;rintro eh w6 ⟨rfl,t,l⟩;have C:=Lh (show aY x w6 { c with at':=n+1+1 } from t);have B:=Lh (a6.o.trans l (fun _ _ h=>h));have b5:=Lh (aE O.o l (fun g E A=>M.o (by rw [←A];exact E)));have g3:=Lh (c9.o.mod l L.o);clear t l U;have hc:=g3.o.cell;have hf:=g3.o.frozen;(repeat revert K);refine vS ?_;intro K hK K hK K hK;refine (b3.o (n+2) oA.o _ (by exact C.o) (by exact eX B.o rfl rfl rfl rfl) (by exact b5.o) true).mono ?_;rintro e9 T s;have h5:gG x y out w (LX o opens bound (fM ents (x.T.drop c.at'))) e9 T:=by rw [HR.o];exact gG.base (aM.below (Below.refl y w) H.o.size (show aM (fun k=>k=x.p) w _ from eX B.o rfl rfl rfl rfl) (fun i hi=>by rw [hi];exact H.o.pb)) s
     obtain ⟨b9,rfl⟩:=gG.bool s;have H5:=Lh h5;clear s h5;(repeat revert K);refine vS ?_;intro K hK;refine cO ?_;exact H5.o
    | false=>
     have U:=Lh (iM x V.o w5 { c with at':=n+1 } aA.o d1.o [62] (by decide) aL);have HR:=Lh (show fM ents (x.T.drop c.at')=.error .bad by rw [D.o,j1.o,aN (by rw [aL];simp)]);clear aL;(repeat revert K);refine vg ?_;intro K hK K hK K hK K hK;refine U.o.mono ?_;rintro eh w6 ⟨rfl,t,l⟩;have C:=Lh (show aY x w6 { c with at':=n+1 } from t);have B:=Lh (a6.o.trans l (fun _ _ h=>h));have b5:=Lh (aE O.o l (fun g E A=>M.o (by rw [←A];exact E)));have g3:=Lh (c9.o.mod l L.o);clear t l U;(repeat revert K);refine vS ?_;intro K hK K hK K hK K hK;refine (dI.o (n+1) _ (by exact C.o) (by exact eX B.o rfl rfl rfl rfl) _).mono ?_;rintro e6 w6 ⟨rfl,G,F⟩;have ⟨C,B⟩:=cN G F;clear G F;(repeat revert K);refine vS ?_;intro K hK K hK;refine cO ?_;exact gG.err (w1:=w) (k:=.bad) H.o C.o B.o (by rw [HR.o];rfl)
   | false=>
    have U:=Lh (iM x V.o w4 { c with at':=n } d2.o b0.o [47] (by decide) Y);(repeat revert K);refine vg ?_;intro K hK K hK K hK;refine U.o.mono ?_;rintro eh w5 ⟨rfl,t,l⟩;have aA:=Lh (show aY x w5 { c with at':=n } from t);have a6:=Lh (b1.o.trans l (fun _ _ h=>h));have O:=Lh (aE N.o l (fun g E A=>M.o (by rw [←A];exact E)));have c9:=Lh (bA.o.mod l L.o);clear t l U;go_simp;by_cases z:n<x.T.length
    rotate_left
    ·have HR:=Lh (show fM ents (x.T.drop c.at')=.error .bad by rw [D.o,d4.o,WO ents d5.o (by omega)]);have g6:=Lh (fun (w':World) (W:aY x w' { c with at':=n })=>oR x w' { c with at':=n } W (by simp;omega));clear Q Y;(repeat revert K);refine vg ?_;intro K hK K hK K hK;refine (g6.o _ (by exact aA.o)).mono ?_;rintro e6 w6 ⟨rfl,k6,rfl⟩;(repeat revert K);refine vS ?_;intro K hK K hK K hK;refine (dI.o (n) _ (by exact aA.o) (by exact eX a6.o rfl rfl rfl rfl) _).mono ?_;rintro e6 w6 ⟨rfl,G,F⟩;have ⟨C,B⟩:=cN G F;clear G F;(repeat revert K);refine vS ?_;intro K hK;refine cO ?_;exact gG.err (w1:=w) (k:=.bad) H.o C.o B.o (by rw [HR.o];rfl)
    have g6:=Lh (fun (w':World) (W:aY x w' { c with at':=n })=>oS x w' { c with at':=n } W z)
    have hO:=Lh (show dL ents m0 (x.T.drop a1) []=_ from d4.o.trans (Ab ents (m:=m') (acc:=acc) d5.o d0.o z
     (fun hh=>by have s:=dO 62 x.T n z;rw [Q,hh] at s;cases s)
     (fun hh=>by have s:=dO 47 x.T n z;rw [Y,hh] at s;cases s)))
    clear Q Y;(repeat revert K);refine vg ?_;intro K hK K hK K hK;refine (g6.o _ (by exact aA.o)).mono ?_;rintro e6 w6 ⟨rfl,k6,rfl⟩;have e4:=Lh (WM x V.o y H.o.pb ents n5.o (w5.drewN k6) { c with at':=n } aA.o b0.o (HE.o.below (aM.below (Below.refl _ w) H.o.size (a6.o.drewN k6) (fun i hi=>by rw [hi];exact H.o.pb))));(repeat revert K);refine vS ?_;intro K hK K hK;refine e4.o.mono ?_;rintro e7 w7 ⟨d9,h7⟩;have i2:=Lh (show aM (fun k=>k=x.p) w w7 from aM.trans (a6.o.drewN k6) d9 (fun _ _ h=>h));have b6:=Lh (show w7.ownsRow w.heap.size 68 3 (.slice sa acc.length sc) acc.length (aR acc) from aE (w:=w5.drewN k6) O.o d9 (fun g E A=>M.o (by rw [←A];exact E)));have hR:=Lh (aJ.mod (S:=fun k=>k=x.p) (w:=w5.drewN k6) c9.o d9 L.o);clear d9 e4;rw [show ({ c with at':=n }:PC).at'=n from rfl] at h7;cases hr:eQ ents (x.T.drop n) with
    | error k=>
     rw [hr] at h7;obtain ⟨⟨a7,c5⟩,rfl⟩:=h7;have d3:=Lh c5;have HR:=Lh (show fM ents (x.T.drop c.at')=.error k by rw [D.o,hO.o,hr]);clear c5;(repeat revert K);refine vS ?_;intro K hK;refine cO ?_;exact gG.err (w1:=w) (k:=k) (a:=a7) H.o (aJ.alloc (w:=w7) d3.o _) (i2.o.alloc _) (by rw [HR.o];rfl)
    | ok q=>
     rw [hr] at h7;obtain ⟨d,r7⟩:=q;obtain ⟨a7,m4,f6,l1,c5,rfl⟩:=h7;have nE:r7=x.T.drop a7:=m4;subst nE;have d3:=Lh (show aY x w7 { c with at':=a7 } from c5);have g7:=Lh f6;have a0:=Lh (show n<a7 by have:=WP hr;rw [eY,eY] at this;omega);have e0:=Lh (show dL ents m0 (x.T.drop a1) []=if ¬ a<n then .error .opn else if acc.any (fun x=>x.1==d.1&&x.2.1==d.2.1) then .error .opn else dL ents m' (x.T.drop a7) (acc++[d]) by rw [hO.o,hr]);obtain ⟨w8,c6⟩:=cY (w7.alloc (.cells #[aB d.1,aB d.2.1,aB d.2.2] 68));have Z:=Lh (show aJ w8 w7.heap.size #[aB d.1,aB d.2.1,aB d.2.2] 68 by rw [c6];exact aJ.new w7 _ _);have g8:=Lh (show aM (fun k=>k=x.p) w w8 by rw [c6];exact i2.o.alloc _);have a3:aM (fun _=>False) w7 w8:=by rw [c6];exact (aM.refl _ w7).alloc _
     have aC:=Lh (aE (S:=fun _=>False) b6.o a3 (fun _ _=>id));have hS:=Lh (hR.o.mod a3 id);have hA:=Lh (show aY x w8 { c with at':=a7 } from d3.o.mod a3 id);obtain ⟨ba,hD⟩:=cY w7.heap.size;rw [←hD] at Z;have p8:=Lh (show ba≠bt∧ba≠x.p∧(Value.slice sa acc.length sc).ownBlock≠some ba by
      refine ⟨?_,?_,?_⟩
      ·have:=aJ.lt hR.o;omega
      ·have:=aJ.lt d3.o;omega
      ·intro A;have:=(aU b6.o A).1;omega)
     clear c5 hr m4 f6 l1 a3;go_simp;(repeat revert K);refine vT 15 ?_;rw [←c6,←hD];clear c6 hD;cases sp with
     | false=>
      have HR:=Lh (show fM ents (x.T.drop c.at')=.error .opn by rw [D.o,e0.o,aV (of_decide_eq_false f0.o.symm)]);refine vg ?_;intro K hK K hK K hK;refine (dI.o (a7) _ (by exact hA.o) (by exact eX g8.o rfl rfl rfl rfl) _).mono ?_;rintro e6 w6 ⟨rfl,G,F⟩;have ⟨C,B⟩:=cN G F;clear G F;(repeat revert K);refine vS ?_;intro K hK;refine cO ?_;exact gG.err (w1:=w) (k:=.opn) H.o C.o B.o (by rw [HR.o];rfl)
     | true=>
      have e3:=Lh (e0.o.trans (aN (fun h=>h (of_decide_eq_true f0.o.symm))));have hc:=hS.o.cell;refine vg ?_;intro K hK;refine cP [0,6,8,56,57,58] fun f=>?_;clear hc;refine wp_loop_ghost_k (Dy (jP x) (.pointer (some ⟨bt,0,none⟩)) (.pointer (some ⟨ba,0,none⟩)) (.slice sa acc.length sc) d acc w8) acc.length ⟨f,0,rfl,Below.refl _ w8,rfl,iW _,rfl⟩ ?_;rintro k9 _ T ⟨f,i,rfl,j7,l2,q2,cT⟩ J9 K9 j3 j5;have ⟨hW,hX,a5,h0,a9⟩:=o4 j3 j5 j7 l2 cT;clear j3 j5 j7 l2 cT;by_cases c2:i<acc.length
      ·have t0:(0:Int)≤(i:Int):=by omega
       have t1:(i:Int)<(acc.length:Int):=by omega
       have wi:IntKind.i64.wrap ((i:Int)+1)=((i+1:Nat):Int):=by rw [IntKind.wrap_i64];have h2:=c8.o;have h3:=HT.o;have h4:=d0.o;omega
       obtain ⟨b,hb⟩:∃ b,acc[i]?=some b:=⟨acc[i],by simp [c2]⟩;obtain ⟨g,p5,_,k1,k2,k3⟩:=kM aC.o hb;subst p5;have d7:g<w8.heap.size:=(aU aC.o (g:=g) rfl).1;have k4:T.cell? ⟨g,i*3,none⟩=some (aB b.1):=(a5.o.cell (p:=⟨g,i*3,none⟩) d7).trans k1;have k5:T.cell? ⟨g,i*3+1,none⟩=some (aB b.2.1):=(a5.o.cell (p:=⟨g,i*3+1,none⟩) d7).trans k2;have k7:T.cell? ⟨g,i*3+2,none⟩=some (aB b.2.2):=(a5.o.cell (p:=⟨g,i*3+2,none⟩) d7).trans k3;obtain ⟨wq,R⟩:=cY (T.alloc (.cells #[aB b.1,aB b.2.1,aB b.2.2] 68));have c1:aJ wq T.heap.size #[aB b.1,aB b.2.1,aB b.2.2] 68:=by rw [R];exact aJ.new T _ _
       have bC:=Lh (show Below w8.heap.size w8 wq by rw [R];exact a5.o.alloc a5.o.size _);have f1:aJ wq ba #[aB d.1,aB d.2.1,aB d.2.2] 68:=Z.o.mod (S:=fun _=>False) (aG bC.o _) id;have q1:=c1.cell;have q0:=f1.cell;have g4:=Lh hb;clear hb k1 k2 k3 d7 c1 f1;revert K;refine vT 22 ?_;intro K hK K hK;rw [←R];clear R k4 k5 k7;have X:aM (fun k=>k=x.p) w wq:=g8.o.trans (aG bC.o (fun _=>False)) (fun _ _ h=>h.elim);have m1:aY x wq { c with at':=a7 }:=hA.o.mod (S:=fun _=>False) (aG bC.o _) id;have ⟨b2,p1⟩:=cN X m1;clear X m1;cases W:(b.1==d.1) with
       | true=>
        cases h2:(b.2.1==d.2.1) with
        | true=>
         have HR:=Lh (show fM ents (x.T.drop c.at')=.error .opn by
          have s:acc.any (fun x=>x.1==d.1&&x.2.1==d.2.1)=true:=by
           rw [List.any_eq_true];exact ⟨b,List.mem_of_getElem? g4.o,by rw [W,h2];rfl⟩
          rw [D.o,e3.o,aV s])
         (repeat revert K);refine vg ?_;intro K hK K hK K hK K hK;refine (dI.o (a7) _ (by exact p1.o) (by exact eX b2.o rfl rfl rfl rfl) _).mono ?_;rintro e6 w6 ⟨rfl,G,F⟩;have ⟨C,B⟩:=cN G F;clear G F;(repeat revert K);refine vS ?_;intro K hK K hK;refine cO ?_;exact gG.err (w1:=w) (k:=.opn) H.o C.o B.o (by rw [HR.o];rfl)
        | false=>
         have g9:=Lh (sM (p:=fun x=>x.1==d.1&&x.2.1==d.2.1) g4.o a9.o (by rw [W,h2];rfl));(repeat revert K);refine vg ?_;intro K hK;refine Kk [0,6,8,56,57,58] fun f=>?_;exact hX.o _ _ ⟨acc.length-(i+1),by rw [h0.o];omega,hW.o _ _ _ ⟨f,i+1,rfl,bC.o,rfl,c2,g9.o⟩⟩
       | false=>
        have g9:=Lh (sM (p:=fun x=>x.1==d.1&&x.2.1==d.2.1) g4.o a9.o (by rw [W];rfl));(repeat revert K);refine vg ?_;intro K hK;refine Kk [0,6,8,56,57,58] fun f=>?_;exact hX.o _ _ ⟨acc.length-(i+1),by rw [h0.o];omega,hW.o _ _ _ ⟨f,i+1,rfl,bC.o,rfl,c2,g9.o⟩⟩
      ·have p3:i=acc.length:=by omega
       subst p3;have t1:¬ ((acc.length:Int)<(acc.length:Int)):=by omega
       have hP:=Lh (show dL ents m0 (x.T.drop a1) []=dL ents m' (x.T.drop a7) (acc++[d]) by
        have s:=a9.o;rw [List.take_length] at s;rw [e3.o,aN (by rw [s];simp)])
       have I:aM (fun _=>False) w8 T:=aG a5.o _;have i3:=Lh (g8.o.trans I (fun _ _ h=>h.elim));have p0:=Lh (show aY x T { c with at':=a7 } from hA.o.mod I id);have bL:=Lh (hS.o.mod I id);have hU:=Lh (Z.o.mod I id);have b7:=Lh (aE (S:=fun _=>False) aC.o I (fun _ _=>id));obtain ⟨wq,R⟩:=cY (T.alloc (.cells #[aB d.1,aB d.2.1,aB d.2.2] 68));have c1:aJ wq T.heap.size #[aB d.1,aB d.2.1,aB d.2.2] 68:=by rw [R];exact aJ.new T _ _
       have X:aM (fun _=>False) T wq:=by rw [R];exact (aM.refl _ T).alloc _
       obtain ⟨v',hN,g1,g0,c4,hv,gv,cv,p7⟩:=oH D2 Tryz.underlying33 rfl (by decide) (by decide) wq w.heap.size (fX i3.o.size X.size) (.slice sa acc.length sc) acc.length (by have:=c8.o;have:=HT.o;have:=d0.o;omega) (aR acc) (aE (S:=fun _=>False) b7.o X (fun _ _=>id)) T.heap.size [aB d.1,aB d.2.1,aB d.2.2] rfl
        (fun j u hj=>by rw [c1.cell];simpa using hj)
        (fun u hu=>by
         simp only [mH,xZ,or_false] at hu;rcases hu with rfl|rfl|rfl<;>rfl)
       subst p7;have p2:=bL.o.cell;have k0:=hU.o.cell;have ⟨i8,e5,HV,b2⟩:=kV g0 c4 hv X;have P:aJ hN bt _ _:=(bL.o.mod X id).mod c4 (fun A=>i5.o A);have g5:=Lh P;clear I c1 X g0 c4 hv;revert K;refine vB ?_;rw [←R];clear R p2 k0;refine eV rfl (.tmp 78) (.tmp 80) _ _ rfl _ _ _ (by rw [cC (by decide)];(try simp only [aK,aQ,aS,aX,Nat.reduceEqDiff,↓reduceIte]);(try rfl)) (by rw [cC (by decide)];(try simp only [aK,aQ,aS,aX,Nat.reduceEqDiff,↓reduceIte]);(try rfl)) g1 ?_;clear g1;rw [fR (by decide)];have hc:=P.cell;have hf:=P.frozen;clear P;refine vg ?_;refine Kk [0,6] fun f=>?_;have p6:∀ g,(Value.slice (some ⟨gv,0,none⟩) (acc.length+1) cv).ownBlock=some g→(Value.slice sa acc.length sc).ownBlock=some g∨wq.heap.size≤g:=fun g E=>by
        rcases HV.o with s|s
        ·exact aH (s▸E)
        ·rw [s] at E;right;simp at E;omega
       have p9:=aJ.lt bL.o;have gB:(Value.slice (some ⟨gv,0,none⟩) (acc.length+1) cv).ownBlock≠some bt:=fun A=>by
        rcases p6 bt A with s|s
        ·exact i5.o s
        ·have:=b2.o.size;omega
       have p4:aM (fun k=>k=x.p) w hN:=(i3.o.trans b2.o (fun _ _ h=>h.elim)).trans e5.o (fun i hi hG=>by
        have s:=(aU b7.o hG).2;omega)
       have mK:aY x hN { c with at':=a7 }:=(p0.o.mod b2.o id).mod e5.o M.o;refine n8.o _ _ ⟨x.T.length-a7,by rw [HK.o];have:=a0.o;have:=g7.o;have:=dT.o;omega,HJ.o _ _ _ ⟨f,a7,acc++[d],some ⟨gv,0,none⟩,acc.length+1,cv,m',rfl,aJ.set_ne mK (fun A=>L.o A.symm) _,?_,?_,gB,aM.setCell (S:=fun k=>k=x.p) p4 (p:=⟨bt,3,none⟩) (aW n4.o) _,rfl,g7.o,by have:=n7.o;have:=dT.o;have:=a0.o;omega,by rw [fY];have:=c8.o;have:=dT.o;have:=a0.o;simp;omega,by have:=oT.o;have:=a0.o;have:=g7.o;have:=dT.o;omega,hP.o⟩⟩
       ·have:=g5.o.set 3 (.slice (some ⟨gv,0,none⟩) (acc.length+1) cv);simpa using this
       ·have e9:aR (acc++[d])=aR acc++[aB d.1,aB d.2.1,aB d.2.2]:=by simp [aR]
        rw [e9,fY];exact aE (S:=fun k=>k=bt) i8.o (aM.setCell (S:=fun k=>k=bt) (aM.refl _ _) (p:=⟨bt,3,none⟩) (aH rfl) _) (fun g E A=>gB (by rw [←A];exact E))
end Go.Proofs.YthapcchcahnfaaaGreatDoor
