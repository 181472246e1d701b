/- Part of the proof that laws.FnStrictIsLoose, laws.FnUnclosed, laws.FnReaderFails, laws.FnWithin, laws.FnSkip returns true for every argument. No conditions. -/
import Derived.Test.YthapcchcahnfaaaGreatDoorP35
set_option linter.all false
set_option maxHeartbeats 8000000
set_option maxRecDepth 100000
namespace Go.Proofs.YthapcchcahnfaaaGreatDoor
open Go Go.RowKit Go.Proofs.Tryz
theorem GL (ents:aP) {T:Bs} {a:Nat} (h:T.length≤a):fW ents (T.drop a)=.error .bad:=by
 rw [vN h];rfl
theorem AO (ents:aP) {T:Bs} {a:Nat} (b:a<T.length) (h:T.getD a 0=38):fW ents (T.drop a)=match jZ ents (T.drop (a+1)) with
  | .error e=>.error e
  | .ok (t,r2)=>if bM t then .ok (t,r2) else .error .opn:=by
 rw [cF T a b,h];rfl
theorem AP (ents:aP) {T:Bs} {a:Nat} (b:a<T.length) (h:¬ T.getD a 0=38):fW ents (T.drop a)=if (aI (T.drop a)).2=0∨cG (aI (T.drop a)).1=false then .error .bad else .ok ((T.drop a).take (aI (T.drop a)).2,T.drop (a+(aI (T.drop a)).2)):=by
 rw [←List.drop_drop];rw [cF T a b];show (if T.getD a 0=38 then _ else _)=_;rw [aN h]
def lN (ents:aP):Prop:=∀ p∈ents,p.2.length≤2147483647
theorem N5 {l:aP} {k s:Bs} (h:eS l k=some s):∃ p∈l,p.2=s:=by
 unfold eS at h;cases a:l.find? (·.1==k) with
 | none=>rw [a] at h;cases h
 | some p=>
  rw [a] at h;simp at h;exact ⟨p,List.mem_of_find?_eq_some a,h⟩
theorem WJ (n:Nat):(gQ n).length≤2147483647:=by
 have e:∀ l:Bs,l.length=1∨l.length=2∨l.length=3∨l.length=4→l.length≤2147483647:=fun l h=>by omega
 refine e _ ?_;unfold gQ Utf8.encode;generalize (if Utf8.valid (n:Int)=true then (n:Int).toNat else Utf8.runeError)=c;simp only;split
 ·exact aH rfl
 ·split
  ·exact aW (aH rfl)
  ·split
   ·exact aW (aW (aH rfl))
   ·exact aW (aW (aW rfl))
theorem LR {ents:aP} {rest t r:Bs} (h:jZ ents rest=.ok (t,r)):((∃ n,t=gQ n)∨∃ k,eS (o5++ents) k=some t)∧∃ m,r=rest.drop m:=by
 unfold jZ at h;cases e:iV 59 rest with
 | none=>rw [e] at h;cases h
 | some s=>
  rw [e] at h;cases s with
  | nil=>cases h
  | cons c q=>
   simp only at h;by_cases b:c=35
   ·rw [aV b] at h;cases d:iP q with
    | none=>rw [d] at h;cases h
    | some n=>
     rw [d] at h;simp only at h;split at h
     ·simp only [bT,bR] at h;exact ⟨aH ⟨_,h.1.symm⟩,_,h.2.symm⟩
     ·cases h
   ·rw [aN b] at h;split at h
    ·cases h
    ·split at h
     ·cases h
     ·cases a:eS (o5++ents) (c::q) with
      | none=>rw [a] at h;cases h
      | some x=>
       rw [a] at h;simp only [bT,bR] at h;exact ⟨aW ⟨_,by rw [a,h.1]⟩,_,h.2.symm⟩
theorem WK:∀ q∈o5,q.2.length≤2147483647:=by
 intro q a;simp only [o5,mH,xZ,or_false] at a;rcases a with rfl|rfl|rfl|rfl|rfl<;>exact Nat.le_of_ble_eq_true rfl
theorem LS {ents:aP} (e:lN ents) {rest t r:Bs} (h:jZ ents rest=.ok (t,r)):t.length≤2147483647:=by
 rcases (LR h).1 with ⟨n,f⟩|⟨k,d⟩
 ·have b:=WJ n;rw [←f] at b;exact b
 ·obtain ⟨p,a,c⟩:=N5 d;rw [←c];rcases List.mem_append.1 a with a|a
  ·exact WK p a
  ·exact e p a
theorem Z6 {ents:aP} {rest t r:Bs} (h:jZ ents rest=.ok (t,r)):r.length≤rest.length:=by
 obtain ⟨m,rfl⟩:=(LR h).2;rw [eY];omega
theorem D5 (x:PX) (X:x.T.length≤1000000000) (u:Nat) (U:u≤x.p) (ents:aP) (P:lN ents) (w:World) (c:PC) (h:aY x w c) (A:c.at'<x.T.length) (hE:qM x u ents w) :
  Calls prog 47 #[jP x] w (fK x w c (fun s=>.returned (.tuple #[aB s,.bool true])) (.returned (.tuple #[aB [],.bool false])) (fW ents (x.T.drop c.at'))):=by
 have ⟨HT,HA,HE,H,a3⟩:=o4 X A hE h P;refine eI 70 func47 [_] fun f=>?_;simp only [aF];by_cases e:x.T.getD c.at' 0=38
 ·have b:([38]:Bs).isPrefixOf (x.T.drop c.at')=true:=by rw [dO 38 x.T c.at' A,e];rfl
  have W:=Lh (jA x X w c h (Nat.le_of_lt A) [38] (by decide) b);have D:=Lh (AO ents A e);clear X A hE h P b e;refine vg ?_;intro K hK K hK K hK;refine W.o.mono ?_;rintro e3 w3 ⟨rfl,j,g⟩;have d:=Lh (show aY x w3 { c with at':=c.at'+1 } from j);have o:=Lh g;have E:=Lh (Z0 x HT.o u U ents w3 { c with at':=c.at'+1 } j HA.o (HE.o.below (aM.below (Below.refl _ w) (fX U (Nat.le_of_lt (aJ.lt H.o))) g (fun i hi=>by rw [hi];exact U))));clear j g W;(repeat revert K);refine vS ?_;intro K hK K hK K hK;refine E.o.mono ?_;rintro e4 w4 V;obtain ⟨aA,V⟩:=V;have J:=Lh (o.o.trans aA (fun _ _ h=>h));clear aA E;cases C:jZ ents (x.T.drop (c.at'+1)) with
  | error k=>
   rw [show ({ c with at':=c.at'+1 }:PC).at'=c.at'+1 from rfl,C] at V;obtain ⟨⟨O,l⟩,rfl⟩:=V;have M:=Lh l;have HR:=Lh (show fW ents (x.T.drop c.at')=.error k by rw [D.o,C]);clear l;(repeat revert K);refine vS ?_;intro K hK;refine kN ?_;exact fK.bad HR.o M.o J.o
  | ok q=>
   rw [show ({ c with at':=c.at'+1 }:PC).at'=c.at'+1 from rfl,C] at V;obtain ⟨t,r⟩:=q;obtain ⟨O,a0,I,G,l,rfl⟩:=V;have a1:r=x.T.drop O:=a0;subst a1;have M:=Lh (show aY x w4 { c with at':=O } from l);have a7:=Lh I;have a5:=Lh (show c.at'≤O by have:c.at'+1≤O:=G;omega);have HR:=Lh (show fW ents (x.T.drop c.at')=if bM t then .ok (t,x.T.drop O) else .error .opn by rw [D.o,C]);have a2:=Lh (fun w=>GE t (by have:=LS a3.o C;omega) w);have HF:=Lh (fun v=>lZ x w4 { c with at':=O } l v);clear l C a0 I G;(repeat revert K);refine vS ?_;intro K hK K hK K hK K hK;refine (a2.o _).mono ?_;rintro e5 w5 ⟨rfl,rfl⟩;go_simp;cases Y:bM t with
   | true=>
    have a:=Lh (HR.o.trans (aV Y));(repeat revert K);refine vg ?_;intro K hK;refine kN ?_;exact fK.okk (v:=t) a.o a7.o a5.o M.o J.o
   | false=>
    have a:=Lh (HR.o.trans (aN (by rw [Y];simp)));(repeat revert K);refine vg ?_;intro K hK K hK K hK K hK;refine (HF.o _).mono ?_;rintro e6 w6 ⟨rfl,aL,aC⟩;have a9:=Lh aL;have a8:=Lh (J.o.trans aC (fun _ _ h=>h));clear aL aC;(repeat revert K);refine vS ?_;intro K hK K hK;refine kN ?_;exact fK.bad (k:=.opn) a.o a9.o a8.o
 ·have b:([38]:Bs).isPrefixOf (x.T.drop c.at')=false:=by rw [dO 38 x.T c.at' A,lV];exact fun Z=>e Z.symm
  have W:=Lh (iM x X w c h (Nat.le_of_lt A) [38] (by decide) b);have D:=Lh (AP ents A e);have T:x.T.drop c.at'≠[]:=fun Z=>by have:=congrArg List.length Z;simp at this;omega
  have HW:=Lh (mC (x.T.drop c.at') T);have m:=Lh (fun w=>mZ (x.T.drop c.at') T w);have z1:(0:Int)≤(c.at':Int):=by omega
  have z3:(c.at':Int)≤(x.T.length:Int):=by omega
  clear X A hE h P b e T;obtain ⟨r,C⟩:=cY ((aI (x.T.drop c.at')).1);obtain ⟨n,R⟩:=cY ((aI (x.T.drop c.at')).2);rw [←C] at D m;rw [←R] at D HW m;clear C R;refine vg ?_;intro K hK K hK K hK;refine W.o.mono ?_;rintro e3 w3 ⟨rfl,j,g⟩;have ⟨d,o⟩:=cN j g;clear j g W;have hc:=d.o.cell;have hf:=d.o.frozen;(repeat revert K);refine vS ?_;intro K hK;(refine lX [0,0,0,1,0,0,0,1,0,2,0,0,0,0,0] [0,1,2,3,4,5,6,7,8,9,10,11,12,13,14] ?_;refine vP ?_;repeat with_reducible intro nq)
  rw [jG];refine bK rfl rfl (fun nq K hK=>?_);go_simp;refine (m.o _).mono ?_;rintro e4 w4 ⟨rfl,rfl⟩;go_simp;refine hK.out _ _ ?_;clear hK K;(refine vP ?_;repeat with_reducible intro nq)
  have HF:=Lh (fun (w':World) (F:aY x w' c) (h2:aM (fun k=>k=x.p) w w') (v:Int)=>iL x w w' c F h2 v);by_cases R:n=0
  ·have a:=Lh (D.o.trans (aV (aH R)));subst R;revert K;refine vg ?_;intro K hK K hK K hK;refine (HF.o _ (by exact d.o) (by exact eX o.o rfl rfl rfl rfl) _).mono ?_;rintro e8 w8 ⟨rfl,z,y⟩;have ⟨N,L⟩:=cN z y;clear z y;(repeat revert K);refine vS ?_;intro K hK;refine kN ?_;exact fK.bad (k:=.bad) a.o N.o L.o
  have bC:((n:Int)==0)=false:=by rw [lV];omega
  have HN:=Lh R;have a6:=Lh (fun w=>uZ r w);clear R;revert K;refine vg ?_;intro K hK K hK K hK;refine (a6.o _).mono ?_;rintro e8 w8 ⟨rfl,rfl⟩;go_simp;cases Q:cG r with
  | false=>
   have a:=Lh (D.o.trans (aV (aW Q)));(repeat revert K);refine vg ?_;intro K hK K hK K hK;refine (HF.o _ (by exact d.o) (by exact eX o.o rfl rfl rfl rfl) _).mono ?_;rintro e8 w8 ⟨rfl,z,y⟩;have ⟨N,L⟩:=cN z y;clear z y;(repeat revert K);refine vS ?_;intro K hK;refine kN ?_;exact fK.bad (k:=.bad) a.o N.o L.o
  | true=>
   have a:=Lh (D.o.trans (aN (fun Z=>Z.elim HN.o (fun h=>Bool.noConfusion (Q.symm.trans h)))));have wn:IntKind.i64.wrap ((c.at':Int)+(n:Int))=(c.at':Int)+(n:Int):=by rw [IntKind.wrap_i64];have F:=HW.o;have h2:=HT.o;rw [eY] at F;omega
   have z4:(c.at':Int)≤(c.at':Int)+(n:Int):=by omega
   have z5:(c.at':Int)+(n:Int)≤(x.T.length:Int):=by have F:=HW.o;rw [eY] at F;omega
   have z6:(0:Int)≤(c.at':Int)+(n:Int):=by omega
   have wm:IntKind.i64.wrap (c.at':Int)=(c.at':Int):=by rw [IntKind.wrap_i64];have F:=HA.o;have h2:=HT.o;omega
   have zn:((c.at':Int)+(n:Int)).toNat=c.at'+n:=by omega
   clear Q;(repeat revert K);refine vT 10 ?_;have B:∀ k,aY x ((w3.drewN k).setCell ⟨x.p,1,none⟩ (.int .i64 ((c.at':Int)+(n:Int)))) { c with at':=c.at'+n }:=fun k=>aJ.set (w:=w3.drewN k) (cs:=gA x c) d.o 1 _;have bA:=Lh B;clear hc hf;have hc:=fun k=>(B k).cell;have hf:=fun k=>(B k).frozen;clear B;refine vg ?_;intro K hK;(refine lX [0,0,0,1,0,0,0,1,0,0,0,0,0,1,0,0,0] [0,1,2,3,4,5,6,7,8,9,10,11,12,13,14,15,16] ?_;refine vP ?_;repeat with_reducible intro nq)
   rw [lD,Nat.add_sub_cancel_left];revert K;refine vg ?_;refine kN ?_;exact fK.okk a.o (by have F:=HW.o;have h2:=HA.o;rw [eY] at F;omega) (by omega) (bA.o _) ((aM.setCell (S:=fun k=>k=x.p) (o.o.drewN _) (p:=⟨x.p,1,none⟩) (aH rfl) _).drewN _)
theorem GM (ents:aP) {T:Bs} {a m:Nat} {out:Bs} (h:T.length≤a):eC ents (m+1) (T.drop a) out=.ok (out,T.drop a):=by
 rw [vN h];rfl
theorem yD (ents:aP) {T:Bs} {a m:Nat} {out:Bs} (b:a<T.length) (h:T.getD a 0=60):eC ents (m+1) (T.drop a) out=.ok (out,T.drop a):=by
 rw [cF T a b];unfold eC;simp only [aV h]
theorem u9 (ents:aP) {T:Bs} {a m:Nat} {out:Bs} (c:a<T.length) (b:¬ T.getD a 0=60) (h:oN.isPrefixOf (T.drop a)=true):eC ents (m+1) (T.drop a) out=.error .bad:=by
 rw [cF T a c] at h ⊢;unfold eC;simp only [aN b,aV h]
theorem yE (ents:aP) {T:Bs} {a m:Nat} {out:Bs} (d:a<T.length) (c:¬ T.getD a 0=60) (h:oN.isPrefixOf (T.drop a)=false) (b:T.getD a 0=13):eC ents (m+1) (T.drop a) out=if ([10]:Bs).isPrefixOf (T.drop (a+1)) then eC ents m (T.drop (a+2)) (out++[10]) else eC ents m (T.drop (a+1)) (out++[10]):=by
 rw [←LP T a d (fun r=>eC ents m r (out++[10]))];rw [cF T a d] at h ⊢;conv=>lhs;unfold eC
 simp only [c,h,b,sS,if_false,if_true];rfl
theorem yF (ents:aP) {T:Bs} {a m:Nat} {out:Bs} (d:a<T.length) (c:¬ T.getD a 0=60) (h:oN.isPrefixOf (T.drop a)=false) (b:¬ T.getD a 0=13):eC ents (m+1) (T.drop a) out=match fW ents (T.drop a) with
  | .error e=>.error e
  | .ok (t,r2)=>eC ents m r2 (out++t):=by
 rw [cF T a d] at h ⊢;conv=>lhs;unfold eC
 simp only [c,h,b,sS,if_false];rfl
theorem pI {ents:aP} (d:lN ents) {T t r:Bs} (f:T.length≤2147483647) {a:Nat} (h:fW ents (T.drop a)=.ok (t,r)):t.length≤2147483647:=by
 by_cases c:a<T.length
 ·by_cases b:T.getD a 0=38
  ·rw [AO ents c b] at h;split at h
   ·cases h
   ·rename_i e;split at h
    ·simp only [bT,bR] at h;rw [←h.1];exact LS d e
    ·cases h
  ·rw [AP ents c b] at h;split at h
   ·cases h
   ·simp only [bT,bR] at h;rw [←h.1,qQ,eY];omega
 ·rw [GL ents (by omega)] at h;cases h
def Dr (x:PX) (c:PC) (ents:aP) (w0:World) (k:Nat) (b:Act) (w:World):Prop:=
 ∃ f a o m,b=fr 47 f [(0,jP x),(3,aB o)]∧aY x w { c with at':=a }∧aM (fun k=>k=x.p) w0 w∧k=x.T.length-a∧a≤x.T.length∧o.length≤a*2147483647∧x.T.length-a<m∧eC ents (x.T.length+1) (x.T.drop c.at') []=eC ents m (x.T.drop a) o
theorem oI {ents:aP} {T t r:Bs} {a:Nat} (h:fW ents (T.drop a)=.ok (t,r)):r.length<T.length-a:=by
 by_cases c:a<T.length
 ·by_cases b:T.getD a 0=38
  ·rw [AO ents c b] at h;split at h
   ·cases h
   ·rename_i f;split at h
    ·simp only [bT,bR] at h;have:=Z6 f;rw [eY] at this;rw [←h.2];omega
    ·cases h
  ·rw [AP ents c b] at h;split at h
   ·cases h
   ·rename_i e;simp only [bT,bR] at h;have:(aI (T.drop a)).2≠0:=fun d=>e (aH d);rw [←h.2,eY];omega
 ·rw [GL ents (by omega)] at h;cases h
theorem WL (x:PX) (hT:x.T.length≤1000000000) (n:Nat) (ents:aP) (b3:lN ents) (w:World) (c:PC) (opens:List Bs) (bound:List aP) (out:List cD) (h:dZ x n w c opens bound out) (V:out.length≤1000000000) (ha:c.at'≤x.T.length) (hE:qM x n ents w) :
  Calls prog 25 #[jP x] w (gG x n out w (nO .text opens bound (eC ents (x.T.length+1) (x.T.drop c.at') []))):=by
 have ⟨H,HT,HA,bA,HE,a9⟩:=iH h hT ha V hE b3;clear h hT ha V hE b3;refine eI 47 func25 [_] fun f=>?_;simp only [aF];refine vg ?_;intro K hK;refine cP [0,3] fun f=>?_;refine wp_loop_ghost_k (Dr x c ents w) (x.T.length-c.at') ⟨f,c.at',[],x.T.length+1,rfl,H.o.blk,aM.refl _ w,rfl,HA.o,iW _,by omega,rfl⟩ ?_;rintro k _ w2 ⟨f,a,o,m,rfl,hp,hm,hk,b6,cT,b9,c3⟩ J K2 hJ b4;obtain ⟨N,rfl⟩:∃ N,m=N+1:=⟨m-1,by omega⟩;have ⟨HJ,aA,Q,HM,HK,A⟩:=iH hJ b4 hp hm hk b6;have ⟨P,a0,S⟩:=mJ cT b9 c3;have a1:¬ 9223372036854775807<o.length+1:=by have:=HT.o;omega
 clear hJ b4 hp hm hk b6 cT b9 c3;have L:∀ X,aY x X { c with at':=a }→aM (fun k=>k=x.p) w X→eC ents (N+1) (x.T.drop a) o=.ok (o,x.T.drop a)→Calls prog 48 #[jP x,SA ((aO.text o).itok []) none 0 0 0] X fun e w'=>e=.returned (.bool true)∧gG x n out w (nO .text opens bound (eC ents (x.T.length+1) (x.T.drop c.at') [])) (.returned (.bool true)) w':=by
  intro X c8 c7 T;exact sK x n w X c opens bound out H.o bA.o a A.o c8 c7 (.text o) rfl _ (by rw [S.o,T];rfl)
 have D:=Lh L;clear L;by_cases d:a<x.T.length
 rotate_left
 ·have O:=Lh (fun kk=>oR x (w2.drewN kk) { c with at':=a } Q.o (by simp;omega));revert K;refine vg ?_;intro K hK K hK K hK;(refine lX [0,2,0,0,0,0,0,1,0,0,0,1,0,0,0] [0,1,2,3,4,5,6,7,8,9,10,11,12,13,14] ?_;refine vP ?_;repeat with_reducible intro nq)
  refine bK rfl rfl (fun nq K hK=>?_);go_simp;refine (O.o _).mono ?_;rintro e3 X ⟨rfl,k3,rfl⟩;go_simp;refine hK.out _ _ ?_;clear hK K;(refine vP ?_;repeat with_reducible intro nq)
  (repeat revert K);refine vg ?_;intro K hK K hK;refine (D.o _ (by exact Q.o) (by exact eX HM.o rfl rfl rfl rfl) (GM ents (by omega))).mono ?_;rintro e6 w6 ⟨rfl,h6⟩;have H6:=Lh h6;clear h6;(repeat revert K);refine vS ?_;refine cO ?_;exact H6.o
 have O:=Lh (fun kk=>oS x (w2.drewN kk) { c with at':=a } Q.o d);have t0:(0:Int)≤(a:Int):=by omega
 have t1:(a:Int)<(x.T.length:Int):=by omega
 obtain ⟨b,hb⟩:=cY (x.T.getD a 0);have ix:∀ h,(⟨x.T.toArray⟩:ByteArray)[a]'h=b:=by rw [hb];exact jE x.T a d
 have a6:=Lh hb;clear hb;by_cases I:b=60
 ·have R:=Lh (yD ents (m:=N) (out:=o) d (by rw [←a6.o];exact I));subst I;revert K;refine vg ?_;intro K hK K hK K hK;(refine lX [0,2,0,0,0,0,0,1,0,0,0,1,0,0,0] [0,1,2,3,4,5,6,7,8,9,10,11,12,13,14] ?_;refine vP ?_;repeat with_reducible intro nq)
  refine bK rfl rfl (fun nq K hK=>?_);go_simp;refine (O.o _).mono ?_;rintro e3 X ⟨rfl,k3,rfl⟩;have hc:=Q.o.cell;have hf:=Q.o.frozen;go_simp;refine hK.out _ _ ?_;clear hK K;(refine vP ?_;repeat with_reducible intro nq)
  (repeat revert K);refine vg ?_;intro K hK K hK;refine (D.o _ (by exact Q.o) (by exact eX HM.o rfl rfl rfl rfl) R.o).mono ?_;rintro e6 w6 ⟨rfl,h6⟩;have H6:=Lh h6;clear h6;(repeat revert K);refine vS ?_;refine cO ?_;exact H6.o
 have c9:((b.toNat:Int) != 60)=true:=SE I;have Y:=Lh (show ¬ x.T.getD a 0=60 by rw [←a6.o];exact I);clear I;have b1:=Lh (fun (w:World) (h:aY x w { c with at':=a })=>wB x HT.o w { c with at':=a } h A.o [93,93,62] (by decide));have Z:=Lh (fun (w:World) (h:aY x w { c with at':=a })=>wB x HT.o w { c with at':=a } h A.o [13,10] (by decide));have a8:=Lh (fun (w:World) (h:aY x w { c with at':=a })=>wB x HT.o w { c with at':=a } h A.o [13] (by decide));revert K;refine vg ?_;intro K hK K hK K hK;(refine lX [0,2,0,0,0,0,0,1,0,0,0,1,0,0,0] [0,1,2,3,4,5,6,7,8,9,10,11,12,13,14] ?_;refine vP ?_;repeat with_reducible intro nq)
 refine bK rfl rfl (fun nq K hK=>?_);go_simp;refine (O.o _).mono ?_;rintro e3 X ⟨rfl,k3,rfl⟩;have hc:=Q.o.cell;have hf:=Q.o.frozen;go_simp;refine hK.out _ _ ?_;clear hK K;(refine vP ?_;repeat with_reducible intro nq)
 clear hc hf ix;(repeat revert K);refine vg ?_;intro K hK K hK K hK K hK;refine (b1.o _ (by exact Q.o)).mono ?_;rintro e4 w4 ⟨rfl,v,b7⟩;rw [show ({ c with at':=a }:PC).at'=a from rfl] at v ⊢;have bC:=Lh (show aM (fun k=>k=x.p) w w4 from aM.trans (HM.o.drewN _) b7 (fun _ _ h=>h));clear b7;go_simp;cases p:([93,93,62]:Bs).isPrefixOf (x.T.drop a) with
 | true=>
  rw [p,aV rfl] at v;have R:=Lh (S.o.trans (u9 ents (m:=N) (out:=o) d Y.o p));have HF:=Lh (lZ x w4 _ v 1);clear v p;(repeat revert K);refine vg ?_;intro K hK K hK K hK K hK;refine HF.o.mono ?_;rintro e6 w6 ⟨rfl,g,s⟩;have G:=Lh g;have B:=Lh (bC.o.trans s (fun _ _ h=>h));clear g s;(repeat revert K);refine vS ?_;intro K hK K hK;refine cO ?_;exact gG.err (w1:=w) (k:=.bad) H.o G.o B.o (by rw [R.o];rfl)
 | false=>
  rw [p,aN (by simp)] at v;have c6:=Lh (show aY x w4 { c with at':=a } from v);have b0:=Lh p;clear v p;(repeat revert K);refine vg ?_;intro K hK K hK K hK K hK;refine (Z.o _ c6.o).mono ?_;rintro e5 w5 ⟨rfl,l,b8⟩;rw [show ({ c with at':=a }:PC).at'=a from rfl] at l ⊢;have aL:=Lh (bC.o.trans b8 (fun _ _ h=>h));clear b8;go_simp;by_cases j:x.T.getD a 0=13
  ·have R:=Lh (S.o.trans (yE ents (m:=N) (out:=o) d Y.o b0.o j));cases C:([10]:Bs).isPrefixOf (x.T.drop (a+1)) with
   | true=>
    have z:([13,10]:Bs).isPrefixOf (x.T.drop a)=true:=by rw [sL 13 10 x.T a d,j,C];rfl
    have c5:=Lh (oU z A.o);have u:=Lh (R.o.trans (aV C));rw [z,aV rfl] at l;rw [z];have F:=Lh (show aY x w5 { c with at':=a+2 } from l);clear z C j l;(repeat revert K);refine vg ?_;intro K hK K hK;refine Kk [0,3] fun f=>?_;rw [yA];exact aA.o _ _ ⟨x.T.length-(a+2),by rw [HK.o];omega,HJ.o _ _ _ ⟨f,a+2,o++[10],N,rfl,F.o,aL.o,rfl,by have:=c5.o;simpa using this,by have:=P.o;rw [fY];simp;omega,by have:=a0.o;omega,u.o⟩⟩
   | false=>
    have y:([13,10]:Bs).isPrefixOf (x.T.drop a)=false:=by rw [sL 13 10 x.T a d,j,C];rfl
    have z:([13]:Bs).isPrefixOf (x.T.drop a)=true:=by rw [dO 13 x.T a d,j];rfl
    have u:=Lh (R.o.trans (aN (by rw [C];simp)));rw [y,aN (by simp)] at l;rw [y];have F:=Lh (show aY x w5 { c with at':=a } from l);have a4:=Lh z;clear z C j l y;(repeat revert K);refine vg ?_;intro K hK K hK K hK K hK;refine (a8.o _ F.o).mono ?_;rintro e6 w6 ⟨rfl,g,s⟩;rw [show ({ c with at':=a }:PC).at'=a from rfl,a4.o] at g ⊢;rw [aV rfl] at g;have G:=Lh (show aY x w6 { c with at':=a+1 } from g);have B:=Lh (aL.o.trans s (fun _ _ h=>h));clear g s;(repeat revert K);refine vS ?_;intro K hK K hK;refine Kk [0,3] fun f=>?_;rw [yA];exact aA.o _ _ ⟨x.T.length-(a+1),by rw [HK.o];omega,HJ.o _ _ _ ⟨f,a+1,o++[10],N,rfl,G.o,B.o,rfl,d,by have:=P.o;rw [fY];simp;omega,by have:=a0.o;omega,u.o⟩⟩
  ·have y:([13,10]:Bs).isPrefixOf (x.T.drop a)=false:=by rw [sL 13 10 x.T a d,lV.2 (fun h=>j h.symm)];rfl
   have W:([13]:Bs).isPrefixOf (x.T.drop a)=false:=by rw [dO 13 x.T a d,lV.2 (fun h=>j h.symm)]
   have R:=Lh (S.o.trans (yF ents (m:=N) (out:=o) d Y.o b0.o j));rw [y,aN (by simp)] at l;rw [y];have F:=Lh (show aY x w5 { c with at':=a } from l);have a4:=Lh W;clear j l y W;(repeat revert K);refine vg ?_;intro K hK K hK K hK K hK;refine (a8.o _ F.o).mono ?_;rintro e6 w6 ⟨rfl,g,s⟩;rw [show ({ c with at':=a }:PC).at'=a from rfl,a4.o] at g ⊢;rw [aN (by simp)] at g;have G:=Lh (show aY x w6 { c with at':=a } from g);have B:=Lh (aL.o.trans s (fun _ _ h=>h));have c4:=Lh (D5 x HT.o n H.o.pb ents a9.o w6 { c with at':=a } G.o d (HE.o.below (aM.below (Below.refl _ w) H.o.size B.o (fun i hi=>by rw [hi];exact H.o.pb))));clear g s;(repeat revert K);refine vS ?_;intro K hK K hK K hK;refine c4.o.mono ?_;rintro e7 w7 h7;obtain ⟨a5,h7⟩:=h7;rw [show ({ c with at':=a }:PC).at'=a from rfl] at h7;have bL:=Lh (B.o.trans a5 (fun _ _ h=>h));cases T:fW ents (x.T.drop a) with
   | error k=>
    rw [T] at h7;obtain ⟨⟨a7,M⟩,rfl⟩:=h7;have a3:=Lh M;have u:=Lh (show eC ents (x.T.length+1) (x.T.drop c.at') []=.error k by rw [R.o,T]);clear M a5;(repeat revert K);refine vS ?_;intro K hK K hK;refine cO ?_;exact gG.err (w1:=w) (k:=k) H.o a3.o bL.o (by rw [u.o];rfl)
   | ok q=>
    rw [T] at h7;obtain ⟨t,r⟩:=q;obtain ⟨a7,c1,U,b5,M,rfl⟩:=h7;have c2:r=x.T.drop a7:=c1;subst c2;have a3:=Lh (show aY x w7 { c with at':=a7 } from M);have aC:=Lh U;have E:=Lh (show a<a7 by have:=oI T;rw [eY] at this;omega);have b2:=Lh (pI a9.o (by have:=HT.o;omega) T);have u:=Lh (show eC ents (x.T.length+1) (x.T.drop c.at') []=eC ents N (x.T.drop a7) (o++t) by rw [R.o,T]);have a2:¬ 9223372036854775807<o.length+t.length:=by have:=HT.o;have:=P.o;have:=A.o;have:=b2.o;omega
    clear M a5 T c1 U b5;(repeat revert K);refine vS ?_;intro K hK;refine Kk [0,3] fun f=>?_;rw [gF];exact aA.o _ _ ⟨x.T.length-a7,by rw [HK.o];have:=E.o;have:=aC.o;omega,HJ.o _ _ _ ⟨f,a7,o++t,N,rfl,a3.o,bL.o,rfl,aC.o,by have:=P.o;have:=b2.o;have:=E.o;rw [fY];omega,by have:=a0.o;have:=E.o;have:=aC.o;omega,u.o⟩⟩
theorem JX (ents:aP) {q:UInt8} {T:Bs} {a m:Nat} {out:Bs} (h:T.length≤a):qX ents q (m+1) (T.drop a) out=.error .bad:=by
 rw [vN h];rfl
theorem JY (ents:aP) {q:UInt8} {T:Bs} {a m:Nat} {out:Bs} (b:a<T.length) (h:T.getD a 0=q):qX ents q (m+1) (T.drop a) out=.ok (out,T.drop (a+1)):=by
 rw [cF T a b];show (if T.getD a 0=q then _ else _)=_;rw [aV h]
theorem SI (ents:aP) {q:UInt8} {T:Bs} {a m:Nat} {out:Bs} (c:a<T.length) (h:¬ T.getD a 0=q) (b:T.getD a 0=60):qX ents q (m+1) (T.drop a) out=.error .bad:=by
 rw [cF T a c];show (if T.getD a 0=q then _ else if T.getD a 0=60 then _ else _)=_;rw [aN h,aV b]
theorem SJ (ents:aP) {q:UInt8} {T:Bs} {a m:Nat} {out:Bs} (d:a<T.length) (h:¬ T.getD a 0=q) (b:¬ T.getD a 0=60) (c:T.getD a 0≠32∧mG (T.getD a 0)=true):qX ents q (m+1) (T.drop a) out=.error .opn:=by
 rw [cF T a d];show (if T.getD a 0=q then _ else if T.getD a 0=60 then _ else if T.getD a 0≠32∧mG (T.getD a 0)=true then _ else _)=_;rw [aN h,aN b,aV c]
theorem GN (ents:aP) {q:UInt8} {T:Bs} {a m:Nat} {out:Bs} (d:a<T.length) (h:¬ T.getD a 0=q) (b:¬ T.getD a 0=60) (c:¬ (T.getD a 0≠32∧mG (T.getD a 0)=true)):qX ents q (m+1) (T.drop a) out=match fW ents (T.drop a) with
  | .error e=>.error e
  | .ok (t,r2)=>qX ents q m r2 (out++t):=by
 rw [cF T a d];show (if T.getD a 0=q then _ else if T.getD a 0=60 then _ else if T.getD a 0≠32∧mG (T.getD a 0)=true then _ else _)=_;rw [aN h,aN b,aN c];rfl
abbrev Z7:Array Value:=#[.string ⟨#[]⟩,.string ⟨#[]⟩,.string ⟨#[]⟩]
def X5 (x:PX) (c:PC) (ents:aP) (q:UInt8) (b:Nat) (nm:Bs×Bs) (g:Nat) (e:Nat) (w0:World) (k:Nat) (d:Act) (w:World):Prop:=
 ∃ f a o m,d=fr 96 f [(0,jP x),(2,.pointer (some ⟨b,0,none⟩)),(4,aB nm.1),(5,aB nm.2),(7,aB [q]),(8,aB o)]∧aY x w { c with at':=a }∧aJ w b Z7 68∧aM (fun k=>k=x.p) w0 w∧k=x.T.length-a∧a≤x.T.length∧c.at'≤a∧o.length≤a*2147483647∧x.T.length-a<m∧qX ents q e (x.T.drop g) []=qX ents q m (x.T.drop a) o
theorem LT {R:Ending→World→Prop} {f:Nat→Value} {L:List (Nat×Value)} {w:World} {e:Nat} {b c d:Value} {a:Bool} (g:lk f L 2=.pointer (some ⟨e,0,none⟩)) (i:lk f L 3=.bool a) (j:aJ w e #[b,c,d] 68) (h:R (.returned (.tuple #[.agg #[b,c,d],.bool a])) w):bodyPost prog Tryz.f61 R .ret (fr 96 f L) w:=by
 have k:=j.cell;refine bodyPost_ret (v:=.tuple #[.agg #[b,c,d],.bool a]) ?_ (jC _ _ _) h;rw [results_cell_tmp rfl,iC (by decide),iC (by decide),g,i];go_simp
abbrev SK (w:World) (b:Nat) (a c d:Value):World:=((w.setCell ⟨b,0,none⟩ a).setCell ⟨b,1,none⟩ c).setCell ⟨b,2,none⟩ d
theorem GO {w:World} {b:Nat} {cs:Array Value} {t:TypeId} (h:aJ w b cs t) (i:cs.size=3) (d f g:Value):aJ (SK w b d f g) b #[d,f,g] t:=by
 have:=((h.set 0 d).set 1 f).set 2 g;have e:((cs.setIfInBounds 0 d).setIfInBounds 1 f).setIfInBounds 2 g=#[d,f,g]:=by
  obtain ⟨l⟩:=cs
  match l,i with
  | [a,b,c],_=>rfl
 rw [e] at this;exact this
theorem LU {w:World} {b c:Nat} {cs:Array Value} {t:TypeId} (h:aJ w b cs t) (d:¬ c=b) (f g i:Value):aJ (SK w c f g i) b cs t:=
 ((h.set_ne (a:=⟨c,0,none⟩) (fun e=>d e.symm) f).set_ne (a:=⟨c,1,none⟩) (fun e=>d e.symm) g).set_ne (a:=⟨c,2,none⟩) (fun e=>d e.symm) i
theorem GP {S:Nat→Prop} {w0 w:World} {a:Nat} (h:aM S w0 w) (b:w0.heap.size≤a) (c d e:Value):aM S w0 (SK w a c d e):=
 ((h.setCell (p:=⟨a,0,none⟩) (aW b) c).setCell (p:=⟨a,1,none⟩) (aW b) d).setCell (p:=⟨a,2,none⟩) (aW b) e
abbrev Ds (a:cZ):Ending:=.returned (.tuple #[.agg #[aB a.1,aB a.2.1,aB a.2.2],.bool true])
abbrev X6:Ending:=.returned (.tuple #[.agg Z7,.bool false])
theorem jH {x:PX} {w d:World} {c:PC} {ents:aP} {k:SV} {a b:Nat} {f:Nat→Value} {L:List (Nat×Value)} {cs:Array Value} (n:eQ ents (x.T.drop c.at')=.error k) (m:aY x d { c with at':=a,verd:=k.num }) (j:aM (fun k=>k=x.p) w d) (h:aJ d b cs 68) (o:cs.size=3) (l:¬ b=x.p) (i:w.heap.size≤b)
  (e:lk f L 2=.pointer (some ⟨b,0,none⟩)) (g:lk f L 3=.bool false):bodyPost prog Tryz.f61 (fK x w c Ds X6 (eQ ents (x.T.drop c.at'))) .ret (fr 96 f L) (SK d b (.string ⟨#[]⟩) (.string ⟨#[]⟩) (.string ⟨#[]⟩)):=
 LT e g (GO h o _ _ _) (fK.bad n (LU m l _ _ _) (GP j i _ _ _))
theorem GQ {x:PX} {w d:World} {c:PC} {ents:aP} {v:cZ} {a b:Nat} {f:Nat→Value} {L:List (Nat×Value)} {cs:Array Value} (p:eQ ents (x.T.drop c.at')=.ok (v,x.T.drop a)) (g:a≤x.T.length) (e:c.at'≤a) (o:aY x d { c with at':=a }) (m:aM (fun k=>k=x.p) w d) (j:aJ d b cs 68) (q:cs.size=3) (n:¬ b=x.p) (l:w.heap.size≤b)
  (h:lk f L 2=.pointer (some ⟨b,0,none⟩)) (i:lk f L 3=.bool true):bodyPost prog Tryz.f61 (fK x w c Ds X6 (eQ ents (x.T.drop c.at'))) .ret (fr 96 f L) (SK d b (aB v.1) (aB v.2.1) (aB v.2.2)):=
 LT h i (GO j q _ _ _) (fK.okk (v:=v) p g e (LU o n _ _ _) (GP m l _ _ _))
theorem LV (x:PX) (w0 w1 w:World) (c:PC) (h:aY x w c) (f:aM (fun k=>k=x.p) w0 w) (a:aM (fun k=>k=x.p) w1 w) (v:Int):Calls prog 32 #[jP x,.int .i64 v] w fun e w'=>e=.returned (.bool false)∧aY x w' { c with verd:=v }∧aM (fun k=>k=x.p) w0 w'∧aM (fun k=>k=x.p) w1 w':=by
 refine (lZ x w c h v).mono ?_;rintro e w' ⟨rfl,d,b⟩;exact ⟨rfl,d,f.trans b (fun _ _ h=>h),a.trans b (fun _ _ h=>h)⟩
theorem WM (x:PX) (hT:x.T.length ≤ 1000000000) (b4:Nat) (hB:b4 ≤ x.p) (ents:aP) (hR:lN ents) (w:World) (c:PC) (h:aY x w c) (ha:c.at' ≤ x.T.length) (hE:qM x b4 ents w) :
    Calls prog 61 #[jP x] w (fK x w c (fun a:cZ=>.returned (.tuple #[.agg #[aB a.1,aB a.2.1,aB a.2.2],.bool true])) (.returned (.tuple #[.agg Z7,.bool false])) (eQ ents (x.T.drop c.at'))):=by
  obtain ⟨wa,e8⟩:=cY (w.alloc (.cells Z7 68));have h4:aY x wa c:=by rw [e8];exact h.alloc _
  have g6:aJ wa w.heap.size Z7 68:=by rw [e8];exact aJ.new w _ _
  have hU:aM (fun k=>k=x.p) w wa:=by rw [e8];exact (aM.refl _ w).alloc _
  obtain ⟨b2,b3⟩:=cY w.heap.size;have hV:¬ b2=x.p:=by have:=aJ.lt h;omega
  have HN:=Lh (D4 x hT wa c h4 ha);have ⟨HT,HE,c2⟩:=mJ hT hE hR;have hI:=Lh (show b4 ≤ w.heap.size from fX hB (Nat.le_of_lt (aJ.lt h)));have ⟨f1,hP⟩:=cN hB hU;rw [← b3] at g6;have ⟨hG,j⟩:=cN g6 hV;have HF:=Lh (show w.heap.size ≤ b2 by omega);have e9:=Lh (show eQ ents (x.T.drop c.at')=match fZ (x.T.drop c.at') with
    | .error e=>.error e
    | .ok (nm,r)=>match aT r with
      | []=>.error .bad
      | b :: r2=>if b=61 then
          match aT r2 with
          | []=>.error .bad
          | q :: r3=>if q=34 ∨ q=39 then
              match qX ents q (r3.length + 1) r3 [] with
              | .error e=>.error e
              | .ok (v,r4)=>.ok ((nm.1,nm.2,v),r4)
            else .error .bad
        else .error .bad from rfl)
  clear h hT hE hR hB ha hU h4 g6 hV;refine eI 96 func61 [_] fun f=>?_;simp only [aF];refine vT 1 ?_;rw [← e8,← b3];clear e8 b3;refine vg ?_;intro K hK K hK;refine HN.o.mono ?_;rintro e1 w1 ⟨g7,h1⟩;have g2:=Lh (hP.o.trans g7 (fun _ _ h=>h));have c7:=Lh (hG.o.mod g7 j.o);clear g7 HN hP hG;cases hn:fZ (x.T.drop c.at') with
  | error k=>
    rw [hn] at h1 e9;obtain ⟨⟨a1,d9⟩,rfl⟩:=h1;have i1:=Lh d9;clear d9;have hc:=c7.o.cell;have hf:=c7.o.frozen;have M:=Lh (show eQ ents (x.T.drop c.at')=.error k from e9.o);(repeat revert K);refine vS ?_;intro K hK;exact jH (k:=k) M.o i1.o g2.o c7.o rfl j.o HF.o (by simp only [aK,aQ,aS,aX,Nat.reduceEqDiff,↓reduceIte] <;> rfl) (by simp only [aK,aQ,aS,aX,Nat.reduceEqDiff,↓reduceIte] <;> rfl)
  | ok q=>
    obtain ⟨nm,r⟩:=q;rw [hn] at h1 e9;obtain ⟨a1,h5,f6,f3,d9,rfl⟩:=h1;have h6:r=x.T.drop a1:=h5;subst h6;have h8:=Lh (show c.at' ≤ a1 from f3);have c8:=Lh (m9 x HT.o w1 { c with at':=a1 } d9 f6);clear d9 h5 f6 f3;(repeat revert K);refine vS ?_;intro K hK K hK;refine c8.o.mono ?_;rintro e2 w2 ⟨a2,rfl,hW,g8,f7,f4,Z⟩;have hQ:=Lh (show aY x w2 { c with at':=a2 } from hW);have hO:=Lh (g2.o.trans g8 (fun _ _ h=>h));have hD:=Lh (c7.o.mod g8 j.o);have hN:=Lh f7;have i0:=Lh (show c.at' ≤ a2 by have:=h8.o;have:a1 ≤ a2:=f4;omega);have f2:=Lh (show eQ ents (x.T.drop c.at')=match x.T.drop a2 with
      | []=>.error .bad
      | b :: r2=>if b=61 then
          match aT r2 with
          | []=>.error .bad
          | q :: r3=>if q=34 ∨ q=39 then
              match qX ents q (r3.length + 1) r3 [] with
              | .error e=>.error e
              | .ok (v,r4)=>.ok ((nm.1,nm.2,v),r4)
            else .error .bad
        else .error .bad by
      rw [e9.o];simp only;rw [show aT (x.T.drop a1)=x.T.drop a2 from Z];rfl)
    clear hW g8 f7 f4 Z c8 g2 c7;go_simp;cases cT:([61]:Bs).isPrefixOf (x.T.drop a2) with
    | false=>
      have HH:=Lh (iM x HT.o w2 { c with at':=a2 } hQ.o hN.o [61] (by decide) cT);have M:=Lh (show eQ ents (x.T.drop c.at')=.error .bad by
        rw [f2.o];by_cases c5:a2 < x.T.length
        · have b1:¬ x.T.getD a2 0=61:=by
            intro hh;have H:=dO 61 x.T a2 c5;rw [cT,hh] at H;cases H
          rw [cF x.T a2 c5];simp only [aN b1]
        · rw [vN (by omega)])
      clear cT;(repeat revert K);refine vg ?_;intro K hK K hK K hK;refine HH.o.mono ?_;rintro e3 E ⟨rfl,F,A⟩;have B:=Lh (hO.o.trans A (fun _ _ h=>h));have p:=Lh (hD.o.mod A j.o);have g1:=Lh (LV x w E E { c with at':=a2 } F B.o (aM.refl _ E) 1);clear F A HH;(repeat revert K);refine vS ?_;intro K hK K hK K hK;refine g1.o.mono ?_;rintro e5 w5 ⟨rfl,y,l⟩;have Q:=Lh y;have O:=Lh l.1;have n:=Lh (p.o.mod l.2 j.o);clear y l;have hc:=n.o.cell;have hf:=n.o.frozen;(repeat revert K);refine vS ?_;intro K hK;exact jH (k:=.bad) M.o Q.o O.o n.o rfl j.o HF.o (by simp only [aK,aQ,aS,aX,Nat.reduceEqDiff,↓reduceIte] <;> rfl) (by simp only [aK,aQ,aS,aX,Nat.reduceEqDiff,↓reduceIte] <;> rfl)
    | true=>
      have HH:=Lh (jA x HT.o w2 { c with at':=a2 } hQ.o hN.o [61] (by decide) cT);have g:=lI cT (by decide);have hC:=Lh (show eQ ents (x.T.drop c.at')=match aT (x.T.drop (a2 + 1)) with
          | []=>.error .bad
          | q :: r3=>if q=34 ∨ q=39 then
              match qX ents q (r3.length + 1) r3 [] with
              | .error e=>.error e
              | .ok (v,r4)=>.ok ((nm.1,nm.2,v),r4)
            else .error .bad by
        have H:=dO 61 x.T a2 g;rw [cT] at H;have b1:x.T.getD a2 0=61:=(beq_iff_eq.1 H.symm).symm;rw [f2.o,cF x.T a2 g,b1];rfl)
      have dI:=Lh g;clear cT g;(repeat revert K);refine vg ?_;intro K hK K hK K hK;refine HH.o.mono ?_;rintro e3 E ⟨rfl,F,A⟩;have B:=Lh (hO.o.trans A (fun _ _ h=>h));have p:=Lh (hD.o.mod A j.o);have c8:=Lh (m9 x HT.o E { c with at':=a2 + 1 } F dI.o);clear F A HH;(repeat revert K);refine vS ?_;intro K hK K hK;refine c8.o.mono ?_;rintro e4 w4 ⟨C,rfl,hX,g9,f9,f5,Z⟩;have g4:=Lh (show aY x w4 { c with at':=C } from hX);have g3:=Lh (B.o.trans g9 (fun _ _ h=>h));have g0:=Lh (p.o.mod g9 j.o);have f0:=Lh f9;have hL:=Lh (show c.at' ≤ C by have:=i0.o;have:a2 + 1 ≤ C:=f5;omega);have c6:=Lh (show eQ ents (x.T.drop c.at')=match x.T.drop C with
          | []=>.error .bad
          | q :: r3=>if q=34 ∨ q=39 then
              match qX ents q (r3.length + 1) r3 [] with
              | .error e=>.error e
              | .ok (v,r4)=>.ok ((nm.1,nm.2,v),r4)
            else .error .bad by
        rw [hC.o,show aT (x.T.drop (a2 + 1))=x.T.drop C from Z];rfl)
      clear hX g9 f9 f5 Z c8 B p;go_simp;cases b5:([34]:Bs).isPrefixOf (x.T.drop C) with
      | true=>
        have HH:=Lh (jA x HT.o w4 { c with at':=C } g4.o f0.o [34] (by decide) b5);have g:=lI b5 (by decide);have W := Lh (show eQ ents (x.T.drop c.at') = match qX ents 34 ((x.T.drop (C + 1)).length + 1) (x.T.drop (C + 1)) [] with
              | .error e=>.error e
              | .ok (v,r4)=>.ok ((nm.1,nm.2,v),r4) by
          have H:=dO 34 x.T C g;rw [b5] at H;have b1:x.T.getD C 0=34:=(beq_iff_eq.1 H.symm).symm;rw [c6.o,cF x.T C g,b1];rfl)
        have dT:=Lh (show C + 1 ≤ x.T.length from g);clear b5 g;(repeat revert K);refine vg ?_;intro K hK K hK K hK;refine HH.o.mono ?_;rintro e5 w5 ⟨rfl,y,l⟩;have c4:=Lh (show aY x w5 { c with at':=C + 1 } from y);have c3:=Lh (g3.o.trans l (fun _ _ h=>h));have c1:=Lh (g0.o.mod l j.o);clear y l HH;(repeat revert K);refine vS ?_;intro K hK;refine cP [0,2,4,5,7,8] fun f=>?_;refine wp_loop_ghost_k (X5 x c ents 34 b2 nm (C + 1) ((x.T.drop (C + 1)).length + 1) w) (x.T.length - (C + 1)) ⟨f,C + 1,[],(x.T.drop (C + 1)).length + 1,rfl,c4.o,c1.o,c3.o,rfl,dT.o,by have:=hL.o;omega,iW _,by rw [eY];omega,rfl⟩ ?_;rintro k _ w2 ⟨f,a,o,m,rfl,hp,b3,hm,hk,d5,d4,d8,d6,e0⟩ J K2 hJ d1;obtain ⟨m',rfl⟩:∃ m',m=m' + 1:=⟨m - 1,by omega⟩;have ⟨HJ,c9,HP,HB,HM,HK⟩:=iH hJ d1 hp b3 hm hk;have ⟨bC,b8,b0,d0,X⟩:=o4 d5 d4 d8 d6 e0;clear hJ d1 hp b3 hm hk d5 d4 d8 d6 e0;have b7:=Lh (fun (E w':World) (h1:aY x w' { c with at':=a }) (h2:aM (fun k=>k=x.p) w w') (h3:aM (fun k=>k=x.p) E w') (v:Int)=>LV x w E w' { c with at':=a } h1 h2 h3 v);cases hq:([34]:Bs).isPrefixOf (x.T.drop a) with
        | true=>
          have HH:=Lh (jA x HT.o w2 { c with at':=a } HP.o bC.o [34] (by decide) hq);have g:=lI hq (by decide);have d2:x.T.getD a 0=34:=by
            have H:=dO 34 x.T a g;rw [hq] at H;exact (beq_iff_eq.1 H.symm).symm
          have M:=Lh (show eQ ents (x.T.drop c.at')=.ok ((nm.1,nm.2,o),x.T.drop (a + 1)) by rw [W.o,X.o,JY ents g d2]);have dI:=Lh g;clear hq g d2;revert K;refine vg ?_;intro K hK K hK K hK K hK;refine HH.o.mono ?_;rintro e3 E ⟨rfl,F,A⟩;have z:=Lh (show aY x E { c with at':=a + 1 } from F);have p:=Lh (HB.o.mod A j.o);have B:=Lh (HM.o.trans A (fun _ _ h=>h));clear F A HH;have hc:=p.o.cell;have hf:=p.o.frozen;(repeat revert K);refine vS ?_;exact GQ (v:=(nm.1,nm.2,o)) M.o dI.o (by have:=b8.o;omega) z.o B.o p.o rfl j.o HF.o (by simp only [aK,aQ,aS,aX,Nat.reduceEqDiff,↓reduceIte] <;> rfl) (by simp only [aK,aQ,aS,aX,Nat.reduceEqDiff,↓reduceIte] <;> rfl)
        | false=>
          have HH:=Lh (iM x HT.o w2 { c with at':=a } HP.o bC.o [34] (by decide) hq);revert K;refine vg ?_;intro K hK K hK K hK K hK;refine HH.o.mono ?_;rintro e3 E ⟨rfl,F,A⟩;have z:=Lh (show aY x E { c with at':=a } from F);have p:=Lh (HB.o.mod A j.o);have B:=Lh (HM.o.trans A (fun _ _ h=>h));clear F A HH;go_simp;by_cases g:a < x.T.length
          rotate_left
          · have bA:=Lh (fun kk=>oR x (E.drewN kk) { c with at':=a } z.o (by simp;omega))
            have M:=Lh (show eQ ents (x.T.drop c.at')=.error .bad by rw [W.o,X.o,JX ents (by omega)]);(repeat revert K);refine vg ?_;intro K hK K hK K hK;(refine lX [0,2,0,0,0,0,1,0,0,0,1,0,0,0] [0,1,2,3,4,5,6,7,8,9,10,11,12,13] ?_;refine vP ?_;repeat with_reducible intro nq)
            refine bK rfl rfl (fun nq K hK=>?_);go_simp;refine (bA.o _).mono ?_;rintro e4 w4 ⟨rfl,k4,rfl⟩;go_simp;refine hK.out _ _ ?_;clear hK K;(refine vP ?_;repeat with_reducible intro nq)
            (repeat revert K);refine vg ?_;intro K hK K hK K hK K hK;refine (b7.o E _ (by exact z.o) (by exact eX B.o rfl rfl rfl rfl) (by exact eX (aM.refl _ E) rfl rfl rfl rfl) _).mono ?_;rintro e5 w5 ⟨rfl,y,l⟩;have Q:=Lh y;have O:=Lh l.1;have n:=Lh (p.o.mod l.2 j.o);clear y l;have hc:=n.o.cell;have hf:=n.o.frozen;(repeat revert K);refine vS ?_;intro K hK K hK;exact jH (k:=.bad) M.o Q.o O.o n.o rfl j.o HF.o (by simp only [aK,aQ,aS,aX,Nat.reduceEqDiff,↓reduceIte] <;> rfl) (by simp only [aK,aQ,aS,aX,Nat.reduceEqDiff,↓reduceIte] <;> rfl)
          have d7:¬ x.T.getD a 0=34:=by
            intro hh;have H:=dO 34 x.T a g;rw [hq,hh] at H;simp at H
          have bL:=Lh d7;have bA:=Lh (fun kk=>oS x (E.drewN kk) { c with at':=a } z.o g);have t0:(0:Int) ≤ (a:Int):=by omega
          have t1:(a:Int) < (x.T.length:Int):=by omega
          obtain ⟨b,hb⟩:=cY (x.T.getD a 0);have ix:∀ h,(⟨x.T.toArray⟩:ByteArray)[a]'h=b:=by rw [hb];exact jE x.T a g
          have aA:=Lh hb;clear hb d7 hq;by_cases a3:b=60
          · have M:=Lh (show eQ ents (x.T.drop c.at')=.error .bad by rw [W.o,X.o,SI ents g bL.o (by rw [← aA.o];exact a3)])
            subst a3;(repeat revert K);refine vg ?_;intro K hK K hK K hK;(refine lX [0,2,0,0,0,0,1,0,0,0,1,0,0,0] [0,1,2,3,4,5,6,7,8,9,10,11,12,13] ?_;refine vP ?_;repeat with_reducible intro nq)
            refine bK rfl rfl (fun nq K hK=>?_);go_simp;refine (bA.o _).mono ?_;rintro e4 w4 ⟨rfl,k4,rfl⟩;have hc:=z.o.cell;have hf:=z.o.frozen;go_simp;refine hK.out _ _ ?_;clear hK K;(refine vP ?_;repeat with_reducible intro nq)
            clear hc hf;(repeat revert K);refine vg ?_;intro K hK K hK K hK K hK;refine (b7.o E _ (by exact z.o) (by exact eX B.o rfl rfl rfl rfl) (by exact eX (aM.refl _ E) rfl rfl rfl rfl) _).mono ?_;rintro e5 w5 ⟨rfl,y,l⟩;have Q:=Lh y;have O:=Lh l.1;have n:=Lh (p.o.mod l.2 j.o);clear y l;have hc:=n.o.cell;have hf:=n.o.frozen;(repeat revert K);refine vS ?_;intro K hK K hK;exact jH (k:=.bad) M.o Q.o O.o n.o rfl j.o HF.o (by simp only [aK,aQ,aS,aX,Nat.reduceEqDiff,↓reduceIte] <;> rfl) (by simp only [aK,aQ,aS,aX,Nat.reduceEqDiff,↓reduceIte] <;> rfl)
          have hS:((b.toNat:Int) == 60)=false:=oG a3;have b6:=Lh (show ¬ x.T.getD a 0=60 by rw [← aA.o];exact a3);clear a3;(repeat revert K);refine vg ?_;intro K hK K hK K hK;(refine lX [0,2,0,0,0,0,1,0,0,0,1,0,0,0] [0,1,2,3,4,5,6,7,8,9,10,11,12,13] ?_;refine vP ?_;repeat with_reducible intro nq)
          refine bK rfl rfl (fun nq K hK=>?_);go_simp;refine (bA.o _).mono ?_;rintro e4 w4 ⟨rfl,k4,rfl⟩;have hc:=z.o.cell;have hf:=z.o.frozen;go_simp;refine hK.out _ _ ?_;clear hK K;(refine vP ?_;repeat with_reducible intro nq)
          (repeat revert K);refine vg ?_;intro K hK K hK K hK;go_quiet (fail);clear hc hf;have a5:∀ V,aY x V { c with at':=a } → aJ V b2 Z7 68 → aM (fun k=>k=x.p) w V → Calls prog 47 #[jP x] V fun e w8=>fK x V { c with at':=a } (fun s=>.returned (.tuple #[aB s,.bool true])) (.returned (.tuple #[aB [],.bool false])) (fW ents (x.T.drop a)) e w8:=fun V h1 _ h3=>
            D5 x HT.o b4 f1.o ents c2.o V { c with at':=a } h1 g (HE.o.below (aM.below (Below.refl _ w) hI.o h3 (fun i hi=>by rw [hi];exact f1.o)))
          have aC:=Lh a5;clear a5;have g5:=Lh (fun w=>wC b w);by_cases Y:b=32
          · have L:¬ (x.T.getD a 0 ≠ 32∧mG (x.T.getD a 0)=true):=fun hh=>hh.1 (by rw [← aA.o];exact Y)
            have M:=Lh (show qX ents 34 ((x.T.drop (C + 1)).length + 1) (x.T.drop (C + 1)) []=_ from X.o.trans (GN ents g bL.o b6.o L));have d3:((b.toNat:Int) != 32)=false:=by rw [Y];rfl
            clear L Y;(repeat revert K);refine vg ?_;intro K hK K hK K hK;refine (aC.o _ (by exact z.o) (by exact p.o) (by exact eX B.o rfl rfl rfl rfl)).mono ?_;rintro e7 V ⟨d,h7⟩;have G:=Lh (aJ.mod (S:=fun k=>k=x.p) p.o (show aM (fun k=>k=x.p) E V from ⟨d.os,d.tape,d.output,d.size,d.block⟩) j.o);have aL:=Lh (B.o.trans (show aM (fun k=>k=x.p) E V from ⟨d.os,d.tape,d.output,d.size,d.block⟩) (fun _ _ h=>h));clear d;cases U:fW ents (x.T.drop a) with
            | error k=>
              rw [U] at h7;obtain ⟨⟨T,D⟩,rfl⟩:=h7;have P:=Lh D;have R:=Lh (show eQ ents (x.T.drop c.at')=.error k by rw [W.o,M.o,U]);clear D;have hc:=G.o.cell;have hf:=G.o.frozen;(repeat revert K);refine vS ?_;intro K hK K hK;exact jH (k:=k) R.o P.o aL.o G.o rfl j.o HF.o (by simp only [aK,aQ,aS,aX,Nat.reduceEqDiff,↓reduceIte] <;> rfl) (by simp only [aK,aQ,aS,aX,Nat.reduceEqDiff,↓reduceIte] <;> rfl)
            | ok q=>
              rw [U] at h7;obtain ⟨t,r⟩:=q;obtain ⟨T,a8,I,a6,D,rfl⟩:=h7;have a9:r=x.T.drop T:=a8;subst a9;have P:=Lh (show aY x V { c with at':=T } from D);have N:=Lh I;have u:=Lh (show a < T by have:=oI U;rw [eY] at this;omega);have a0:=Lh (pI c2.o (by have:=HT.o;omega) U);have R:=Lh (M.o.trans (show _=qX ents 34 m' (x.T.drop T) (o ++ t) by rw [U]));have a2:¬ 9223372036854775807 < o.length + t.length:=by have:=HT.o;have:=b0.o;have:=bC.o;have:=a0.o;omega
              clear D U a8 I a6;(repeat revert K);refine vS ?_;intro K hK;refine Kk [0,2,4,5,7,8] fun f=>?_;rw [gF];exact c9.o _ _ ⟨x.T.length - T,by rw [HK.o];have:=u.o;have:=N.o;omega,HJ.o _ _ _ ⟨f,T,o ++ t,m',rfl,P.o,G.o,aL.o,rfl,N.o,by have:=b8.o;have:=u.o;omega,by have:=b0.o;have:=a0.o;have:=u.o;rw [fY];omega,by have:=d0.o;have:=u.o;have:=N.o;omega,R.o⟩⟩
          have d3:((b.toNat:Int) != 32)=true:=SE Y;have gB:=Lh Y;clear Y;(repeat revert K);refine vg ?_;intro K hK K hK K hK K hK;refine (g5.o _).mono ?_;rintro e5 w5 ⟨rfl,rfl⟩;go_simp;cases Z:mG b with
          | true=>
            have M:=Lh (show eQ ents (x.T.drop c.at')=.error .opn by rw [W.o,X.o,SJ ents g bL.o b6.o (by rw [← aA.o];exact ⟨gB.o,Z⟩)]);(repeat revert K);refine vg ?_;intro K hK K hK K hK K hK;refine (b7.o E _ (by exact z.o) (by exact eX B.o rfl rfl rfl rfl) (by exact eX (aM.refl _ E) rfl rfl rfl rfl) _).mono ?_;rintro e5 w5 ⟨rfl,y,l⟩;have Q:=Lh y;have O:=Lh l.1;have n:=Lh (p.o.mod l.2 j.o);clear y l;have hc:=n.o.cell;have hf:=n.o.frozen;(repeat revert K);refine vS ?_;intro K hK K hK;exact jH (k:=.opn) M.o Q.o O.o n.o rfl j.o HF.o (by simp only [aK,aQ,aS,aX,Nat.reduceEqDiff,↓reduceIte] <;> rfl) (by simp only [aK,aQ,aS,aX,Nat.reduceEqDiff,↓reduceIte] <;> rfl)
          | false=>
            have L:¬ (x.T.getD a 0 ≠ 32∧mG (x.T.getD a 0)=true):=fun hh=>by have H:=hh.2;rw [← aA.o,Z] at H;cases H
            have M:=Lh (show qX ents 34 ((x.T.drop (C + 1)).length + 1) (x.T.drop (C + 1)) []=_ from X.o.trans (GN ents g bL.o b6.o L));clear L Z;(repeat revert K);refine vg ?_;intro K hK K hK K hK;refine (aC.o _ (by exact z.o) (by exact p.o) (by exact eX B.o rfl rfl rfl rfl)).mono ?_;rintro e7 V ⟨d,h7⟩;have G:=Lh (aJ.mod (S:=fun k=>k=x.p) p.o (show aM (fun k=>k=x.p) E V from ⟨d.os,d.tape,d.output,d.size,d.block⟩) j.o);have aL:=Lh (B.o.trans (show aM (fun k=>k=x.p) E V from ⟨d.os,d.tape,d.output,d.size,d.block⟩) (fun _ _ h=>h));clear d;cases U:fW ents (x.T.drop a) with
            | error k=>
              rw [U] at h7;obtain ⟨⟨T,D⟩,rfl⟩:=h7;have P:=Lh D;have R:=Lh (show eQ ents (x.T.drop c.at')=.error k by rw [W.o,M.o,U]);clear D;have hc:=G.o.cell;have hf:=G.o.frozen;(repeat revert K);refine vS ?_;intro K hK K hK;exact jH (k:=k) R.o P.o aL.o G.o rfl j.o HF.o (by simp only [aK,aQ,aS,aX,Nat.reduceEqDiff,↓reduceIte] <;> rfl) (by simp only [aK,aQ,aS,aX,Nat.reduceEqDiff,↓reduceIte] <;> rfl)
            | ok q=>
              rw [U] at h7;obtain ⟨t,r⟩:=q;obtain ⟨T,a8,I,a6,D,rfl⟩:=h7;have a9:r=x.T.drop T:=a8;subst a9;have P:=Lh (show aY x V { c with at':=T } from D);have N:=Lh I;have u:=Lh (show a < T by have:=oI U;rw [eY] at this;omega);have a0:=Lh (pI c2.o (by have:=HT.o;omega) U);have R:=Lh (M.o.trans (show _=qX ents 34 m' (x.T.drop T) (o ++ t) by rw [U]));have a2:¬ 9223372036854775807 < o.length + t.length:=by have:=HT.o;have:=b0.o;have:=bC.o;have:=a0.o;omega
              clear D U a8 I a6;(repeat revert K);refine vS ?_;intro K hK;refine Kk [0,2,4,5,7,8] fun f=>?_;rw [gF];exact c9.o _ _ ⟨x.T.length - T,by rw [HK.o];have:=u.o;have:=N.o;omega,HJ.o _ _ _ ⟨f,T,o ++ t,m',rfl,P.o,G.o,aL.o,rfl,N.o,by have:=b8.o;have:=u.o;omega,by have:=b0.o;have:=a0.o;have:=u.o;rw [fY];omega,by have:=d0.o;have:=u.o;have:=N.o;omega,R.o⟩⟩
      | false=>
        have hM:=Lh (iM x HT.o w4 { c with at':=C } g4.o f0.o [34] (by decide) b5);(repeat revert K);refine vg ?_;intro K hK K hK K hK;refine hM.o.mono ?_;rintro e5 w5 ⟨rfl,y,l⟩;have c3:=Lh (g3.o.trans l (fun _ _ h=>h));have c1:=Lh (g0.o.mod l j.o);have c4:=Lh (show aY x w5 { c with at':=C } from y);clear y l hM;go_simp;cases b9:([39]:Bs).isPrefixOf (x.T.drop C) with
        | false=>
          have HH:=Lh (iM x HT.o w5 { c with at':=C } c4.o f0.o [39] (by decide) b9);have M:=Lh (show eQ ents (x.T.drop c.at')=.error .bad by
            rw [c6.o];by_cases c5:C < x.T.length
            · have b1:¬ (x.T.getD C 0=34 ∨ x.T.getD C 0=39):=by
                rintro (hh|hh)
                · have H:=dO 34 x.T C c5
                  rw [b5,hh] at H;cases H
                · have H:=dO 39 x.T C c5
                  rw [b9,hh] at H;cases H
              rw [cF x.T C c5];simp only [aN b1]
            · rw [vN (by omega)])
          clear b9 b5;(repeat revert K);refine vg ?_;intro K hK K hK K hK;refine HH.o.mono ?_;rintro e3 E ⟨rfl,F,A⟩;have B:=Lh (c3.o.trans A (fun _ _ h=>h));have p:=Lh (c1.o.mod A j.o);have g1:=Lh (LV x w E E { c with at':=C } F B.o (aM.refl _ E) 1);clear F A HH;(repeat revert K);refine vS ?_;intro K hK K hK K hK;refine g1.o.mono ?_;rintro e5 w5 ⟨rfl,y,l⟩;have Q:=Lh y;have O:=Lh l.1;have n:=Lh (p.o.mod l.2 j.o);clear y l;have hc:=n.o.cell;have hf:=n.o.frozen;(repeat revert K);refine vS ?_;intro K hK;exact jH (k:=.bad) M.o Q.o O.o n.o rfl j.o HF.o (by simp only [aK,aQ,aS,aX,Nat.reduceEqDiff,↓reduceIte] <;> rfl) (by simp only [aK,aQ,aS,aX,Nat.reduceEqDiff,↓reduceIte] <;> rfl)
        | true=>
          have HH:=Lh (jA x HT.o w5 { c with at':=C } c4.o f0.o [39] (by decide) b9);have g:=lI b9 (by decide);have W := Lh (show eQ ents (x.T.drop c.at') = match qX ents 39 ((x.T.drop (C + 1)).length + 1) (x.T.drop (C + 1)) [] with
                | .error e=>.error e
                | .ok (v,r4)=>.ok ((nm.1,nm.2,v),r4) by
            have H:=dO 39 x.T C g;rw [b9] at H;have b1:x.T.getD C 0=39:=(beq_iff_eq.1 H.symm).symm;rw [c6.o,cF x.T C g,b1];rfl)
          have dT:=Lh (show C + 1 ≤ x.T.length from g);clear b5 b9 g g4 g3 g0;(repeat revert K);refine vg ?_;intro K hK K hK K hK;refine HH.o.mono ?_;rintro e6 w6 ⟨rfl,h0,hA⟩;have c4:=Lh (show aY x w6 { c with at':=C + 1 } from h0);have c3:=Lh (c3.o.trans hA (fun _ _ h=>h));have c1:=Lh (c1.o.mod hA j.o);clear h0 hA HH;(repeat revert K);refine vS ?_;intro K hK;refine cP [0,2,4,5,7,8] fun f=>?_;refine wp_loop_ghost_k (X5 x c ents 39 b2 nm (C + 1) ((x.T.drop (C + 1)).length + 1) w) (x.T.length - (C + 1)) ⟨f,C + 1,[],(x.T.drop (C + 1)).length + 1,rfl,c4.o,c1.o,c3.o,rfl,dT.o,by have:=hL.o;omega,iW _,by rw [eY];omega,rfl⟩ ?_;rintro k _ w2 ⟨f,a,o,m,rfl,hp,b3,hm,hk,d5,d4,d8,d6,e0⟩ J K2 hJ d1;obtain ⟨m',rfl⟩:∃ m',m=m' + 1:=⟨m - 1,by omega⟩;have ⟨HJ,c9,HP,HB,HM,HK⟩:=iH hJ d1 hp b3 hm hk;have ⟨bC,b8,b0,d0,X⟩:=o4 d5 d4 d8 d6 e0;clear hJ d1 hp b3 hm hk d5 d4 d8 d6 e0;have b7:=Lh (fun (E w':World) (h1:aY x w' { c with at':=a }) (h2:aM (fun k=>k=x.p) w w') (h3:aM (fun k=>k=x.p) E w') (v:Int)=>LV x w E w' { c with at':=a } h1 h2 h3 v);cases hq:([39]:Bs).isPrefixOf (x.T.drop a) with
          | true=>
            have HH:=Lh (jA x HT.o w2 { c with at':=a } HP.o bC.o [39] (by decide) hq);have g:=lI hq (by decide);have d2:x.T.getD a 0=39:=by
              have H:=dO 39 x.T a g;rw [hq] at H;exact (beq_iff_eq.1 H.symm).symm
            have M:=Lh (show eQ ents (x.T.drop c.at')=.ok ((nm.1,nm.2,o),x.T.drop (a + 1)) by rw [W.o,X.o,JY ents g d2]);have dI:=Lh g;clear hq g d2;revert K;refine vg ?_;intro K hK K hK K hK K hK;refine HH.o.mono ?_;rintro e3 E ⟨rfl,F,A⟩;have z:=Lh (show aY x E { c with at':=a + 1 } from F);have p:=Lh (HB.o.mod A j.o);have B:=Lh (HM.o.trans A (fun _ _ h=>h));clear F A HH;have hc:=p.o.cell;have hf:=p.o.frozen;(repeat revert K);refine vS ?_;exact GQ (v:=(nm.1,nm.2,o)) M.o dI.o (by have:=b8.o;omega) z.o B.o p.o rfl j.o HF.o (by simp only [aK,aQ,aS,aX,Nat.reduceEqDiff,↓reduceIte] <;> rfl) (by simp only [aK,aQ,aS,aX,Nat.reduceEqDiff,↓reduceIte] <;> rfl)
          | false=>
            have HH:=Lh (iM x HT.o w2 { c with at':=a } HP.o bC.o [39] (by decide) hq);revert K;refine vg ?_;intro K hK K hK K hK K hK;refine HH.o.mono ?_;rintro e3 E ⟨rfl,F,A⟩;have z:=Lh (show aY x E { c with at':=a } from F);have p:=Lh (HB.o.mod A j.o);have B:=Lh (HM.o.trans A (fun _ _ h=>h));clear F A HH;go_simp;by_cases g:a < x.T.length
            rotate_left
            · have bA:=Lh (fun kk=>oR x (E.drewN kk) { c with at':=a } z.o (by simp;omega))
              have M:=Lh (show eQ ents (x.T.drop c.at')=.error .bad by rw [W.o,X.o,JX ents (by omega)]);(repeat revert K);refine vg ?_;intro K hK K hK K hK;(refine lX [0,2,0,0,0,0,1,0,0,0,1,0,0,0] [0,1,2,3,4,5,6,7,8,9,10,11,12,13] ?_;refine vP ?_;repeat with_reducible intro nq)
              refine bK rfl rfl (fun nq K hK=>?_);go_simp;refine (bA.o _).mono ?_;rintro e4 w4 ⟨rfl,k4,rfl⟩;go_simp;refine hK.out _ _ ?_;clear hK K;(refine vP ?_;repeat with_reducible intro nq)
              (repeat revert K);refine vg ?_;intro K hK K hK K hK K hK;refine (b7.o E _ (by exact z.o) (by exact eX B.o rfl rfl rfl rfl) (by exact eX (aM.refl _ E) rfl rfl rfl rfl) _).mono ?_;rintro e5 w5 ⟨rfl,y,l⟩;have Q:=Lh y;have O:=Lh l.1;have n:=Lh (p.o.mod l.2 j.o);clear y l;have hc:=n.o.cell;have hf:=n.o.frozen;(repeat revert K);refine vS ?_;intro K hK K hK;exact jH (k:=.bad) M.o Q.o O.o n.o rfl j.o HF.o (by simp only [aK,aQ,aS,aX,Nat.reduceEqDiff,↓reduceIte] <;> rfl) (by simp only [aK,aQ,aS,aX,Nat.reduceEqDiff,↓reduceIte] <;> rfl)
            have d7:¬ x.T.getD a 0=39:=by
              intro hh;have H:=dO 39 x.T a g;rw [hq,hh] at H;simp at H
            have bL:=Lh d7;have bA:=Lh (fun kk=>oS x (E.drewN kk) { c with at':=a } z.o g);have t0:(0:Int) ≤ (a:Int):=by omega
            have t1:(a:Int) < (x.T.length:Int):=by omega
            obtain ⟨b,hb⟩:=cY (x.T.getD a 0);have ix:∀ h,(⟨x.T.toArray⟩:ByteArray)[a]'h=b:=by rw [hb];exact jE x.T a g
            have aA:=Lh hb;clear hb d7 hq;by_cases a3:b=60
            · have M:=Lh (show eQ ents (x.T.drop c.at')=.error .bad by rw [W.o,X.o,SI ents g bL.o (by rw [← aA.o];exact a3)])
              subst a3;(repeat revert K);refine vg ?_;intro K hK K hK K hK;(refine lX [0,2,0,0,0,0,1,0,0,0,1,0,0,0] [0,1,2,3,4,5,6,7,8,9,10,11,12,13] ?_;refine vP ?_;repeat with_reducible intro nq)
              refine bK rfl rfl (fun nq K hK=>?_);go_simp;refine (bA.o _).mono ?_;rintro e4 w4 ⟨rfl,k4,rfl⟩;have hc:=z.o.cell;have hf:=z.o.frozen;go_simp;refine hK.out _ _ ?_;clear hK K;(refine vP ?_;repeat with_reducible intro nq)
              clear hc hf;(repeat revert K);refine vg ?_;intro K hK K hK K hK K hK;refine (b7.o E _ (by exact z.o) (by exact eX B.o rfl rfl rfl rfl) (by exact eX (aM.refl _ E) rfl rfl rfl rfl) _).mono ?_;rintro e5 w5 ⟨rfl,y,l⟩;have Q:=Lh y;have O:=Lh l.1;have n:=Lh (p.o.mod l.2 j.o);clear y l;have hc:=n.o.cell;have hf:=n.o.frozen;(repeat revert K);refine vS ?_;intro K hK K hK;exact jH (k:=.bad) M.o Q.o O.o n.o rfl j.o HF.o (by simp only [aK,aQ,aS,aX,Nat.reduceEqDiff,↓reduceIte] <;> rfl) (by simp only [aK,aQ,aS,aX,Nat.reduceEqDiff,↓reduceIte] <;> rfl)
            have hS:((b.toNat:Int) == 60)=false:=oG a3;have b6:=Lh (show ¬ x.T.getD a 0=60 by rw [← aA.o];exact a3);clear a3;(repeat revert K);refine vg ?_;intro K hK K hK K hK;(refine lX [0,2,0,0,0,0,1,0,0,0,1,0,0,0] [0,1,2,3,4,5,6,7,8,9,10,11,12,13] ?_;refine vP ?_;repeat with_reducible intro nq)
            refine bK rfl rfl (fun nq K hK=>?_);go_simp;refine (bA.o _).mono ?_;rintro e4 w4 ⟨rfl,k4,rfl⟩;have hc:=z.o.cell;have hf:=z.o.frozen;go_simp;refine hK.out _ _ ?_;clear hK K;(refine vP ?_;repeat with_reducible intro nq)
            (repeat revert K);refine vg ?_;intro K hK K hK K hK;go_quiet (fail);clear hc hf;have a5:∀ V,aY x V { c with at':=a } → aJ V b2 Z7 68 → aM (fun k=>k=x.p) w V → Calls prog 47 #[jP x] V fun e w8=>fK x V { c with at':=a } (fun s=>.returned (.tuple #[aB s,.bool true])) (.returned (.tuple #[aB [],.bool false])) (fW ents (x.T.drop a)) e w8:=fun V h1 _ h3=>
              D5 x HT.o b4 f1.o ents c2.o V { c with at':=a } h1 g (HE.o.below (aM.below (Below.refl _ w) hI.o h3 (fun i hi=>by rw [hi];exact f1.o)))
            have aC:=Lh a5;clear a5;have g5:=Lh (fun w=>wC b w);by_cases Y:b=32
            · have L:¬ (x.T.getD a 0 ≠ 32∧mG (x.T.getD a 0)=true):=fun hh=>hh.1 (by rw [← aA.o];exact Y)
              have M:=Lh (show qX ents 39 ((x.T.drop (C + 1)).length + 1) (x.T.drop (C + 1)) []=_ from X.o.trans (GN ents g bL.o b6.o L));have d3:((b.toNat:Int) != 32)=false:=by rw [Y];rfl
              clear L Y;(repeat revert K);refine vg ?_;intro K hK K hK K hK;refine (aC.o _ (by exact z.o) (by exact p.o) (by exact eX B.o rfl rfl rfl rfl)).mono ?_;rintro e7 V ⟨d,h7⟩;have G:=Lh (aJ.mod (S:=fun k=>k=x.p) p.o (show aM (fun k=>k=x.p) E V from ⟨d.os,d.tape,d.output,d.size,d.block⟩) j.o);have aL:=Lh (B.o.trans (show aM (fun k=>k=x.p) E V from ⟨d.os,d.tape,d.output,d.size,d.block⟩) (fun _ _ h=>h));clear d;cases U:fW ents (x.T.drop a) with
              | error k=>
                rw [U] at h7;obtain ⟨⟨T,D⟩,rfl⟩:=h7;have P:=Lh D;have R:=Lh (show eQ ents (x.T.drop c.at')=.error k by rw [W.o,M.o,U]);clear D;have hc:=G.o.cell;have hf:=G.o.frozen;(repeat revert K);refine vS ?_;intro K hK K hK;exact jH (k:=k) R.o P.o aL.o G.o rfl j.o HF.o (by simp only [aK,aQ,aS,aX,Nat.reduceEqDiff,↓reduceIte] <;> rfl) (by simp only [aK,aQ,aS,aX,Nat.reduceEqDiff,↓reduceIte] <;> rfl)
              | ok q=>
                rw [U] at h7;obtain ⟨t,r⟩:=q;obtain ⟨T,a8,I,a6,D,rfl⟩:=h7;have a9:r=x.T.drop T:=a8;subst a9;have P:=Lh (show aY x V { c with at':=T } from D);have N:=Lh I;have u:=Lh (show a < T by have:=oI U;rw [eY] at this;omega);have a0:=Lh (pI c2.o (by have:=HT.o;omega) U);have R:=Lh (M.o.trans (show _=qX ents 39 m' (x.T.drop T) (o ++ t) by rw [U]));have a2:¬ 9223372036854775807 < o.length + t.length:=by have:=HT.o;have:=b0.o;have:=bC.o;have:=a0.o;omega
                clear D U a8 I a6;(repeat revert K);refine vS ?_;intro K hK;refine Kk [0,2,4,5,7,8] fun f=>?_;rw [gF];exact c9.o _ _ ⟨x.T.length - T,by rw [HK.o];have:=u.o;have:=N.o;omega,HJ.o _ _ _ ⟨f,T,o ++ t,m',rfl,P.o,G.o,aL.o,rfl,N.o,by have:=b8.o;have:=u.o;omega,by have:=b0.o;have:=a0.o;have:=u.o;rw [fY];omega,by have:=d0.o;have:=u.o;have:=N.o;omega,R.o⟩⟩
            have d3:((b.toNat:Int) != 32)=true:=SE Y;have gB:=Lh Y;clear Y;(repeat revert K);refine vg ?_;intro K hK K hK K hK K hK;refine (g5.o _).mono ?_;rintro e5 w5 ⟨rfl,rfl⟩;go_simp;cases Z:mG b with
            | true=>
              have M:=Lh (show eQ ents (x.T.drop c.at')=.error .opn by rw [W.o,X.o,SJ ents g bL.o b6.o (by rw [← aA.o];exact ⟨gB.o,Z⟩)]);(repeat revert K);refine vg ?_;intro K hK K hK K hK K hK;refine (b7.o E _ (by exact z.o) (by exact eX B.o rfl rfl rfl rfl) (by exact eX (aM.refl _ E) rfl rfl rfl rfl) _).mono ?_;rintro e5 w5 ⟨rfl,y,l⟩;have Q:=Lh y;have O:=Lh l.1;have n:=Lh (p.o.mod l.2 j.o);clear y l;have hc:=n.o.cell;have hf:=n.o.frozen;(repeat revert K);refine vS ?_;intro K hK K hK;exact jH (k:=.opn) M.o Q.o O.o n.o rfl j.o HF.o (by simp only [aK,aQ,aS,aX,Nat.reduceEqDiff,↓reduceIte] <;> rfl) (by simp only [aK,aQ,aS,aX,Nat.reduceEqDiff,↓reduceIte] <;> rfl)
            | false=>
              have L:¬ (x.T.getD a 0 ≠ 32∧mG (x.T.getD a 0)=true):=fun hh=>by have H:=hh.2;rw [← aA.o,Z] at H;cases H
              have M:=Lh (show qX ents 39 ((x.T.drop (C + 1)).length + 1) (x.T.drop (C + 1)) []=_ from X.o.trans (GN ents g bL.o b6.o L));clear L Z;(repeat revert K);refine vg ?_;intro K hK K hK K hK;refine (aC.o _ (by exact z.o) (by exact p.o) (by exact eX B.o rfl rfl rfl rfl)).mono ?_;rintro e7 V ⟨d,h7⟩;have G:=Lh (aJ.mod (S:=fun k=>k=x.p) p.o (show aM (fun k=>k=x.p) E V from ⟨d.os,d.tape,d.output,d.size,d.block⟩) j.o);have aL:=Lh (B.o.trans (show aM (fun k=>k=x.p) E V from ⟨d.os,d.tape,d.output,d.size,d.block⟩) (fun _ _ h=>h));clear d;cases U:fW ents (x.T.drop a) with
              | error k=>
                rw [U] at h7;obtain ⟨⟨T,D⟩,rfl⟩:=h7;have P:=Lh D;have R:=Lh (show eQ ents (x.T.drop c.at')=.error k by rw [W.o,M.o,U]);clear D;have hc:=G.o.cell;have hf:=G.o.frozen;(repeat revert K);refine vS ?_;intro K hK K hK;exact jH (k:=k) R.o P.o aL.o G.o rfl j.o HF.o (by simp only [aK,aQ,aS,aX,Nat.reduceEqDiff,↓reduceIte] <;> rfl) (by simp only [aK,aQ,aS,aX,Nat.reduceEqDiff,↓reduceIte] <;> rfl)
              | ok q=>
                rw [U] at h7;obtain ⟨t,r⟩:=q;obtain ⟨T,a8,I,a6,D,rfl⟩:=h7;have a9:r=x.T.drop T:=a8;subst a9;have P:=Lh (show aY x V { c with at':=T } from D);have N:=Lh I;have u:=Lh (show a < T by have:=oI U;rw [eY] at this;omega);have a0:=Lh (pI c2.o (by have:=HT.o;omega) U);have R:=Lh (M.o.trans (show _=qX ents 39 m' (x.T.drop T) (o ++ t) by rw [U]));have a2:¬ 9223372036854775807 < o.length + t.length:=by have:=HT.o;have:=b0.o;have:=bC.o;have:=a0.o;omega
                clear D U a8 I a6;(repeat revert K);refine vS ?_;intro K hK;refine Kk [0,2,4,5,7,8] fun f=>?_;rw [gF];exact c9.o _ _ ⟨x.T.length - T,by rw [HK.o];have:=u.o;have:=N.o;omega,HJ.o _ _ _ ⟨f,T,o ++ t,m',rfl,P.o,G.o,aL.o,rfl,N.o,by have:=b8.o;have:=u.o;omega,by have:=b0.o;have:=a0.o;have:=u.o;rw [fY];omega,by have:=d0.o;have:=u.o;have:=N.o;omega,R.o⟩⟩
end Go.Proofs.YthapcchcahnfaaaGreatDoor
