/- Part of the proof that laws.FnWithin returns true for every argument. No conditions. -/
import Derived.Test.YthapcchcahnfaaaGreatDoorQ42
import Derived.Test.YthapcchcahnfaaaGreatDoorQ38
import Derived.Test.YthapcchcahnfaaaGreatDoorQ37
set_option linter.all false
set_option maxHeartbeats 8000000
set_option maxRecDepth 100000
namespace Go.Proofs.YthapcchcahnfaaaGreatDoor
open Go Go.RowKit Go.Proofs.Tryz
theorem E3 (ents:aN) {T:Bs} {a:Nat} (h:T.length≤a):fN ents (T.drop a)=.error .bad:=by
 rw [t6 h];rfl
theorem yU (ents:aN) {T:Bs} {a:Nat} (b:a<T.length) (h:T.getD a 0=38):fN ents (T.drop a)=match jI ents (T.drop (a+1)) with
  | .error e=>.error e
  | .ok (t,r2)=>if bI t then .ok (t,r2) else .error .opn:=by
 rw [bX T a b,h];rfl
theorem yV (ents:aN) {T:Bs} {a:Nat} (b:a<T.length) (h:¬ T.getD a 0=38):fN ents (T.drop a)=if (aI (T.drop a)).2=0∨bY (aI (T.drop a)).1=false then .error .bad else .ok ((T.drop a).take (aI (T.drop a)).2,T.drop (a+(aI (T.drop a)).2)):=by
 rw [←List.drop_drop];rw [bX T a b];show (if T.getD a 0=38 then _ else _)=_;rw [aM h]
def nO (ents:aN):Prop:=∀ p∈ents,p.2.length≤2147483647
theorem L8 {l:aN} {k s:Bs} (h:eJ l k=some s):∃ p∈l,p.2=s:=by
 unfold eJ at h;cases a:l.find? (·.1==k) with
 | none=>rw [a] at h;cases h
 | some p=>
  rw [a] at h;simp at h;exact ⟨p,List.mem_of_find?_eq_some a,h⟩
theorem T6 (n:Nat):(gH n).length≤2147483647:=by
 have e:∀ l:Bs,l.length=1∨l.length=2∨l.length=3∨l.length=4→l.length≤2147483647:=fun l h=>by omega
 refine e _ ?_;unfold gH Utf8.encode;generalize (if Utf8.valid (n:Int)=true then (n:Int).toNat else Utf8.runeError)=c;simp only;split
 ·exact aG rfl
 ·split
  ·exact aX (aG rfl)
  ·split
   ·exact aX (aX (aG rfl))
   ·exact aX (aX (aX rfl))
theorem JP {ents:aN} {rest t r:Bs} (h:jI ents rest=.ok (t,r)):((∃ n,t=gH n)∨∃ k,eJ (oF++ents) k=some t)∧∃ m,r=rest.drop m:=by
 unfold jI at h;cases e:iG 59 rest with
 | none=>rw [e] at h;cases h
 | some s=>
  rw [e] at h;cases s with
  | nil=>cases h
  | cons c q=>
   simp only at h;by_cases b:c=35
   ·rw [aT b] at h;cases d:iE q with
    | none=>rw [d] at h;cases h
    | some n=>
     rw [d] at h;simp only at h;split at h
     ·simp only [bT,bP] at h;exact ⟨aG ⟨_,h.1.symm⟩,_,h.2.symm⟩
     ·cases h
   ·rw [aM b] at h;split at h
    ·cases h
    ·split at h
     ·cases h
     ·cases a:eJ (oF++ents) (c::q) with
      | none=>rw [a] at h;cases h
      | some x=>
       rw [a] at h;simp only [bT,bP] at h;exact ⟨aX ⟨_,by rw [a,h.1]⟩,_,h.2.symm⟩
theorem T7:∀ q∈oF,q.2.length≤2147483647:=by
 intro q a;simp only [oF,l6,zF,or_false] at a;rcases a with rfl|rfl|rfl|rfl|rfl<;>exact Nat.le_of_ble_eq_true rfl
theorem JQ {ents:aN} (e:nO ents) {rest t r:Bs} (h:jI ents rest=.ok (t,r)):t.length≤2147483647:=by
 rcases (JP h).1 with ⟨n,f⟩|⟨k,d⟩
 ·have b:=T6 n;rw [←f] at b;exact b
 ·obtain ⟨p,a,c⟩:=L8 d;rw [←c];rcases List.mem_append.1 a with a|a
  ·exact T7 p a
  ·exact e p a
theorem XU {ents:aN} {rest t r:Bs} (h:jI ents rest=.ok (t,r)):r.length≤rest.length:=by
 obtain ⟨m,rfl⟩:=(JP h).2;rw [eO];omega
theorem CQ (x:PX) (X:x.T.length≤1000000000) (u:Nat) (U:u≤x.p) (ents:aN) (P:nO ents) (w:World) (c:PC) (h:aV x w c) (A:c.at'<x.T.length) (hE:pK x u ents w) :
  Calls prog 47 #[jA x] w (eY x w c (fun s=>.returned (.tuple #[aB s,.bool true])) (.returned (.tuple #[aB [],.bool false])) (fN ents (x.T.drop c.at'))):=by
 have ⟨HT,HA,HE,H,a5⟩:=pI X A hE h P;refine eT 70 func47 [_] fun f=>?_;simp only [aF];by_cases e:x.T.getD c.at' 0=38
 ·have b:([38]:Bs).isPrefixOf (x.T.drop c.at')=true:=by rw [dG 38 x.T c.at' A,e];rfl
  have W:=Lh (iL x X w c h (Nat.le_of_lt A) [38] (by decide) b);have D:=Lh (yU ents A e);clear X A hE h P b e;refine vg ?_;intro K hK K hK K hK;refine W.o.mono ?_;rintro e3 w3 ⟨rfl,j,g⟩;have d:=Lh (show aV x w3 { c with at':=c.at'+1 } from j);have o:=Lh g;have E:=Lh (XT x HT.o u U ents w3 { c with at':=c.at'+1 } j HA.o (HE.o.below (aK.below (Below.refl _ w) (gA U (Nat.le_of_lt (aJ.lt H.o))) g (fun i hi=>by rw [hi];exact U))));clear j g W;(repeat revert K);refine vS ?_;intro K hK K hK K hK;refine E.o.mono ?_;rintro e4 w4 V;obtain ⟨aA,V⟩:=V;have J:=Lh (o.o.trans aA (fun _ _ h=>h));clear aA E;cases C:jI ents (x.T.drop (c.at'+1)) with
  | error k=>
   rw [show ({ c with at':=c.at'+1 }:PC).at'=c.at'+1 from rfl,C] at V;obtain ⟨⟨O,l⟩,rfl⟩:=V;have M:=Lh l;have HR:=Lh (show fN ents (x.T.drop c.at')=.error k by rw [D.o,C]);clear l;(repeat revert K);refine vS ?_;intro K hK;refine jV ?_;exact eY.bad HR.o M.o J.o
  | ok q=>
   rw [show ({ c with at':=c.at'+1 }:PC).at'=c.at'+1 from rfl,C] at V;obtain ⟨t,r⟩:=q;obtain ⟨O,a1,I,G,l,rfl⟩:=V;have a2:r=x.T.drop O:=a1;subst a2;have M:=Lh (show aV x w4 { c with at':=O } from l);have a8:=Lh I;have a6:=Lh (show c.at'≤O by have:c.at'+1≤O:=G;omega);have HR:=Lh (show fN ents (x.T.drop c.at')=if bI t then .ok (t,x.T.drop O) else .error .opn by rw [D.o,C]);have a3:=Lh (fun w=>ES t (by have:=JQ a5.o C;omega) w);have HF:=Lh (fun v=>lG x w4 { c with at':=O } l v);clear l C a1 I G;(repeat revert K);refine vS ?_;intro K hK K hK K hK K hK;refine (a3.o _).mono ?_;rintro e5 w5 ⟨rfl,rfl⟩;go_simp;cases Y:bI t with
   | true=>
    have a:=Lh (HR.o.trans (aT Y));(repeat revert K);refine vg ?_;intro K hK;refine jV ?_;exact eY.okk (v:=t) a.o a8.o a6.o M.o J.o
   | false=>
    have a:=Lh (HR.o.trans (aM (by rw [Y];simp)));(repeat revert K);refine vg ?_;intro K hK K hK K hK K hK;refine (HF.o _).mono ?_;rintro e6 w6 ⟨rfl,a0,aC⟩;have bA:=Lh a0;have a9:=Lh (J.o.trans aC (fun _ _ h=>h));clear a0 aC;(repeat revert K);refine vS ?_;intro K hK K hK;refine jV ?_;exact eY.bad (k:=.opn) a.o bA.o a9.o
 ·have b:([38]:Bs).isPrefixOf (x.T.drop c.at')=false:=by rw [dG 38 x.T c.at' A,m6];exact fun Z=>e Z.symm
  have W:=Lh (iA x X w c h (Nat.le_of_lt A) [38] (by decide) b);have D:=Lh (yV ents A e);have T:x.T.drop c.at'≠[]:=fun Z=>by have:=congrArg List.length Z;simp at this;omega
  have HW:=Lh (lO (x.T.drop c.at') T);have m:=Lh (fun w=>mB (x.T.drop c.at') T w);have z1:(0:Int)≤(c.at':Int):=by omega
  have z3:(c.at':Int)≤(x.T.length:Int):=by omega
  clear X A hE h P b e T;obtain ⟨r,C⟩:=cR ((aI (x.T.drop c.at')).1);obtain ⟨n,R⟩:=cR ((aI (x.T.drop c.at')).2);rw [←C] at D m;rw [←R] at D HW m;clear C R;refine vg ?_;intro K hK K hK K hK;refine W.o.mono ?_;rintro e3 w3 ⟨rfl,j,g⟩;have ⟨d,o⟩:=cH j g;clear j g W;have hc:=d.o.cell;have hf:=d.o.frozen;(repeat revert K);refine vS ?_;intro K hK;(refine lI [0,0,0,1,0,0,0,1,0,2,0,0,0,0,0] [0,1,2,3,4,5,6,7,8,9,10,11,12,13,14] ?_;refine vP ?_;repeat with_reducible intro nq)
  rw [iR];refine bN rfl rfl (fun nq K hK=>?_);go_simp;refine (m.o _).mono ?_;rintro e4 w4 ⟨rfl,rfl⟩;go_simp;refine hK.out _ _ ?_;clear hK K;(refine vP ?_;repeat with_reducible intro nq)
  have HF:=Lh (fun (w':World) (F:aV x w' c) (h2:aK (fun k=>k=x.p) w w') (v:Int)=>hZ x w w' c F h2 v);by_cases R:n=0
  ·have a:=Lh (D.o.trans (aT (aG R)));subst R;revert K;refine vg ?_;intro K hK K hK K hK;refine (HF.o _ (by exact d.o) (by exact eM o.o rfl rfl rfl rfl) _).mono ?_;rintro e8 w8 ⟨rfl,z,y⟩;have ⟨N,L⟩:=cH z y;clear z y;(repeat revert K);refine vS ?_;intro K hK;refine jV ?_;exact eY.bad (k:=.bad) a.o N.o L.o
  have b0:((n:Int)==0)=false:=by rw [m6];omega
  have HN:=Lh R;have a7:=Lh (fun w=>tL r w);clear R;revert K;refine vg ?_;intro K hK K hK K hK;refine (a7.o _).mono ?_;rintro e8 w8 ⟨rfl,rfl⟩;go_simp;cases Q:bY r with
  | false=>
   have a:=Lh (D.o.trans (aT (aX Q)));(repeat revert K);refine vg ?_;intro K hK K hK K hK;refine (HF.o _ (by exact d.o) (by exact eM o.o rfl rfl rfl rfl) _).mono ?_;rintro e8 w8 ⟨rfl,z,y⟩;have ⟨N,L⟩:=cH z y;clear z y;(repeat revert K);refine vS ?_;intro K hK;refine jV ?_;exact eY.bad (k:=.bad) a.o N.o L.o
  | true=>
   have a:=Lh (D.o.trans (aM (fun Z=>Z.elim HN.o (fun h=>Bool.noConfusion (Q.symm.trans h)))));have wn:IntKind.i64.wrap ((c.at':Int)+(n:Int))=(c.at':Int)+(n:Int):=by rw [IntKind.wrap_i64];have F:=HW.o;have h2:=HT.o;rw [eO] at F;omega
   have z4:(c.at':Int)≤(c.at':Int)+(n:Int):=by omega
   have z5:(c.at':Int)+(n:Int)≤(x.T.length:Int):=by have F:=HW.o;rw [eO] at F;omega
   have z6:(0:Int)≤(c.at':Int)+(n:Int):=by omega
   have wm:IntKind.i64.wrap (c.at':Int)=(c.at':Int):=by rw [IntKind.wrap_i64];have F:=HA.o;have h2:=HT.o;omega
   have zn:((c.at':Int)+(n:Int)).toNat=c.at'+n:=by omega
   clear Q;(repeat revert K);refine vT 10 ?_;have B:∀ k,aV x ((w3.drewN k).setCell ⟨x.p,1,none⟩ (.int .i64 ((c.at':Int)+(n:Int)))) { c with at':=c.at'+n }:=fun k=>aJ.set (w:=w3.drewN k) (cs:=fR x c) d.o 1 _;have bC:=Lh B;clear hc hf;have hc:=fun k=>(B k).cell;have hf:=fun k=>(B k).frozen;clear B;refine vg ?_;intro K hK;(refine lI [0,0,0,1,0,0,0,1,0,0,0,0,0,1,0,0,0] [0,1,2,3,4,5,6,7,8,9,10,11,12,13,14,15,16] ?_;refine vP ?_;repeat with_reducible intro nq)
   rw [kG,Nat.add_sub_cancel_left];revert K;refine vg ?_;refine jV ?_;exact eY.okk a.o (by have F:=HW.o;have h2:=HA.o;rw [eO] at F;omega) (by omega) (bC.o _) ((aK.setCell (S:=fun k=>k=x.p) (o.o.drewN _) (p:=⟨x.p,1,none⟩) (aG rfl) _).drewN _)
theorem E4 (ents:aN) {T:Bs} {a m:Nat} {out:Bs} (h:T.length≤a):dU ents (m+1) (T.drop a) out=.ok (out,T.drop a):=by
 rw [t6 h];rfl
theorem wW (ents:aN) {T:Bs} {a m:Nat} {out:Bs} (b:a<T.length) (h:T.getD a 0=60):dU ents (m+1) (T.drop a) out=.ok (out,T.drop a):=by
 rw [bX T a b];unfold dU;simp only [aT h]
theorem tQ (ents:aN) {T:Bs} {a m:Nat} {out:Bs} (c:a<T.length) (b:¬ T.getD a 0=60) (h:nR.isPrefixOf (T.drop a)=true):dU ents (m+1) (T.drop a) out=.error .bad:=by
 rw [bX T a c] at h ⊢;unfold dU;simp only [aM b,aT h]
theorem wX (ents:aN) {T:Bs} {a m:Nat} {out:Bs} (d:a<T.length) (c:¬ T.getD a 0=60) (h:nR.isPrefixOf (T.drop a)=false) (b:T.getD a 0=13):dU ents (m+1) (T.drop a) out=if ([10]:Bs).isPrefixOf (T.drop (a+1)) then dU ents m (T.drop (a+2)) (out++[10]) else dU ents m (T.drop (a+1)) (out++[10]):=by
 rw [←JN T a d (fun r=>dU ents m r (out++[10]))];rw [bX T a d] at h ⊢;conv=>lhs;unfold dU
 simp only [c,h,b,rQ,if_false,if_true];rfl
theorem wY (ents:aN) {T:Bs} {a m:Nat} {out:Bs} (d:a<T.length) (c:¬ T.getD a 0=60) (h:nR.isPrefixOf (T.drop a)=false) (b:¬ T.getD a 0=13):dU ents (m+1) (T.drop a) out=match fN ents (T.drop a) with
  | .error e=>.error e
  | .ok (t,r2)=>dU ents m r2 (out++t):=by
 rw [bX T a d] at h ⊢;conv=>lhs;unfold dU
 simp only [c,h,b,rQ,if_false];rfl
theorem oO {ents:aN} (d:nO ents) {T t r:Bs} (f:T.length≤2147483647) {a:Nat} (h:fN ents (T.drop a)=.ok (t,r)):t.length≤2147483647:=by
 by_cases c:a<T.length
 ·by_cases b:T.getD a 0=38
  ·rw [yU ents c b] at h;split at h
   ·cases h
   ·rename_i e;split at h
    ·simp only [bT,bP] at h;rw [←h.1];exact JQ d e
    ·cases h
  ·rw [yV ents c b] at h;split at h
   ·cases h
   ·simp only [bT,bP] at h;rw [←h.1,rJ,eO];omega
 ·rw [E3 ents (by omega)] at h;cases h
def Z9 (x:PX) (c:PC) (ents:aN) (w0:World) (k:Nat) (b:Act) (w:World):Prop:=
 ∃ f a o m,b=fr 47 f [(0,jA x),(3,aB o)]∧aV x w { c with at':=a }∧aK (fun k=>k=x.p) w0 w∧k=x.T.length-a∧a≤x.T.length∧o.length≤a*2147483647∧x.T.length-a<m∧dU ents (x.T.length+1) (x.T.drop c.at') []=dU ents m (x.T.drop a) o
theorem nP {ents:aN} {T t r:Bs} {a:Nat} (h:fN ents (T.drop a)=.ok (t,r)):r.length<T.length-a:=by
 by_cases c:a<T.length
 ·by_cases b:T.getD a 0=38
  ·rw [yU ents c b] at h;split at h
   ·cases h
   ·rename_i f;split at h
    ·simp only [bT,bP] at h;have:=XU f;rw [eO] at this;rw [←h.2];omega
    ·cases h
  ·rw [yV ents c b] at h;split at h
   ·cases h
   ·rename_i e;simp only [bT,bP] at h;have:(aI (T.drop a)).2≠0:=fun d=>e (aG d);rw [←h.2,eO];omega
 ·rw [E3 ents (by omega)] at h;cases h
theorem T8 (x:PX) (hT:x.T.length≤1000000000) (n:Nat) (ents:aN) (b5:nO ents) (w:World) (c:PC) (opens:List Bs) (bound:List aN) (out:List cA) (h:dN x n w c opens bound out) (V:out.length≤1000000000) (ha:c.at'≤x.T.length) (hE:pK x n ents w) :
  Calls prog 25 #[jA x] w (fX x n out w (mY .text opens bound (dU ents (x.T.length+1) (x.T.drop c.at') []))):=by
 have ⟨H,HT,HA,bC,HE,bA⟩:=iD h hT ha V hE b5;clear h hT ha V hE b5;refine eT 47 func25 [_] fun f=>?_;simp only [aF];refine vg ?_;intro K hK;refine cM [0,3] fun f=>?_;refine wp_loop_ghost_k (Z9 x c ents w) (x.T.length-c.at') ⟨f,c.at',[],x.T.length+1,rfl,H.o.blk,aK.refl _ w,rfl,HA.o,kW _,by omega,rfl⟩ ?_;rintro k _ w2 ⟨f,a,o,m,rfl,hp,hm,hk,b8,c2,c1,c5⟩ J K2 hJ b6;obtain ⟨N,rfl⟩:∃ N,m=N+1:=⟨m-1,by omega⟩;have ⟨HJ,aA,Q,HM,HK,A⟩:=iD hJ b6 hp hm hk b8;have ⟨P,a3,S⟩:=lQ c2 c1 c5;have a1:¬ 9223372036854775807<o.length+1:=by have:=HT.o;omega
 clear hJ b6 hp hm hk b8 c2 c1 c5;have L:∀ X,aV x X { c with at':=a }→aK (fun k=>k=x.p) w X→dU ents (N+1) (x.T.drop a) o=.ok (o,x.T.drop a)→Calls prog 48 #[jA x,P9 ((aU.text o).itok []) none 0 0 0] X fun e w'=>e=.returned (.bool true)∧fX x n out w (mY .text opens bound (dU ents (x.T.length+1) (x.T.drop c.at') [])) (.returned (.bool true)) w':=by
  intro X dI c9 T;exact rD x n w X c opens bound out H.o bC.o a A.o dI c9 (.text o) rfl _ (by rw [S.o,T];rfl)
 have D:=Lh L;clear L;by_cases d:a<x.T.length
 rotate_left
 ·have O:=Lh (fun kk=>nV x (w2.drewN kk) { c with at':=a } Q.o (by simp;omega));revert K;refine vg ?_;intro K hK K hK K hK;(refine lI [0,2,0,0,0,0,0,1,0,0,0,1,0,0,0] [0,1,2,3,4,5,6,7,8,9,10,11,12,13,14] ?_;refine vP ?_;repeat with_reducible intro nq)
  refine bN rfl rfl (fun nq K hK=>?_);go_simp;refine (O.o _).mono ?_;rintro e3 X ⟨rfl,k3,rfl⟩;go_simp;refine hK.out _ _ ?_;clear hK K;(refine vP ?_;repeat with_reducible intro nq)
  (repeat revert K);refine vg ?_;intro K hK K hK;refine (D.o _ (by exact Q.o) (by exact eM HM.o rfl rfl rfl rfl) (E4 ents (by omega))).mono ?_;rintro e6 w6 ⟨rfl,h6⟩;have H6:=Lh h6;clear h6;(repeat revert K);refine vS ?_;refine cX ?_;exact H6.o
 have O:=Lh (fun kk=>nW x (w2.drewN kk) { c with at':=a } Q.o d);have t0:(0:Int)≤(a:Int):=by omega
 have t1:(a:Int)<(x.T.length:Int):=by omega
 obtain ⟨b,hb⟩:=cR (x.T.getD a 0);have ix:∀ h,(⟨x.T.toArray⟩:ByteArray)[a]'h=b:=by rw [hb];exact iP x.T a d
 have a8:=Lh hb;clear hb;by_cases I:b=60
 ·have R:=Lh (wW ents (m:=N) (out:=o) d (by rw [←a8.o];exact I));subst I;revert K;refine vg ?_;intro K hK K hK K hK;(refine lI [0,2,0,0,0,0,0,1,0,0,0,1,0,0,0] [0,1,2,3,4,5,6,7,8,9,10,11,12,13,14] ?_;refine vP ?_;repeat with_reducible intro nq)
  refine bN rfl rfl (fun nq K hK=>?_);go_simp;refine (O.o _).mono ?_;rintro e3 X ⟨rfl,k3,rfl⟩;have hc:=Q.o.cell;have hf:=Q.o.frozen;go_simp;refine hK.out _ _ ?_;clear hK K;(refine vP ?_;repeat with_reducible intro nq)
  (repeat revert K);refine vg ?_;intro K hK K hK;refine (D.o _ (by exact Q.o) (by exact eM HM.o rfl rfl rfl rfl) R.o).mono ?_;rintro e6 w6 ⟨rfl,h6⟩;have H6:=Lh h6;clear h6;(repeat revert K);refine vS ?_;refine cX ?_;exact H6.o
 have dT:((b.toNat:Int) != 60)=true:=QF I;have Y:=Lh (show ¬ x.T.getD a 0=60 by rw [←a8.o];exact I);clear I;have b3:=Lh (fun (w:World) (h:aV x w { c with at':=a })=>uK x HT.o w { c with at':=a } h A.o [93,93,62] (by decide));have Z:=Lh (fun (w:World) (h:aV x w { c with at':=a })=>uK x HT.o w { c with at':=a } h A.o [13,10] (by decide));have a9:=Lh (fun (w:World) (h:aV x w { c with at':=a })=>uK x HT.o w { c with at':=a } h A.o [13] (by decide));revert K;refine vg ?_;intro K hK K hK K hK;(refine lI [0,2,0,0,0,0,0,1,0,0,0,1,0,0,0] [0,1,2,3,4,5,6,7,8,9,10,11,12,13,14] ?_;refine vP ?_;repeat with_reducible intro nq)
 refine bN rfl rfl (fun nq K hK=>?_);go_simp;refine (O.o _).mono ?_;rintro e3 X ⟨rfl,k3,rfl⟩;have hc:=Q.o.cell;have hf:=Q.o.frozen;go_simp;refine hK.out _ _ ?_;clear hK K;(refine vP ?_;repeat with_reducible intro nq)
 clear hc hf ix;(repeat revert K);refine vg ?_;intro K hK K hK K hK K hK;refine (b3.o _ (by exact Q.o)).mono ?_;rintro e4 w4 ⟨rfl,v,b9⟩;rw [show ({ c with at':=a }:PC).at'=a from rfl] at v ⊢;have b0:=Lh (show aK (fun k=>k=x.p) w w4 from aK.trans (HM.o.drewN _) b9 (fun _ _ h=>h));clear b9;go_simp;cases p:([93,93,62]:Bs).isPrefixOf (x.T.drop a) with
 | true=>
  rw [p,aT rfl] at v;have R:=Lh (S.o.trans (tQ ents (m:=N) (out:=o) d Y.o p));have HF:=Lh (lG x w4 _ v 1);clear v p;(repeat revert K);refine vg ?_;intro K hK K hK K hK K hK;refine HF.o.mono ?_;rintro e6 w6 ⟨rfl,g,s⟩;have G:=Lh g;have B:=Lh (b0.o.trans s (fun _ _ h=>h));clear g s;(repeat revert K);refine vS ?_;intro K hK K hK;refine cX ?_;exact fX.err (w1:=w) (k:=.bad) H.o G.o B.o (by rw [R.o];rfl)
 | false=>
  rw [p,aM (by simp)] at v;have c8:=Lh (show aV x w4 { c with at':=a } from v);have b2:=Lh p;clear v p;(repeat revert K);refine vg ?_;intro K hK K hK K hK K hK;refine (Z.o _ c8.o).mono ?_;rintro e5 w5 ⟨rfl,l,cT⟩;rw [show ({ c with at':=a }:PC).at'=a from rfl] at l ⊢;have a0:=Lh (b0.o.trans cT (fun _ _ h=>h));clear cT;go_simp;by_cases j:x.T.getD a 0=13
  ·have R:=Lh (S.o.trans (wX ents (m:=N) (out:=o) d Y.o b2.o j));cases C:([10]:Bs).isPrefixOf (x.T.drop (a+1)) with
   | true=>
    have z:([13,10]:Bs).isPrefixOf (x.T.drop a)=true:=by rw [rE 13 10 x.T a d,j,C];rfl
    have c7:=Lh (nX z A.o);have u:=Lh (R.o.trans (aT C));rw [z,aT rfl] at l;rw [z];have F:=Lh (show aV x w5 { c with at':=a+2 } from l);clear z C j l;(repeat revert K);refine vg ?_;intro K hK K hK;refine Kk [0,3] fun f=>?_;rw [wS];exact aA.o _ _ ⟨x.T.length-(a+2),by rw [HK.o];omega,HJ.o _ _ _ ⟨f,a+2,o++[10],N,rfl,F.o,a0.o,rfl,by have:=c7.o;simpa using this,by have:=P.o;rw [fU];simp;omega,by have:=a3.o;omega,u.o⟩⟩
   | false=>
    have y:([13,10]:Bs).isPrefixOf (x.T.drop a)=false:=by rw [rE 13 10 x.T a d,j,C];rfl
    have z:([13]:Bs).isPrefixOf (x.T.drop a)=true:=by rw [dG 13 x.T a d,j];rfl
    have u:=Lh (R.o.trans (aM (by rw [C];simp)));rw [y,aM (by simp)] at l;rw [y];have F:=Lh (show aV x w5 { c with at':=a } from l);have a5:=Lh z;clear z C j l y;(repeat revert K);refine vg ?_;intro K hK K hK K hK K hK;refine (a9.o _ F.o).mono ?_;rintro e6 w6 ⟨rfl,g,s⟩;rw [show ({ c with at':=a }:PC).at'=a from rfl,a5.o] at g ⊢;rw [aT rfl] at g;have G:=Lh (show aV x w6 { c with at':=a+1 } from g);have B:=Lh (a0.o.trans s (fun _ _ h=>h));clear g s;(repeat revert K);refine vS ?_;intro K hK K hK;refine Kk [0,3] fun f=>?_;rw [wS];exact aA.o _ _ ⟨x.T.length-(a+1),by rw [HK.o];omega,HJ.o _ _ _ ⟨f,a+1,o++[10],N,rfl,G.o,B.o,rfl,d,by have:=P.o;rw [fU];simp;omega,by have:=a3.o;omega,u.o⟩⟩
  ·have y:([13,10]:Bs).isPrefixOf (x.T.drop a)=false:=by rw [rE 13 10 x.T a d,m6.2 (fun h=>j h.symm)];rfl
   have W:([13]:Bs).isPrefixOf (x.T.drop a)=false:=by rw [dG 13 x.T a d,m6.2 (fun h=>j h.symm)]
   have R:=Lh (S.o.trans (wY ents (m:=N) (out:=o) d Y.o b2.o j));rw [y,aM (by simp)] at l;rw [y];have F:=Lh (show aV x w5 { c with at':=a } from l);have a5:=Lh W;clear j l y W;(repeat revert K);refine vg ?_;intro K hK K hK K hK K hK;refine (a9.o _ F.o).mono ?_;rintro e6 w6 ⟨rfl,g,s⟩;rw [show ({ c with at':=a }:PC).at'=a from rfl,a5.o] at g ⊢;rw [aM (by simp)] at g;have G:=Lh (show aV x w6 { c with at':=a } from g);have B:=Lh (a0.o.trans s (fun _ _ h=>h));have c6:=Lh (CQ x HT.o n H.o.pb ents bA.o w6 { c with at':=a } G.o d (HE.o.below (aK.below (Below.refl _ w) H.o.size B.o (fun i hi=>by rw [hi];exact H.o.pb))));clear g s;(repeat revert K);refine vS ?_;intro K hK K hK K hK;refine c6.o.mono ?_;rintro e7 w7 h7;obtain ⟨a6,h7⟩:=h7;rw [show ({ c with at':=a }:PC).at'=a from rfl] at h7;have b1:=Lh (B.o.trans a6 (fun _ _ h=>h));cases T:fN ents (x.T.drop a) with
   | error k=>
    rw [T] at h7;obtain ⟨⟨a7,M⟩,rfl⟩:=h7;have a4:=Lh M;have u:=Lh (show dU ents (x.T.length+1) (x.T.drop c.at') []=.error k by rw [R.o,T]);clear M a6;(repeat revert K);refine vS ?_;intro K hK K hK;refine cX ?_;exact fX.err (w1:=w) (k:=k) H.o a4.o b1.o (by rw [u.o];rfl)
   | ok q=>
    rw [T] at h7;obtain ⟨t,r⟩:=q;obtain ⟨a7,c3,U,b7,M,rfl⟩:=h7;have c4:r=x.T.drop a7:=c3;subst c4;have a4:=Lh (show aV x w7 { c with at':=a7 } from M);have aC:=Lh U;have E:=Lh (show a<a7 by have:=nP T;rw [eO] at this;omega);have b4:=Lh (oO bA.o (by have:=HT.o;omega) T);have u:=Lh (show dU ents (x.T.length+1) (x.T.drop c.at') []=dU ents N (x.T.drop a7) (o++t) by rw [R.o,T]);have a2:¬ 9223372036854775807<o.length+t.length:=by have:=HT.o;have:=P.o;have:=A.o;have:=b4.o;omega
    clear M a6 T c3 U b7;(repeat revert K);refine vS ?_;intro K hK;refine Kk [0,3] fun f=>?_;rw [gU];exact aA.o _ _ ⟨x.T.length-a7,by rw [HK.o];have:=E.o;have:=aC.o;omega,HJ.o _ _ _ ⟨f,a7,o++t,N,rfl,a4.o,b1.o,rfl,aC.o,by have:=P.o;have:=b4.o;have:=E.o;rw [fU];omega,by have:=a3.o;have:=E.o;have:=aC.o;omega,u.o⟩⟩
theorem ID (ents:aN) {q:UInt8} {T:Bs} {a m:Nat} {out:Bs} (h:T.length≤a):pS ents q (m+1) (T.drop a) out=.error .bad:=by
 rw [t6 h];rfl
theorem IE (ents:aN) {q:UInt8} {T:Bs} {a m:Nat} {out:Bs} (b:a<T.length) (h:T.getD a 0=q):pS ents q (m+1) (T.drop a) out=.ok (out,T.drop (a+1)):=by
 rw [bX T a b];show (if T.getD a 0=q then _ else _)=_;rw [aT h]
theorem QH (ents:aN) {q:UInt8} {T:Bs} {a m:Nat} {out:Bs} (c:a<T.length) (h:¬ T.getD a 0=q) (b:T.getD a 0=60):pS ents q (m+1) (T.drop a) out=.error .bad:=by
 rw [bX T a c];show (if T.getD a 0=q then _ else if T.getD a 0=60 then _ else _)=_;rw [aM h,aT b]
theorem QI (ents:aN) {q:UInt8} {T:Bs} {a m:Nat} {out:Bs} (d:a<T.length) (h:¬ T.getD a 0=q) (b:¬ T.getD a 0=60) (c:T.getD a 0≠32∧lR (T.getD a 0)=true):pS ents q (m+1) (T.drop a) out=.error .opn:=by
 rw [bX T a d];show (if T.getD a 0=q then _ else if T.getD a 0=60 then _ else if T.getD a 0≠32∧lR (T.getD a 0)=true then _ else _)=_;rw [aM h,aM b,aT c]
theorem E5 (ents:aN) {q:UInt8} {T:Bs} {a m:Nat} {out:Bs} (d:a<T.length) (h:¬ T.getD a 0=q) (b:¬ T.getD a 0=60) (c:¬ (T.getD a 0≠32∧lR (T.getD a 0)=true)):pS ents q (m+1) (T.drop a) out=match fN ents (T.drop a) with
  | .error e=>.error e
  | .ok (t,r2)=>pS ents q m r2 (out++t):=by
 rw [bX T a d];show (if T.getD a 0=q then _ else if T.getD a 0=60 then _ else if T.getD a 0≠32∧lR (T.getD a 0)=true then _ else _)=_;rw [aM h,aM b,aM c];rfl
abbrev XV:Array Value:=#[.string ⟨#[]⟩,.string ⟨#[]⟩,.string ⟨#[]⟩]
def VN (x:PX) (c:PC) (ents:aN) (q:UInt8) (b:Nat) (nm:Bs×Bs) (g:Nat) (e:Nat) (w0:World) (k:Nat) (d:Act) (w:World):Prop:=
 ∃ f a o m,d=fr 96 f [(0,jA x),(2,.pointer (some ⟨b,0,none⟩)),(4,aB nm.1),(5,aB nm.2),(7,aB [q]),(8,aB o)]∧aV x w { c with at':=a }∧aJ w b XV 68∧aK (fun k=>k=x.p) w0 w∧k=x.T.length-a∧a≤x.T.length∧c.at'≤a∧o.length≤a*2147483647∧x.T.length-a<m∧pS ents q e (x.T.drop g) []=pS ents q m (x.T.drop a) o
theorem JR {R:Ending→World→Prop} {f:Nat→Value} {L:List (Nat×Value)} {w:World} {e:Nat} {b c d:Value} {a:Bool} (g:lk f L 2=.pointer (some ⟨e,0,none⟩)) (i:lk f L 3=.bool a) (j:aJ w e #[b,c,d] 68) (h:R (.returned (.tuple #[.agg #[b,c,d],.bool a])) w):bodyPost prog Tryz.f61 R .ret (fr 96 f L) w:=by
 have k:=j.cell;refine bodyPost_ret (v:=.tuple #[.agg #[b,c,d],.bool a]) ?_ (jM _ _ _) h;rw [results_cell_tmp rfl,jZ (by decide),jZ (by decide),g,i];go_simp
abbrev QJ (w:World) (b:Nat) (a c d:Value):World:=((w.setCell ⟨b,0,none⟩ a).setCell ⟨b,1,none⟩ c).setCell ⟨b,2,none⟩ d
theorem E6 {w:World} {b:Nat} {cs:Array Value} {t:TypeId} (h:aJ w b cs t) (i:cs.size=3) (d f g:Value):aJ (QJ w b d f g) b #[d,f,g] t:=by
 have:=((h.set 0 d).set 1 f).set 2 g;have e:((cs.setIfInBounds 0 d).setIfInBounds 1 f).setIfInBounds 2 g=#[d,f,g]:=by
  obtain ⟨l⟩:=cs
  match l,i with
  | [a,b,c],_=>rfl
 rw [e] at this;exact this
theorem JS {w:World} {b c:Nat} {cs:Array Value} {t:TypeId} (h:aJ w b cs t) (d:¬ c=b) (f g i:Value):aJ (QJ w c f g i) b cs t:=
 ((h.set_ne (a:=⟨c,0,none⟩) (fun e=>d e.symm) f).set_ne (a:=⟨c,1,none⟩) (fun e=>d e.symm) g).set_ne (a:=⟨c,2,none⟩) (fun e=>d e.symm) i
theorem E7 {S:Nat→Prop} {w0 w:World} {a:Nat} (h:aK S w0 w) (b:w0.heap.size≤a) (c d e:Value):aK S w0 (QJ w a c d e):=
 ((h.setCell (p:=⟨a,0,none⟩) (aX b) c).setCell (p:=⟨a,1,none⟩) (aX b) d).setCell (p:=⟨a,2,none⟩) (aX b) e
abbrev Aa (a:cV):Ending:=.returned (.tuple #[.agg #[aB a.1,aB a.2.1,aB a.2.2],.bool true])
abbrev VO:Ending:=.returned (.tuple #[.agg XV,.bool false])
theorem iS {x:PX} {w d:World} {c:PC} {ents:aN} {k:SV} {a b:Nat} {f:Nat→Value} {L:List (Nat×Value)} {cs:Array Value} (n:eH ents (x.T.drop c.at')=.error k) (m:aV x d { c with at':=a,verd:=k.num }) (j:aK (fun k=>k=x.p) w d) (h:aJ d b cs 68) (o:cs.size=3) (l:¬ b=x.p) (i:w.heap.size≤b)
  (e:lk f L 2=.pointer (some ⟨b,0,none⟩)) (g:lk f L 3=.bool false):bodyPost prog Tryz.f61 (eY x w c Aa VO (eH ents (x.T.drop c.at'))) .ret (fr 96 f L) (QJ d b (.string ⟨#[]⟩) (.string ⟨#[]⟩) (.string ⟨#[]⟩)):=
 JR e g (E6 h o _ _ _) (eY.bad n (JS m l _ _ _) (E7 j i _ _ _))
theorem E8 {x:PX} {w d:World} {c:PC} {ents:aN} {v:cV} {a b:Nat} {f:Nat→Value} {L:List (Nat×Value)} {cs:Array Value} (p:eH ents (x.T.drop c.at')=.ok (v,x.T.drop a)) (g:a≤x.T.length) (e:c.at'≤a) (o:aV x d { c with at':=a }) (m:aK (fun k=>k=x.p) w d) (j:aJ d b cs 68) (q:cs.size=3) (n:¬ b=x.p) (l:w.heap.size≤b)
  (h:lk f L 2=.pointer (some ⟨b,0,none⟩)) (i:lk f L 3=.bool true):bodyPost prog Tryz.f61 (eY x w c Aa VO (eH ents (x.T.drop c.at'))) .ret (fr 96 f L) (QJ d b (aB v.1) (aB v.2.1) (aB v.2.2)):=
 JR h i (E6 j q _ _ _) (eY.okk (v:=v) p g e (JS o n _ _ _) (E7 m l _ _ _))
theorem JT (x:PX) (w0 w1 w:World) (c:PC) (h:aV x w c) (f:aK (fun k=>k=x.p) w0 w) (a:aK (fun k=>k=x.p) w1 w) (v:Int):Calls prog 32 #[jA x,.int .i64 v] w fun e w'=>e=.returned (.bool false)∧aV x w' { c with verd:=v }∧aK (fun k=>k=x.p) w0 w'∧aK (fun k=>k=x.p) w1 w':=by
 refine (lG x w c h v).mono ?_;rintro e w' ⟨rfl,d,b⟩;exact ⟨rfl,d,f.trans b (fun _ _ h=>h),a.trans b (fun _ _ h=>h)⟩
theorem T9 (x:PX) (hT:x.T.length ≤ 1000000000) (b6:Nat) (hG:b6 ≤ x.p) (ents:aN) (hV:nO ents) (w:World) (c:PC) (h:aV x w c) (ha:c.at' ≤ x.T.length) (hE:pK x b6 ents w) :
    Calls prog 61 #[jA x] w (eY x w c (fun a:cV=>.returned (.tuple #[.agg #[aB a.1,aB a.2.1,aB a.2.2],.bool true])) (.returned (.tuple #[.agg XV,.bool false])) (eH ents (x.T.drop c.at'))):=by
  obtain ⟨wa,f0⟩:=cR (w.alloc (.cells XV 68));have h8:aV x wa c:=by rw [f0];exact h.alloc _
  have g9:aJ wa w.heap.size XV 68:=by rw [f0];exact aJ.new w _ _
  have hX:aK (fun k=>k=x.p) w wa:=by rw [f0];exact (aK.refl _ w).alloc _
  obtain ⟨b2,b5⟩:=cR w.heap.size;have h0:¬ b2=x.p:=by have:=aJ.lt h;omega
  have HN:=Lh (CG x hT wa c h8 ha);have ⟨HT,HE,c4⟩:=lQ hT hE hV;have hN:=Lh (show b6 ≤ w.heap.size from gA hG (Nat.le_of_lt (aJ.lt h)));have ⟨f3,hS⟩:=cH hG hX;rw [← b5] at g9;have ⟨hM,j⟩:=cH g9 h0;have HF:=Lh (show w.heap.size ≤ b2 by omega);have f1:=Lh (show eH ents (x.T.drop c.at')=match fP (x.T.drop c.at') with
    | .error e=>.error e
    | .ok (nm,r)=>match aQ r with
      | []=>.error .bad
      | b :: r2=>if b=61 then
          match aQ r2 with
          | []=>.error .bad
          | q :: r3=>if q=34 ∨ q=39 then
              match pS ents q (r3.length + 1) r3 [] with
              | .error e=>.error e
              | .ok (v,r4)=>.ok ((nm.1,nm.2,v),r4)
            else .error .bad
        else .error .bad from rfl)
  clear h hT hE hV hG ha hX h8 g9 h0;refine eT 96 func61 [_] fun f=>?_;simp only [aF];refine vT 1 ?_;rw [← f0,← b5];clear f0 b5;refine vg ?_;intro K hK K hK;refine HN.o.mono ?_;rintro e1 w1 ⟨hA,h1⟩;have g5:=Lh (hS.o.trans hA (fun _ _ h=>h));have c9:=Lh (hM.o.mod hA j.o);clear hA HN hS hM;cases hn:fP (x.T.drop c.at') with
  | error k=>
    rw [hn] at h1 f1;obtain ⟨⟨a1,e8⟩,rfl⟩:=h1;have i4:=Lh e8;clear e8;have hc:=c9.o.cell;have hf:=c9.o.frozen;have M:=Lh (show eH ents (x.T.drop c.at')=.error k from f1.o);(repeat revert K);refine vS ?_;intro K hK;exact iS (k:=k) M.o i4.o g5.o c9.o rfl j.o HF.o (by simp only [aL,aP,aR,aZ,Nat.reduceEqDiff,↓reduceIte] <;> rfl) (by simp only [aL,aP,aR,aZ,Nat.reduceEqDiff,↓reduceIte] <;> rfl)
  | ok q=>
    obtain ⟨nm,r⟩:=q;rw [hn] at h1 f1;obtain ⟨a1,i0,gB,f6,e8,rfl⟩:=h1;have i1:r=x.T.drop a1:=i0;subst i1;have i2:=Lh (show c.at' ≤ a1 from f6);have dI:=Lh (mH x HT.o w1 { c with at':=a1 } e8 gB);clear e8 i0 gB f6;(repeat revert K);refine vS ?_;intro K hK K hK;refine dI.o.mono ?_;rintro e2 w2 ⟨a2,rfl,h4,hB,g0,f7,Z⟩;have hU:=Lh (show aV x w2 { c with at':=a2 } from h4);have hR:=Lh (g5.o.trans hB (fun _ _ h=>h));have hL:=Lh (c9.o.mod hB j.o);have hQ:=Lh g0;have i3:=Lh (show c.at' ≤ a2 by have:=i2.o;have:a1 ≤ a2:=f7;omega);have f4:=Lh (show eH ents (x.T.drop c.at')=match x.T.drop a2 with
      | []=>.error .bad
      | b :: r2=>if b=61 then
          match aQ r2 with
          | []=>.error .bad
          | q :: r3=>if q=34 ∨ q=39 then
              match pS ents q (r3.length + 1) r3 [] with
              | .error e=>.error e
              | .ok (v,r4)=>.ok ((nm.1,nm.2,v),r4)
            else .error .bad
        else .error .bad by
      rw [f1.o];simp only;rw [show aQ (x.T.drop a1)=x.T.drop a2 from Z];rfl)
    clear h4 hB g0 f7 Z dI g5 c9;go_simp;cases c2:([61]:Bs).isPrefixOf (x.T.drop a2) with
    | false=>
      have HH:=Lh (iA x HT.o w2 { c with at':=a2 } hU.o hQ.o [61] (by decide) c2);have M:=Lh (show eH ents (x.T.drop c.at')=.error .bad by
        rw [f4.o];by_cases c7:a2 < x.T.length
        · have b4:¬ x.T.getD a2 0=61:=by
            intro hh;have H:=dG 61 x.T a2 c7;rw [c2,hh] at H;cases H
          rw [bX x.T a2 c7];simp only [aM b4]
        · rw [t6 (by omega)])
      clear c2;(repeat revert K);refine vg ?_;intro K hK K hK K hK;refine HH.o.mono ?_;rintro e3 E ⟨rfl,F,A⟩;have B:=Lh (hR.o.trans A (fun _ _ h=>h));have p:=Lh (hL.o.mod A j.o);have g4:=Lh (JT x w E E { c with at':=a2 } F B.o (aK.refl _ E) 1);clear F A HH;(repeat revert K);refine vS ?_;intro K hK K hK K hK;refine g4.o.mono ?_;rintro e5 w5 ⟨rfl,y,l⟩;have Q:=Lh y;have O:=Lh l.1;have n:=Lh (p.o.mod l.2 j.o);clear y l;have hc:=n.o.cell;have hf:=n.o.frozen;(repeat revert K);refine vS ?_;intro K hK;exact iS (k:=.bad) M.o Q.o O.o n.o rfl j.o HF.o (by simp only [aL,aP,aR,aZ,Nat.reduceEqDiff,↓reduceIte] <;> rfl) (by simp only [aL,aP,aR,aZ,Nat.reduceEqDiff,↓reduceIte] <;> rfl)
    | true=>
      have HH:=Lh (iL x HT.o w2 { c with at':=a2 } hU.o hQ.o [61] (by decide) c2);have g:=kO c2 (by decide);have hI:=Lh (show eH ents (x.T.drop c.at')=match aQ (x.T.drop (a2 + 1)) with
          | []=>.error .bad
          | q :: r3=>if q=34 ∨ q=39 then
              match pS ents q (r3.length + 1) r3 [] with
              | .error e=>.error e
              | .ok (v,r4)=>.ok ((nm.1,nm.2,v),r4)
            else .error .bad by
        have H:=dG 61 x.T a2 g;rw [c2] at H;have b4:x.T.getD a2 0=61:=(beq_iff_eq.1 H.symm).symm;rw [f4.o,bX x.T a2 g,b4];rfl)
      have d0:=Lh g;clear c2 g;(repeat revert K);refine vg ?_;intro K hK K hK K hK;refine HH.o.mono ?_;rintro e3 E ⟨rfl,F,A⟩;have B:=Lh (hR.o.trans A (fun _ _ h=>h));have p:=Lh (hL.o.mod A j.o);have dI:=Lh (mH x HT.o E { c with at':=a2 + 1 } F d0.o);clear F A HH;(repeat revert K);refine vS ?_;intro K hK K hK;refine dI.o.mono ?_;rintro e4 w4 ⟨C,rfl,h5,hC,g1,f9,Z⟩;have g7:=Lh (show aV x w4 { c with at':=C } from h5);have g6:=Lh (B.o.trans hC (fun _ _ h=>h));have g3:=Lh (p.o.mod hC j.o);have f2:=Lh g1;have hO:=Lh (show c.at' ≤ C by have:=i3.o;have:a2 + 1 ≤ C:=f9;omega);have c8:=Lh (show eH ents (x.T.drop c.at')=match x.T.drop C with
          | []=>.error .bad
          | q :: r3=>if q=34 ∨ q=39 then
              match pS ents q (r3.length + 1) r3 [] with
              | .error e=>.error e
              | .ok (v,r4)=>.ok ((nm.1,nm.2,v),r4)
            else .error .bad by
        rw [hI.o,show aQ (x.T.drop (a2 + 1))=x.T.drop C from Z];rfl)
      clear h5 hC g1 f9 Z dI B p;go_simp;cases b7:([34]:Bs).isPrefixOf (x.T.drop C) with
      | true=>
        have HH:=Lh (iL x HT.o w4 { c with at':=C } g7.o f2.o [34] (by decide) b7);have g:=kO b7 (by decide);have W := Lh (show eH ents (x.T.drop c.at') = match pS ents 34 ((x.T.drop (C + 1)).length + 1) (x.T.drop (C + 1)) [] with
              | .error e=>.error e
              | .ok (v,r4)=>.ok ((nm.1,nm.2,v),r4) by
          have H:=dG 34 x.T C g;rw [b7] at H;have b4:x.T.getD C 0=34:=(beq_iff_eq.1 H.symm).symm;rw [c8.o,bX x.T C g,b4];rfl)
        have d1:=Lh (show C + 1 ≤ x.T.length from g);clear b7 g;(repeat revert K);refine vg ?_;intro K hK K hK K hK;refine HH.o.mono ?_;rintro e5 w5 ⟨rfl,y,l⟩;have c6:=Lh (show aV x w5 { c with at':=C + 1 } from y);have c5:=Lh (g6.o.trans l (fun _ _ h=>h));have c3:=Lh (g3.o.mod l j.o);clear y l HH;(repeat revert K);refine vS ?_;intro K hK;refine cM [0,2,4,5,7,8] fun f=>?_;refine wp_loop_ghost_k (VN x c ents 34 b2 nm (C + 1) ((x.T.drop (C + 1)).length + 1) w) (x.T.length - (C + 1)) ⟨f,C + 1,[],(x.T.drop (C + 1)).length + 1,rfl,c6.o,c3.o,c5.o,rfl,d1.o,by have:=hO.o;omega,kW _,by rw [eO];omega,rfl⟩ ?_;rintro k _ w2 ⟨f,a,o,m,rfl,hp,b5,hm,hk,d7,d6,e0,d8,e9⟩ J K2 hJ d3;obtain ⟨m',rfl⟩:∃ m',m=m' + 1:=⟨m - 1,by omega⟩;have ⟨HJ,dT,HP,HB,HM,HK⟩:=iD hJ d3 hp b5 hm hk;have ⟨b0,cT,b3,d2,X⟩:=pI d7 d6 e0 d8 e9;clear hJ d3 hp b5 hm hk d7 d6 e0 d8 e9;have b9:=Lh (fun (E w':World) (h1:aV x w' { c with at':=a }) (h2:aK (fun k=>k=x.p) w w') (h3:aK (fun k=>k=x.p) E w') (v:Int)=>JT x w E w' { c with at':=a } h1 h2 h3 v);cases hq:([34]:Bs).isPrefixOf (x.T.drop a) with
        | true=>
          have HH:=Lh (iL x HT.o w2 { c with at':=a } HP.o b0.o [34] (by decide) hq);have g:=kO hq (by decide);have d4:x.T.getD a 0=34:=by
            have H:=dG 34 x.T a g;rw [hq] at H;exact (beq_iff_eq.1 H.symm).symm
          have M:=Lh (show eH ents (x.T.drop c.at')=.ok ((nm.1,nm.2,o),x.T.drop (a + 1)) by rw [W.o,X.o,IE ents g d4]);have d0:=Lh g;clear hq g d4;revert K;refine vg ?_;intro K hK K hK K hK K hK;refine HH.o.mono ?_;rintro e3 E ⟨rfl,F,A⟩;have z:=Lh (show aV x E { c with at':=a + 1 } from F);have p:=Lh (HB.o.mod A j.o);have B:=Lh (HM.o.trans A (fun _ _ h=>h));clear F A HH;have hc:=p.o.cell;have hf:=p.o.frozen;(repeat revert K);refine vS ?_;exact E8 (v:=(nm.1,nm.2,o)) M.o d0.o (by have:=cT.o;omega) z.o B.o p.o rfl j.o HF.o (by simp only [aL,aP,aR,aZ,Nat.reduceEqDiff,↓reduceIte] <;> rfl) (by simp only [aL,aP,aR,aZ,Nat.reduceEqDiff,↓reduceIte] <;> rfl)
        | false=>
          have HH:=Lh (iA x HT.o w2 { c with at':=a } HP.o b0.o [34] (by decide) hq);revert K;refine vg ?_;intro K hK K hK K hK K hK;refine HH.o.mono ?_;rintro e3 E ⟨rfl,F,A⟩;have z:=Lh (show aV x E { c with at':=a } from F);have p:=Lh (HB.o.mod A j.o);have B:=Lh (HM.o.trans A (fun _ _ h=>h));clear F A HH;go_simp;by_cases g:a < x.T.length
          rotate_left
          · have bC:=Lh (fun kk=>nV x (E.drewN kk) { c with at':=a } z.o (by simp;omega))
            have M:=Lh (show eH ents (x.T.drop c.at')=.error .bad by rw [W.o,X.o,ID ents (by omega)]);(repeat revert K);refine vg ?_;intro K hK K hK K hK;(refine lI [0,2,0,0,0,0,1,0,0,0,1,0,0,0] [0,1,2,3,4,5,6,7,8,9,10,11,12,13] ?_;refine vP ?_;repeat with_reducible intro nq)
            refine bN rfl rfl (fun nq K hK=>?_);go_simp;refine (bC.o _).mono ?_;rintro e4 w4 ⟨rfl,k4,rfl⟩;go_simp;refine hK.out _ _ ?_;clear hK K;(refine vP ?_;repeat with_reducible intro nq)
            (repeat revert K);refine vg ?_;intro K hK K hK K hK K hK;refine (b9.o E _ (by exact z.o) (by exact eM B.o rfl rfl rfl rfl) (by exact eM (aK.refl _ E) rfl rfl rfl rfl) _).mono ?_;rintro e5 w5 ⟨rfl,y,l⟩;have Q:=Lh y;have O:=Lh l.1;have n:=Lh (p.o.mod l.2 j.o);clear y l;have hc:=n.o.cell;have hf:=n.o.frozen;(repeat revert K);refine vS ?_;intro K hK K hK;exact iS (k:=.bad) M.o Q.o O.o n.o rfl j.o HF.o (by simp only [aL,aP,aR,aZ,Nat.reduceEqDiff,↓reduceIte] <;> rfl) (by simp only [aL,aP,aR,aZ,Nat.reduceEqDiff,↓reduceIte] <;> rfl)
          have d9:¬ x.T.getD a 0=34:=by
            intro hh;have H:=dG 34 x.T a g;rw [hq,hh] at H;simp at H
          have b1:=Lh d9;have bC:=Lh (fun kk=>nW x (E.drewN kk) { c with at':=a } z.o g);have t0:(0:Int) ≤ (a:Int):=by omega
          have t1:(a:Int) < (x.T.length:Int):=by omega
          obtain ⟨b,hb⟩:=cR (x.T.getD a 0);have ix:∀ h,(⟨x.T.toArray⟩:ByteArray)[a]'h=b:=by rw [hb];exact iP x.T a g
          have aA:=Lh hb;clear hb d9 hq;by_cases a5:b=60
          · have M:=Lh (show eH ents (x.T.drop c.at')=.error .bad by rw [W.o,X.o,QH ents g b1.o (by rw [← aA.o];exact a5)])
            subst a5;(repeat revert K);refine vg ?_;intro K hK K hK K hK;(refine lI [0,2,0,0,0,0,1,0,0,0,1,0,0,0] [0,1,2,3,4,5,6,7,8,9,10,11,12,13] ?_;refine vP ?_;repeat with_reducible intro nq)
            refine bN rfl rfl (fun nq K hK=>?_);go_simp;refine (bC.o _).mono ?_;rintro e4 w4 ⟨rfl,k4,rfl⟩;have hc:=z.o.cell;have hf:=z.o.frozen;go_simp;refine hK.out _ _ ?_;clear hK K;(refine vP ?_;repeat with_reducible intro nq)
            clear hc hf;(repeat revert K);refine vg ?_;intro K hK K hK K hK K hK;refine (b9.o E _ (by exact z.o) (by exact eM B.o rfl rfl rfl rfl) (by exact eM (aK.refl _ E) rfl rfl rfl rfl) _).mono ?_;rintro e5 w5 ⟨rfl,y,l⟩;have Q:=Lh y;have O:=Lh l.1;have n:=Lh (p.o.mod l.2 j.o);clear y l;have hc:=n.o.cell;have hf:=n.o.frozen;(repeat revert K);refine vS ?_;intro K hK K hK;exact iS (k:=.bad) M.o Q.o O.o n.o rfl j.o HF.o (by simp only [aL,aP,aR,aZ,Nat.reduceEqDiff,↓reduceIte] <;> rfl) (by simp only [aL,aP,aR,aZ,Nat.reduceEqDiff,↓reduceIte] <;> rfl)
          have hW:((b.toNat:Int) == 60)=false:=nM a5;have b8:=Lh (show ¬ x.T.getD a 0=60 by rw [← aA.o];exact a5);clear a5;(repeat revert K);refine vg ?_;intro K hK K hK K hK;(refine lI [0,2,0,0,0,0,1,0,0,0,1,0,0,0] [0,1,2,3,4,5,6,7,8,9,10,11,12,13] ?_;refine vP ?_;repeat with_reducible intro nq)
          refine bN rfl rfl (fun nq K hK=>?_);go_simp;refine (bC.o _).mono ?_;rintro e4 w4 ⟨rfl,k4,rfl⟩;have hc:=z.o.cell;have hf:=z.o.frozen;go_simp;refine hK.out _ _ ?_;clear hK K;(refine vP ?_;repeat with_reducible intro nq)
          (repeat revert K);refine vg ?_;intro K hK K hK K hK;go_quiet (fail);clear hc hf;have a6:∀ V,aV x V { c with at':=a } → aJ V b2 XV 68 → aK (fun k=>k=x.p) w V → Calls prog 47 #[jA x] V fun e w8=>eY x V { c with at':=a } (fun s=>.returned (.tuple #[aB s,.bool true])) (.returned (.tuple #[aB [],.bool false])) (fN ents (x.T.drop a)) e w8:=fun V h1 _ h3=>
            CQ x HT.o b6 f3.o ents c4.o V { c with at':=a } h1 g (HE.o.below (aK.below (Below.refl _ w) hN.o h3 (fun i hi=>by rw [hi];exact f3.o)))
          have aC:=Lh a6;clear a6;have g8:=Lh (fun w=>uL b w);by_cases Y:b=32
          · have L:¬ (x.T.getD a 0 ≠ 32∧lR (x.T.getD a 0)=true):=fun hh=>hh.1 (by rw [← aA.o];exact Y)
            have M:=Lh (show pS ents 34 ((x.T.drop (C + 1)).length + 1) (x.T.drop (C + 1)) []=_ from X.o.trans (E5 ents g b1.o b8.o L));have d5:((b.toNat:Int) != 32)=false:=by rw [Y];rfl
            clear L Y;(repeat revert K);refine vg ?_;intro K hK K hK K hK;refine (aC.o _ (by exact z.o) (by exact p.o) (by exact eM B.o rfl rfl rfl rfl)).mono ?_;rintro e7 V ⟨d,h7⟩;have G:=Lh (aJ.mod (S:=fun k=>k=x.p) p.o (show aK (fun k=>k=x.p) E V from ⟨d.os,d.tape,d.output,d.size,d.block⟩) j.o);have a0:=Lh (B.o.trans (show aK (fun k=>k=x.p) E V from ⟨d.os,d.tape,d.output,d.size,d.block⟩) (fun _ _ h=>h));clear d;cases U:fN ents (x.T.drop a) with
            | error k=>
              rw [U] at h7;obtain ⟨⟨T,D⟩,rfl⟩:=h7;have P:=Lh D;have R:=Lh (show eH ents (x.T.drop c.at')=.error k by rw [W.o,M.o,U]);clear D;have hc:=G.o.cell;have hf:=G.o.frozen;(repeat revert K);refine vS ?_;intro K hK K hK;exact iS (k:=k) R.o P.o a0.o G.o rfl j.o HF.o (by simp only [aL,aP,aR,aZ,Nat.reduceEqDiff,↓reduceIte] <;> rfl) (by simp only [aL,aP,aR,aZ,Nat.reduceEqDiff,↓reduceIte] <;> rfl)
            | ok q=>
              rw [U] at h7;obtain ⟨t,r⟩:=q;obtain ⟨T,a9,I,a8,D,rfl⟩:=h7;have bA:r=x.T.drop T:=a9;subst bA;have P:=Lh (show aV x V { c with at':=T } from D);have N:=Lh I;have u:=Lh (show a < T by have:=nP U;rw [eO] at this;omega);have a3:=Lh (oO c4.o (by have:=HT.o;omega) U);have R:=Lh (M.o.trans (show _=pS ents 34 m' (x.T.drop T) (o ++ t) by rw [U]));have a2:¬ 9223372036854775807 < o.length + t.length:=by have:=HT.o;have:=b3.o;have:=b0.o;have:=a3.o;omega
              clear D U a9 I a8;(repeat revert K);refine vS ?_;intro K hK;refine Kk [0,2,4,5,7,8] fun f=>?_;rw [gU];exact dT.o _ _ ⟨x.T.length - T,by rw [HK.o];have:=u.o;have:=N.o;omega,HJ.o _ _ _ ⟨f,T,o ++ t,m',rfl,P.o,G.o,a0.o,rfl,N.o,by have:=cT.o;have:=u.o;omega,by have:=b3.o;have:=a3.o;have:=u.o;rw [fU];omega,by have:=d2.o;have:=u.o;have:=N.o;omega,R.o⟩⟩
          have d5:((b.toNat:Int) != 32)=true:=QF Y;have g2:=Lh Y;clear Y;(repeat revert K);refine vg ?_;intro K hK K hK K hK K hK;refine (g8.o _).mono ?_;rintro e5 w5 ⟨rfl,rfl⟩;go_simp;cases Z:lR b with
          | true=>
            have M:=Lh (show eH ents (x.T.drop c.at')=.error .opn by rw [W.o,X.o,QI ents g b1.o b8.o (by rw [← aA.o];exact ⟨g2.o,Z⟩)]);(repeat revert K);refine vg ?_;intro K hK K hK K hK K hK;refine (b9.o E _ (by exact z.o) (by exact eM B.o rfl rfl rfl rfl) (by exact eM (aK.refl _ E) rfl rfl rfl rfl) _).mono ?_;rintro e5 w5 ⟨rfl,y,l⟩;have Q:=Lh y;have O:=Lh l.1;have n:=Lh (p.o.mod l.2 j.o);clear y l;have hc:=n.o.cell;have hf:=n.o.frozen;(repeat revert K);refine vS ?_;intro K hK K hK;exact iS (k:=.opn) M.o Q.o O.o n.o rfl j.o HF.o (by simp only [aL,aP,aR,aZ,Nat.reduceEqDiff,↓reduceIte] <;> rfl) (by simp only [aL,aP,aR,aZ,Nat.reduceEqDiff,↓reduceIte] <;> rfl)
          | false=>
            have L:¬ (x.T.getD a 0 ≠ 32∧lR (x.T.getD a 0)=true):=fun hh=>by have H:=hh.2;rw [← aA.o,Z] at H;cases H
            have M:=Lh (show pS ents 34 ((x.T.drop (C + 1)).length + 1) (x.T.drop (C + 1)) []=_ from X.o.trans (E5 ents g b1.o b8.o L));clear L Z;(repeat revert K);refine vg ?_;intro K hK K hK K hK;refine (aC.o _ (by exact z.o) (by exact p.o) (by exact eM B.o rfl rfl rfl rfl)).mono ?_;rintro e7 V ⟨d,h7⟩;have G:=Lh (aJ.mod (S:=fun k=>k=x.p) p.o (show aK (fun k=>k=x.p) E V from ⟨d.os,d.tape,d.output,d.size,d.block⟩) j.o);have a0:=Lh (B.o.trans (show aK (fun k=>k=x.p) E V from ⟨d.os,d.tape,d.output,d.size,d.block⟩) (fun _ _ h=>h));clear d;cases U:fN ents (x.T.drop a) with
            | error k=>
              rw [U] at h7;obtain ⟨⟨T,D⟩,rfl⟩:=h7;have P:=Lh D;have R:=Lh (show eH ents (x.T.drop c.at')=.error k by rw [W.o,M.o,U]);clear D;have hc:=G.o.cell;have hf:=G.o.frozen;(repeat revert K);refine vS ?_;intro K hK K hK;exact iS (k:=k) R.o P.o a0.o G.o rfl j.o HF.o (by simp only [aL,aP,aR,aZ,Nat.reduceEqDiff,↓reduceIte] <;> rfl) (by simp only [aL,aP,aR,aZ,Nat.reduceEqDiff,↓reduceIte] <;> rfl)
            | ok q=>
              rw [U] at h7;obtain ⟨t,r⟩:=q;obtain ⟨T,a9,I,a8,D,rfl⟩:=h7;have bA:r=x.T.drop T:=a9;subst bA;have P:=Lh (show aV x V { c with at':=T } from D);have N:=Lh I;have u:=Lh (show a < T by have:=nP U;rw [eO] at this;omega);have a3:=Lh (oO c4.o (by have:=HT.o;omega) U);have R:=Lh (M.o.trans (show _=pS ents 34 m' (x.T.drop T) (o ++ t) by rw [U]));have a2:¬ 9223372036854775807 < o.length + t.length:=by have:=HT.o;have:=b3.o;have:=b0.o;have:=a3.o;omega
              clear D U a9 I a8;(repeat revert K);refine vS ?_;intro K hK;refine Kk [0,2,4,5,7,8] fun f=>?_;rw [gU];exact dT.o _ _ ⟨x.T.length - T,by rw [HK.o];have:=u.o;have:=N.o;omega,HJ.o _ _ _ ⟨f,T,o ++ t,m',rfl,P.o,G.o,a0.o,rfl,N.o,by have:=cT.o;have:=u.o;omega,by have:=b3.o;have:=a3.o;have:=u.o;rw [fU];omega,by have:=d2.o;have:=u.o;have:=N.o;omega,R.o⟩⟩
      | false=>
        have hP:=Lh (iA x HT.o w4 { c with at':=C } g7.o f2.o [34] (by decide) b7);(repeat revert K);refine vg ?_;intro K hK K hK K hK;refine hP.o.mono ?_;rintro e5 w5 ⟨rfl,y,l⟩;have c5:=Lh (g6.o.trans l (fun _ _ h=>h));have c3:=Lh (g3.o.mod l j.o);have c6:=Lh (show aV x w5 { c with at':=C } from y);clear y l hP;go_simp;cases c1:([39]:Bs).isPrefixOf (x.T.drop C) with
        | false=>
          have HH:=Lh (iA x HT.o w5 { c with at':=C } c6.o f2.o [39] (by decide) c1);have M:=Lh (show eH ents (x.T.drop c.at')=.error .bad by
            rw [c8.o];by_cases c7:C < x.T.length
            · have b4:¬ (x.T.getD C 0=34 ∨ x.T.getD C 0=39):=by
                rintro (hh|hh)
                · have H:=dG 34 x.T C c7
                  rw [b7,hh] at H;cases H
                · have H:=dG 39 x.T C c7
                  rw [c1,hh] at H;cases H
              rw [bX x.T C c7];simp only [aM b4]
            · rw [t6 (by omega)])
          clear c1 b7;(repeat revert K);refine vg ?_;intro K hK K hK K hK;refine HH.o.mono ?_;rintro e3 E ⟨rfl,F,A⟩;have B:=Lh (c5.o.trans A (fun _ _ h=>h));have p:=Lh (c3.o.mod A j.o);have g4:=Lh (JT x w E E { c with at':=C } F B.o (aK.refl _ E) 1);clear F A HH;(repeat revert K);refine vS ?_;intro K hK K hK K hK;refine g4.o.mono ?_;rintro e5 w5 ⟨rfl,y,l⟩;have Q:=Lh y;have O:=Lh l.1;have n:=Lh (p.o.mod l.2 j.o);clear y l;have hc:=n.o.cell;have hf:=n.o.frozen;(repeat revert K);refine vS ?_;intro K hK;exact iS (k:=.bad) M.o Q.o O.o n.o rfl j.o HF.o (by simp only [aL,aP,aR,aZ,Nat.reduceEqDiff,↓reduceIte] <;> rfl) (by simp only [aL,aP,aR,aZ,Nat.reduceEqDiff,↓reduceIte] <;> rfl)
        | true=>
          have HH:=Lh (iL x HT.o w5 { c with at':=C } c6.o f2.o [39] (by decide) c1);have g:=kO c1 (by decide);have W := Lh (show eH ents (x.T.drop c.at') = match pS ents 39 ((x.T.drop (C + 1)).length + 1) (x.T.drop (C + 1)) [] with
                | .error e=>.error e
                | .ok (v,r4)=>.ok ((nm.1,nm.2,v),r4) by
            have H:=dG 39 x.T C g;rw [c1] at H;have b4:x.T.getD C 0=39:=(beq_iff_eq.1 H.symm).symm;rw [c8.o,bX x.T C g,b4];rfl)
          have d1:=Lh (show C + 1 ≤ x.T.length from g);clear b7 c1 g g7 g6 g3;(repeat revert K);refine vg ?_;intro K hK K hK K hK;refine HH.o.mono ?_;rintro e6 w6 ⟨rfl,h6,hD⟩;have c6:=Lh (show aV x w6 { c with at':=C + 1 } from h6);have c5:=Lh (c5.o.trans hD (fun _ _ h=>h));have c3:=Lh (c3.o.mod hD j.o);clear h6 hD HH;(repeat revert K);refine vS ?_;intro K hK;refine cM [0,2,4,5,7,8] fun f=>?_;refine wp_loop_ghost_k (VN x c ents 39 b2 nm (C + 1) ((x.T.drop (C + 1)).length + 1) w) (x.T.length - (C + 1)) ⟨f,C + 1,[],(x.T.drop (C + 1)).length + 1,rfl,c6.o,c3.o,c5.o,rfl,d1.o,by have:=hO.o;omega,kW _,by rw [eO];omega,rfl⟩ ?_;rintro k _ w2 ⟨f,a,o,m,rfl,hp,b5,hm,hk,d7,d6,e0,d8,e9⟩ J K2 hJ d3;obtain ⟨m',rfl⟩:∃ m',m=m' + 1:=⟨m - 1,by omega⟩;have ⟨HJ,dT,HP,HB,HM,HK⟩:=iD hJ d3 hp b5 hm hk;have ⟨b0,cT,b3,d2,X⟩:=pI d7 d6 e0 d8 e9;clear hJ d3 hp b5 hm hk d7 d6 e0 d8 e9;have b9:=Lh (fun (E w':World) (h1:aV x w' { c with at':=a }) (h2:aK (fun k=>k=x.p) w w') (h3:aK (fun k=>k=x.p) E w') (v:Int)=>JT x w E w' { c with at':=a } h1 h2 h3 v);cases hq:([39]:Bs).isPrefixOf (x.T.drop a) with
          | true=>
            have HH:=Lh (iL x HT.o w2 { c with at':=a } HP.o b0.o [39] (by decide) hq);have g:=kO hq (by decide);have d4:x.T.getD a 0=39:=by
              have H:=dG 39 x.T a g;rw [hq] at H;exact (beq_iff_eq.1 H.symm).symm
            have M:=Lh (show eH ents (x.T.drop c.at')=.ok ((nm.1,nm.2,o),x.T.drop (a + 1)) by rw [W.o,X.o,IE ents g d4]);have d0:=Lh g;clear hq g d4;revert K;refine vg ?_;intro K hK K hK K hK K hK;refine HH.o.mono ?_;rintro e3 E ⟨rfl,F,A⟩;have z:=Lh (show aV x E { c with at':=a + 1 } from F);have p:=Lh (HB.o.mod A j.o);have B:=Lh (HM.o.trans A (fun _ _ h=>h));clear F A HH;have hc:=p.o.cell;have hf:=p.o.frozen;(repeat revert K);refine vS ?_;exact E8 (v:=(nm.1,nm.2,o)) M.o d0.o (by have:=cT.o;omega) z.o B.o p.o rfl j.o HF.o (by simp only [aL,aP,aR,aZ,Nat.reduceEqDiff,↓reduceIte] <;> rfl) (by simp only [aL,aP,aR,aZ,Nat.reduceEqDiff,↓reduceIte] <;> rfl)
          | false=>
            have HH:=Lh (iA x HT.o w2 { c with at':=a } HP.o b0.o [39] (by decide) hq);revert K;refine vg ?_;intro K hK K hK K hK K hK;refine HH.o.mono ?_;rintro e3 E ⟨rfl,F,A⟩;have z:=Lh (show aV x E { c with at':=a } from F);have p:=Lh (HB.o.mod A j.o);have B:=Lh (HM.o.trans A (fun _ _ h=>h));clear F A HH;go_simp;by_cases g:a < x.T.length
            rotate_left
            · have bC:=Lh (fun kk=>nV x (E.drewN kk) { c with at':=a } z.o (by simp;omega))
              have M:=Lh (show eH ents (x.T.drop c.at')=.error .bad by rw [W.o,X.o,ID ents (by omega)]);(repeat revert K);refine vg ?_;intro K hK K hK K hK;(refine lI [0,2,0,0,0,0,1,0,0,0,1,0,0,0] [0,1,2,3,4,5,6,7,8,9,10,11,12,13] ?_;refine vP ?_;repeat with_reducible intro nq)
              refine bN rfl rfl (fun nq K hK=>?_);go_simp;refine (bC.o _).mono ?_;rintro e4 w4 ⟨rfl,k4,rfl⟩;go_simp;refine hK.out _ _ ?_;clear hK K;(refine vP ?_;repeat with_reducible intro nq)
              (repeat revert K);refine vg ?_;intro K hK K hK K hK K hK;refine (b9.o E _ (by exact z.o) (by exact eM B.o rfl rfl rfl rfl) (by exact eM (aK.refl _ E) rfl rfl rfl rfl) _).mono ?_;rintro e5 w5 ⟨rfl,y,l⟩;have Q:=Lh y;have O:=Lh l.1;have n:=Lh (p.o.mod l.2 j.o);clear y l;have hc:=n.o.cell;have hf:=n.o.frozen;(repeat revert K);refine vS ?_;intro K hK K hK;exact iS (k:=.bad) M.o Q.o O.o n.o rfl j.o HF.o (by simp only [aL,aP,aR,aZ,Nat.reduceEqDiff,↓reduceIte] <;> rfl) (by simp only [aL,aP,aR,aZ,Nat.reduceEqDiff,↓reduceIte] <;> rfl)
            have d9:¬ x.T.getD a 0=39:=by
              intro hh;have H:=dG 39 x.T a g;rw [hq,hh] at H;simp at H
            have b1:=Lh d9;have bC:=Lh (fun kk=>nW x (E.drewN kk) { c with at':=a } z.o g);have t0:(0:Int) ≤ (a:Int):=by omega
            have t1:(a:Int) < (x.T.length:Int):=by omega
            obtain ⟨b,hb⟩:=cR (x.T.getD a 0);have ix:∀ h,(⟨x.T.toArray⟩:ByteArray)[a]'h=b:=by rw [hb];exact iP x.T a g
            have aA:=Lh hb;clear hb d9 hq;by_cases a5:b=60
            · have M:=Lh (show eH ents (x.T.drop c.at')=.error .bad by rw [W.o,X.o,QH ents g b1.o (by rw [← aA.o];exact a5)])
              subst a5;(repeat revert K);refine vg ?_;intro K hK K hK K hK;(refine lI [0,2,0,0,0,0,1,0,0,0,1,0,0,0] [0,1,2,3,4,5,6,7,8,9,10,11,12,13] ?_;refine vP ?_;repeat with_reducible intro nq)
              refine bN rfl rfl (fun nq K hK=>?_);go_simp;refine (bC.o _).mono ?_;rintro e4 w4 ⟨rfl,k4,rfl⟩;have hc:=z.o.cell;have hf:=z.o.frozen;go_simp;refine hK.out _ _ ?_;clear hK K;(refine vP ?_;repeat with_reducible intro nq)
              clear hc hf;(repeat revert K);refine vg ?_;intro K hK K hK K hK K hK;refine (b9.o E _ (by exact z.o) (by exact eM B.o rfl rfl rfl rfl) (by exact eM (aK.refl _ E) rfl rfl rfl rfl) _).mono ?_;rintro e5 w5 ⟨rfl,y,l⟩;have Q:=Lh y;have O:=Lh l.1;have n:=Lh (p.o.mod l.2 j.o);clear y l;have hc:=n.o.cell;have hf:=n.o.frozen;(repeat revert K);refine vS ?_;intro K hK K hK;exact iS (k:=.bad) M.o Q.o O.o n.o rfl j.o HF.o (by simp only [aL,aP,aR,aZ,Nat.reduceEqDiff,↓reduceIte] <;> rfl) (by simp only [aL,aP,aR,aZ,Nat.reduceEqDiff,↓reduceIte] <;> rfl)
            have hW:((b.toNat:Int) == 60)=false:=nM a5;have b8:=Lh (show ¬ x.T.getD a 0=60 by rw [← aA.o];exact a5);clear a5;(repeat revert K);refine vg ?_;intro K hK K hK K hK;(refine lI [0,2,0,0,0,0,1,0,0,0,1,0,0,0] [0,1,2,3,4,5,6,7,8,9,10,11,12,13] ?_;refine vP ?_;repeat with_reducible intro nq)
            refine bN rfl rfl (fun nq K hK=>?_);go_simp;refine (bC.o _).mono ?_;rintro e4 w4 ⟨rfl,k4,rfl⟩;have hc:=z.o.cell;have hf:=z.o.frozen;go_simp;refine hK.out _ _ ?_;clear hK K;(refine vP ?_;repeat with_reducible intro nq)
            (repeat revert K);refine vg ?_;intro K hK K hK K hK;go_quiet (fail);clear hc hf;have a6:∀ V,aV x V { c with at':=a } → aJ V b2 XV 68 → aK (fun k=>k=x.p) w V → Calls prog 47 #[jA x] V fun e w8=>eY x V { c with at':=a } (fun s=>.returned (.tuple #[aB s,.bool true])) (.returned (.tuple #[aB [],.bool false])) (fN ents (x.T.drop a)) e w8:=fun V h1 _ h3=>
              CQ x HT.o b6 f3.o ents c4.o V { c with at':=a } h1 g (HE.o.below (aK.below (Below.refl _ w) hN.o h3 (fun i hi=>by rw [hi];exact f3.o)))
            have aC:=Lh a6;clear a6;have g8:=Lh (fun w=>uL b w);by_cases Y:b=32
            · have L:¬ (x.T.getD a 0 ≠ 32∧lR (x.T.getD a 0)=true):=fun hh=>hh.1 (by rw [← aA.o];exact Y)
              have M:=Lh (show pS ents 39 ((x.T.drop (C + 1)).length + 1) (x.T.drop (C + 1)) []=_ from X.o.trans (E5 ents g b1.o b8.o L));have d5:((b.toNat:Int) != 32)=false:=by rw [Y];rfl
              clear L Y;(repeat revert K);refine vg ?_;intro K hK K hK K hK;refine (aC.o _ (by exact z.o) (by exact p.o) (by exact eM B.o rfl rfl rfl rfl)).mono ?_;rintro e7 V ⟨d,h7⟩;have G:=Lh (aJ.mod (S:=fun k=>k=x.p) p.o (show aK (fun k=>k=x.p) E V from ⟨d.os,d.tape,d.output,d.size,d.block⟩) j.o);have a0:=Lh (B.o.trans (show aK (fun k=>k=x.p) E V from ⟨d.os,d.tape,d.output,d.size,d.block⟩) (fun _ _ h=>h));clear d;cases U:fN ents (x.T.drop a) with
              | error k=>
                rw [U] at h7;obtain ⟨⟨T,D⟩,rfl⟩:=h7;have P:=Lh D;have R:=Lh (show eH ents (x.T.drop c.at')=.error k by rw [W.o,M.o,U]);clear D;have hc:=G.o.cell;have hf:=G.o.frozen;(repeat revert K);refine vS ?_;intro K hK K hK;exact iS (k:=k) R.o P.o a0.o G.o rfl j.o HF.o (by simp only [aL,aP,aR,aZ,Nat.reduceEqDiff,↓reduceIte] <;> rfl) (by simp only [aL,aP,aR,aZ,Nat.reduceEqDiff,↓reduceIte] <;> rfl)
              | ok q=>
                rw [U] at h7;obtain ⟨t,r⟩:=q;obtain ⟨T,a9,I,a8,D,rfl⟩:=h7;have bA:r=x.T.drop T:=a9;subst bA;have P:=Lh (show aV x V { c with at':=T } from D);have N:=Lh I;have u:=Lh (show a < T by have:=nP U;rw [eO] at this;omega);have a3:=Lh (oO c4.o (by have:=HT.o;omega) U);have R:=Lh (M.o.trans (show _=pS ents 39 m' (x.T.drop T) (o ++ t) by rw [U]));have a2:¬ 9223372036854775807 < o.length + t.length:=by have:=HT.o;have:=b3.o;have:=b0.o;have:=a3.o;omega
                clear D U a9 I a8;(repeat revert K);refine vS ?_;intro K hK;refine Kk [0,2,4,5,7,8] fun f=>?_;rw [gU];exact dT.o _ _ ⟨x.T.length - T,by rw [HK.o];have:=u.o;have:=N.o;omega,HJ.o _ _ _ ⟨f,T,o ++ t,m',rfl,P.o,G.o,a0.o,rfl,N.o,by have:=cT.o;have:=u.o;omega,by have:=b3.o;have:=a3.o;have:=u.o;rw [fU];omega,by have:=d2.o;have:=u.o;have:=N.o;omega,R.o⟩⟩
            have d5:((b.toNat:Int) != 32)=true:=QF Y;have g2:=Lh Y;clear Y;(repeat revert K);refine vg ?_;intro K hK K hK K hK K hK;refine (g8.o _).mono ?_;rintro e5 w5 ⟨rfl,rfl⟩;go_simp;cases Z:lR b with
            | true=>
              have M:=Lh (show eH ents (x.T.drop c.at')=.error .opn by rw [W.o,X.o,QI ents g b1.o b8.o (by rw [← aA.o];exact ⟨g2.o,Z⟩)]);(repeat revert K);refine vg ?_;intro K hK K hK K hK K hK;refine (b9.o E _ (by exact z.o) (by exact eM B.o rfl rfl rfl rfl) (by exact eM (aK.refl _ E) rfl rfl rfl rfl) _).mono ?_;rintro e5 w5 ⟨rfl,y,l⟩;have Q:=Lh y;have O:=Lh l.1;have n:=Lh (p.o.mod l.2 j.o);clear y l;have hc:=n.o.cell;have hf:=n.o.frozen;(repeat revert K);refine vS ?_;intro K hK K hK;exact iS (k:=.opn) M.o Q.o O.o n.o rfl j.o HF.o (by simp only [aL,aP,aR,aZ,Nat.reduceEqDiff,↓reduceIte] <;> rfl) (by simp only [aL,aP,aR,aZ,Nat.reduceEqDiff,↓reduceIte] <;> rfl)
            | false=>
              have L:¬ (x.T.getD a 0 ≠ 32∧lR (x.T.getD a 0)=true):=fun hh=>by have H:=hh.2;rw [← aA.o,Z] at H;cases H
              have M:=Lh (show pS ents 39 ((x.T.drop (C + 1)).length + 1) (x.T.drop (C + 1)) []=_ from X.o.trans (E5 ents g b1.o b8.o L));clear L Z;(repeat revert K);refine vg ?_;intro K hK K hK K hK;refine (aC.o _ (by exact z.o) (by exact p.o) (by exact eM B.o rfl rfl rfl rfl)).mono ?_;rintro e7 V ⟨d,h7⟩;have G:=Lh (aJ.mod (S:=fun k=>k=x.p) p.o (show aK (fun k=>k=x.p) E V from ⟨d.os,d.tape,d.output,d.size,d.block⟩) j.o);have a0:=Lh (B.o.trans (show aK (fun k=>k=x.p) E V from ⟨d.os,d.tape,d.output,d.size,d.block⟩) (fun _ _ h=>h));clear d;cases U:fN ents (x.T.drop a) with
              | error k=>
                rw [U] at h7;obtain ⟨⟨T,D⟩,rfl⟩:=h7;have P:=Lh D;have R:=Lh (show eH ents (x.T.drop c.at')=.error k by rw [W.o,M.o,U]);clear D;have hc:=G.o.cell;have hf:=G.o.frozen;(repeat revert K);refine vS ?_;intro K hK K hK;exact iS (k:=k) R.o P.o a0.o G.o rfl j.o HF.o (by simp only [aL,aP,aR,aZ,Nat.reduceEqDiff,↓reduceIte] <;> rfl) (by simp only [aL,aP,aR,aZ,Nat.reduceEqDiff,↓reduceIte] <;> rfl)
              | ok q=>
                rw [U] at h7;obtain ⟨t,r⟩:=q;obtain ⟨T,a9,I,a8,D,rfl⟩:=h7;have bA:r=x.T.drop T:=a9;subst bA;have P:=Lh (show aV x V { c with at':=T } from D);have N:=Lh I;have u:=Lh (show a < T by have:=nP U;rw [eO] at this;omega);have a3:=Lh (oO c4.o (by have:=HT.o;omega) U);have R:=Lh (M.o.trans (show _=pS ents 39 m' (x.T.drop T) (o ++ t) by rw [U]));have a2:¬ 9223372036854775807 < o.length + t.length:=by have:=HT.o;have:=b3.o;have:=b0.o;have:=a3.o;omega
                clear D U a9 I a8;(repeat revert K);refine vS ?_;intro K hK;refine Kk [0,2,4,5,7,8] fun f=>?_;rw [gU];exact dT.o _ _ ⟨x.T.length - T,by rw [HK.o];have:=u.o;have:=N.o;omega,HJ.o _ _ _ ⟨f,T,o ++ t,m',rfl,P.o,G.o,a0.o,rfl,N.o,by have:=cT.o;have:=u.o;omega,by have:=b3.o;have:=a3.o;have:=u.o;rw [fU];omega,by have:=d2.o;have:=u.o;have:=N.o;omega,R.o⟩⟩
end Go.Proofs.YthapcchcahnfaaaGreatDoor
