/- Part of the proof that laws.FnSkip returns true for every argument. No conditions. -/
import Derived.Test.YthapcchcahnfaaaGreatDoorS40
import Derived.Test.YthapcchcahnfaaaGreatDoorS36
set_option linter.all false
set_option maxHeartbeats 8000000
set_option maxRecDepth 100000
namespace Go.Proofs.YthapcchcahnfaaaGreatDoor
open Go Go.RowKit Go.Proofs.Tryz
theorem EL (ents:aM) {T:Bs} {a:Nat} (h:T.length≤a):fJ ents (T.drop a)=.error .bad:=by
 rw [tW h];rfl
theorem yC (ents:aM) {T:Bs} {a:Nat} (b:a<T.length) (h:T.getD a 0=38):fJ ents (T.drop a)=match jE ents (T.drop (a+1)) with
  | .error e=>.error e
  | .ok (t,r2)=>if bL t then .ok (t,r2) else .error .opn:=by
 rw [bV T a b,h];rfl
theorem yD (ents:aM) {T:Bs} {a:Nat} (b:a<T.length) (h:¬ T.getD a 0=38):fJ ents (T.drop a)=if (aI (T.drop a)).2=0∨bW (aI (T.drop a)).1=false then .error .bad else .ok ((T.drop a).take (aI (T.drop a)).2,T.drop (a+(aI (T.drop a)).2)):=by
 rw [←List.drop_drop];rw [bV T a b];show (if T.getD a 0=38 then _ else _)=_;rw [aQ h]
def nM (ents:aM):Prop:=∀ p∈ents,p.2.length≤2147483647
theorem LW {l:aM} {k s:Bs} (h:eA l k=some s):∃ p∈l,p.2=s:=by
 unfold eA at h;cases a:l.find? (·.1==k) with
 | none=>rw [a] at h;cases h
 | some p=>
  rw [a] at h;simp at h;exact ⟨p,List.mem_of_find?_eq_some a,h⟩
theorem TP (n:Nat):(gD n).length≤2147483647:=by
 have e:∀ l:Bs,l.length=1∨l.length=2∨l.length=3∨l.length=4→l.length≤2147483647:=fun l h=>by omega
 refine e _ ?_;unfold gD Utf8.encode;generalize (if Utf8.valid (n:Int)=true then (n:Int).toNat else Utf8.runeError)=c;simp only;split
 ·exact aG rfl
 ·split
  ·exact aU (aG rfl)
  ·split
   ·exact aU (aU (aG rfl))
   ·exact aU (aU (aU rfl))
theorem JI {ents:aM} {rest t r:Bs} (h:jE ents rest=.ok (t,r)):((∃ n,t=gD n)∨∃ k,eA (oF++ents) k=some t)∧∃ m,r=rest.drop m:=by
 unfold jE at h;cases e:hZ 59 rest with
 | none=>rw [e] at h;cases h
 | some s=>
  rw [e] at h;cases s with
  | nil=>cases h
  | cons c q=>
   simp only at h;by_cases b:c=35
   ·rw [aY b] at h;cases d:hH q with
    | none=>rw [d] at h;cases h
    | some n=>
     rw [d] at h;simp only at h;split at h
     ·simp only [cD,b8] at h;exact ⟨aG ⟨_,h.1.symm⟩,_,h.2.symm⟩
     ·cases h
   ·rw [aQ b] at h;split at h
    ·cases h
    ·split at h
     ·cases h
     ·cases a:eA (oF++ents) (c::q) with
      | none=>rw [a] at h;cases h
      | some x=>
       rw [a] at h;simp only [cD,b8] at h;exact ⟨aU ⟨_,by rw [a,h.1]⟩,_,h.2.symm⟩
theorem TQ:∀ q∈oF,q.2.length≤2147483647:=by
 intro q a;simp only [oF,mF,y5,or_false] at a;rcases a with rfl|rfl|rfl|rfl|rfl<;>exact Nat.le_of_ble_eq_true rfl
theorem JJ {ents:aM} (e:nM ents) {rest t r:Bs} (h:jE ents rest=.ok (t,r)):t.length≤2147483647:=by
 rcases (JI h).1 with ⟨n,f⟩|⟨k,d⟩
 ·have b:=TP n;rw [←f] at b;exact b
 ·obtain ⟨p,a,c⟩:=LW d;rw [←c];rcases List.mem_append.1 a with a|a
  ·exact TQ p a
  ·exact e p a
theorem W5 {ents:aM} {rest t r:Bs} (h:jE ents rest=.ok (t,r)):r.length≤rest.length:=by
 obtain ⟨m,rfl⟩:=(JI h).2;rw [eC];omega
theorem CE (x:PX) (X:x.T.length≤1000000000) (u:Nat) (U:u≤x.p) (ents:aM) (P:nM ents) (w:World) (c:PC) (h:aV x w c) (A:c.at'<x.T.length) (hE:pF x u ents w) :
  Calls prog 47 #[iU x] w (eR x w c (fun s=>.returned (.tuple #[aB s,.bool true])) (.returned (.tuple #[aB [],.bool false])) (fJ ents (x.T.drop c.at'))):=by
 have ⟨HT,HA,HE,H,a5⟩:=pM X A hE h P;refine eL 70 func47 [_] fun f=>?_;simp only [aF];by_cases e:x.T.getD c.at' 0=38
 ·have b:([38]:Bs).isPrefixOf (x.T.drop c.at')=true:=by rw [dC 38 x.T c.at' A,e];rfl
  have W:=Lh (iE x X w c h (Nat.le_of_lt A) [38] (by decide) b);have D:=Lh (yC ents A e);clear X A hE h P b e;refine vg ?_;intro K hK K hK K hK;refine W.o.mono ?_;rintro e3 w3 ⟨rfl,j,g⟩;have d:=Lh (show aV x w3 { c with at':=c.at'+1 } from j);have o:=Lh g;have E:=Lh (W4 x HT.o u U ents w3 { c with at':=c.at'+1 } j HA.o (HE.o.below (aJ.below (Below.refl _ w) (fQ U (Nat.le_of_lt (aL.lt H.o))) g (fun i hi=>by rw [hi];exact U))));clear j g W;(repeat revert K);refine vS ?_;intro K hK K hK K hK;refine E.o.mono ?_;rintro e4 w4 V;obtain ⟨aA,V⟩:=V;have J:=Lh (o.o.trans aA (fun _ _ h=>h));clear aA E;cases C:jE ents (x.T.drop (c.at'+1)) with
  | error k=>
   rw [show ({ c with at':=c.at'+1 }:PC).at'=c.at'+1 from rfl,C] at V;obtain ⟨⟨O,l⟩,rfl⟩:=V;have M:=Lh l;have HR:=Lh (show fJ ents (x.T.drop c.at')=.error k by rw [D.o,C]);clear l;(repeat revert K);refine vS ?_;intro K hK;refine kW ?_;exact eR.bad HR.o M.o J.o
  | ok q=>
   rw [show ({ c with at':=c.at'+1 }:PC).at'=c.at'+1 from rfl,C] at V;obtain ⟨t,r⟩:=q;obtain ⟨O,a1,I,G,l,rfl⟩:=V;have a2:r=x.T.drop O:=a1;subst a2;have M:=Lh (show aV x w4 { c with at':=O } from l);have a8:=Lh I;have a6:=Lh (show c.at'≤O by have:c.at'+1≤O:=G;omega);have HR:=Lh (show fJ ents (x.T.drop c.at')=if bL t then .ok (t,x.T.drop O) else .error .opn by rw [D.o,C]);have a3:=Lh (fun w=>EA t (by have:=JJ a5.o C;omega) w);have HF:=Lh (fun v=>lF x w4 { c with at':=O } l v);clear l C a1 I G;(repeat revert K);refine vS ?_;intro K hK K hK K hK K hK;refine (a3.o _).mono ?_;rintro e5 w5 ⟨rfl,rfl⟩;go_simp;cases Y:bL t with
   | true=>
    have a:=Lh (HR.o.trans (aY Y));(repeat revert K);refine vg ?_;intro K hK;refine kW ?_;exact eR.okk (v:=t) a.o a8.o a6.o M.o J.o
   | false=>
    have a:=Lh (HR.o.trans (aQ (by rw [Y];simp)));(repeat revert K);refine vg ?_;intro K hK K hK K hK K hK;refine (HF.o _).mono ?_;rintro e6 w6 ⟨rfl,a0,aC⟩;have bA:=Lh a0;have a9:=Lh (J.o.trans aC (fun _ _ h=>h));clear a0 aC;(repeat revert K);refine vS ?_;intro K hK K hK;refine kW ?_;exact eR.bad (k:=.opn) a.o bA.o a9.o
 ·have b:([38]:Bs).isPrefixOf (x.T.drop c.at')=false:=by rw [dC 38 x.T c.at' A,lQ];exact fun Z=>e Z.symm
  have W:=Lh (gX x X w c h (Nat.le_of_lt A) [38] (by decide) b);have D:=Lh (yD ents A e);have T:x.T.drop c.at'≠[]:=fun Z=>by have:=congrArg List.length Z;simp at this;omega
  have HW:=Lh (lO (x.T.drop c.at') T);have m:=Lh (fun w=>mB (x.T.drop c.at') T w);have z1:(0:Int)≤(c.at':Int):=by omega
  have z3:(c.at':Int)≤(x.T.length:Int):=by omega
  clear X A hE h P b e T;obtain ⟨r,C⟩:=cK ((aI (x.T.drop c.at')).1);obtain ⟨n,R⟩:=cK ((aI (x.T.drop c.at')).2);rw [←C] at D m;rw [←R] at D HW m;clear C R;refine vg ?_;intro K hK K hK K hK;refine W.o.mono ?_;rintro e3 w3 ⟨rfl,j,g⟩;have ⟨d,o⟩:=cB j g;clear j g W;have hc:=d.o.cell;have hf:=d.o.frozen;(repeat revert K);refine vS ?_;intro K hK;(refine lD [0,0,0,1,0,0,0,1,0,2,0,0,0,0,0] [0,1,2,3,4,5,6,7,8,9,10,11,12,13,14] ?_;refine vP ?_;repeat with_reducible intro nq)
  rw [iM];refine bI rfl rfl (fun nq K hK=>?_);go_simp;refine (m.o _).mono ?_;rintro e4 w4 ⟨rfl,rfl⟩;go_simp;refine hK.out _ _ ?_;clear hK K;(refine vP ?_;repeat with_reducible intro nq)
  have HF:=Lh (fun (w':World) (F:aV x w' c) (h2:aJ (fun k=>k=x.p) w w') (v:Int)=>gW x w w' c F h2 v);by_cases R:n=0
  ·have a:=Lh (D.o.trans (aY (aG R)));subst R;revert K;refine vg ?_;intro K hK K hK K hK;refine (HF.o _ (by exact d.o) (by exact eE o.o rfl rfl rfl rfl) _).mono ?_;rintro e8 w8 ⟨rfl,z,y⟩;have ⟨N,L⟩:=cB z y;clear z y;(repeat revert K);refine vS ?_;intro K hK;refine kW ?_;exact eR.bad (k:=.bad) a.o N.o L.o
  have b0:((n:Int)==0)=false:=by rw [lQ];omega
  have HN:=Lh R;have a7:=Lh (fun w=>tD r w);clear R;revert K;refine vg ?_;intro K hK K hK K hK;refine (a7.o _).mono ?_;rintro e8 w8 ⟨rfl,rfl⟩;go_simp;cases Q:bW r with
  | false=>
   have a:=Lh (D.o.trans (aY (aU Q)));(repeat revert K);refine vg ?_;intro K hK K hK K hK;refine (HF.o _ (by exact d.o) (by exact eE o.o rfl rfl rfl rfl) _).mono ?_;rintro e8 w8 ⟨rfl,z,y⟩;have ⟨N,L⟩:=cB z y;clear z y;(repeat revert K);refine vS ?_;intro K hK;refine kW ?_;exact eR.bad (k:=.bad) a.o N.o L.o
  | true=>
   have a:=Lh (D.o.trans (aQ (fun Z=>Z.elim HN.o (fun h=>Bool.noConfusion (Q.symm.trans h)))));have wn:IntKind.i64.wrap ((c.at':Int)+(n:Int))=(c.at':Int)+(n:Int):=by rw [IntKind.wrap_i64];have F:=HW.o;have h2:=HT.o;rw [eC] at F;omega
   have z4:(c.at':Int)≤(c.at':Int)+(n:Int):=by omega
   have z5:(c.at':Int)+(n:Int)≤(x.T.length:Int):=by have F:=HW.o;rw [eC] at F;omega
   have z6:(0:Int)≤(c.at':Int)+(n:Int):=by omega
   have wm:IntKind.i64.wrap (c.at':Int)=(c.at':Int):=by rw [IntKind.wrap_i64];have F:=HA.o;have h2:=HT.o;omega
   have zn:((c.at':Int)+(n:Int)).toNat=c.at'+n:=by omega
   clear Q;(repeat revert K);refine vT 10 ?_;have B:∀ k,aV x ((w3.drewN k).setCell ⟨x.p,1,none⟩ (.int .i64 ((c.at':Int)+(n:Int)))) { c with at':=c.at'+n }:=fun k=>aL.set (w:=w3.drewN k) (cs:=fN x c) d.o 1 _;have bC:=Lh B;clear hc hf;have hc:=fun k=>(B k).cell;have hf:=fun k=>(B k).frozen;clear B;refine vg ?_;intro K hK;(refine lD [0,0,0,1,0,0,0,1,0,0,0,0,0,1,0,0,0] [0,1,2,3,4,5,6,7,8,9,10,11,12,13,14,15,16] ?_;refine vP ?_;repeat with_reducible intro nq)
   rw [kP,Nat.add_sub_cancel_left];revert K;refine vg ?_;refine kW ?_;exact eR.okk a.o (by have F:=HW.o;have h2:=HA.o;rw [eC] at F;omega) (by omega) (bC.o _) ((aJ.setCell (S:=fun k=>k=x.p) (o.o.drewN _) (p:=⟨x.p,1,none⟩) (aG rfl) _).drewN _)
theorem EM (ents:aM) {T:Bs} {a m:Nat} {out:Bs} (h:T.length≤a):dO ents (m+1) (T.drop a) out=.ok (out,T.drop a):=by
 rw [tW h];rfl
theorem wN (ents:aM) {T:Bs} {a m:Nat} {out:Bs} (b:a<T.length) (h:T.getD a 0=60):dO ents (m+1) (T.drop a) out=.ok (out,T.drop a):=by
 rw [bV T a b];unfold dO;simp only [aY h]
theorem tK (ents:aM) {T:Bs} {a m:Nat} {out:Bs} (c:a<T.length) (b:¬ T.getD a 0=60) (h:nQ.isPrefixOf (T.drop a)=true):dO ents (m+1) (T.drop a) out=.error .bad:=by
 rw [bV T a c] at h ⊢;unfold dO;simp only [aQ b,aY h]
theorem wO (ents:aM) {T:Bs} {a m:Nat} {out:Bs} (d:a<T.length) (c:¬ T.getD a 0=60) (h:nQ.isPrefixOf (T.drop a)=false) (b:T.getD a 0=13):dO ents (m+1) (T.drop a) out=if ([10]:Bs).isPrefixOf (T.drop (a+1)) then dO ents m (T.drop (a+2)) (out++[10]) else dO ents m (T.drop (a+1)) (out++[10]):=by
 rw [←JG T a d (fun r=>dO ents m r (out++[10]))];rw [bV T a d] at h ⊢;conv=>lhs;unfold dO
 simp only [c,h,b,rW,if_false,if_true];rfl
theorem wP (ents:aM) {T:Bs} {a m:Nat} {out:Bs} (d:a<T.length) (c:¬ T.getD a 0=60) (h:nQ.isPrefixOf (T.drop a)=false) (b:¬ T.getD a 0=13):dO ents (m+1) (T.drop a) out=match fJ ents (T.drop a) with
  | .error e=>.error e
  | .ok (t,r2)=>dO ents m r2 (out++t):=by
 rw [bV T a d] at h ⊢;conv=>lhs;unfold dO
 simp only [c,h,b,rW,if_false];rfl
theorem oL {ents:aM} (d:nM ents) {T t r:Bs} (f:T.length≤2147483647) {a:Nat} (h:fJ ents (T.drop a)=.ok (t,r)):t.length≤2147483647:=by
 by_cases c:a<T.length
 ·by_cases b:T.getD a 0=38
  ·rw [yC ents c b] at h;split at h
   ·cases h
   ·rename_i e;split at h
    ·simp only [cD,b8] at h;rw [←h.1];exact JJ d e
    ·cases h
  ·rw [yD ents c b] at h;split at h
   ·cases h
   ·simp only [cD,b8] at h;rw [←h.1,pI,eC];omega
 ·rw [EL ents (by omega)] at h;cases h
def ZS (x:PX) (c:PC) (ents:aM) (w0:World) (k:Nat) (b:Act) (w:World):Prop:=
 ∃ f a o m,b=fr 47 f [(0,iU x),(3,aB o)]∧aV x w { c with at':=a }∧aJ (fun k=>k=x.p) w0 w∧k=x.T.length-a∧a≤x.T.length∧o.length≤a*2147483647∧x.T.length-a<m∧dO ents (x.T.length+1) (x.T.drop c.at') []=dO ents m (x.T.drop a) o
theorem nN {ents:aM} {T t r:Bs} {a:Nat} (h:fJ ents (T.drop a)=.ok (t,r)):r.length<T.length-a:=by
 by_cases c:a<T.length
 ·by_cases b:T.getD a 0=38
  ·rw [yC ents c b] at h;split at h
   ·cases h
   ·rename_i f;split at h
    ·simp only [cD,b8] at h;have:=W5 f;rw [eC] at this;rw [←h.2];omega
    ·cases h
  ·rw [yD ents c b] at h;split at h
   ·cases h
   ·rename_i e;simp only [cD,b8] at h;have:(aI (T.drop a)).2≠0:=fun d=>e (aG d);rw [←h.2,eC];omega
 ·rw [EL ents (by omega)] at h;cases h
theorem TR (x:PX) (hT:x.T.length≤1000000000) (n:Nat) (ents:aM) (b5:nM ents) (w:World) (c:PC) (opens:List Bs) (bound:List aM) (out:List bS) (h:dK x n w c opens bound out) (V:out.length≤1000000000) (ha:c.at'≤x.T.length) (hE:pF x n ents w) :
  Calls prog 25 #[iU x] w (fU x n out w (mY .text opens bound (dO ents (x.T.length+1) (x.T.drop c.at') []))):=by
 have ⟨H,HT,HA,bC,HE,bA⟩:=gT h hT ha V hE b5;clear h hT ha V hE b5;refine eL 47 func25 [_] fun f=>?_;simp only [aF];refine vg ?_;intro K hK;refine cG [0,3] fun f=>?_;refine wp_loop_ghost_k (ZS x c ents w) (x.T.length-c.at') ⟨f,c.at',[],x.T.length+1,rfl,H.o.blk,aJ.refl _ w,rfl,HA.o,jU _,by omega,rfl⟩ ?_;rintro k _ w2 ⟨f,a,o,m,rfl,hp,hm,hk,b9,c3,c2,c6⟩ J K2 hJ b6;obtain ⟨N,rfl⟩:∃ N,m=N+1:=⟨m-1,by omega⟩;have ⟨HJ,aA,Q,HM,HK,A⟩:=gT hJ b6 hp hm hk b9;have ⟨P,a3,S⟩:=kV c3 c2 c6;have a1:¬ 9223372036854775807<o.length+1:=by have:=HT.o;omega
 clear hJ b6 hp hm hk b9 c3 c2 c6;have L:∀ X,aV x X { c with at':=a }→aJ (fun k=>k=x.p) w X→dO ents (N+1) (x.T.drop a) o=.ok (o,x.T.drop a)→Calls prog 48 #[iU x,PG ((aP.text o).itok []) none 0 0 0] X fun e w'=>e=.returned (.bool true)∧fU x n out w (mY .text opens bound (dO ents (x.T.length+1) (x.T.drop c.at') [])) (.returned (.bool true)) w':=by
  intro X dT dI T;exact rA x n w X c opens bound out H.o bC.o a A.o dT dI (.text o) rfl _ (by rw [S.o,T];rfl)
 have D:=Lh L;clear L;by_cases d:a<x.T.length
 rotate_left
 ·have O:=Lh (fun kk=>nU x (w2.drewN kk) { c with at':=a } Q.o (by simp;omega));revert K;refine vg ?_;intro K hK K hK K hK;(refine lD [0,2,0,0,0,0,0,1,0,0,0,1,0,0,0] [0,1,2,3,4,5,6,7,8,9,10,11,12,13,14] ?_;refine vP ?_;repeat with_reducible intro nq)
  refine bI rfl rfl (fun nq K hK=>?_);go_simp;refine (O.o _).mono ?_;rintro e3 X ⟨rfl,k3,rfl⟩;go_simp;refine hK.out _ _ ?_;clear hK K;(refine vP ?_;repeat with_reducible intro nq)
  (repeat revert K);refine vg ?_;intro K hK K hK;refine (D.o _ (by exact Q.o) (by exact eE HM.o rfl rfl rfl rfl) (EM ents (by omega))).mono ?_;rintro e6 w6 ⟨rfl,h6⟩;have H6:=Lh h6;clear h6;(repeat revert K);refine vS ?_;refine cM ?_;exact H6.o
 have O:=Lh (fun kk=>nV x (w2.drewN kk) { c with at':=a } Q.o d);have t0:(0:Int)≤(a:Int):=by omega
 have t1:(a:Int)<(x.T.length:Int):=by omega
 obtain ⟨b,hb⟩:=cK (x.T.getD a 0);have ix:∀ h,(⟨x.T.toArray⟩:ByteArray)[a]'h=b:=by rw [hb];exact iL x.T a d
 have a8:=Lh hb;clear hb;by_cases I:b=60
 ·have R:=Lh (wN ents (m:=N) (out:=o) d (by rw [←a8.o];exact I));subst I;revert K;refine vg ?_;intro K hK K hK K hK;(refine lD [0,2,0,0,0,0,0,1,0,0,0,1,0,0,0] [0,1,2,3,4,5,6,7,8,9,10,11,12,13,14] ?_;refine vP ?_;repeat with_reducible intro nq)
  refine bI rfl rfl (fun nq K hK=>?_);go_simp;refine (O.o _).mono ?_;rintro e3 X ⟨rfl,k3,rfl⟩;have hc:=Q.o.cell;have hf:=Q.o.frozen;go_simp;refine hK.out _ _ ?_;clear hK K;(refine vP ?_;repeat with_reducible intro nq)
  (repeat revert K);refine vg ?_;intro K hK K hK;refine (D.o _ (by exact Q.o) (by exact eE HM.o rfl rfl rfl rfl) R.o).mono ?_;rintro e6 w6 ⟨rfl,h6⟩;have H6:=Lh h6;clear h6;(repeat revert K);refine vS ?_;refine cM ?_;exact H6.o
 have d0:((b.toNat:Int) != 60)=true:=PN I;have Y:=Lh (show ¬ x.T.getD a 0=60 by rw [←a8.o];exact I);clear I;have b3:=Lh (fun (w:World) (h:aV x w { c with at':=a })=>uF x HT.o w { c with at':=a } h A.o [93,93,62] (by decide));have Z:=Lh (fun (w:World) (h:aV x w { c with at':=a })=>uF x HT.o w { c with at':=a } h A.o [13,10] (by decide));have a9:=Lh (fun (w:World) (h:aV x w { c with at':=a })=>uF x HT.o w { c with at':=a } h A.o [13] (by decide));revert K;refine vg ?_;intro K hK K hK K hK;(refine lD [0,2,0,0,0,0,0,1,0,0,0,1,0,0,0] [0,1,2,3,4,5,6,7,8,9,10,11,12,13,14] ?_;refine vP ?_;repeat with_reducible intro nq)
 refine bI rfl rfl (fun nq K hK=>?_);go_simp;refine (O.o _).mono ?_;rintro e3 X ⟨rfl,k3,rfl⟩;have hc:=Q.o.cell;have hf:=Q.o.frozen;go_simp;refine hK.out _ _ ?_;clear hK K;(refine vP ?_;repeat with_reducible intro nq)
 clear hc hf ix;(repeat revert K);refine vg ?_;intro K hK K hK K hK K hK;refine (b3.o _ (by exact Q.o)).mono ?_;rintro e4 w4 ⟨rfl,v,cT⟩;rw [show ({ c with at':=a }:PC).at'=a from rfl] at v ⊢;have b0:=Lh (show aJ (fun k=>k=x.p) w w4 from aJ.trans (HM.o.drewN _) cT (fun _ _ h=>h));clear cT;go_simp;cases p:([93,93,62]:Bs).isPrefixOf (x.T.drop a) with
 | true=>
  rw [p,aY rfl] at v;have R:=Lh (S.o.trans (tK ents (m:=N) (out:=o) d Y.o p));have HF:=Lh (lF x w4 _ v 1);clear v p;(repeat revert K);refine vg ?_;intro K hK K hK K hK K hK;refine HF.o.mono ?_;rintro e6 w6 ⟨rfl,g,s⟩;have G:=Lh g;have B:=Lh (b0.o.trans s (fun _ _ h=>h));clear g s;(repeat revert K);refine vS ?_;intro K hK K hK;refine cM ?_;exact fU.err (w1:=w) (k:=.bad) H.o G.o B.o (by rw [R.o];rfl)
 | false=>
  rw [p,aQ (by simp)] at v;have c9:=Lh (show aV x w4 { c with at':=a } from v);have b2:=Lh p;clear v p;(repeat revert K);refine vg ?_;intro K hK K hK K hK K hK;refine (Z.o _ c9.o).mono ?_;rintro e5 w5 ⟨rfl,l,c1⟩;rw [show ({ c with at':=a }:PC).at'=a from rfl] at l ⊢;have a0:=Lh (b0.o.trans c1 (fun _ _ h=>h));clear c1;go_simp;by_cases j:x.T.getD a 0=13
  ·have R:=Lh (S.o.trans (wO ents (m:=N) (out:=o) d Y.o b2.o j));cases C:([10]:Bs).isPrefixOf (x.T.drop (a+1)) with
   | true=>
    have z:([13,10]:Bs).isPrefixOf (x.T.drop a)=true:=by rw [rB 13 10 x.T a d,j,C];rfl
    have c8:=Lh (nW z A.o);have u:=Lh (R.o.trans (aY C));rw [z,aY rfl] at l;rw [z];have F:=Lh (show aV x w5 { c with at':=a+2 } from l);clear z C j l;(repeat revert K);refine vg ?_;intro K hK K hK;refine Kk [0,3] fun f=>?_;rw [wK];exact aA.o _ _ ⟨x.T.length-(a+2),by rw [HK.o];omega,HJ.o _ _ _ ⟨f,a+2,o++[10],N,rfl,F.o,a0.o,rfl,by have:=c8.o;simpa using this,by have:=P.o;rw [fP];simp;omega,by have:=a3.o;omega,u.o⟩⟩
   | false=>
    have y:([13,10]:Bs).isPrefixOf (x.T.drop a)=false:=by rw [rB 13 10 x.T a d,j,C];rfl
    have z:([13]:Bs).isPrefixOf (x.T.drop a)=true:=by rw [dC 13 x.T a d,j];rfl
    have u:=Lh (R.o.trans (aQ (by rw [C];simp)));rw [y,aQ (by simp)] at l;rw [y];have F:=Lh (show aV x w5 { c with at':=a } from l);have a5:=Lh z;clear z C j l y;(repeat revert K);refine vg ?_;intro K hK K hK K hK K hK;refine (a9.o _ F.o).mono ?_;rintro e6 w6 ⟨rfl,g,s⟩;rw [show ({ c with at':=a }:PC).at'=a from rfl,a5.o] at g ⊢;rw [aY rfl] at g;have G:=Lh (show aV x w6 { c with at':=a+1 } from g);have B:=Lh (a0.o.trans s (fun _ _ h=>h));clear g s;(repeat revert K);refine vS ?_;intro K hK K hK;refine Kk [0,3] fun f=>?_;rw [wK];exact aA.o _ _ ⟨x.T.length-(a+1),by rw [HK.o];omega,HJ.o _ _ _ ⟨f,a+1,o++[10],N,rfl,G.o,B.o,rfl,d,by have:=P.o;rw [fP];simp;omega,by have:=a3.o;omega,u.o⟩⟩
  ·have y:([13,10]:Bs).isPrefixOf (x.T.drop a)=false:=by rw [rB 13 10 x.T a d,lQ.2 (fun h=>j h.symm)];rfl
   have W:([13]:Bs).isPrefixOf (x.T.drop a)=false:=by rw [dC 13 x.T a d,lQ.2 (fun h=>j h.symm)]
   have R:=Lh (S.o.trans (wP ents (m:=N) (out:=o) d Y.o b2.o j));rw [y,aQ (by simp)] at l;rw [y];have F:=Lh (show aV x w5 { c with at':=a } from l);have a5:=Lh W;clear j l y W;(repeat revert K);refine vg ?_;intro K hK K hK K hK K hK;refine (a9.o _ F.o).mono ?_;rintro e6 w6 ⟨rfl,g,s⟩;rw [show ({ c with at':=a }:PC).at'=a from rfl,a5.o] at g ⊢;rw [aQ (by simp)] at g;have G:=Lh (show aV x w6 { c with at':=a } from g);have B:=Lh (a0.o.trans s (fun _ _ h=>h));have c7:=Lh (CE x HT.o n H.o.pb ents bA.o w6 { c with at':=a } G.o d (HE.o.below (aJ.below (Below.refl _ w) H.o.size B.o (fun i hi=>by rw [hi];exact H.o.pb))));clear g s;(repeat revert K);refine vS ?_;intro K hK K hK K hK;refine c7.o.mono ?_;rintro e7 w7 h7;obtain ⟨a6,h7⟩:=h7;rw [show ({ c with at':=a }:PC).at'=a from rfl] at h7;have b1:=Lh (B.o.trans a6 (fun _ _ h=>h));cases T:fJ ents (x.T.drop a) with
   | error k=>
    rw [T] at h7;obtain ⟨⟨a7,M⟩,rfl⟩:=h7;have a4:=Lh M;have u:=Lh (show dO ents (x.T.length+1) (x.T.drop c.at') []=.error k by rw [R.o,T]);clear M a6;(repeat revert K);refine vS ?_;intro K hK K hK;refine cM ?_;exact fU.err (w1:=w) (k:=k) H.o a4.o b1.o (by rw [u.o];rfl)
   | ok q=>
    rw [T] at h7;obtain ⟨t,r⟩:=q;obtain ⟨a7,c4,U,b7,M,rfl⟩:=h7;have c5:r=x.T.drop a7:=c4;subst c5;have a4:=Lh (show aV x w7 { c with at':=a7 } from M);have aC:=Lh U;have E:=Lh (show a<a7 by have:=nN T;rw [eC] at this;omega);have b4:=Lh (oL bA.o (by have:=HT.o;omega) T);have u:=Lh (show dO ents (x.T.length+1) (x.T.drop c.at') []=dO ents N (x.T.drop a7) (o++t) by rw [R.o,T]);have a2:¬ 9223372036854775807<o.length+t.length:=by have:=HT.o;have:=P.o;have:=A.o;have:=b4.o;omega
    clear M a6 T c4 U b7;(repeat revert K);refine vS ?_;intro K hK;refine Kk [0,3] fun f=>?_;rw [iF];exact aA.o _ _ ⟨x.T.length-a7,by rw [HK.o];have:=E.o;have:=aC.o;omega,HJ.o _ _ _ ⟨f,a7,o++t,N,rfl,a4.o,b1.o,rfl,aC.o,by have:=P.o;have:=b4.o;have:=E.o;rw [fP];omega,by have:=a3.o;have:=E.o;have:=aC.o;omega,u.o⟩⟩
theorem GZ (ents:aM) {q:UInt8} {T:Bs} {a m:Nat} {out:Bs} (h:T.length≤a):pU ents q (m+1) (T.drop a) out=.error .bad:=by
 rw [tW h];rfl
theorem G0 (ents:aM) {q:UInt8} {T:Bs} {a m:Nat} {out:Bs} (b:a<T.length) (h:T.getD a 0=q):pU ents q (m+1) (T.drop a) out=.ok (out,T.drop (a+1)):=by
 rw [bV T a b];show (if T.getD a 0=q then _ else _)=_;rw [aY h]
theorem PP (ents:aM) {q:UInt8} {T:Bs} {a m:Nat} {out:Bs} (c:a<T.length) (h:¬ T.getD a 0=q) (b:T.getD a 0=60):pU ents q (m+1) (T.drop a) out=.error .bad:=by
 rw [bV T a c];show (if T.getD a 0=q then _ else if T.getD a 0=60 then _ else _)=_;rw [aQ h,aY b]
theorem PQ (ents:aM) {q:UInt8} {T:Bs} {a m:Nat} {out:Bs} (d:a<T.length) (h:¬ T.getD a 0=q) (b:¬ T.getD a 0=60) (c:T.getD a 0≠32∧l6 (T.getD a 0)=true):pU ents q (m+1) (T.drop a) out=.error .opn:=by
 rw [bV T a d];show (if T.getD a 0=q then _ else if T.getD a 0=60 then _ else if T.getD a 0≠32∧l6 (T.getD a 0)=true then _ else _)=_;rw [aQ h,aQ b,aY c]
theorem EN (ents:aM) {q:UInt8} {T:Bs} {a m:Nat} {out:Bs} (d:a<T.length) (h:¬ T.getD a 0=q) (b:¬ T.getD a 0=60) (c:¬ (T.getD a 0≠32∧l6 (T.getD a 0)=true)):pU ents q (m+1) (T.drop a) out=match fJ ents (T.drop a) with
  | .error e=>.error e
  | .ok (t,r2)=>pU ents q m r2 (out++t):=by
 rw [bV T a d];show (if T.getD a 0=q then _ else if T.getD a 0=60 then _ else if T.getD a 0≠32∧l6 (T.getD a 0)=true then _ else _)=_;rw [aQ h,aQ b,aQ c];rfl
abbrev W6:Array Value:=#[.string ⟨#[]⟩,.string ⟨#[]⟩,.string ⟨#[]⟩]
def UZ (x:PX) (c:PC) (ents:aM) (q:UInt8) (b:Nat) (nm:Bs×Bs) (g:Nat) (e:Nat) (w0:World) (k:Nat) (d:Act) (w:World):Prop:=
 ∃ f a o m,d=fr 96 f [(0,iU x),(2,.pointer (some ⟨b,0,none⟩)),(4,aB nm.1),(5,aB nm.2),(7,aB [q]),(8,aB o)]∧aV x w { c with at':=a }∧aL w b W6 68∧aJ (fun k=>k=x.p) w0 w∧k=x.T.length-a∧a≤x.T.length∧c.at'≤a∧o.length≤a*2147483647∧x.T.length-a<m∧pU ents q e (x.T.drop g) []=pU ents q m (x.T.drop a) o
theorem JK {R:Ending→World→Prop} {f:Nat→Value} {L:List (Nat×Value)} {w:World} {e:Nat} {b c d:Value} {a:Bool} (g:lk f L 2=.pointer (some ⟨e,0,none⟩)) (i:lk f L 3=.bool a) (j:aL w e #[b,c,d] 68) (h:R (.returned (.tuple #[.agg #[b,c,d],.bool a])) w):bodyPost prog Tryz.f61 R .ret (fr 96 f L) w:=by
 have k:=j.cell;refine bodyPost_ret (v:=.tuple #[.agg #[b,c,d],.bool a]) ?_ (iI _ _ _) h;rw [results_cell_tmp rfl,gQ (by decide),gQ (by decide),g,i];go_simp
abbrev PR (w:World) (b:Nat) (a c d:Value):World:=((w.setCell ⟨b,0,none⟩ a).setCell ⟨b,1,none⟩ c).setCell ⟨b,2,none⟩ d
theorem EO {w:World} {b:Nat} {cs:Array Value} {t:TypeId} (h:aL w b cs t) (i:cs.size=3) (d f g:Value):aL (PR w b d f g) b #[d,f,g] t:=by
 have:=((h.set 0 d).set 1 f).set 2 g;have e:((cs.setIfInBounds 0 d).setIfInBounds 1 f).setIfInBounds 2 g=#[d,f,g]:=by
  obtain ⟨l⟩:=cs
  match l,i with
  | [a,b,c],_=>rfl
 rw [e] at this;exact this
theorem JL {w:World} {b c:Nat} {cs:Array Value} {t:TypeId} (h:aL w b cs t) (d:¬ c=b) (f g i:Value):aL (PR w c f g i) b cs t:=
 ((h.set_ne (a:=⟨c,0,none⟩) (fun e=>d e.symm) f).set_ne (a:=⟨c,1,none⟩) (fun e=>d e.symm) g).set_ne (a:=⟨c,2,none⟩) (fun e=>d e.symm) i
theorem EP {S:Nat→Prop} {w0 w:World} {a:Nat} (h:aJ S w0 w) (b:w0.heap.size≤a) (c d e:Value):aJ S w0 (PR w a c d e):=
 ((h.setCell (p:=⟨a,0,none⟩) (aU b) c).setCell (p:=⟨a,1,none⟩) (aU b) d).setCell (p:=⟨a,2,none⟩) (aU b) e
abbrev ZT (a:cO):Ending:=.returned (.tuple #[.agg #[aB a.1,aB a.2.1,aB a.2.2],.bool true])
abbrev U0:Ending:=.returned (.tuple #[.agg W6,.bool false])
theorem iN {x:PX} {w d:World} {c:PC} {ents:aM} {k:SV} {a b:Nat} {f:Nat→Value} {L:List (Nat×Value)} {cs:Array Value} (n:dZ ents (x.T.drop c.at')=.error k) (m:aV x d { c with at':=a,verd:=k.num }) (j:aJ (fun k=>k=x.p) w d) (h:aL d b cs 68) (o:cs.size=3) (l:¬ b=x.p) (i:w.heap.size≤b)
  (e:lk f L 2=.pointer (some ⟨b,0,none⟩)) (g:lk f L 3=.bool false):bodyPost prog Tryz.f61 (eR x w c ZT U0 (dZ ents (x.T.drop c.at'))) .ret (fr 96 f L) (PR d b (.string ⟨#[]⟩) (.string ⟨#[]⟩) (.string ⟨#[]⟩)):=
 JK e g (EO h o _ _ _) (eR.bad n (JL m l _ _ _) (EP j i _ _ _))
theorem EQ {x:PX} {w d:World} {c:PC} {ents:aM} {v:cO} {a b:Nat} {f:Nat→Value} {L:List (Nat×Value)} {cs:Array Value} (p:dZ ents (x.T.drop c.at')=.ok (v,x.T.drop a)) (g:a≤x.T.length) (e:c.at'≤a) (o:aV x d { c with at':=a }) (m:aJ (fun k=>k=x.p) w d) (j:aL d b cs 68) (q:cs.size=3) (n:¬ b=x.p) (l:w.heap.size≤b)
  (h:lk f L 2=.pointer (some ⟨b,0,none⟩)) (i:lk f L 3=.bool true):bodyPost prog Tryz.f61 (eR x w c ZT U0 (dZ ents (x.T.drop c.at'))) .ret (fr 96 f L) (PR d b (aB v.1) (aB v.2.1) (aB v.2.2)):=
 JK h i (EO j q _ _ _) (eR.okk (v:=v) p g e (JL o n _ _ _) (EP m l _ _ _))
theorem JM (x:PX) (w0 w1 w:World) (c:PC) (h:aV x w c) (f:aJ (fun k=>k=x.p) w0 w) (a:aJ (fun k=>k=x.p) w1 w) (v:Int):Calls prog 32 #[iU x,.int .i64 v] w fun e w'=>e=.returned (.bool false)∧aV x w' { c with verd:=v }∧aJ (fun k=>k=x.p) w0 w'∧aJ (fun k=>k=x.p) w1 w':=by
 refine (lF x w c h v).mono ?_;rintro e w' ⟨rfl,d,b⟩;exact ⟨rfl,d,f.trans b (fun _ _ h=>h),a.trans b (fun _ _ h=>h)⟩
theorem TT (x:PX) (hT:x.T.length ≤ 1000000000) (b6:Nat) (hM:b6 ≤ x.p) (ents:aM) (h0:nM ents) (w:World) (c:PC) (h:aV x w c) (ha:c.at' ≤ x.T.length) (hE:pF x b6 ents w) :
    Calls prog 61 #[iU x] w (eR x w c (fun a:cO=>.returned (.tuple #[.agg #[aB a.1,aB a.2.1,aB a.2.2],.bool true])) (.returned (.tuple #[.agg W6,.bool false])) (dZ ents (x.T.drop c.at'))):=by
  obtain ⟨wa,f2⟩:=cK (w.alloc (.cells W6 68));have i2:aV x wa c:=by rw [f2];exact h.alloc _
  have hC:aL wa w.heap.size W6 68:=by rw [f2];exact aL.new w _ _
  have h5:aJ (fun k=>k=x.p) w wa:=by rw [f2];exact (aJ.refl _ w).alloc _
  obtain ⟨b2,b5⟩:=cK w.heap.size;have h6:¬ b2=x.p:=by have:=aL.lt h;omega
  have HN:=Lh (B9 x hT wa c i2 ha);have ⟨HT,HE,c5⟩:=kV hT hE h0;have hQ:=Lh (show b6 ≤ w.heap.size from fQ hM (Nat.le_of_lt (aL.lt h)));have ⟨f6,hW⟩:=cB hM h5;rw [← b5] at hC;have ⟨hP,j⟩:=cB hC h6;have HF:=Lh (show w.heap.size ≤ b2 by omega);have f3:=Lh (show dZ ents (x.T.drop c.at')=match fL (x.T.drop c.at') with
    | .error e=>.error e
    | .ok (nm,r)=>match aT r with
      | []=>.error .bad
      | b :: r2=>if b=61 then
          match aT r2 with
          | []=>.error .bad
          | q :: r3=>if q=34 ∨ q=39 then
              match pU ents q (r3.length + 1) r3 [] with
              | .error e=>.error e
              | .ok (v,r4)=>.ok ((nm.1,nm.2,v),r4)
            else .error .bad
        else .error .bad from rfl)
  clear h hT hE h0 hM ha h5 i2 hC h6;refine eL 96 func61 [_] fun f=>?_;simp only [aF];refine vT 1 ?_;rw [← f2,← b5];clear f2 b5;refine vg ?_;intro K hK K hK;refine HN.o.mono ?_;rintro e1 w1 ⟨hD,h1⟩;have g8:=Lh (hW.o.trans hD (fun _ _ h=>h));have dI:=Lh (hP.o.mod hD j.o);clear hD HN hW hP;cases hn:fL (x.T.drop c.at') with
  | error k=>
    rw [hn] at h1 f3;obtain ⟨⟨a1,e9⟩,rfl⟩:=h1;have i7:=Lh e9;clear e9;have hc:=dI.o.cell;have hf:=dI.o.frozen;have M:=Lh (show dZ ents (x.T.drop c.at')=.error k from f3.o);(repeat revert K);refine vS ?_;intro K hK;exact iN (k:=k) M.o i7.o g8.o dI.o rfl j.o HF.o (by simp only [aK,aO,aR,aW,Nat.reduceEqDiff,↓reduceIte] <;> rfl) (by simp only [aK,aO,aR,aW,Nat.reduceEqDiff,↓reduceIte] <;> rfl)
  | ok q=>
    obtain ⟨nm,r⟩:=q;rw [hn] at h1 f3;obtain ⟨a1,i3,g2,gB,e9,rfl⟩:=h1;have i4:r=x.T.drop a1:=i3;subst i4;have i5:=Lh (show c.at' ≤ a1 from gB);have dT:=Lh (mL x HT.o w1 { c with at':=a1 } e9 g2);clear e9 i3 g2 gB;(repeat revert K);refine vS ?_;intro K hK K hK;refine dT.o.mono ?_;rintro e2 w2 ⟨a2,rfl,h8,hG,g3,g0,Z⟩;have hX:=Lh (show aV x w2 { c with at':=a2 } from h8);have hV:=Lh (g8.o.trans hG (fun _ _ h=>h));have hO:=Lh (dI.o.mod hG j.o);have hU:=Lh g3;have i6:=Lh (show c.at' ≤ a2 by have:=i5.o;have:a1 ≤ a2:=g0;omega);have f7:=Lh (show dZ ents (x.T.drop c.at')=match x.T.drop a2 with
      | []=>.error .bad
      | b :: r2=>if b=61 then
          match aT r2 with
          | []=>.error .bad
          | q :: r3=>if q=34 ∨ q=39 then
              match pU ents q (r3.length + 1) r3 [] with
              | .error e=>.error e
              | .ok (v,r4)=>.ok ((nm.1,nm.2,v),r4)
            else .error .bad
        else .error .bad by
      rw [f3.o];simp only;rw [show aT (x.T.drop a1)=x.T.drop a2 from Z];rfl)
    clear h8 hG g3 g0 Z dT g8 dI;go_simp;cases c3:([61]:Bs).isPrefixOf (x.T.drop a2) with
    | false=>
      have HH:=Lh (gX x HT.o w2 { c with at':=a2 } hX.o hU.o [61] (by decide) c3);have M:=Lh (show dZ ents (x.T.drop c.at')=.error .bad by
        rw [f7.o];by_cases c8:a2 < x.T.length
        · have b4:¬ x.T.getD a2 0=61:=by
            intro hh;have H:=dC 61 x.T a2 c8;rw [c3,hh] at H;cases H
          rw [bV x.T a2 c8];simp only [aQ b4]
        · rw [tW (by omega)])
      clear c3;(repeat revert K);refine vg ?_;intro K hK K hK K hK;refine HH.o.mono ?_;rintro e3 E ⟨rfl,F,A⟩;have B:=Lh (hV.o.trans A (fun _ _ h=>h));have p:=Lh (hO.o.mod A j.o);have g7:=Lh (JM x w E E { c with at':=a2 } F B.o (aJ.refl _ E) 1);clear F A HH;(repeat revert K);refine vS ?_;intro K hK K hK K hK;refine g7.o.mono ?_;rintro e5 w5 ⟨rfl,y,l⟩;have Q:=Lh y;have O:=Lh l.1;have n:=Lh (p.o.mod l.2 j.o);clear y l;have hc:=n.o.cell;have hf:=n.o.frozen;(repeat revert K);refine vS ?_;intro K hK;exact iN (k:=.bad) M.o Q.o O.o n.o rfl j.o HF.o (by simp only [aK,aO,aR,aW,Nat.reduceEqDiff,↓reduceIte] <;> rfl) (by simp only [aK,aO,aR,aW,Nat.reduceEqDiff,↓reduceIte] <;> rfl)
    | true=>
      have HH:=Lh (iE x HT.o w2 { c with at':=a2 } hX.o hU.o [61] (by decide) c3);have g:=kQ c3 (by decide);have hN:=Lh (show dZ ents (x.T.drop c.at')=match aT (x.T.drop (a2 + 1)) with
          | []=>.error .bad
          | q :: r3=>if q=34 ∨ q=39 then
              match pU ents q (r3.length + 1) r3 [] with
              | .error e=>.error e
              | .ok (v,r4)=>.ok ((nm.1,nm.2,v),r4)
            else .error .bad by
        have H:=dC 61 x.T a2 g;rw [c3] at H;have b4:x.T.getD a2 0=61:=(beq_iff_eq.1 H.symm).symm;rw [f7.o,bV x.T a2 g,b4];rfl)
      have d1:=Lh g;clear c3 g;(repeat revert K);refine vg ?_;intro K hK K hK K hK;refine HH.o.mono ?_;rintro e3 E ⟨rfl,F,A⟩;have B:=Lh (hV.o.trans A (fun _ _ h=>h));have p:=Lh (hO.o.mod A j.o);have dT:=Lh (mL x HT.o E { c with at':=a2 + 1 } F d1.o);clear F A HH;(repeat revert K);refine vS ?_;intro K hK K hK;refine dT.o.mono ?_;rintro e4 w4 ⟨C,rfl,i0,hI,g4,g1,Z⟩;have hA:=Lh (show aV x w4 { c with at':=C } from i0);have g9:=Lh (B.o.trans hI (fun _ _ h=>h));have g6:=Lh (p.o.mod hI j.o);have f4:=Lh g4;have hR:=Lh (show c.at' ≤ C by have:=i6.o;have:a2 + 1 ≤ C:=g1;omega);have c9:=Lh (show dZ ents (x.T.drop c.at')=match x.T.drop C with
          | []=>.error .bad
          | q :: r3=>if q=34 ∨ q=39 then
              match pU ents q (r3.length + 1) r3 [] with
              | .error e=>.error e
              | .ok (v,r4)=>.ok ((nm.1,nm.2,v),r4)
            else .error .bad by
        rw [hN.o,show aT (x.T.drop (a2 + 1))=x.T.drop C from Z];rfl)
      clear i0 hI g4 g1 Z dT B p;go_simp;cases b7:([34]:Bs).isPrefixOf (x.T.drop C) with
      | true=>
        have HH:=Lh (iE x HT.o w4 { c with at':=C } hA.o f4.o [34] (by decide) b7);have g:=kQ b7 (by decide);have W := Lh (show dZ ents (x.T.drop c.at') = match pU ents 34 ((x.T.drop (C + 1)).length + 1) (x.T.drop (C + 1)) [] with
              | .error e=>.error e
              | .ok (v,r4)=>.ok ((nm.1,nm.2,v),r4) by
          have H:=dC 34 x.T C g;rw [b7] at H;have b4:x.T.getD C 0=34:=(beq_iff_eq.1 H.symm).symm;rw [c9.o,bV x.T C g,b4];rfl)
        have d2:=Lh (show C + 1 ≤ x.T.length from g);clear b7 g;(repeat revert K);refine vg ?_;intro K hK K hK K hK;refine HH.o.mono ?_;rintro e5 w5 ⟨rfl,y,l⟩;have c7:=Lh (show aV x w5 { c with at':=C + 1 } from y);have c6:=Lh (g9.o.trans l (fun _ _ h=>h));have c4:=Lh (g6.o.mod l j.o);clear y l HH;(repeat revert K);refine vS ?_;intro K hK;refine cG [0,2,4,5,7,8] fun f=>?_;refine wp_loop_ghost_k (UZ x c ents 34 b2 nm (C + 1) ((x.T.drop (C + 1)).length + 1) w) (x.T.length - (C + 1)) ⟨f,C + 1,[],(x.T.drop (C + 1)).length + 1,rfl,c7.o,c4.o,c6.o,rfl,d2.o,by have:=hR.o;omega,jU _,by rw [eC];omega,rfl⟩ ?_;rintro k _ w2 ⟨f,a,o,m,rfl,hp,b5,hm,hk,d8,d7,e8,d9,f1⟩ J K2 hJ d4;obtain ⟨m',rfl⟩:∃ m',m=m' + 1:=⟨m - 1,by omega⟩;have ⟨HJ,d0,HP,HB,HM,HK⟩:=gT hJ d4 hp b5 hm hk;have ⟨b0,c1,b3,d3,X⟩:=pM d8 d7 e8 d9 f1;clear hJ d4 hp b5 hm hk d8 d7 e8 d9 f1;have cT:=Lh (fun (E w':World) (h1:aV x w' { c with at':=a }) (h2:aJ (fun k=>k=x.p) w w') (h3:aJ (fun k=>k=x.p) E w') (v:Int)=>JM x w E w' { c with at':=a } h1 h2 h3 v);cases hq:([34]:Bs).isPrefixOf (x.T.drop a) with
        | true=>
          have HH:=Lh (iE x HT.o w2 { c with at':=a } HP.o b0.o [34] (by decide) hq);have g:=kQ hq (by decide);have d5:x.T.getD a 0=34:=by
            have H:=dC 34 x.T a g;rw [hq] at H;exact (beq_iff_eq.1 H.symm).symm
          have M:=Lh (show dZ ents (x.T.drop c.at')=.ok ((nm.1,nm.2,o),x.T.drop (a + 1)) by rw [W.o,X.o,G0 ents g d5]);have d1:=Lh g;clear hq g d5;revert K;refine vg ?_;intro K hK K hK K hK K hK;refine HH.o.mono ?_;rintro e3 E ⟨rfl,F,A⟩;have z:=Lh (show aV x E { c with at':=a + 1 } from F);have p:=Lh (HB.o.mod A j.o);have B:=Lh (HM.o.trans A (fun _ _ h=>h));clear F A HH;have hc:=p.o.cell;have hf:=p.o.frozen;(repeat revert K);refine vS ?_;exact EQ (v:=(nm.1,nm.2,o)) M.o d1.o (by have:=c1.o;omega) z.o B.o p.o rfl j.o HF.o (by simp only [aK,aO,aR,aW,Nat.reduceEqDiff,↓reduceIte] <;> rfl) (by simp only [aK,aO,aR,aW,Nat.reduceEqDiff,↓reduceIte] <;> rfl)
        | false=>
          have HH:=Lh (gX x HT.o w2 { c with at':=a } HP.o b0.o [34] (by decide) hq);revert K;refine vg ?_;intro K hK K hK K hK K hK;refine HH.o.mono ?_;rintro e3 E ⟨rfl,F,A⟩;have z:=Lh (show aV x E { c with at':=a } from F);have p:=Lh (HB.o.mod A j.o);have B:=Lh (HM.o.trans A (fun _ _ h=>h));clear F A HH;go_simp;by_cases g:a < x.T.length
          rotate_left
          · have bC:=Lh (fun kk=>nU x (E.drewN kk) { c with at':=a } z.o (by simp;omega))
            have M:=Lh (show dZ ents (x.T.drop c.at')=.error .bad by rw [W.o,X.o,GZ ents (by omega)]);(repeat revert K);refine vg ?_;intro K hK K hK K hK;(refine lD [0,2,0,0,0,0,1,0,0,0,1,0,0,0] [0,1,2,3,4,5,6,7,8,9,10,11,12,13] ?_;refine vP ?_;repeat with_reducible intro nq)
            refine bI rfl rfl (fun nq K hK=>?_);go_simp;refine (bC.o _).mono ?_;rintro e4 w4 ⟨rfl,k4,rfl⟩;go_simp;refine hK.out _ _ ?_;clear hK K;(refine vP ?_;repeat with_reducible intro nq)
            (repeat revert K);refine vg ?_;intro K hK K hK K hK K hK;refine (cT.o E _ (by exact z.o) (by exact eE B.o rfl rfl rfl rfl) (by exact eE (aJ.refl _ E) rfl rfl rfl rfl) _).mono ?_;rintro e5 w5 ⟨rfl,y,l⟩;have Q:=Lh y;have O:=Lh l.1;have n:=Lh (p.o.mod l.2 j.o);clear y l;have hc:=n.o.cell;have hf:=n.o.frozen;(repeat revert K);refine vS ?_;intro K hK K hK;exact iN (k:=.bad) M.o Q.o O.o n.o rfl j.o HF.o (by simp only [aK,aO,aR,aW,Nat.reduceEqDiff,↓reduceIte] <;> rfl) (by simp only [aK,aO,aR,aW,Nat.reduceEqDiff,↓reduceIte] <;> rfl)
          have e0:¬ x.T.getD a 0=34:=by
            intro hh;have H:=dC 34 x.T a g;rw [hq,hh] at H;simp at H
          have b1:=Lh e0;have bC:=Lh (fun kk=>nV x (E.drewN kk) { c with at':=a } z.o g);have t0:(0:Int) ≤ (a:Int):=by omega
          have t1:(a:Int) < (x.T.length:Int):=by omega
          obtain ⟨b,hb⟩:=cK (x.T.getD a 0);have ix:∀ h,(⟨x.T.toArray⟩:ByteArray)[a]'h=b:=by rw [hb];exact iL x.T a g
          have aA:=Lh hb;clear hb e0 hq;by_cases a5:b=60
          · have M:=Lh (show dZ ents (x.T.drop c.at')=.error .bad by rw [W.o,X.o,PP ents g b1.o (by rw [← aA.o];exact a5)])
            subst a5;(repeat revert K);refine vg ?_;intro K hK K hK K hK;(refine lD [0,2,0,0,0,0,1,0,0,0,1,0,0,0] [0,1,2,3,4,5,6,7,8,9,10,11,12,13] ?_;refine vP ?_;repeat with_reducible intro nq)
            refine bI rfl rfl (fun nq K hK=>?_);go_simp;refine (bC.o _).mono ?_;rintro e4 w4 ⟨rfl,k4,rfl⟩;have hc:=z.o.cell;have hf:=z.o.frozen;go_simp;refine hK.out _ _ ?_;clear hK K;(refine vP ?_;repeat with_reducible intro nq)
            clear hc hf;(repeat revert K);refine vg ?_;intro K hK K hK K hK K hK;refine (cT.o E _ (by exact z.o) (by exact eE B.o rfl rfl rfl rfl) (by exact eE (aJ.refl _ E) rfl rfl rfl rfl) _).mono ?_;rintro e5 w5 ⟨rfl,y,l⟩;have Q:=Lh y;have O:=Lh l.1;have n:=Lh (p.o.mod l.2 j.o);clear y l;have hc:=n.o.cell;have hf:=n.o.frozen;(repeat revert K);refine vS ?_;intro K hK K hK;exact iN (k:=.bad) M.o Q.o O.o n.o rfl j.o HF.o (by simp only [aK,aO,aR,aW,Nat.reduceEqDiff,↓reduceIte] <;> rfl) (by simp only [aK,aO,aR,aW,Nat.reduceEqDiff,↓reduceIte] <;> rfl)
          have h4:((b.toNat:Int) == 60)=false:=nK a5;have b9:=Lh (show ¬ x.T.getD a 0=60 by rw [← aA.o];exact a5);clear a5;(repeat revert K);refine vg ?_;intro K hK K hK K hK;(refine lD [0,2,0,0,0,0,1,0,0,0,1,0,0,0] [0,1,2,3,4,5,6,7,8,9,10,11,12,13] ?_;refine vP ?_;repeat with_reducible intro nq)
          refine bI rfl rfl (fun nq K hK=>?_);go_simp;refine (bC.o _).mono ?_;rintro e4 w4 ⟨rfl,k4,rfl⟩;have hc:=z.o.cell;have hf:=z.o.frozen;go_simp;refine hK.out _ _ ?_;clear hK K;(refine vP ?_;repeat with_reducible intro nq)
          (repeat revert K);refine vg ?_;intro K hK K hK K hK;go_quiet (fail);clear hc hf;have a6:∀ V,aV x V { c with at':=a } → aL V b2 W6 68 → aJ (fun k=>k=x.p) w V → Calls prog 47 #[iU x] V fun e w8=>eR x V { c with at':=a } (fun s=>.returned (.tuple #[aB s,.bool true])) (.returned (.tuple #[aB [],.bool false])) (fJ ents (x.T.drop a)) e w8:=fun V h1 _ h3=>
            CE x HT.o b6 f6.o ents c5.o V { c with at':=a } h1 g (HE.o.below (aJ.below (Below.refl _ w) hQ.o h3 (fun i hi=>by rw [hi];exact f6.o)))
          have aC:=Lh a6;clear a6;have hB:=Lh (fun w=>uM b w);by_cases Y:b=32
          · have L:¬ (x.T.getD a 0 ≠ 32∧l6 (x.T.getD a 0)=true):=fun hh=>hh.1 (by rw [← aA.o];exact Y)
            have M:=Lh (show pU ents 34 ((x.T.drop (C + 1)).length + 1) (x.T.drop (C + 1)) []=_ from X.o.trans (EN ents g b1.o b9.o L));have d6:((b.toNat:Int) != 32)=false:=by rw [Y];rfl
            clear L Y;(repeat revert K);refine vg ?_;intro K hK K hK K hK;refine (aC.o _ (by exact z.o) (by exact p.o) (by exact eE B.o rfl rfl rfl rfl)).mono ?_;rintro e7 V ⟨d,h7⟩;have G:=Lh (aL.mod (S:=fun k=>k=x.p) p.o (show aJ (fun k=>k=x.p) E V from ⟨d.os,d.tape,d.output,d.size,d.block⟩) j.o);have a0:=Lh (B.o.trans (show aJ (fun k=>k=x.p) E V from ⟨d.os,d.tape,d.output,d.size,d.block⟩) (fun _ _ h=>h));clear d;cases U:fJ ents (x.T.drop a) with
            | error k=>
              rw [U] at h7;obtain ⟨⟨T,D⟩,rfl⟩:=h7;have P:=Lh D;have R:=Lh (show dZ ents (x.T.drop c.at')=.error k by rw [W.o,M.o,U]);clear D;have hc:=G.o.cell;have hf:=G.o.frozen;(repeat revert K);refine vS ?_;intro K hK K hK;exact iN (k:=k) R.o P.o a0.o G.o rfl j.o HF.o (by simp only [aK,aO,aR,aW,Nat.reduceEqDiff,↓reduceIte] <;> rfl) (by simp only [aK,aO,aR,aW,Nat.reduceEqDiff,↓reduceIte] <;> rfl)
            | ok q=>
              rw [U] at h7;obtain ⟨t,r⟩:=q;obtain ⟨T,a9,I,a8,D,rfl⟩:=h7;have bA:r=x.T.drop T:=a9;subst bA;have P:=Lh (show aV x V { c with at':=T } from D);have N:=Lh I;have u:=Lh (show a < T by have:=nN U;rw [eC] at this;omega);have a3:=Lh (oL c5.o (by have:=HT.o;omega) U);have R:=Lh (M.o.trans (show _=pU ents 34 m' (x.T.drop T) (o ++ t) by rw [U]));have a2:¬ 9223372036854775807 < o.length + t.length:=by have:=HT.o;have:=b3.o;have:=b0.o;have:=a3.o;omega
              clear D U a9 I a8;(repeat revert K);refine vS ?_;intro K hK;refine Kk [0,2,4,5,7,8] fun f=>?_;rw [iF];exact d0.o _ _ ⟨x.T.length - T,by rw [HK.o];have:=u.o;have:=N.o;omega,HJ.o _ _ _ ⟨f,T,o ++ t,m',rfl,P.o,G.o,a0.o,rfl,N.o,by have:=c1.o;have:=u.o;omega,by have:=b3.o;have:=a3.o;have:=u.o;rw [fP];omega,by have:=d3.o;have:=u.o;have:=N.o;omega,R.o⟩⟩
          have d6:((b.toNat:Int) != 32)=true:=PN Y;have g5:=Lh Y;clear Y;(repeat revert K);refine vg ?_;intro K hK K hK K hK K hK;refine (hB.o _).mono ?_;rintro e5 w5 ⟨rfl,rfl⟩;go_simp;cases Z:l6 b with
          | true=>
            have M:=Lh (show dZ ents (x.T.drop c.at')=.error .opn by rw [W.o,X.o,PQ ents g b1.o b9.o (by rw [← aA.o];exact ⟨g5.o,Z⟩)]);(repeat revert K);refine vg ?_;intro K hK K hK K hK K hK;refine (cT.o E _ (by exact z.o) (by exact eE B.o rfl rfl rfl rfl) (by exact eE (aJ.refl _ E) rfl rfl rfl rfl) _).mono ?_;rintro e5 w5 ⟨rfl,y,l⟩;have Q:=Lh y;have O:=Lh l.1;have n:=Lh (p.o.mod l.2 j.o);clear y l;have hc:=n.o.cell;have hf:=n.o.frozen;(repeat revert K);refine vS ?_;intro K hK K hK;exact iN (k:=.opn) M.o Q.o O.o n.o rfl j.o HF.o (by simp only [aK,aO,aR,aW,Nat.reduceEqDiff,↓reduceIte] <;> rfl) (by simp only [aK,aO,aR,aW,Nat.reduceEqDiff,↓reduceIte] <;> rfl)
          | false=>
            have L:¬ (x.T.getD a 0 ≠ 32∧l6 (x.T.getD a 0)=true):=fun hh=>by have H:=hh.2;rw [← aA.o,Z] at H;cases H
            have M:=Lh (show pU ents 34 ((x.T.drop (C + 1)).length + 1) (x.T.drop (C + 1)) []=_ from X.o.trans (EN ents g b1.o b9.o L));clear L Z;(repeat revert K);refine vg ?_;intro K hK K hK K hK;refine (aC.o _ (by exact z.o) (by exact p.o) (by exact eE B.o rfl rfl rfl rfl)).mono ?_;rintro e7 V ⟨d,h7⟩;have G:=Lh (aL.mod (S:=fun k=>k=x.p) p.o (show aJ (fun k=>k=x.p) E V from ⟨d.os,d.tape,d.output,d.size,d.block⟩) j.o);have a0:=Lh (B.o.trans (show aJ (fun k=>k=x.p) E V from ⟨d.os,d.tape,d.output,d.size,d.block⟩) (fun _ _ h=>h));clear d;cases U:fJ ents (x.T.drop a) with
            | error k=>
              rw [U] at h7;obtain ⟨⟨T,D⟩,rfl⟩:=h7;have P:=Lh D;have R:=Lh (show dZ ents (x.T.drop c.at')=.error k by rw [W.o,M.o,U]);clear D;have hc:=G.o.cell;have hf:=G.o.frozen;(repeat revert K);refine vS ?_;intro K hK K hK;exact iN (k:=k) R.o P.o a0.o G.o rfl j.o HF.o (by simp only [aK,aO,aR,aW,Nat.reduceEqDiff,↓reduceIte] <;> rfl) (by simp only [aK,aO,aR,aW,Nat.reduceEqDiff,↓reduceIte] <;> rfl)
            | ok q=>
              rw [U] at h7;obtain ⟨t,r⟩:=q;obtain ⟨T,a9,I,a8,D,rfl⟩:=h7;have bA:r=x.T.drop T:=a9;subst bA;have P:=Lh (show aV x V { c with at':=T } from D);have N:=Lh I;have u:=Lh (show a < T by have:=nN U;rw [eC] at this;omega);have a3:=Lh (oL c5.o (by have:=HT.o;omega) U);have R:=Lh (M.o.trans (show _=pU ents 34 m' (x.T.drop T) (o ++ t) by rw [U]));have a2:¬ 9223372036854775807 < o.length + t.length:=by have:=HT.o;have:=b3.o;have:=b0.o;have:=a3.o;omega
              clear D U a9 I a8;(repeat revert K);refine vS ?_;intro K hK;refine Kk [0,2,4,5,7,8] fun f=>?_;rw [iF];exact d0.o _ _ ⟨x.T.length - T,by rw [HK.o];have:=u.o;have:=N.o;omega,HJ.o _ _ _ ⟨f,T,o ++ t,m',rfl,P.o,G.o,a0.o,rfl,N.o,by have:=c1.o;have:=u.o;omega,by have:=b3.o;have:=a3.o;have:=u.o;rw [fP];omega,by have:=d3.o;have:=u.o;have:=N.o;omega,R.o⟩⟩
      | false=>
        have hS:=Lh (gX x HT.o w4 { c with at':=C } hA.o f4.o [34] (by decide) b7);(repeat revert K);refine vg ?_;intro K hK K hK K hK;refine hS.o.mono ?_;rintro e5 w5 ⟨rfl,y,l⟩;have c6:=Lh (g9.o.trans l (fun _ _ h=>h));have c4:=Lh (g6.o.mod l j.o);have c7:=Lh (show aV x w5 { c with at':=C } from y);clear y l hS;go_simp;cases c2:([39]:Bs).isPrefixOf (x.T.drop C) with
        | false=>
          have HH:=Lh (gX x HT.o w5 { c with at':=C } c7.o f4.o [39] (by decide) c2);have M:=Lh (show dZ ents (x.T.drop c.at')=.error .bad by
            rw [c9.o];by_cases c8:C < x.T.length
            · have b4:¬ (x.T.getD C 0=34 ∨ x.T.getD C 0=39):=by
                rintro (hh|hh)
                · have H:=dC 34 x.T C c8
                  rw [b7,hh] at H;cases H
                · have H:=dC 39 x.T C c8
                  rw [c2,hh] at H;cases H
              rw [bV x.T C c8];simp only [aQ b4]
            · rw [tW (by omega)])
          clear c2 b7;(repeat revert K);refine vg ?_;intro K hK K hK K hK;refine HH.o.mono ?_;rintro e3 E ⟨rfl,F,A⟩;have B:=Lh (c6.o.trans A (fun _ _ h=>h));have p:=Lh (c4.o.mod A j.o);have g7:=Lh (JM x w E E { c with at':=C } F B.o (aJ.refl _ E) 1);clear F A HH;(repeat revert K);refine vS ?_;intro K hK K hK K hK;refine g7.o.mono ?_;rintro e5 w5 ⟨rfl,y,l⟩;have Q:=Lh y;have O:=Lh l.1;have n:=Lh (p.o.mod l.2 j.o);clear y l;have hc:=n.o.cell;have hf:=n.o.frozen;(repeat revert K);refine vS ?_;intro K hK;exact iN (k:=.bad) M.o Q.o O.o n.o rfl j.o HF.o (by simp only [aK,aO,aR,aW,Nat.reduceEqDiff,↓reduceIte] <;> rfl) (by simp only [aK,aO,aR,aW,Nat.reduceEqDiff,↓reduceIte] <;> rfl)
        | true=>
          have HH:=Lh (iE x HT.o w5 { c with at':=C } c7.o f4.o [39] (by decide) c2);have g:=kQ c2 (by decide);have W := Lh (show dZ ents (x.T.drop c.at') = match pU ents 39 ((x.T.drop (C + 1)).length + 1) (x.T.drop (C + 1)) [] with
                | .error e=>.error e
                | .ok (v,r4)=>.ok ((nm.1,nm.2,v),r4) by
            have H:=dC 39 x.T C g;rw [c2] at H;have b4:x.T.getD C 0=39:=(beq_iff_eq.1 H.symm).symm;rw [c9.o,bV x.T C g,b4];rfl)
          have d2:=Lh (show C + 1 ≤ x.T.length from g);clear b7 c2 g hA g9 g6;(repeat revert K);refine vg ?_;intro K hK K hK K hK;refine HH.o.mono ?_;rintro e6 w6 ⟨rfl,i1,hL⟩;have c7:=Lh (show aV x w6 { c with at':=C + 1 } from i1);have c6:=Lh (c6.o.trans hL (fun _ _ h=>h));have c4:=Lh (c4.o.mod hL j.o);clear i1 hL HH;(repeat revert K);refine vS ?_;intro K hK;refine cG [0,2,4,5,7,8] fun f=>?_;refine wp_loop_ghost_k (UZ x c ents 39 b2 nm (C + 1) ((x.T.drop (C + 1)).length + 1) w) (x.T.length - (C + 1)) ⟨f,C + 1,[],(x.T.drop (C + 1)).length + 1,rfl,c7.o,c4.o,c6.o,rfl,d2.o,by have:=hR.o;omega,jU _,by rw [eC];omega,rfl⟩ ?_;rintro k _ w2 ⟨f,a,o,m,rfl,hp,b5,hm,hk,d8,d7,e8,d9,f1⟩ J K2 hJ d4;obtain ⟨m',rfl⟩:∃ m',m=m' + 1:=⟨m - 1,by omega⟩;have ⟨HJ,d0,HP,HB,HM,HK⟩:=gT hJ d4 hp b5 hm hk;have ⟨b0,c1,b3,d3,X⟩:=pM d8 d7 e8 d9 f1;clear hJ d4 hp b5 hm hk d8 d7 e8 d9 f1;have cT:=Lh (fun (E w':World) (h1:aV x w' { c with at':=a }) (h2:aJ (fun k=>k=x.p) w w') (h3:aJ (fun k=>k=x.p) E w') (v:Int)=>JM x w E w' { c with at':=a } h1 h2 h3 v);cases hq:([39]:Bs).isPrefixOf (x.T.drop a) with
          | true=>
            have HH:=Lh (iE x HT.o w2 { c with at':=a } HP.o b0.o [39] (by decide) hq);have g:=kQ hq (by decide);have d5:x.T.getD a 0=39:=by
              have H:=dC 39 x.T a g;rw [hq] at H;exact (beq_iff_eq.1 H.symm).symm
            have M:=Lh (show dZ ents (x.T.drop c.at')=.ok ((nm.1,nm.2,o),x.T.drop (a + 1)) by rw [W.o,X.o,G0 ents g d5]);have d1:=Lh g;clear hq g d5;revert K;refine vg ?_;intro K hK K hK K hK K hK;refine HH.o.mono ?_;rintro e3 E ⟨rfl,F,A⟩;have z:=Lh (show aV x E { c with at':=a + 1 } from F);have p:=Lh (HB.o.mod A j.o);have B:=Lh (HM.o.trans A (fun _ _ h=>h));clear F A HH;have hc:=p.o.cell;have hf:=p.o.frozen;(repeat revert K);refine vS ?_;exact EQ (v:=(nm.1,nm.2,o)) M.o d1.o (by have:=c1.o;omega) z.o B.o p.o rfl j.o HF.o (by simp only [aK,aO,aR,aW,Nat.reduceEqDiff,↓reduceIte] <;> rfl) (by simp only [aK,aO,aR,aW,Nat.reduceEqDiff,↓reduceIte] <;> rfl)
          | false=>
            have HH:=Lh (gX x HT.o w2 { c with at':=a } HP.o b0.o [39] (by decide) hq);revert K;refine vg ?_;intro K hK K hK K hK K hK;refine HH.o.mono ?_;rintro e3 E ⟨rfl,F,A⟩;have z:=Lh (show aV x E { c with at':=a } from F);have p:=Lh (HB.o.mod A j.o);have B:=Lh (HM.o.trans A (fun _ _ h=>h));clear F A HH;go_simp;by_cases g:a < x.T.length
            rotate_left
            · have bC:=Lh (fun kk=>nU x (E.drewN kk) { c with at':=a } z.o (by simp;omega))
              have M:=Lh (show dZ ents (x.T.drop c.at')=.error .bad by rw [W.o,X.o,GZ ents (by omega)]);(repeat revert K);refine vg ?_;intro K hK K hK K hK;(refine lD [0,2,0,0,0,0,1,0,0,0,1,0,0,0] [0,1,2,3,4,5,6,7,8,9,10,11,12,13] ?_;refine vP ?_;repeat with_reducible intro nq)
              refine bI rfl rfl (fun nq K hK=>?_);go_simp;refine (bC.o _).mono ?_;rintro e4 w4 ⟨rfl,k4,rfl⟩;go_simp;refine hK.out _ _ ?_;clear hK K;(refine vP ?_;repeat with_reducible intro nq)
              (repeat revert K);refine vg ?_;intro K hK K hK K hK K hK;refine (cT.o E _ (by exact z.o) (by exact eE B.o rfl rfl rfl rfl) (by exact eE (aJ.refl _ E) rfl rfl rfl rfl) _).mono ?_;rintro e5 w5 ⟨rfl,y,l⟩;have Q:=Lh y;have O:=Lh l.1;have n:=Lh (p.o.mod l.2 j.o);clear y l;have hc:=n.o.cell;have hf:=n.o.frozen;(repeat revert K);refine vS ?_;intro K hK K hK;exact iN (k:=.bad) M.o Q.o O.o n.o rfl j.o HF.o (by simp only [aK,aO,aR,aW,Nat.reduceEqDiff,↓reduceIte] <;> rfl) (by simp only [aK,aO,aR,aW,Nat.reduceEqDiff,↓reduceIte] <;> rfl)
            have e0:¬ x.T.getD a 0=39:=by
              intro hh;have H:=dC 39 x.T a g;rw [hq,hh] at H;simp at H
            have b1:=Lh e0;have bC:=Lh (fun kk=>nV x (E.drewN kk) { c with at':=a } z.o g);have t0:(0:Int) ≤ (a:Int):=by omega
            have t1:(a:Int) < (x.T.length:Int):=by omega
            obtain ⟨b,hb⟩:=cK (x.T.getD a 0);have ix:∀ h,(⟨x.T.toArray⟩:ByteArray)[a]'h=b:=by rw [hb];exact iL x.T a g
            have aA:=Lh hb;clear hb e0 hq;by_cases a5:b=60
            · have M:=Lh (show dZ ents (x.T.drop c.at')=.error .bad by rw [W.o,X.o,PP ents g b1.o (by rw [← aA.o];exact a5)])
              subst a5;(repeat revert K);refine vg ?_;intro K hK K hK K hK;(refine lD [0,2,0,0,0,0,1,0,0,0,1,0,0,0] [0,1,2,3,4,5,6,7,8,9,10,11,12,13] ?_;refine vP ?_;repeat with_reducible intro nq)
              refine bI rfl rfl (fun nq K hK=>?_);go_simp;refine (bC.o _).mono ?_;rintro e4 w4 ⟨rfl,k4,rfl⟩;have hc:=z.o.cell;have hf:=z.o.frozen;go_simp;refine hK.out _ _ ?_;clear hK K;(refine vP ?_;repeat with_reducible intro nq)
              clear hc hf;(repeat revert K);refine vg ?_;intro K hK K hK K hK K hK;refine (cT.o E _ (by exact z.o) (by exact eE B.o rfl rfl rfl rfl) (by exact eE (aJ.refl _ E) rfl rfl rfl rfl) _).mono ?_;rintro e5 w5 ⟨rfl,y,l⟩;have Q:=Lh y;have O:=Lh l.1;have n:=Lh (p.o.mod l.2 j.o);clear y l;have hc:=n.o.cell;have hf:=n.o.frozen;(repeat revert K);refine vS ?_;intro K hK K hK;exact iN (k:=.bad) M.o Q.o O.o n.o rfl j.o HF.o (by simp only [aK,aO,aR,aW,Nat.reduceEqDiff,↓reduceIte] <;> rfl) (by simp only [aK,aO,aR,aW,Nat.reduceEqDiff,↓reduceIte] <;> rfl)
            have h4:((b.toNat:Int) == 60)=false:=nK a5;have b9:=Lh (show ¬ x.T.getD a 0=60 by rw [← aA.o];exact a5);clear a5;(repeat revert K);refine vg ?_;intro K hK K hK K hK;(refine lD [0,2,0,0,0,0,1,0,0,0,1,0,0,0] [0,1,2,3,4,5,6,7,8,9,10,11,12,13] ?_;refine vP ?_;repeat with_reducible intro nq)
            refine bI rfl rfl (fun nq K hK=>?_);go_simp;refine (bC.o _).mono ?_;rintro e4 w4 ⟨rfl,k4,rfl⟩;have hc:=z.o.cell;have hf:=z.o.frozen;go_simp;refine hK.out _ _ ?_;clear hK K;(refine vP ?_;repeat with_reducible intro nq)
            (repeat revert K);refine vg ?_;intro K hK K hK K hK;go_quiet (fail);clear hc hf;have a6:∀ V,aV x V { c with at':=a } → aL V b2 W6 68 → aJ (fun k=>k=x.p) w V → Calls prog 47 #[iU x] V fun e w8=>eR x V { c with at':=a } (fun s=>.returned (.tuple #[aB s,.bool true])) (.returned (.tuple #[aB [],.bool false])) (fJ ents (x.T.drop a)) e w8:=fun V h1 _ h3=>
              CE x HT.o b6 f6.o ents c5.o V { c with at':=a } h1 g (HE.o.below (aJ.below (Below.refl _ w) hQ.o h3 (fun i hi=>by rw [hi];exact f6.o)))
            have aC:=Lh a6;clear a6;have hB:=Lh (fun w=>uM b w);by_cases Y:b=32
            · have L:¬ (x.T.getD a 0 ≠ 32∧l6 (x.T.getD a 0)=true):=fun hh=>hh.1 (by rw [← aA.o];exact Y)
              have M:=Lh (show pU ents 39 ((x.T.drop (C + 1)).length + 1) (x.T.drop (C + 1)) []=_ from X.o.trans (EN ents g b1.o b9.o L));have d6:((b.toNat:Int) != 32)=false:=by rw [Y];rfl
              clear L Y;(repeat revert K);refine vg ?_;intro K hK K hK K hK;refine (aC.o _ (by exact z.o) (by exact p.o) (by exact eE B.o rfl rfl rfl rfl)).mono ?_;rintro e7 V ⟨d,h7⟩;have G:=Lh (aL.mod (S:=fun k=>k=x.p) p.o (show aJ (fun k=>k=x.p) E V from ⟨d.os,d.tape,d.output,d.size,d.block⟩) j.o);have a0:=Lh (B.o.trans (show aJ (fun k=>k=x.p) E V from ⟨d.os,d.tape,d.output,d.size,d.block⟩) (fun _ _ h=>h));clear d;cases U:fJ ents (x.T.drop a) with
              | error k=>
                rw [U] at h7;obtain ⟨⟨T,D⟩,rfl⟩:=h7;have P:=Lh D;have R:=Lh (show dZ ents (x.T.drop c.at')=.error k by rw [W.o,M.o,U]);clear D;have hc:=G.o.cell;have hf:=G.o.frozen;(repeat revert K);refine vS ?_;intro K hK K hK;exact iN (k:=k) R.o P.o a0.o G.o rfl j.o HF.o (by simp only [aK,aO,aR,aW,Nat.reduceEqDiff,↓reduceIte] <;> rfl) (by simp only [aK,aO,aR,aW,Nat.reduceEqDiff,↓reduceIte] <;> rfl)
              | ok q=>
                rw [U] at h7;obtain ⟨t,r⟩:=q;obtain ⟨T,a9,I,a8,D,rfl⟩:=h7;have bA:r=x.T.drop T:=a9;subst bA;have P:=Lh (show aV x V { c with at':=T } from D);have N:=Lh I;have u:=Lh (show a < T by have:=nN U;rw [eC] at this;omega);have a3:=Lh (oL c5.o (by have:=HT.o;omega) U);have R:=Lh (M.o.trans (show _=pU ents 39 m' (x.T.drop T) (o ++ t) by rw [U]));have a2:¬ 9223372036854775807 < o.length + t.length:=by have:=HT.o;have:=b3.o;have:=b0.o;have:=a3.o;omega
                clear D U a9 I a8;(repeat revert K);refine vS ?_;intro K hK;refine Kk [0,2,4,5,7,8] fun f=>?_;rw [iF];exact d0.o _ _ ⟨x.T.length - T,by rw [HK.o];have:=u.o;have:=N.o;omega,HJ.o _ _ _ ⟨f,T,o ++ t,m',rfl,P.o,G.o,a0.o,rfl,N.o,by have:=c1.o;have:=u.o;omega,by have:=b3.o;have:=a3.o;have:=u.o;rw [fP];omega,by have:=d3.o;have:=u.o;have:=N.o;omega,R.o⟩⟩
            have d6:((b.toNat:Int) != 32)=true:=PN Y;have g5:=Lh Y;clear Y;(repeat revert K);refine vg ?_;intro K hK K hK K hK K hK;refine (hB.o _).mono ?_;rintro e5 w5 ⟨rfl,rfl⟩;go_simp;cases Z:l6 b with
            | true=>
              have M:=Lh (show dZ ents (x.T.drop c.at')=.error .opn by rw [W.o,X.o,PQ ents g b1.o b9.o (by rw [← aA.o];exact ⟨g5.o,Z⟩)]);(repeat revert K);refine vg ?_;intro K hK K hK K hK K hK;refine (cT.o E _ (by exact z.o) (by exact eE B.o rfl rfl rfl rfl) (by exact eE (aJ.refl _ E) rfl rfl rfl rfl) _).mono ?_;rintro e5 w5 ⟨rfl,y,l⟩;have Q:=Lh y;have O:=Lh l.1;have n:=Lh (p.o.mod l.2 j.o);clear y l;have hc:=n.o.cell;have hf:=n.o.frozen;(repeat revert K);refine vS ?_;intro K hK K hK;exact iN (k:=.opn) M.o Q.o O.o n.o rfl j.o HF.o (by simp only [aK,aO,aR,aW,Nat.reduceEqDiff,↓reduceIte] <;> rfl) (by simp only [aK,aO,aR,aW,Nat.reduceEqDiff,↓reduceIte] <;> rfl)
            | false=>
              have L:¬ (x.T.getD a 0 ≠ 32∧l6 (x.T.getD a 0)=true):=fun hh=>by have H:=hh.2;rw [← aA.o,Z] at H;cases H
              have M:=Lh (show pU ents 39 ((x.T.drop (C + 1)).length + 1) (x.T.drop (C + 1)) []=_ from X.o.trans (EN ents g b1.o b9.o L));clear L Z;(repeat revert K);refine vg ?_;intro K hK K hK K hK;refine (aC.o _ (by exact z.o) (by exact p.o) (by exact eE B.o rfl rfl rfl rfl)).mono ?_;rintro e7 V ⟨d,h7⟩;have G:=Lh (aL.mod (S:=fun k=>k=x.p) p.o (show aJ (fun k=>k=x.p) E V from ⟨d.os,d.tape,d.output,d.size,d.block⟩) j.o);have a0:=Lh (B.o.trans (show aJ (fun k=>k=x.p) E V from ⟨d.os,d.tape,d.output,d.size,d.block⟩) (fun _ _ h=>h));clear d;cases U:fJ ents (x.T.drop a) with
              | error k=>
                rw [U] at h7;obtain ⟨⟨T,D⟩,rfl⟩:=h7;have P:=Lh D;have R:=Lh (show dZ ents (x.T.drop c.at')=.error k by rw [W.o,M.o,U]);clear D;have hc:=G.o.cell;have hf:=G.o.frozen;(repeat revert K);refine vS ?_;intro K hK K hK;exact iN (k:=k) R.o P.o a0.o G.o rfl j.o HF.o (by simp only [aK,aO,aR,aW,Nat.reduceEqDiff,↓reduceIte] <;> rfl) (by simp only [aK,aO,aR,aW,Nat.reduceEqDiff,↓reduceIte] <;> rfl)
              | ok q=>
                rw [U] at h7;obtain ⟨t,r⟩:=q;obtain ⟨T,a9,I,a8,D,rfl⟩:=h7;have bA:r=x.T.drop T:=a9;subst bA;have P:=Lh (show aV x V { c with at':=T } from D);have N:=Lh I;have u:=Lh (show a < T by have:=nN U;rw [eC] at this;omega);have a3:=Lh (oL c5.o (by have:=HT.o;omega) U);have R:=Lh (M.o.trans (show _=pU ents 39 m' (x.T.drop T) (o ++ t) by rw [U]));have a2:¬ 9223372036854775807 < o.length + t.length:=by have:=HT.o;have:=b3.o;have:=b0.o;have:=a3.o;omega
                clear D U a9 I a8;(repeat revert K);refine vS ?_;intro K hK;refine Kk [0,2,4,5,7,8] fun f=>?_;rw [iF];exact d0.o _ _ ⟨x.T.length - T,by rw [HK.o];have:=u.o;have:=N.o;omega,HJ.o _ _ _ ⟨f,T,o ++ t,m',rfl,P.o,G.o,a0.o,rfl,N.o,by have:=c1.o;have:=u.o;omega,by have:=b3.o;have:=a3.o;have:=u.o;rw [fP];omega,by have:=d3.o;have:=u.o;have:=N.o;omega,R.o⟩⟩
end Go.Proofs.YthapcchcahnfaaaGreatDoor
