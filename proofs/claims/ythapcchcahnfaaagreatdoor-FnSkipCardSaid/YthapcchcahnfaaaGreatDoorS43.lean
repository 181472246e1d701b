/- Part of the proof that laws.FnSkip returns true for every argument. No conditions. -/
import Derived.Test.YthapcchcahnfaaaGreatDoorS36
import Derived.Test.YthapcchcahnfaaaGreatDoorS40
set_option linter.all false
set_option maxHeartbeats 8000000
set_option maxRecDepth 100000
namespace Go.Proofs.YthapcchcahnfaaaGreatDoor
open Go Go.RowKit
theorem W7 {T:Bs} {a:Nat} (h:T.length≤a):lZ (T.drop a)=none:=by rw [tW h];rfl
theorem ZU {T:Bs} {a:Nat} (b:a<T.length) (h:T.getD a 0=62):lZ (T.drop a)=some (T.drop (a+1)):=by
 rw [bV T a b];unfold lZ;rw [aY h]
theorem ZV {T:Bs} {a:Nat} (c:a<T.length) (h:¬ T.getD a 0=62) (b:T.getD a 0=60∨T.getD a 0=91∨T.getD a 0=34∨T.getD a 0=39):lZ (T.drop a)=none:=by
 rw [bV T a c];unfold lZ;rw [aQ h,aY b]
theorem ZW {T:Bs} {a:Nat} (c:a<T.length) (h:¬ T.getD a 0=62) (b:¬ (T.getD a 0=60∨T.getD a 0=91∨T.getD a 0=34∨T.getD a 0=39)):lZ (T.drop a)=lZ (T.drop (a+1)):=by
 rw [bV T a c];conv=>lhs;unfold lZ
 rw [aQ h,aQ b]
def ZX (x:PX) (c:PC) (b:Nat) (w0:World) (k:Nat) (d:Act) (w:World):Prop:=
 ∃ f a,d=fr 103 f [(0,iU x),(3,.int .i64 (c.at':Nat))]∧aV x w { c with at':=a }∧aJ (fun k=>k=x.p) w0 w∧k=x.T.length-a∧a≤x.T.length∧c.at'≤a∧lZ (x.T.drop b)=lZ (x.T.drop a)
theorem G1 (x:PX) (hT:x.T.length≤1000000000) (z:Nat) (w:World) (c:PC) (opens:List Bs) (bound:List aM) (out:List bS) (h:dK x z w c opens bound out) (R:out.length≤1000000000) (ha:c.at'≤x.T.length) :
  Calls Tryz.prog 31 #[iU x] w (fU x z out w (mY (fun d=>.dir (rK++d)) opens bound (oY (x.T.drop c.at')))):=by
 have hc:=h.blk.cell;have hf:=h.blk.frozen;have ⟨H,X,HA,a8⟩:=kS h hT ha R;have a5:=Lh (mL x hT w c h.blk ha)
 have q:=Lh (show oY (x.T.drop c.at')=if (aT (x.T.drop c.at')).length=(x.T.drop c.at').length∨eD (aD (aT (x.T.drop c.at'))).1=false then .error .opn
  else match lZ (aD (aT (x.T.drop c.at'))).2 with
   | none=>.error .opn
   | some r=>if lK ((x.T.drop c.at').take ((x.T.drop c.at').length-r.length-1)) then .ok ((x.T.drop c.at').take ((x.T.drop c.at').length-r.length-1),r) else .error .opn from rfl)
 clear h hT ha R;refine eL 103 Tryz.func31 [_] fun f=>?_;simp only [aF];refine vg ?_;intro K hK K hK K hK;refine a5.o.mono ?_;rintro e1 w1 ⟨y,rfl,aA,b7,A,O,c1⟩;have c8:=Lh (show aV x w1 { c with at':=y } from aA);have ⟨bA,c6⟩:=cB b7 A;have b2:=Lh (B8 x X.o w1 { c with at':=y } aA A);rw [c1,eC,eC] at q;have a7:=Lh O;clear aA b7 A O c1 a5 hc hf;go_simp;by_cases D:c.at'<y
 rotate_left
 ·have hd:decide (c.at'<y)=false:=decide_eq_false D;have W:=Lh (q.o.trans (aY (aG (by have:=a7.o;omega))));have HF:=Lh (gW x w w1 { c with at':=y } c8.o bA.o 2);clear D;(repeat revert K);refine vg ?_;intro K hK K hK K hK;refine HF.o.mono ?_;rintro e6 w6 ⟨rfl,i,g⟩;have ⟨n,m⟩:=cB i g;clear i g;(repeat revert K);refine vS ?_;intro K hK;refine cM ?_;exact fU.err (w1:=w) (k:=.opn) H.o n.o m.o (by rw [W.o];rfl)
 have hd:decide (c.at'<y)=true:=decide_eq_true D;have b1:=Lh D;clear D;(repeat revert K);refine vg ?_;intro K hK K hK K hK;refine b2.o.mono ?_;rintro e2 w2 ⟨a2,rfl,cT,b9,Q,P,aC⟩;rw [show ({ c with at':=y }:PC).at'=y from rfl] at aC ⊢;have b0:=Lh (show aV x w2 { c with at':=a2 } from cT);have bC:=Lh (bA.o.trans b9 (fun _ _ h=>h));have c7:=Lh Q;have c3:=Lh (show y≤a2 from P);obtain ⟨s,hs⟩:=cK ((aD (x.T.drop y)).1);have c9:=Lh (show s.length≤1000000000 by have Y:=qN (x.T.drop y);have h2:=X.o;rw [eC,←hs] at Y;omega);rw [aC,←hs] at q;rw [←hs];have c4:=Lh (fun w=>uO s c9.o w);clear cT b9 Q P aC hs b2;(repeat revert K);refine vS ?_;intro K hK K hK K hK;refine (c4.o _).mono ?_;rintro e3 T ⟨rfl,rfl⟩;go_simp;cases Z:eD s with
 | false=>
  have W:=Lh (q.o.trans (aY (aU Z)));have HF:=Lh (gW x w T { c with at':=a2 } b0.o bC.o 2);(repeat revert K);refine vg ?_;intro K hK K hK K hK;refine HF.o.mono ?_;rintro e6 w6 ⟨rfl,i,g⟩;have ⟨n,m⟩:=cB i g;clear i g;(repeat revert K);refine vS ?_;intro K hK;refine cM ?_;exact fU.err (w1:=w) (k:=.opn) H.o n.o m.o (by rw [W.o];rfl)
 | true=>
  have u:=Lh (q.o.trans (aQ (fun hh=>hh.elim (fun h=>by have:=b1.o;have:=c6.o;omega) (fun h=>by rw [Z] at h;cases h))));clear q Z;(repeat revert K);refine vg ?_;intro K hK;refine cG [0,3] fun f=>?_;refine wp_loop_ghost_k (ZX x c a2 w) (x.T.length-a2) ⟨f,a2,rfl,b0.o,bC.o,rfl,c7.o,by have:=c3.o;have:=b1.o;omega,rfl⟩ ?_;clear hd;rintro k _ w2 ⟨f,a,rfl,hp,hm,hk,b6,b5,b4⟩ J K2 hJ b3;have ⟨HJ,c5,HP,HM,HK,V⟩:=gT hJ b3 hp hm hk b6;have ⟨U,F⟩:=cB b5 b4;clear hJ b3 hp hm hk b6 b5 b4;have a6:=Lh (fun (w':World) (Y:aV x w' { c with at':=a }) (h2:aJ (fun k=>k=x.p) w w') (v:Int)=>gW x w w' { c with at':=a } Y h2 v);cases o:([62]:Bs).isPrefixOf (x.T.drop a) with
  | true=>
   have HH:=Lh (iE x X.o w2 { c with at':=a } HP.o V.o [62] (by decide) o);have l:=kQ o (by decide);have hb:x.T.getD a 0=62:=by
    have h9:=dC 62 x.T a l;rw [o] at h9;exact (beq_iff_eq.1 h9.symm).symm
   obtain ⟨E,I⟩:=cK ((x.T.drop c.at').take (a-c.at'));have L:=Lh (show oY (x.T.drop c.at')=if lK E then .ok (E,x.T.drop (a+1)) else .error .opn by
    have e9:x.T.length-c.at'-(x.T.length-(a+1))-1=a-c.at':=by have:=U.o;omega
    rw [u.o,F.o,ZU l hb];simp only [eC,e9,←I])
   have N:=Lh (show E.length≤1000000000 by rw [I,pI,eC];have:=X.o;omega);have a9:=Lh l;have HV:=Lh (fun w=>GT E N.o w);clear o l hb;revert K;refine vg ?_;intro K hK K hK K hK K hK;refine HH.o.mono ?_;rintro e3 T ⟨rfl,C,B⟩;have e:=Lh (show aV x T { c with at':=a+1 } from C);have t:=Lh (HM.o.trans B (fun _ _ h=>h));clear C B HH;have hc:=e.o.cell;have hf:=e.o.frozen;have z1:(0:Int)≤(c.at':Int):=by omega
   have dT:IntKind.i64.wrap (a:Int)=(a:Int):=by rw [IntKind.wrap_i64];have h8:=a9.o;have h9:=X.o;omega
   have z2:(c.at':Int)≤(a:Int):=by have:=U.o;omega
   have z3:(a:Int)≤(x.T.length:Int):=by have:=V.o;omega
   (repeat revert K);refine vS ?_;intro K hK;(refine lD [0,0,0,1,0,0,0,0,1,0,0,0] [0,1,2,3,4,5,6,7,8,9,10,11] ?_;refine vP ?_;repeat with_reducible intro nq)
   rw [kP,←I];clear I hc hf z1 z2 z3;revert K;refine vg ?_;intro K hK K hK K hK;refine (HV.o _).mono ?_;rintro e5 w5 ⟨rfl,rfl⟩;go_simp;cases hv:lK E with
   | true=>
    have a0:=Lh (fun (w5:World) (Y:aV x w5 { c with at':=a+1 }) (h2:aJ (fun k=>k=x.p) w w5)=>rA x z w w5 c opens bound out H.o a8.o (a+1) a9.o Y h2 (.dir (rK++E)) rfl (mY (fun d=>.dir (rK++d)) opens bound (oY (x.T.drop c.at'))) (by rw [L.o,aY hv];rfl));have a3:¬ 9223372036854775807<7+E.length:=by have:=N.o;omega
    (repeat revert K);refine vg ?_;intro K hK K hK;rw [show (⟨#[68,79,67,84,89,80,69]⟩:ByteArray)++⟨E.toArray⟩=⟨(rK++E).toArray⟩ from iF rK E];refine (a0.o _ (by exact e.o) (by exact eE t.o rfl rfl rfl rfl)).mono ?_;rintro e6 w6 ⟨rfl,h6⟩;have H6:=Lh h6;clear h6;(repeat revert K);refine vS ?_;refine cM ?_;exact H6.o
   | false=>
    have HF:=Lh (fun (w':World) (Y:aV x w' { c with at':=a+1 }) (h2:aJ (fun k=>k=x.p) w w') (v:Int)=>gW x w w' { c with at':=a+1 } Y h2 v);(repeat revert K);refine vg ?_;intro K hK K hK K hK;refine (HF.o _ (by exact e.o) (by exact eE t.o rfl rfl rfl rfl) _).mono ?_;rintro e6 w6 ⟨rfl,i,g⟩;have ⟨n,m⟩:=cB i g;clear i g;(repeat revert K);refine vS ?_;intro K hK;refine cM ?_;exact fU.err (w1:=w) (k:=.opn) H.o n.o m.o (by rw [L.o,aQ (by rw [hv];simp)];rfl)
  | false=>
   have HH:=Lh (gX x X.o w2 { c with at':=a } HP.o V.o [62] (by decide) o);revert K;refine vg ?_;intro K hK K hK K hK K hK;refine HH.o.mono ?_;rintro e3 T ⟨rfl,C,B⟩;have e:=Lh (show aV x T { c with at':=a } from C);have t:=Lh (HM.o.trans B (fun _ _ h=>h));clear C B HH;go_simp;by_cases l:a<x.T.length
   rotate_left
   ·have W:=Lh (show oY (x.T.drop c.at')=.error .opn by rw [u.o,F.o,W7 (by omega)]);have G:=Lh (fun kk=>nU x (T.drewN kk) { c with at':=a } e.o (by simp;omega));clear o;(repeat revert K);refine vg ?_;intro K hK K hK K hK;(refine lD [0,2,0,0,0,0,1,0,0,0,1,0,0,0,0,0,0,0,1,0,0,0,1,0,0,0,0,0,0,0,1,0,0,0,1,0,0,0,0,0,0,0,1,0,0,0,1,0,0,0] [0,1,2,3,4,5,6,7,8,9,10,11,12,13,14,15,16,17,18,19,20,21,22,23,24,25,26,27,28,29,30,31,32,33,34,35,36,37,38,39,40,41,42,43,44,45,46,47,48,49] ?_;refine vP ?_;repeat with_reducible intro nq)
    refine bI rfl rfl (fun nq K hK=>?_);go_simp;refine (G.o _).mono ?_;rintro e4 w4 ⟨rfl,k4,rfl⟩;go_simp;refine hK.out _ _ ?_;clear hK K;(refine vP ?_;repeat with_reducible intro nq)
    (repeat revert K);refine vg ?_;intro K hK K hK K hK K hK;refine (a6.o _ (by exact e.o) (by exact eE t.o rfl rfl rfl rfl) _).mono ?_;rintro e6 w6 ⟨rfl,i,g⟩;have ⟨n,m⟩:=cB i g;clear i g;(repeat revert K);refine vS ?_;intro K hK K hK;refine cM ?_;exact fU.err (w1:=w) (k:=.opn) H.o n.o m.o (by rw [W.o];rfl)
   have M:=Lh (show ¬ x.T.getD a 0=62 by
    intro hh;have h9:=dC 62 x.T a l;rw [o,hh] at h9;cases h9)
   have G:=Lh (fun kk=>nV x (T.drewN kk) { c with at':=a } e.o l);have t0:(0:Int)≤(a:Int):=by omega
   have t1:(a:Int)<(x.T.length:Int):=by omega
   have dI:IntKind.i64.wrap ((a:Int)+1)=((a+1:Nat):Int):=by rw [IntKind.wrap_i64];have:=X.o;omega
   obtain ⟨b,hb⟩:=cK (x.T.getD a 0);have ix:∀ h,(⟨x.T.toArray⟩:ByteArray)[a]'h=b:=by rw [hb];exact iL x.T a l
   have a4:=Lh hb;clear hb o;by_cases j:b=60∨b=91∨b=34∨b=39
   ·have W:=Lh (show oY (x.T.drop c.at')=.error .opn by rw [u.o,F.o,ZV l M.o (by rw [←a4.o];exact j)]);rcases j with rfl|rfl|rfl|rfl
    all_goals
     (repeat revert K);refine vg ?_;intro K hK K hK K hK;(refine lD [0,2,0,0,0,0,1,0,0,0,1,0,0,0,0,0,0,0,1,0,0,0,1,0,0,0,0,0,0,0,1,0,0,0,1,0,0,0,0,0,0,0,1,0,0,0,1,0,0,0] [0,1,2,3,4,5,6,7,8,9,10,11,12,13,14,15,16,17,18,19,20,21,22,23,24,25,26,27,28,29,30,31,32,33,34,35,36,37,38,39,40,41,42,43,44,45,46,47,48,49] ?_;refine vP ?_;repeat with_reducible intro nq)
     refine bI rfl rfl (fun nq K hK=>?_);go_simp;refine (G.o _).mono ?_;rintro e4 w4 ⟨rfl,k4,rfl⟩;have hc:=e.o.cell;have hf:=e.o.frozen;go_simp;refine hK.out _ _ ?_;clear hK K;(refine vP ?_;repeat with_reducible intro nq)
     clear hc hf;(repeat revert K);refine vg ?_;intro K hK K hK K hK K hK;refine (a6.o _ (by exact e.o) (by exact eE t.o rfl rfl rfl rfl) _).mono ?_;rintro e6 w6 ⟨rfl,i,g⟩;have ⟨n,m⟩:=cB i g;clear i g;(repeat revert K);refine vS ?_;intro K hK K hK;refine cM ?_;exact fU.err (w1:=w) (k:=.opn) H.o n.o m.o (by rw [W.o];rfl)
   ·have n1:((b.toNat:Int)==60)=false:=nK (fun h=>j (aG h));have n2:((b.toNat:Int)==91)=false:=nK (fun h=>j (aU (aG h)));have n3:((b.toNat:Int)==34)=false:=nK (fun h=>j (aU (aU (aG h))));have n4:((b.toNat:Int)==39)=false:=nK (fun h=>j (aU (aU (aU h))));have c2:=Lh (F.o.trans (ZW l M.o (by rw [←a4.o];exact j)));clear j;(repeat revert K);refine vg ?_;intro K hK K hK K hK;(refine lD [0,2,0,0,0,0,1,0,0,0,1,0,0,0,0,0,0,0,1,0,0,0,1,0,0,0,0,0,0,0,1,0,0,0,1,0,0,0,0,0,0,0,1,0,0,0,1,0,0,0] [0,1,2,3,4,5,6,7,8,9,10,11,12,13,14,15,16,17,18,19,20,21,22,23,24,25,26,27,28,29,30,31,32,33,34,35,36,37,38,39,40,41,42,43,44,45,46,47,48,49] ?_;refine vP ?_;repeat with_reducible intro nq)
    refine bI rfl rfl (fun nq K hK=>?_);go_simp;refine (G.o _).mono ?_;rintro e4 w4 ⟨rfl,k4,rfl⟩;have hc:=e.o.cell;have hf:=e.o.frozen;go_simp;refine hK.out _ _ ?_;clear hK K;(refine vP ?_;repeat with_reducible intro nq)
    (repeat revert K);refine vg ?_;intro K hK;refine Kk [0,3] fun f=>?_;exact c5.o _ _ ⟨x.T.length-(a+1),by rw [HK.o];omega,HJ.o _ _ _ ⟨f,a+1,rfl,aL.set (w:=T.drewN _) (cs:=fN x { c with at':=a }) e.o 1 _,aJ.setCell (S:=fun k=>k=x.p) (t.o.drewN _) (p:=⟨x.p,1,none⟩) (aG rfl) _,rfl,l,by have:=U.o;omega,c2.o⟩⟩
end Go.Proofs.YthapcchcahnfaaaGreatDoor
