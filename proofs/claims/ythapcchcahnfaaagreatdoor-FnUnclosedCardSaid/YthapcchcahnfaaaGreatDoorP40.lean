/- Part of the proof that laws.FnStrictIsLoose, laws.FnUnclosed, laws.FnReaderFails, laws.FnWithin, laws.FnSkip returns true for every argument. No conditions. -/
import Derived.Test.YthapcchcahnfaaaGreatDoorP35
set_option linter.all false
set_option maxHeartbeats 8000000
set_option maxRecDepth 100000
namespace Go.Proofs.YthapcchcahnfaaaGreatDoor
open Go Go.RowKit
theorem Ac {T:Bs} {a:Nat} (h:T.length≤a):mP (T.drop a)=none:=by rw [vN h];rfl
theorem Dz {T:Bs} {a:Nat} (b:a<T.length) (h:T.getD a 0=62):mP (T.drop a)=some (T.drop (a+1)):=by
 rw [cF T a b];unfold mP;rw [aV h]
theorem Ea {T:Bs} {a:Nat} (c:a<T.length) (h:¬ T.getD a 0=62) (b:T.getD a 0=60∨T.getD a 0=91∨T.getD a 0=34∨T.getD a 0=39):mP (T.drop a)=none:=by
 rw [cF T a c];unfold mP;rw [aN h,aV b]
theorem Eb {T:Bs} {a:Nat} (c:a<T.length) (h:¬ T.getD a 0=62) (b:¬ (T.getD a 0=60∨T.getD a 0=91∨T.getD a 0=34∨T.getD a 0=39)):mP (T.drop a)=mP (T.drop (a+1)):=by
 rw [cF T a c];conv=>lhs;unfold mP
 rw [aN h,aN b]
def Ec (x:PX) (c:PC) (b:Nat) (w0:World) (k:Nat) (d:Act) (w:World):Prop:=
 ∃ f a,d=fr 103 f [(0,jP x),(3,.int .i64 (c.at':Nat))]∧aY x w { c with at':=a }∧aM (fun k=>k=x.p) w0 w∧k=x.T.length-a∧a≤x.T.length∧c.at'≤a∧mP (x.T.drop b)=mP (x.T.drop a)
theorem J0 (x:PX) (hT:x.T.length≤1000000000) (z:Nat) (w:World) (c:PC) (opens:List Bs) (bound:List aP) (out:List cD) (h:dZ x z w c opens bound out) (R:out.length≤1000000000) (ha:c.at'≤x.T.length) :
  Calls Tryz.prog 31 #[jP x] w (gG x z out w (nO (fun d=>.dir (sV++d)) opens bound (pR (x.T.drop c.at')))):=by
 have hc:=h.blk.cell;have hf:=h.blk.frozen;have ⟨H,X,HA,a7⟩:=kV h hT ha R;have a4:=Lh (m9 x hT w c h.blk ha)
 have q:=Lh (show pR (x.T.drop c.at')=if (aT (x.T.drop c.at')).length=(x.T.drop c.at').length∨eU (aD (aT (x.T.drop c.at'))).1=false then .error .opn
  else match mP (aD (aT (x.T.drop c.at'))).2 with
   | none=>.error .opn
   | some r=>if l7 ((x.T.drop c.at').take ((x.T.drop c.at').length-r.length-1)) then .ok ((x.T.drop c.at').take ((x.T.drop c.at').length-r.length-1),r) else .error .opn from rfl)
 clear h hT ha R;refine eI 103 Tryz.func31 [_] fun f=>?_;simp only [aF];refine vg ?_;intro K hK K hK K hK;refine a4.o.mono ?_;rintro e1 w1 ⟨y,rfl,aA,b5,A,O,b8⟩;have c5:=Lh (show aY x w1 { c with at':=y } from aA);have ⟨a9,c3⟩:=cN b5 A;have b0:=Lh (DO x X.o w1 { c with at':=y } aA A);rw [b8,eY,eY] at q;have a6:=Lh O;clear aA b5 A O b8 a4 hc hf;go_simp;by_cases D:c.at'<y
 rotate_left
 ·have hd:decide (c.at'<y)=false:=decide_eq_false D;have W:=Lh (q.o.trans (aV (aH (by have:=a6.o;omega))));have HF:=Lh (iL x w w1 { c with at':=y } c5.o a9.o 2);clear D;(repeat revert K);refine vg ?_;intro K hK K hK K hK;refine HF.o.mono ?_;rintro e6 w6 ⟨rfl,i,g⟩;have ⟨n,m⟩:=cN i g;clear i g;(repeat revert K);refine vS ?_;intro K hK;refine cO ?_;exact gG.err (w1:=w) (k:=.opn) H.o n.o m.o (by rw [W.o];rfl)
 have hd:decide (c.at'<y)=true:=decide_eq_true D;have bL:=Lh D;clear D;(repeat revert K);refine vg ?_;intro K hK K hK K hK;refine b0.o.mono ?_;rintro e2 w2 ⟨a2,rfl,b7,b6,Q,P,aC⟩;rw [show ({ c with at':=y }:PC).at'=y from rfl] at aC ⊢;have bC:=Lh (show aY x w2 { c with at':=a2 } from b7);have bA:=Lh (a9.o.trans b6 (fun _ _ h=>h));have c4:=Lh Q;have cT:=Lh (show y≤a2 from P);obtain ⟨s,hs⟩:=cY ((aD (x.T.drop y)).1);have c6:=Lh (show s.length≤1000000000 by have Y:=rT (x.T.drop y);have h2:=X.o;rw [eY,←hs] at Y;omega);rw [aC,←hs] at q;rw [←hs];have c1:=Lh (fun w=>wL s c6.o w);clear b7 b6 Q P aC hs b0;(repeat revert K);refine vS ?_;intro K hK K hK K hK;refine (c1.o _).mono ?_;rintro e3 T ⟨rfl,rfl⟩;go_simp;cases Z:eU s with
 | false=>
  have W:=Lh (q.o.trans (aV (aW Z)));have HF:=Lh (iL x w T { c with at':=a2 } bC.o bA.o 2);(repeat revert K);refine vg ?_;intro K hK K hK K hK;refine HF.o.mono ?_;rintro e6 w6 ⟨rfl,i,g⟩;have ⟨n,m⟩:=cN i g;clear i g;(repeat revert K);refine vS ?_;intro K hK;refine cO ?_;exact gG.err (w1:=w) (k:=.opn) H.o n.o m.o (by rw [W.o];rfl)
 | true=>
  have u:=Lh (q.o.trans (aN (fun hh=>hh.elim (fun h=>by have:=bL.o;have:=c3.o;omega) (fun h=>by rw [Z] at h;cases h))));clear q Z;(repeat revert K);refine vg ?_;intro K hK;refine cP [0,3] fun f=>?_;refine wp_loop_ghost_k (Ec x c a2 w) (x.T.length-a2) ⟨f,a2,rfl,bC.o,bA.o,rfl,c4.o,by have:=cT.o;have:=bL.o;omega,rfl⟩ ?_;clear hd;rintro k _ w2 ⟨f,a,rfl,hp,hm,hk,b4,b3,b2⟩ J K2 hJ b1;have ⟨HJ,c2,HP,HM,HK,V⟩:=iH hJ b1 hp hm hk b4;have ⟨U,F⟩:=cN b3 b2;clear hJ b1 hp hm hk b4 b3 b2;have a5:=Lh (fun (w':World) (Y:aY x w' { c with at':=a }) (h2:aM (fun k=>k=x.p) w w') (v:Int)=>iL x w w' { c with at':=a } Y h2 v);cases o:([62]:Bs).isPrefixOf (x.T.drop a) with
  | true=>
   have HH:=Lh (jA x X.o w2 { c with at':=a } HP.o V.o [62] (by decide) o);have l:=lI o (by decide);have hb:x.T.getD a 0=62:=by
    have h9:=dO 62 x.T a l;rw [o] at h9;exact (beq_iff_eq.1 h9.symm).symm
   obtain ⟨E,I⟩:=cY ((x.T.drop c.at').take (a-c.at'));have L:=Lh (show pR (x.T.drop c.at')=if l7 E then .ok (E,x.T.drop (a+1)) else .error .opn by
    have e9:x.T.length-c.at'-(x.T.length-(a+1))-1=a-c.at':=by have:=U.o;omega
    rw [u.o,F.o,Dz l hb];simp only [eY,e9,←I])
   have N:=Lh (show E.length≤1000000000 by rw [I,qQ,eY];have:=X.o;omega);have a8:=Lh l;have HV:=Lh (fun w=>JS E N.o w);clear o l hb;revert K;refine vg ?_;intro K hK K hK K hK K hK;refine HH.o.mono ?_;rintro e3 T ⟨rfl,C,B⟩;have e:=Lh (show aY x T { c with at':=a+1 } from C);have t:=Lh (HM.o.trans B (fun _ _ h=>h));clear C B HH;have hc:=e.o.cell;have hf:=e.o.frozen;have z1:(0:Int)≤(c.at':Int):=by omega
   have c8:IntKind.i64.wrap (a:Int)=(a:Int):=by rw [IntKind.wrap_i64];have h8:=a8.o;have h9:=X.o;omega
   have z2:(c.at':Int)≤(a:Int):=by have:=U.o;omega
   have z3:(a:Int)≤(x.T.length:Int):=by have:=V.o;omega
   (repeat revert K);refine vS ?_;intro K hK;(refine lX [0,0,0,1,0,0,0,0,1,0,0,0] [0,1,2,3,4,5,6,7,8,9,10,11] ?_;refine vP ?_;repeat with_reducible intro nq)
   rw [lD,←I];clear I hc hf z1 z2 z3;revert K;refine vg ?_;intro K hK K hK K hK;refine (HV.o _).mono ?_;rintro e5 w5 ⟨rfl,rfl⟩;go_simp;cases hv:l7 E with
   | true=>
    have aL:=Lh (fun (w5:World) (Y:aY x w5 { c with at':=a+1 }) (h2:aM (fun k=>k=x.p) w w5)=>sK x z w w5 c opens bound out H.o a7.o (a+1) a8.o Y h2 (.dir (sV++E)) rfl (nO (fun d=>.dir (sV++d)) opens bound (pR (x.T.drop c.at'))) (by rw [L.o,aV hv];rfl));have a3:¬ 9223372036854775807<7+E.length:=by have:=N.o;omega
    (repeat revert K);refine vg ?_;intro K hK K hK;rw [show (⟨#[68,79,67,84,89,80,69]⟩:ByteArray)++⟨E.toArray⟩=⟨(sV++E).toArray⟩ from gF sV E];refine (aL.o _ (by exact e.o) (by exact eX t.o rfl rfl rfl rfl)).mono ?_;rintro e6 w6 ⟨rfl,h6⟩;have H6:=Lh h6;clear h6;(repeat revert K);refine vS ?_;refine cO ?_;exact H6.o
   | false=>
    have HF:=Lh (fun (w':World) (Y:aY x w' { c with at':=a+1 }) (h2:aM (fun k=>k=x.p) w w') (v:Int)=>iL x w w' { c with at':=a+1 } Y h2 v);(repeat revert K);refine vg ?_;intro K hK K hK K hK;refine (HF.o _ (by exact e.o) (by exact eX t.o rfl rfl rfl rfl) _).mono ?_;rintro e6 w6 ⟨rfl,i,g⟩;have ⟨n,m⟩:=cN i g;clear i g;(repeat revert K);refine vS ?_;intro K hK;refine cO ?_;exact gG.err (w1:=w) (k:=.opn) H.o n.o m.o (by rw [L.o,aN (by rw [hv];simp)];rfl)
  | false=>
   have HH:=Lh (iM x X.o w2 { c with at':=a } HP.o V.o [62] (by decide) o);revert K;refine vg ?_;intro K hK K hK K hK K hK;refine HH.o.mono ?_;rintro e3 T ⟨rfl,C,B⟩;have e:=Lh (show aY x T { c with at':=a } from C);have t:=Lh (HM.o.trans B (fun _ _ h=>h));clear C B HH;go_simp;by_cases l:a<x.T.length
   rotate_left
   ·have W:=Lh (show pR (x.T.drop c.at')=.error .opn by rw [u.o,F.o,Ac (by omega)]);have G:=Lh (fun kk=>oR x (T.drewN kk) { c with at':=a } e.o (by simp;omega));clear o;(repeat revert K);refine vg ?_;intro K hK K hK K hK;(refine lX [0,2,0,0,0,0,1,0,0,0,1,0,0,0,0,0,0,0,1,0,0,0,1,0,0,0,0,0,0,0,1,0,0,0,1,0,0,0,0,0,0,0,1,0,0,0,1,0,0,0] [0,1,2,3,4,5,6,7,8,9,10,11,12,13,14,15,16,17,18,19,20,21,22,23,24,25,26,27,28,29,30,31,32,33,34,35,36,37,38,39,40,41,42,43,44,45,46,47,48,49] ?_;refine vP ?_;repeat with_reducible intro nq)
    refine bK rfl rfl (fun nq K hK=>?_);go_simp;refine (G.o _).mono ?_;rintro e4 w4 ⟨rfl,k4,rfl⟩;go_simp;refine hK.out _ _ ?_;clear hK K;(refine vP ?_;repeat with_reducible intro nq)
    (repeat revert K);refine vg ?_;intro K hK K hK K hK K hK;refine (a5.o _ (by exact e.o) (by exact eX t.o rfl rfl rfl rfl) _).mono ?_;rintro e6 w6 ⟨rfl,i,g⟩;have ⟨n,m⟩:=cN i g;clear i g;(repeat revert K);refine vS ?_;intro K hK K hK;refine cO ?_;exact gG.err (w1:=w) (k:=.opn) H.o n.o m.o (by rw [W.o];rfl)
   have M:=Lh (show ¬ x.T.getD a 0=62 by
    intro hh;have h9:=dO 62 x.T a l;rw [o,hh] at h9;cases h9)
   have G:=Lh (fun kk=>oS x (T.drewN kk) { c with at':=a } e.o l);have t0:(0:Int)≤(a:Int):=by omega
   have t1:(a:Int)<(x.T.length:Int):=by omega
   have c7:IntKind.i64.wrap ((a:Int)+1)=((a+1:Nat):Int):=by rw [IntKind.wrap_i64];have:=X.o;omega
   obtain ⟨b,hb⟩:=cY (x.T.getD a 0);have ix:∀ h,(⟨x.T.toArray⟩:ByteArray)[a]'h=b:=by rw [hb];exact jE x.T a l
   have a0:=Lh hb;clear hb o;by_cases j:b=60∨b=91∨b=34∨b=39
   ·have W:=Lh (show pR (x.T.drop c.at')=.error .opn by rw [u.o,F.o,Ea l M.o (by rw [←a0.o];exact j)]);rcases j with rfl|rfl|rfl|rfl
    all_goals
     (repeat revert K);refine vg ?_;intro K hK K hK K hK;(refine lX [0,2,0,0,0,0,1,0,0,0,1,0,0,0,0,0,0,0,1,0,0,0,1,0,0,0,0,0,0,0,1,0,0,0,1,0,0,0,0,0,0,0,1,0,0,0,1,0,0,0] [0,1,2,3,4,5,6,7,8,9,10,11,12,13,14,15,16,17,18,19,20,21,22,23,24,25,26,27,28,29,30,31,32,33,34,35,36,37,38,39,40,41,42,43,44,45,46,47,48,49] ?_;refine vP ?_;repeat with_reducible intro nq)
     refine bK rfl rfl (fun nq K hK=>?_);go_simp;refine (G.o _).mono ?_;rintro e4 w4 ⟨rfl,k4,rfl⟩;have hc:=e.o.cell;have hf:=e.o.frozen;go_simp;refine hK.out _ _ ?_;clear hK K;(refine vP ?_;repeat with_reducible intro nq)
     clear hc hf;(repeat revert K);refine vg ?_;intro K hK K hK K hK K hK;refine (a5.o _ (by exact e.o) (by exact eX t.o rfl rfl rfl rfl) _).mono ?_;rintro e6 w6 ⟨rfl,i,g⟩;have ⟨n,m⟩:=cN i g;clear i g;(repeat revert K);refine vS ?_;intro K hK K hK;refine cO ?_;exact gG.err (w1:=w) (k:=.opn) H.o n.o m.o (by rw [W.o];rfl)
   ·have n1:((b.toNat:Int)==60)=false:=oG (fun h=>j (aH h));have n2:((b.toNat:Int)==91)=false:=oG (fun h=>j (aW (aH h)));have n3:((b.toNat:Int)==34)=false:=oG (fun h=>j (aW (aW (aH h))));have n4:((b.toNat:Int)==39)=false:=oG (fun h=>j (aW (aW (aW h))));have b9:=Lh (F.o.trans (Eb l M.o (by rw [←a0.o];exact j)));clear j;(repeat revert K);refine vg ?_;intro K hK K hK K hK;(refine lX [0,2,0,0,0,0,1,0,0,0,1,0,0,0,0,0,0,0,1,0,0,0,1,0,0,0,0,0,0,0,1,0,0,0,1,0,0,0,0,0,0,0,1,0,0,0,1,0,0,0] [0,1,2,3,4,5,6,7,8,9,10,11,12,13,14,15,16,17,18,19,20,21,22,23,24,25,26,27,28,29,30,31,32,33,34,35,36,37,38,39,40,41,42,43,44,45,46,47,48,49] ?_;refine vP ?_;repeat with_reducible intro nq)
    refine bK rfl rfl (fun nq K hK=>?_);go_simp;refine (G.o _).mono ?_;rintro e4 w4 ⟨rfl,k4,rfl⟩;have hc:=e.o.cell;have hf:=e.o.frozen;go_simp;refine hK.out _ _ ?_;clear hK K;(refine vP ?_;repeat with_reducible intro nq)
    (repeat revert K);refine vg ?_;intro K hK;refine Kk [0,3] fun f=>?_;exact c2.o _ _ ⟨x.T.length-(a+1),by rw [HK.o];omega,HJ.o _ _ _ ⟨f,a+1,rfl,aJ.set (w:=T.drewN _) (cs:=gA x { c with at':=a }) e.o 1 _,aM.setCell (S:=fun k=>k=x.p) (t.o.drewN _) (p:=⟨x.p,1,none⟩) (aH rfl) _,rfl,l,by have:=U.o;omega,b9.o⟩⟩
end Go.Proofs.YthapcchcahnfaaaGreatDoor
