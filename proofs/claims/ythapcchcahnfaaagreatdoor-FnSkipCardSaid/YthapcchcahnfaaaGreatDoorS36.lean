/- Part of the proof that laws.FnSkip returns true for every argument. No conditions. -/
import Derived.Test.YthapcchcahnfaaaGreatDoorS35
import Derived.Test.YthapcchcahnfaaaGreatDoorS34
set_option linter.all false
set_option maxHeartbeats 8000000
set_option maxRecDepth 100000
namespace Go.Proofs.YthapcchcahnfaaaGreatDoor
open Go Go.RowKit Go.Proofs.Tryz
theorem iE (x:PX) (f:x.T.length≤1000000000) (w:World) (c:PC) (h:aV x w c) (g:c.at'≤x.T.length) (s:Bs) (i:s.length≤1000000000) (b:s.isPrefixOf (x.T.drop c.at')=true):Calls prog 26 #[iU x,aB s] w fun e w'=>e=.returned (.bool true)∧aV x w' { c with at':=c.at'+s.length }∧aJ (fun k=>k=x.p) w w':=by
 refine (uF x f w c h g s i).mono ?_;rintro e w' ⟨rfl,a,d⟩;rw [b,aY rfl] at a;rw [b];exact ⟨rfl,a,d⟩
theorem gX (x:PX) (f:x.T.length≤1000000000) (w:World) (c:PC) (h:aV x w c) (g:c.at'≤x.T.length) (s:Bs) (i:s.length≤1000000000) (b:s.isPrefixOf (x.T.drop c.at')=false):Calls prog 26 #[iU x,aB s] w fun e w'=>e=.returned (.bool false)∧aV x w' c∧aJ (fun k=>k=x.p) w w':=by
 refine (uF x f w c h g s i).mono ?_;rintro e w' ⟨rfl,a,d⟩;rw [b,aQ (by simp)] at a;rw [b];exact ⟨rfl,a,d⟩
theorem nU (x:PX) (w:World) (c:PC) (h:aV x w c) (b:x.T.length≤c.at'):Calls prog 14 #[iU x] w fun e w'=>e=.returned (.bool true)∧∃ k,w'=w.drewN k:=by
 refine (sU x w c h).mono ?_;rintro e w' ⟨rfl,a⟩;exact ⟨by rw [decide_eq_true (by omega)],a⟩
theorem nV (x:PX) (w:World) (c:PC) (h:aV x w c) (b:c.at'<x.T.length):Calls prog 14 #[iU x] w fun e w'=>e=.returned (.bool false)∧∃ k,w'=w.drewN k:=by
 refine (sU x w c h).mono ?_;rintro e w' ⟨rfl,a⟩;exact ⟨by rw [decide_eq_false (by omega)],a⟩
theorem nW {s T:Bs} {a:Nat} (h:s.isPrefixOf (T.drop a)=true) (b:a≤T.length):a+s.length≤T.length:=by
 have:=BS h;rw [eC] at this;omega
def fU (x:PX) (a:Nat) (out:List bS) (w:World) (r:Except SV (List aP×gN)) (e:Ending) (w':World):Prop:=
 Below a w w'∧match r with
  | .ok q=>e=.returned (.bool true)∧∃ b,dK x a w' b q.2.opens q.2.bound (out++q.1.map fun t=>{ t.itok [] with at':=b.at' })∧b.at'≤x.T.length∧q.2.rest=x.T.drop b.at'
  | .error k=>e=.returned (.bool false)∧∃ b d c,dK x a w' b d c out∧b.verd=k.num
theorem fU.err {x:PX} {b:Nat} {out:List bS} {w w1 w':World} {c:PC} {opens:List Bs} {bound:List aM} {r:Except SV (List aP×gN)} {k:SV} {a:Nat} (h:dK x b w c opens bound out) (f:aV x w' { c with at':=a,verd:=k.num }) (d:aJ (fun k=>k=x.p) w w') (g:r=.error k):fU x b out w r (.returned (.bool false)) w':=by
 subst g;exact ⟨aJ.below (Below.refl _ w) h.size d (fun i e=>by rw [e];exact h.pb),rfl,_,opens,bound,h.own f d rfl rfl rfl,rfl⟩
theorem rA (x:PX) (b:Nat) (w w1:World) (c:PC) (opens:List Bs) (bound:List aM) (out:List bS) (h:dK x b w c opens bound out) (f:out.length≤1000000000) (a:Nat) (l:a≤x.T.length) (p:aV x w1 { c with at':=a }) (g:aJ (fun k=>k=x.p) w w1) (t:aP) (d:(t.itok []).attrs=[]) (r:Except SV (List aP×gN)) (q:r=.ok ([t],⟨x.T.drop a,opens,bound⟩)) :
  Calls prog 48 #[iU x,PG (t.itok []) none 0 0 0] w1 fun e w'=>e=.returned (.bool true)∧fU x b out w r (.returned (.bool true)) w':=by
 have j:dK x b w1 { c with at':=a } opens bound out:=h.own p g rfl rfl rfl;refine (GS x b w1 { c with at':=a } opens bound out j f (t.itok []) none 0 0 0 ⟨by rw [d];rfl,aG ⟨rfl,by rw [d];rfl⟩⟩ (fun k o=>by cases o)).mono ?_;rintro e w' ⟨rfl,m,v',s⟩;refine ⟨rfl,(aJ.below (Below.refl _ w) h.size g (fun i n=>by rw [n];exact h.pb)).trans m,?_⟩;subst q;exact ⟨rfl,_,s,l,rfl⟩
def PH (l:Bs):Int:=match l with
 | []=>1
 | b::_=>if b=45∨b=91 then 1 else 2
theorem PI (x:PX) (w:World) (c:PC) (h:aV x w c):Calls prog 33 #[iU x,aB [45,45],aB [91,67,68,65,84,65,91]] w fun e w'=>e=.returned (.int .i64 (PH (x.T.drop c.at')))∧∃ k,w'=w.drewN k:=by
 have j:=Lh h;refine eL 37 func33 [_,_,_] fun f=>?_;simp only [aF];have A:∀ h,(⟨#[45,45]⟩:ByteArray)[0]'h=45:=fun _=>rfl;have B:∀ h,(⟨#[91,67,68,65,84,65,91]⟩:ByteArray)[0]'h=91:=fun _=>rfl;by_cases i:c.at'<x.T.length
 ·have l:=Lh (fun q=>nV x (w.drewN q) c h i);clear h;obtain ⟨b,o⟩:=cK (x.T.getD c.at' 0);have z:∀ h,(⟨x.T.toArray⟩:ByteArray)[c.at']'h=b:=by rw [o];exact iL x.T c.at' i
  have m:=Lh (show PH (x.T.drop c.at')=if b=45∨b=91 then 1 else 2 by rw [bV x.T c.at' i,o];rfl);have C:(0:Int)≤(c.at':Int):=by omega
  have D:(c.at':Int)<(x.T.length:Int):=by omega
  clear o;by_cases d:b=45
  ·have a:=Lh (m.o.trans (aY (aG d)));subst d;refine vg ?_;intro K hK K hK;(refine lD [0,2,0,0,0,0,1,0,0,0,1,0,0,0,0,0,0,0,0,0,1,0,0,0,1,0,0,0,0,0] [0,1,2,3,4,5,6,7,8,9,10,11,12,13,14,15,16,17,18,19,20,21,22,23,24,25,26,27,28,29] ?_;refine vP ?_;repeat with_reducible intro nq)
   refine bI rfl rfl (fun nq K hK=>?_);go_simp;refine (l.o _).mono ?_;rintro n r ⟨rfl,p,rfl⟩;have s:=j.o.cell;have t:=j.o.frozen;go_simp;refine hK.out _ _ ?_;clear hK K;(refine vP ?_;repeat with_reducible intro nq)
   (repeat revert K);refine vg ?_;intro K hK;refine cM ?_;exact ⟨by rw [a.o],_,rfl⟩
  have u:((b.toNat:Int)==45)=false:=nK d;by_cases g:b=91
  ·have a:=Lh (m.o.trans (aY (aU g)));subst g;refine vg ?_;intro K hK K hK;(refine lD [0,2,0,0,0,0,1,0,0,0,1,0,0,0,0,0,0,0,0,0,1,0,0,0,1,0,0,0,0,0] [0,1,2,3,4,5,6,7,8,9,10,11,12,13,14,15,16,17,18,19,20,21,22,23,24,25,26,27,28,29] ?_;refine vP ?_;repeat with_reducible intro nq)
   refine bI rfl rfl (fun nq K hK=>?_);go_simp;refine (l.o _).mono ?_;rintro n r ⟨rfl,p,rfl⟩;have s:=j.o.cell;have t:=j.o.frozen;go_simp;refine hK.out _ _ ?_;clear hK K;(refine vP ?_;repeat with_reducible intro nq)
   (repeat revert K);refine vg ?_;intro K hK;refine cM ?_;exact ⟨by rw [a.o],_,rfl⟩
  have v:((b.toNat:Int)==91)=false:=nK g;have a:=Lh (m.o.trans (aQ (fun y=>y.elim d g)));clear d g;refine vg ?_;intro K hK K hK;(refine lD [0,2,0,0,0,0,1,0,0,0,1,0,0,0,0,0,0,0,0,0,1,0,0,0,1,0,0,0,0,0] [0,1,2,3,4,5,6,7,8,9,10,11,12,13,14,15,16,17,18,19,20,21,22,23,24,25,26,27,28,29] ?_;refine vP ?_;repeat with_reducible intro nq)
  refine bI rfl rfl (fun nq K hK=>?_);go_simp;refine (l.o _).mono ?_;rintro n r ⟨rfl,p,rfl⟩;have s:=j.o.cell;have t:=j.o.frozen;go_simp;refine hK.out _ _ ?_;clear hK K;(refine vP ?_;repeat with_reducible intro nq)
  (repeat revert K);refine vg ?_;refine cM ?_;exact ⟨by rw [a.o],_,rfl⟩
 ·have l:=Lh (fun q=>nU x (w.drewN q) c h (by omega));have m:=Lh (show PH (x.T.drop c.at')=1 by rw [tW (by omega)];rfl);clear h;refine vg ?_;intro K hK K hK;(refine lD [0,2,0,0,0,0,1,0,0,0,1,0,0,0,0,0,0,0,0,0,1,0,0,0,1,0,0,0,0,0] [0,1,2,3,4,5,6,7,8,9,10,11,12,13,14,15,16,17,18,19,20,21,22,23,24,25,26,27,28,29] ?_;refine vP ?_;repeat with_reducible intro nq)
  refine bI rfl rfl (fun nq K hK=>?_);go_simp;refine (l.o _).mono ?_;rintro n r ⟨rfl,p,rfl⟩;go_simp;refine hK.out _ _ ?_;clear hK K;(refine vP ?_;repeat with_reducible intro nq)
  (repeat revert K);refine vg ?_;intro K hK;refine cM ?_;exact ⟨by rw [m.o],_,rfl⟩
def ZK (l:Bs) (w0:World) (k:Nat) (a:Act) (w:World):Prop:=
 ∃ f i,a=fr 16 f [(0,aB l),(5,.int .i64 (l.length:Nat)),(6,.int .i64 (i:Nat))]∧w0=w∧k=l.length-i∧i≤l.length∧(l.take i).contains 13=false
theorem GT (l:Bs) (s:l.length≤1000000000) (w:World):Calls prog 55 #[aB l] w fun e w'=>e=.returned (.bool (lK l))∧w'=w:=by
 have B:=Lh s;have p:=Lh (TC l s w);clear s;refine eL 16 func55 [_] fun f=>?_;simp only [aF];refine vg ?_;intro K hK;refine cG [0,5,6] fun f=>?_;refine wp_loop_ghost_k (ZK l w) l.length ⟨f,0,rfl,rfl,rfl,jU _,rfl⟩ ?_;rintro k _ _ ⟨f,i,rfl,rfl,x,H,v⟩ J E u j;have ⟨z,o,A,t⟩:=kS u j x v;clear u j x v;by_cases c:i<l.length
 ·have L:(0:Int)≤(i:Int):=by omega
  have D:(i:Int)<(l.length:Int):=by omega
  have M:IntKind.i64.wrap ((i:Int)+1)=((i+1:Nat):Int):=by rw [IntKind.wrap_i64];have F:=B.o;omega
  have d:=Lh (x8 l i c 13);obtain ⟨b,m⟩:=cK (l.getD i 0);have I:∀ h,(⟨l.toArray⟩:ByteArray)[i]'h=b:=by rw [m];exact iL l i c
  rw [←m] at d;have g:=Lh m;clear m;by_cases a:b=13
  ·have y:lK l=false:=by
    have C:l.contains 13=true:=by
     rw [List.contains_iff_mem];have:l[i]=13:=by rw [←a,g.o];simp [rF,c]
     rw [←this];exact List.getElem_mem c
    unfold lK;rw [C];rfl
   have q:=Lh y;clear y g d;subst a;revert K;refine vg ?_;intro K hK K hK;refine cM ?_;exact ⟨by rw [q.o],rfl⟩
  ·have G:((b.toNat:Int)==13)=false:=nK a;have n:=Lh (show (l.take (i+1)).contains 13=false by rw [d.o,t.o,Bool.false_or,lQ];exact fun h=>a h.symm);clear a g d;revert K;refine vg ?_;intro K hK;refine Kk [0,5,6] fun f=>?_;exact o.o _ _ ⟨l.length-(i+1),by rw [A.o];omega,z.o _ _ _ ⟨f,i+1,rfl,rfl,rfl,c,n.o⟩⟩
 ·have r:i=l.length:=by omega
  subst r;have D:¬ ((l.length:Int)<(l.length:Int)):=by omega
  have q:=Lh (show lK l=bL l by
   have:=t.o;rw [List.take_length] at this;unfold lK;rw [this];rfl)
  revert K;refine vg ?_;intro K hK K hK;refine p.o.mono ?_;rintro e w' ⟨rfl,rfl⟩;(repeat revert K);refine vS ?_;refine cM ?_;exact ⟨by rw [q.o],rfl⟩
theorem dC (q:UInt8) (T:Bs) (a:Nat) (b:a<T.length):([q]:Bs).isPrefixOf (T.drop a)=(q==T.getD a 0):=by
 rw [bV T a b];show ((q==T.getD a 0)&&List.isPrefixOf [] (T.drop (a+1)))=_;cases (q==T.getD a 0)<;>rfl
theorem TK {p T:Bs} {a:Nat} (h:p.isPrefixOf (T.drop a)=true) (b:a<T.length):dJ p (T.drop a)=some ([],T.drop (a+p.length)):=by
 rw [bV T a b] at h ⊢;unfold dJ;rw [aY h,←bV T a b,List.drop_drop]
theorem PJ {p T:Bs} {a:Nat} (h:p.isPrefixOf (T.drop a)=false) (b:a<T.length):dJ p (T.drop a)=(dJ p (T.drop (a+1))).map fun x=>(T.getD a 0::x.1,x.2):=by
 rw [bV T a b] at h ⊢;conv=>lhs;unfold dJ
 rw [aQ (by rw [h];simp)]
theorem TL {p T:Bs} {a:Nat} (b:T.length≤a):dJ p (T.drop a)=none:=by rw [tW b];rfl
def lP (T p:Bs) (i a:Nat):Prop:=dJ p (T.drop i)=(dJ p (T.drop a)).map fun x=>((T.drop i).take (a-i)++x.1,x.2)
theorem lP.start (T p:Bs) (i:Nat):lP T p i i:=by
 unfold lP;cases dJ p (T.drop i)<;>simp
theorem lP.next {T p:Bs} {i a:Nat} (h:lP T p i a) (b:i≤a) (d:p.isPrefixOf (T.drop a)=false) (c:a<T.length):lP T p i (a+1):=by
 unfold lP at h ⊢;rw [h,PJ d c,uN T i a b c];cases dJ p (T.drop (a+1))<;>simp
theorem lP.hit {T p:Bs} {i a:Nat} (h:lP T p i a) (c:p.isPrefixOf (T.drop a)=true) (b:a<T.length):dJ p (T.drop i)=some ((T.drop i).take (a-i),T.drop (a+p.length)):=by
 unfold lP at h;rw [h,TK c b];simp
theorem lP.none {T p:Bs} {i a:Nat} (h:lP T p i a) (b:T.length≤a):dJ p (T.drop i)=none:=by
 unfold lP at h;rw [h,TL b];rfl
theorem kQ {p T:Bs} {a:Nat} (h:p.isPrefixOf (T.drop a)=true) (b:0<p.length):a<T.length:=by
 have:=BS h;rw [eC] at this;omega
def ZL (x:PX) (c:PC) (w0:World) (k:Nat) (b:Act) (w:World):Prop:=
 ∃ f a,b=fr 48 f [(0,iU x),(3,.int .i64 (c.at':Nat))]∧aV x w { c with at':=a }∧aJ (fun k=>k=x.p) w0 w∧k=x.T.length-a∧a≤x.T.length∧c.at'≤a∧lP x.T [45,45] c.at' a
def mY (f:Bs→aP) (opens:List Bs) (bound:List aM) (r:Except SV (Bs×Bs)):Except SV (List aP×gN):=match r with
 | .error e=>.error e
 | .ok (d,r)=>.ok ([f d],⟨r,opens,bound⟩)
theorem GU (x:PX) (hT:x.T.length≤1000000000) (B:Nat) (w:World) (c:PC) (opens:List Bs) (bound:List aM) (out:List bS) (h:dK x B w c opens bound out) (I:out.length≤1000000000) (ha:c.at'≤x.T.length) :
  Calls prog 29 #[iU x] w (fU x B out w (mY .comment opens bound (dD (x.T.drop c.at')))):=by
 have hc:=h.blk.cell;have hf:=h.blk.frozen;have ⟨H,O,HA,W⟩:=kS h hT ha I;clear h hT ha I;refine eL 48 func29 [_] fun f=>?_;simp only [aF];refine vg ?_;intro K hK;refine cG [0,3] fun f=>?_;refine wp_loop_ghost_k (ZL x c w) (x.T.length-c.at') ⟨f,c.at',rfl,H.o.blk,aJ.refl _ w,rfl,HA.o,dF _,lP.start _ _ _⟩ ?_;clear hc hf;rintro k _ w2 ⟨f,a,rfl,hp,hm,hk,aA,Y,hcut⟩ J K2 hJ X;have ⟨HJ,aC,HP,HM,HK,D⟩:=gT hJ X hp hm hk aA;have ⟨L,u⟩:=cB Y hcut;clear hJ X hp hm hk aA Y hcut;cases d:([45,45]:Bs).isPrefixOf (x.T.drop a) with
 | true=>
  have q:=Lh (iE x O.o w2 { c with at':=a } HP.o D.o [45,45] (by decide) d);have a0:=Lh (kQ d (by decide));have o:=Lh (u.o.hit d a0.o);have M:=Lh (nW d D.o);clear d;revert K;refine vg ?_;intro K hK K hK K hK K hK;refine q.o.mono ?_;rintro e3 t ⟨rfl,e,i⟩;have g:=Lh (show aV x t { c with at':=a+2 } from e);have y:=Lh (HM.o.trans i (fun _ _ h=>h));clear e i q;go_simp;have hc:=g.o.cell;have hf:=g.o.frozen;have z1:(0:Int)≤(c.at':Int):=by omega
  have a2:IntKind.i64.wrap (a:Int)=(a:Int):=by rw [IntKind.wrap_i64];have h8:=M.o;have R:=O.o;simp at h8;omega
  have z2:(c.at':Int)≤(a:Int):=by have:=L.o;omega
  have z3:(a:Int)≤(x.T.length:Int):=by have:=D.o;omega
  (repeat revert K);refine vg ?_;intro K hK;(refine lD [0,0,0,1,0,0,0,0,1,0,0,0] [0,1,2,3,4,5,6,7,8,9,10,11] ?_;refine vP ?_;repeat with_reducible intro nq)
  rw [kP];obtain ⟨s,hs⟩:=cK ((x.T.drop c.at').take (a-c.at'));rw [←hs];rw [←hs] at o;have a1:=Lh (show s.length≤1000000000 by rw [hs,pI,eC];have:=O.o;omega);clear hs hc hf;have HV:=Lh (fun w=>GT s a1.o w);have G:=Lh (show aV x (t.drewN nq) { c with at':=a+2 } from g.o);have F:=Lh (show aJ (fun k=>k=x.p) w (t.drewN nq) from y.o.drewN _);have U:=Lh (show dD (x.T.drop c.at')=match x.T.drop (a+2) with
    | []=>.error .bad
    | b::r2=>if b=62 then (if lK s then .ok (s,r2) else .error .opn) else .error .bad by unfold dD;rw [o.o];rfl)
  cases m:([62]:Bs).isPrefixOf (x.T.drop (a+2)) with
  | true=>
   have q:=Lh (iE x O.o (t.drewN nq) { c with at':=a+2 } G.o M.o [62] (by decide) m);have v:=Lh (kQ m (by decide));have n:=Lh (show dD (x.T.drop c.at')=if lK s then .ok (s,x.T.drop (a+3)) else .error .opn by
    have R:=dC 62 x.T (a+2) v.o;rw [m] at R;have P:x.T.getD (a+2) 0=62:=(beq_iff_eq.1 R.symm).symm;rw [U.o,bV x.T (a+2) v.o];rw [P];rfl)
   clear m;revert K;refine vg ?_;intro K hK K hK K hK;refine q.o.mono ?_;rintro e4 w4 ⟨rfl,r,C⟩;have N:=Lh (show aV x w4 { c with at':=a+3 } from r);have E:=Lh (F.o.trans C (fun _ _ h=>h));clear r C q;(repeat revert K);refine vS ?_;intro K hK K hK K hK;refine (HV.o _).mono ?_;rintro e5 w5 ⟨rfl,rfl⟩;go_simp;cases hv:lK s with
   | true=>
    have T:=Lh (rA x B w w5 c opens bound out H.o W.o (a+3) (by have:=v.o;omega) N.o E.o (.comment s) rfl (mY .comment opens bound (dD (x.T.drop c.at'))) (by rw [n.o,aY hv];rfl));(repeat revert K);refine vg ?_;intro K hK K hK;refine T.o.mono ?_;rintro e6 w6 ⟨rfl,h6⟩;have H6:=Lh h6;clear h6;(repeat revert K);refine vS ?_;refine cM ?_;exact H6.o
   | false=>
    have V:=Lh (lF x w5 { c with at':=a+3 } N.o 2);(repeat revert K);refine vg ?_;intro K hK K hK K hK;refine V.o.mono ?_;rintro e6 w6 ⟨rfl,l,j⟩;have ⟨A,z⟩:=cB l j;clear l j;(repeat revert K);refine vS ?_;intro K hK;refine cM ?_;exact fU.err (w1:=w) (k:=.opn) H.o A.o (E.o.trans z.o (fun _ _ h=>h)) (by rw [n.o,aQ (by rw [hv];simp)];rfl)
  | false=>
   have q:=Lh (gX x O.o (t.drewN nq) { c with at':=a+2 } G.o M.o [62] (by decide) m);have n:=Lh (show dD (x.T.drop c.at')=.error .bad by
    rw [U.o];by_cases Z:a+2<x.T.length
    ·have P:¬ x.T.getD (a+2) 0=62:=by
      intro hh;have R:=dC 62 x.T (a+2) Z;rw [m,hh] at R;cases R
     rw [bV x.T (a+2) Z];simp only [aQ P]
    ·rw [tW (by omega)])
   clear m;revert K;refine vg ?_;intro K hK K hK K hK;refine q.o.mono ?_;rintro e4 w4 ⟨rfl,r,C⟩;have N:=Lh r;have E:=Lh (F.o.trans C (fun _ _ h=>h));have V:=Lh (lF x w4 { c with at':=a+2 } r 1);clear r C q;(repeat revert K);refine vS ?_;intro K hK K hK K hK;refine V.o.mono ?_;rintro e6 w6 ⟨rfl,l,j⟩;have ⟨A,z⟩:=cB l j;clear l j;(repeat revert K);refine vS ?_;intro K hK;refine cM ?_;exact fU.err (w1:=w) (k:=.bad) H.o A.o (E.o.trans z.o (fun _ _ h=>h)) (by rw [n.o];rfl)
 | false=>
  have q:=Lh (gX x O.o w2 { c with at':=a } HP.o D.o [45,45] (by decide) d);by_cases Q:a<x.T.length
  ·have o:=Lh (u.o.next L.o d Q);clear d;revert K;refine vg ?_;intro K hK K hK K hK K hK;refine q.o.mono ?_;rintro e3 t ⟨rfl,e,i⟩;have g:=Lh e;have y:=Lh (HM.o.trans i (fun _ _ h=>h));have HE:=Lh (nV x t { c with at':=a } e Q);clear e i q;(repeat revert K);refine vS ?_;intro K hK K hK K hK K hK;refine HE.o.mono ?_;rintro e4 w4 ⟨rfl,k4,rfl⟩;have hc:=(show aV x (t.drewN k4) { c with at':=a } from g.o).cell;have hf:=(show aV x (t.drewN k4) { c with at':=a } from g.o).frozen;have w1:IntKind.i64.wrap ((a:Int)+1)=((a+1:Nat):Int):=by rw [IntKind.wrap_i64];have:=O.o;omega
   (repeat revert K);refine vS ?_;intro K hK;refine Kk [0,3] fun f=>?_;refine aC.o _ _ ⟨x.T.length-(a+1),by rw [HK.o];omega,HJ.o _ _ _ ⟨f,a+1,rfl,?_,aJ.setCell (S:=fun k=>k=x.p) (y.o.drewN _) (p:=⟨x.p,1,none⟩) (aG rfl) _,rfl,Q,by have:=L.o;omega,o.o⟩⟩;exact aL.set (w:=t.drewN _) (cs:=fN x { c with at':=a }) g.o 1 _
  ·have o:=Lh (u.o.none (by omega));have HR:=Lh (show dD (x.T.drop c.at')=.error .bad by unfold dD;rw [o.o]);clear d;revert K;refine vg ?_;intro K hK K hK K hK K hK;refine q.o.mono ?_;rintro e3 t ⟨rfl,e,i⟩;have g:=Lh e;have y:=Lh (HM.o.trans i (fun _ _ h=>h));have HE:=Lh (nU x t { c with at':=a } e (by simp;omega));clear e i q;(repeat revert K);refine vS ?_;intro K hK K hK K hK K hK;refine HE.o.mono ?_;rintro e4 w4 ⟨rfl,k4,rfl⟩;have V:=Lh (lF x (t.drewN k4) { c with at':=a } g.o 1);(repeat revert K);refine vS ?_;intro K hK K hK K hK K hK;refine V.o.mono ?_;rintro e6 w6 ⟨rfl,l,j⟩;have ⟨A,z⟩:=cB l j;clear l j;(repeat revert K);refine vS ?_;intro K hK K hK;refine cM ?_;exact fU.err (w1:=w) (k:=.bad) H.o A.o ((y.o.drewN _).trans z.o (fun _ _ h=>h)) (by rw [HR.o];rfl)
theorem iF (a b:Bs):(⟨a.toArray⟩:ByteArray)++⟨b.toArray⟩=⟨(a++b).toArray⟩:=by
 apply ByteArray.ext
 rw [ByteArray.data_append];simp
theorem wK (a:Bs):(⟨a.toArray⟩:ByteArray)++⟨#[10]⟩=⟨(a++[10]).toArray⟩:=iF a [10]
theorem rB (q r:UInt8) (T:Bs) (a:Nat) (b:a<T.length):([q,r]:Bs).isPrefixOf (T.drop a)=((q==T.getD a 0)&&([r]:Bs).isPrefixOf (T.drop (a+1))):=by
 rw [bV T a b];rfl
theorem ED {T:Bs} {a m:Nat} {out:Bs} (h:T.length≤a):eH (m+1) (T.drop a) out=.error .bad:=by
 rw [tW h];rfl
theorem tI {T:Bs} {a m:Nat} {out:Bs} (h:nQ.isPrefixOf (T.drop a)=true):eH (m+1) (T.drop a) out=.ok (out,T.drop (a+3)):=by
 have b:=kQ h (by decide);have e:T.drop (a+3)=(T.drop (a+1)).drop 2:=by rw [List.drop_drop]
 rw [e];rw [bV T a b] at h ⊢;unfold eH;simp only [aY h]
theorem JG (T:Bs) (a:Nat) (e:a<T.length) (f:Bs→Except SV (Bs×Bs)):(match T.drop (a+1) with|[]=>f []|c::r2=>if c=10 then f r2 else f (c::r2))=if ([10]:Bs).isPrefixOf (T.drop (a+1)) then f (T.drop (a+2)) else f (T.drop (a+1)):=by
 by_cases h:a+1<T.length
 ·rw [dC 10 T (a+1) h,bV T (a+1) h];by_cases b:T.getD (a+1) 0=10
  ·show (if T.getD (a+1) 0=10 then _ else _)=_;rw [aY b,aY (by rw [b];rfl)]
  ·show (if T.getD (a+1) 0=10 then _ else _)=_;rw [aQ b,aQ (by rw [beq_iff_eq];exact fun d=>b d.symm)]
 ·rw [tW (by omega)];rfl
theorem wL {T:Bs} {a m:Nat} {out:Bs} (c:a<T.length) (h:nQ.isPrefixOf (T.drop a)=false) (b:T.getD a 0=13):eH (m+1) (T.drop a) out=if ([10]:Bs).isPrefixOf (T.drop (a+1)) then eH m (T.drop (a+2)) (out++[10]) else eH m (T.drop (a+1)) (out++[10]):=by
 rw [←JG T a c (fun r=>eH m r (out++[10]))];rw [bV T a c] at h ⊢;conv=>lhs;unfold eH
 simp only [h,b];rfl
theorem wM {T:Bs} {a m:Nat} {out:Bs} (c:a<T.length) (h:nQ.isPrefixOf (T.drop a)=false) (b:¬ T.getD a 0=13):eH (m+1) (T.drop a) out=if (aI (T.drop a)).2=0∨bW (aI (T.drop a)).1=false then .error .bad else eH m (T.drop (a+(aI (T.drop a)).2)) (out++(T.drop a).take (aI (T.drop a)).2):=by
 rw [←List.drop_drop];rw [bV T a c] at h ⊢;conv=>lhs;unfold eH
 simp only [h,b,rW,if_false]
def ZM (x:PX) (c:PC) (w0:World) (k:Nat) (b:Act) (w:World):Prop:=
 ∃ f a o m,b=fr 72 f [(0,iU x),(3,aB o)]∧aV x w { c with at':=a }∧aJ (fun k=>k=x.p) w0 w∧k=x.T.length-a∧a≤x.T.length∧o.length≤a∧x.T.length-a<m∧eH (x.T.length+1) (x.T.drop c.at') []=eH m (x.T.drop a) o
theorem GV (x:PX) (hT:x.T.length≤1000000000) (P:Nat) (w:World) (c:PC) (opens:List Bs) (bound:List aM) (out:List bS) (h:dK x P w c opens bound out) (aC:out.length≤1000000000) (ha:c.at'≤x.T.length) :
  Calls prog 30 #[iU x] w (fU x P out w (mY .text opens bound (eH (x.T.length+1) (x.T.drop c.at') []))):=by
 have ⟨H,U,HA,b0⟩:=kS h hT ha aC;clear h hT ha aC;refine eL 72 func30 [_] fun f=>?_;simp only [aF];refine vg ?_;intro K hK;refine cG [0,3] fun f=>?_;refine wp_loop_ghost_k (ZM x c w) (x.T.length-c.at') ⟨f,c.at',[],x.T.length+1,rfl,H.o.blk,aJ.refl _ w,rfl,HA.o,jU _,by omega,rfl⟩ ?_;rintro k _ w2 ⟨f,a,o,m,rfl,hp,hm,hk,b3,b5,b4,b6⟩ J K2 hJ b2;obtain ⟨m',rfl⟩:∃ m',m=m'+1:=⟨m-1,by omega⟩;have ⟨HJ,a3,HP,HM,HK,i⟩:=gT hJ b2 hp hm hk b3;have ⟨W,a6,X⟩:=kV b5 b4 b6;have a1:¬ 9223372036854775807<o.length+1:=by have:=U.o;omega
 clear hJ b2 hp hm hk b3 b5 b4 b6;cases b:nQ.isPrefixOf (x.T.drop a) with
 | true=>
  have B:=Lh (iE x U.o w2 { c with at':=a } HP.o i.o [93,93,62] (by decide) b);have a4:=Lh (nW b i.o);have L:=Lh (X.o.trans (tI b));clear b;revert K;refine vg ?_;intro K hK K hK K hK K hK;refine B.o.mono ?_;rintro e3 Y ⟨rfl,g,q⟩;have E:=Lh (show aV x Y { c with at':=a+3 } from g);have C:=Lh (HM.o.trans q (fun _ _ h=>h));have bC:=Lh (rA x P w Y c opens bound out H.o b0.o (a+3) a4.o E.o C.o (.text o) rfl (mY .text opens bound (eH (x.T.length+1) (x.T.drop c.at') [])) (by rw [L.o];rfl));clear g q B;(repeat revert K);refine vS ?_;intro K hK K hK;refine bC.o.mono ?_;rintro e6 w6 ⟨rfl,h6⟩;have H6:=Lh h6;clear h6;(repeat revert K);refine vS ?_;refine cM ?_;exact H6.o
 | false=>
  have aA:=Lh b;have B:=Lh (gX x U.o w2 { c with at':=a } HP.o i.o [93,93,62] (by decide) b);clear b;by_cases l:a<x.T.length
  ·revert K;refine vg ?_;intro K hK K hK K hK K hK;refine B.o.mono ?_;rintro e3 Y ⟨rfl,g,q⟩;have E:=Lh g;have C:=Lh (HM.o.trans q (fun _ _ h=>h));have HE:=Lh (nV x Y { c with at':=a } g l);clear g q B;(repeat revert K);refine vS ?_;intro K hK K hK K hK K hK;refine HE.o.mono ?_;rintro e4 w4 ⟨rfl,k4,rfl⟩;have O:=Lh (show aV x (Y.drewN k4) { c with at':=a } from E.o);have N:=Lh (C.o.drewN k4);obtain ⟨w4,bA⟩:=cK (Y.drewN k4);rw [←bA] at O N;go_simp;rw [←bA];clear bA HE E C;by_cases e:x.T.getD a 0=13
   ·have L:=Lh (X.o.trans (wL l aA.o e));cases G:([10]:Bs).isPrefixOf (x.T.drop (a+1)) with
    | true=>
     have I:([13,10]:Bs).isPrefixOf (x.T.drop a)=true:=by rw [rB 13 10 x.T a l,e,G];rfl
     have B:=Lh (iE x U.o w4 { c with at':=a } O.o i.o [13,10] (by decide) I);have a4:=Lh (nW I i.o);have d:=Lh (L.o.trans (aY G));clear I G e;(repeat revert K);refine vg ?_;intro K hK K hK K hK K hK;refine B.o.mono ?_;rintro e5 w5 ⟨rfl,y,s⟩;have F:=Lh (show aV x w5 { c with at':=a+2 } from y);have D:=Lh (N.o.trans s (fun _ _ h=>h));clear y s B;(repeat revert K);refine vS ?_;intro K hK K hK;refine Kk [0,3] fun f=>?_;rw [wK];exact a3.o _ _ ⟨x.T.length-(a+2),by rw [HK.o];omega,HJ.o _ _ _ ⟨f,a+2,o++[10],m',rfl,F.o,D.o,rfl,by have:=a4.o;simpa using this,by have:=W.o;rw [fP];simp;omega,by have:=a6.o;omega,d.o⟩⟩
    | false=>
     have T:([13,10]:Bs).isPrefixOf (x.T.drop a)=false:=by rw [rB 13 10 x.T a l,e,G];rfl
     have I:([13]:Bs).isPrefixOf (x.T.drop a)=true:=by rw [dC 13 x.T a l,e];rfl
     have M:=Lh (gX x U.o w4 { c with at':=a } O.o i.o [13,10] (by decide) T);have B:=Lh (fun w h=>iE x U.o w { c with at':=a } h i.o [13] (by decide) I);have d:=Lh (L.o.trans (aQ (by rw [G];simp)));clear I G e T;(repeat revert K);refine vg ?_;intro K hK K hK K hK K hK;refine M.o.mono ?_;rintro e5 w5 ⟨rfl,y,s⟩;have F:=Lh y;have D:=Lh (N.o.trans s (fun _ _ h=>h));clear y s M;(repeat revert K);refine vS ?_;intro K hK K hK K hK K hK;refine (B.o w5 F.o).mono ?_;rintro e6 w6 ⟨rfl,z,u⟩;have j:=Lh (show aV x w6 { c with at':=a+1 } from z);have A:=Lh (D.o.trans u (fun _ _ h=>h));clear z u B;(repeat revert K);refine vS ?_;intro K hK K hK;refine Kk [0,3] fun f=>?_;rw [wK];exact a3.o _ _ ⟨x.T.length-(a+1),by rw [HK.o];omega,HJ.o _ _ _ ⟨f,a+1,o++[10],m',rfl,j.o,A.o,rfl,l,by have:=W.o;rw [fP];simp;omega,by have:=a6.o;omega,d.o⟩⟩
   ·have T:([13,10]:Bs).isPrefixOf (x.T.drop a)=false:=by rw [rB 13 10 x.T a l,lQ.2 (fun h=>e h.symm)];rfl
    have a0:([13]:Bs).isPrefixOf (x.T.drop a)=false:=by rw [dC 13 x.T a l,lQ.2 (fun h=>e h.symm)]
    have L:=Lh (X.o.trans (wM l aA.o e));have M:=Lh (gX x U.o w4 { c with at':=a } O.o i.o [13,10] (by decide) T);have Z:=Lh (fun w h=>gX x U.o w { c with at':=a } h i.o [13] (by decide) a0);have a9:x.T.drop a≠[]:=fun hh=>by have:=congrArg List.length hh;simp at this;omega
    have HW:=Lh (lO (x.T.drop a) a9);have HD:=Lh (fun w=>mB (x.T.drop a) a9 w);clear T a0 e a9;(repeat revert K);refine vg ?_;intro K hK K hK K hK K hK;refine M.o.mono ?_;rintro e5 w5 ⟨rfl,y,s⟩;have F:=Lh y;have D:=Lh (N.o.trans s (fun _ _ h=>h));clear y s M;(repeat revert K);refine vS ?_;intro K hK K hK K hK K hK;refine (Z.o w5 F.o).mono ?_;rintro e6 w6 ⟨rfl,z,u⟩;have j:=Lh z;have A:=Lh (D.o.trans u (fun _ _ h=>h));clear z u Z F D O N;go_simp;have hc:=j.o.cell;have hf:=j.o.frozen;have z1:(0:Int)≤(a:Int):=by omega
    have z3:(a:Int)≤(x.T.length:Int):=by omega
    obtain ⟨r,hr⟩:=cK ((aI (x.T.drop a)).1);obtain ⟨n,hn⟩:=cK ((aI (x.T.drop a)).2);rw [←hr] at HD L;rw [←hn] at HD L HW;clear hr hn;(repeat revert K);refine vg ?_;intro K hK K hK;(refine lD [0,0,0,1,0,0,0,1,0,2,0,0,0,0,0] [0,1,2,3,4,5,6,7,8,9,10,11,12,13,14] ?_;refine vP ?_;repeat with_reducible intro nq)
    rw [iM];refine bI rfl rfl (fun nq K hK=>?_);go_simp;refine (HD.o _).mono ?_;rintro e7 w7 ⟨rfl,rfl⟩;go_simp;refine hK.out _ _ ?_;clear hK K;(refine vP ?_;repeat with_reducible intro nq)
    have HF:=Lh (fun (w':World) (V:aV x w' { c with at':=a }) (h2:aJ (fun k=>k=x.p) w w') (v:Int)=>gW x w w' { c with at':=a } V h2 v);by_cases hn:n=0
    ·have d:=Lh (L.o.trans (aY (aG hn)));subst hn;(repeat revert K);refine vg ?_;intro K hK K hK K hK K hK;refine (HF.o _ (by exact j.o) (by exact eE A.o rfl rfl rfl rfl) _).mono ?_;rintro e8 w8 ⟨rfl,R,Q⟩;have ⟨a7,a5⟩:=cB R Q;clear R Q;(repeat revert K);refine vS ?_;intro K hK K hK;refine cM ?_;exact fU.err (w1:=w) (k:=.bad) H.o a7.o a5.o (by rw [d.o];rfl)
    have b9:((n:Int)==0)=false:=by rw [lQ];omega
    have HN:=Lh hn;have b7:=Lh (fun w=>tD r w);clear hn;(repeat revert K);refine vg ?_;intro K hK K hK K hK K hK;refine (b7.o _).mono ?_;rintro e8 w8 ⟨rfl,rfl⟩;go_simp;cases a8:bW r with
    | false=>
     have d:=Lh (L.o.trans (aY (aU a8)));(repeat revert K);refine vg ?_;intro K hK K hK K hK K hK;refine (HF.o _ (by exact j.o) (by exact eE A.o rfl rfl rfl rfl) _).mono ?_;rintro e8 w8 ⟨rfl,R,Q⟩;have ⟨a7,a5⟩:=cB R Q;clear R Q;(repeat revert K);refine vS ?_;intro K hK K hK;refine cM ?_;exact fU.err (w1:=w) (k:=.bad) H.o a7.o a5.o (by rw [d.o];rfl)
    | true=>
     have d:=Lh (L.o.trans (aQ (fun hh=>hh.elim HN.o (fun h=>Bool.noConfusion (a8.symm.trans h)))));have wn:IntKind.i64.wrap ((a:Int)+(n:Int))=(a:Int)+(n:Int):=by rw [IntKind.wrap_i64];have V:=HW.o;have h2:=U.o;rw [eC] at V;omega
     have z4:(a:Int)≤(a:Int)+(n:Int):=by omega
     have z5:(a:Int)+(n:Int)≤(x.T.length:Int):=by have V:=HW.o;rw [eC] at V;omega
     have z6:(0:Int)≤(a:Int)+(n:Int):=by omega
     have zn:((a:Int)+(n:Int)).toNat=a+n:=by omega
     clear a8;(repeat revert K);refine vg ?_;intro K hK K hK;(refine lD [0,0,0,0,1,0,0,0,1,0,0,0,1,0,0,0,0,0] [0,1,2,3,4,5,6,7,8,9,10,11,12,13,14,15,16,17] ?_;refine vP ?_;repeat with_reducible intro nq)
     rw [kP,Nat.add_sub_cancel_left];obtain ⟨t,ht⟩:=cK ((x.T.drop a).take n);have b1:=Lh (show t.length=n by rw [ht,pI];have V:=HW.o;omega);rw [←ht] at d ⊢;have a2:¬ 9223372036854775807<o.length+t.length:=by have V:=HW.o;have h2:=U.o;have h3:=W.o;have h4:=b1.o;rw [eC] at V;omega
     clear ht zn;(refine vP ?_;repeat with_reducible intro nq)
     rw [iF];(repeat revert K);refine vg ?_;intro K hK;refine Kk [0,3] fun f=>?_;refine a3.o _ _ ⟨x.T.length-(a+n),by rw [HK.o];have:=HN.o;omega,HJ.o _ _ _ ⟨f,a+n,o++t,m',rfl,?_,aJ.setCell (S:=fun k=>k=x.p) (A.o.drewN _) (p:=⟨x.p,1,none⟩) (aG rfl) _,rfl,by have V:=HW.o;rw [eC] at V;omega,by have:=W.o;have:=b1.o;rw [fP];omega,by have:=a6.o;have:=HN.o;omega,d.o⟩⟩;exact aL.set (w:=w6.drewN _) (cs:=fN x { c with at':=a }) j.o 1 _
  ·have L:=Lh (X.o.trans (ED (m:=m') (out:=o) (by omega)));revert K;refine vg ?_;intro K hK K hK K hK K hK;refine B.o.mono ?_;rintro e3 Y ⟨rfl,g,q⟩;have E:=Lh g;have C:=Lh (HM.o.trans q (fun _ _ h=>h));have HE:=Lh (nU x Y { c with at':=a } g (by simp;omega));clear g q B;(repeat revert K);refine vS ?_;intro K hK K hK K hK K hK;refine HE.o.mono ?_;rintro e4 w4 ⟨rfl,k4,rfl⟩;have HF:=Lh (lF x (Y.drewN k4) { c with at':=a } E.o 1);(repeat revert K);refine vS ?_;intro K hK K hK K hK K hK;refine HF.o.mono ?_;rintro e6 w6 ⟨rfl,z,u⟩;have ⟨j,A⟩:=cB z u;clear z u;(repeat revert K);refine vS ?_;intro K hK K hK;refine cM ?_;exact fU.err (w1:=w) (k:=.bad) H.o j.o ((C.o.drewN _).trans A.o (fun _ _ h=>h)) (by rw [L.o];rfl)
end Go.Proofs.YthapcchcahnfaaaGreatDoor
