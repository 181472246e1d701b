/- Part of the proof that laws.FnStrictIsLoose, laws.FnUnclosed, laws.FnReaderFails, laws.FnWithin, laws.FnSkip returns true for every argument. No conditions. -/
import Derived.Test.YthapcchcahnfaaaGreatDoorP36
import Derived.Test.YthapcchcahnfaaaGreatDoorP39
import Derived.Test.YthapcchcahnfaaaGreatDoorP40
import Derived.Test.YthapcchcahnfaaaGreatDoorP22
set_option linter.all false
set_option maxHeartbeats 8000000
set_option maxRecDepth 100000
namespace Go.Proofs.YthapcchcahnfaaaGreatDoor
open Go Go.RowKit
theorem sN (ents:aP):∀ (k f:Nat) (rest out:Bs),rest.length<k→rest.length<f→eC ents k rest out=eC ents f rest out
 | 0,_,_,_,h,_=>by omega
 | _+1,0,_,_,_,h=>by omega
 | k+1,f+1,rest,out,h,h'=>by
  have e:rest=rest.drop 0:=rfl;by_cases c:0<rest.length
  ·rw [e];by_cases a:rest.getD 0 0=60
   ·rw [yD ents c a,yD ents c a]
   ·cases d:oN.isPrefixOf (rest.drop 0) with
    | true=>rw [u9 ents c a d,u9 ents c a d]
    | false=>
     by_cases b:rest.getD 0 0=13
     ·rw [yE ents c a d b,yE ents c a d b];rw [sN ents k f (rest.drop (0+2)) (out++[10]) (by rw [eY];omega) (by rw [eY];omega),sN ents k f (rest.drop (0+1)) (out++[10]) (by rw [eY];omega) (by rw [eY];omega)]
     ·rw [yF ents c a d b,yF ents c a d b];cases g:fW ents (rest.drop 0) with
      | error e=>rfl
      | ok p=>
       obtain ⟨t,i⟩:=p;have:=oI g;exact sN ents k f i (out++t) (by omega) (by omega)
  ·have:rest=[]:=tZ (by omega);subst this;rfl
theorem sO:∀ (k c:Nat) (rest out:Bs),rest.length<k→rest.length<c→fB k rest out=fB c rest out
 | 0,_,_,_,h,_=>by omega
 | _+1,0,_,_,_,h=>by omega
 | k+1,c+1,rest,out,h,h'=>by
  have e:rest=rest.drop 0:=rfl;by_cases f:0<rest.length
  ·rw [e];cases b:oN.isPrefixOf (rest.drop 0) with
   | true=>rw [u7 b,u7 b]
   | false=>
    by_cases a:rest.getD 0 0=13
    ·rw [yB f b a,yB f b a];rw [sO k c (rest.drop (0+2)) (out++[10]) (by rw [eY];omega) (by rw [eY];omega),sO k c (rest.drop (0+1)) (out++[10]) (by rw [eY];omega) (by rw [eY];omega)]
    ·rw [yC f b a,yC f b a];by_cases d:(aI (rest.drop 0)).2=0∨cG (aI (rest.drop 0)).1=false
     ·rw [aV d,aV d]
     ·rw [aN d,aN d];have:(aI (rest.drop 0)).2≠0:=fun g=>d (aH g);exact sO k c _ _ (by rw [eY];omega) (by rw [eY];omega)
  ·have:rest=[]:=tZ (by omega);subst this;rfl
theorem wM {s T:Bs} {a:Nat} (h:s.isPrefixOf (T.drop a)=true):T.drop a=s++T.drop (a+s.length):=by
 obtain ⟨t,b⟩:=List.isPrefixOf_iff_prefix.1 h;rw [←List.drop_drop,←b];simp
theorem SR {o:mL} {first:Bool} {T:Bs} {a:Nat} {opens:List Bs} {bound:List aP} (b:a<T.length) (h:¬ T.getD a 0=60):jL o first ⟨T.drop a,opens,bound⟩=nO .text opens bound (eC o.ents (T.length+1) (T.drop a) []):=by
 rw [sN o.ents (T.length+1) ((T.drop a).length+1) (T.drop a) [] (by rw [eY];omega) (by omega)];unfold jL kX;simp only;rw [cF T a b];simp only [aV (show T.getD a 0≠60 from h)];cases eC o.ents ((T.getD a 0::T.drop (a+1)).length+1) (T.getD a 0::T.drop (a+1)) [] with
 | error e=>rfl
 | ok p=>rfl
theorem WQ {o:mL} {first:Bool} {T:Bs} {a:Nat} {opens:List Bs} {bound:List aP} (h:([60,47]:Bs).isPrefixOf (T.drop a)=true):jL o first ⟨T.drop a,opens,bound⟩=LW o.raw o.space opens bound (oO (T.drop (a+2))):=by
 rw [wM h];show (match (match oO (T.drop (a+2)) with
  | .error e=>.error e
  | .ok (nm,r3)=>.ok (.fin nm,false,r3):Except SV (aO×Bool×Bs)) with
  | .error e=>.error e
  | .ok (t,em,r)=>kY o ⟨r,opens,bound⟩ t em:Except SV (List aO×hZ))=_
 cases oO (T.drop (a+2)) with
 | error e=>rfl
 | ok p=>rfl
theorem SS {o:mL} {first:Bool} {T:Bs} {a:Nat} {opens:List Bs} {bound:List aP} (h:([60,63]:Bs).isPrefixOf (T.drop a)=true):jL o first ⟨T.drop a,opens,bound⟩=LQ opens bound (fV first (T.drop (a+2))):=by
 rw [wM h];show (match (match fV first (T.drop (a+2)) with
  | .error e=>.error e
  | .ok (x,r3)=>.ok (.proc x.1 x.2,false,r3):Except SV (aO×Bool×Bs)) with
  | .error e=>.error e
  | .ok (t,em,r)=>kY o ⟨r,opens,bound⟩ t em:Except SV (List aO×hZ))=_
 cases fV first (T.drop (a+2)) with
 | error e=>rfl
 | ok p=>rfl
theorem WR {o:mL} {first:Bool} {T:Bs} {a:Nat} {opens:List Bs} {bound:List aP} (h:([60,33,45,45]:Bs).isPrefixOf (T.drop a)=true):jL o first ⟨T.drop a,opens,bound⟩=nO .comment opens bound (dR (T.drop (a+4))):=by
 rw [wM h];show (match (match (match dR (T.drop (a+4)) with
  | .error e=>.error e
  | .ok (d,r2)=>.ok (.comment d,r2):Except SV (aO×Bs)) with
  | .error e=>.error e
  | .ok (t,r3)=>.ok (t,false,r3):Except SV (aO×Bool×Bs)) with
  | .error e=>.error e
  | .ok (t,em,r)=>kY o ⟨r,opens,bound⟩ t em:Except SV (List aO×hZ))=_
 cases dR (T.drop (a+4)) with
 | error e=>rfl
 | ok p=>rfl
theorem WS {o:mL} {first:Bool} {T:Bs} {a:Nat} {opens:List Bs} {bound:List aP} (h:([60,33,91,67,68,65,84,65,91]:Bs).isPrefixOf (T.drop a)=true):jL o first ⟨T.drop a,opens,bound⟩=nO .text opens bound (fB (T.length+1) (T.drop (a+9)) []):=by
 obtain ⟨n,b⟩:=cY ((([91,67,68,65,84,65,91]:Bs)++T.drop (a+9)).length+1);rw [sO (T.length+1) n (T.drop (a+9)) [] (by rw [eY];omega) (by rw [b,fY];omega)];rw [wM h,b];show (match (match (match fB ((([91,67,68,65,84,65,91]:Bs)++T.drop (a+9)).length+1) (T.drop (a+9)) [] with
  | .error e=>.error e
  | .ok (d,r2)=>.ok (.text d,r2):Except SV (aO×Bs)) with
  | .error e=>.error e
  | .ok (t,r3)=>.ok (t,false,r3):Except SV (aO×Bool×Bs)) with
  | .error e=>.error e
  | .ok (t,em,r)=>kY o ⟨r,opens,bound⟩ t em:Except SV (List aO×hZ))=_
 cases fB ((([91,67,68,65,84,65,91]:Bs)++T.drop (a+9)).length+1) (T.drop (a+9)) [] with
 | error e=>rfl
 | ok p=>rfl
theorem WT {o:mL} {first:Bool} {T:Bs} {a:Nat} {opens:List Bs} {bound:List aP} (h:([60,33,68,79,67,84,89,80,69]:Bs).isPrefixOf (T.drop a)=true):jL o first ⟨T.drop a,opens,bound⟩=nO (fun d=>.dir (sV++d)) opens bound (pR (T.drop (a+9))):=by
 rw [wM h];show (match (match (match pR (T.drop (a+9)) with
  | .error e=>.error e
  | .ok (d,r2)=>.ok (.dir (sV++d),r2):Except SV (aO×Bs)) with
  | .error e=>.error e
  | .ok (t,r3)=>.ok (t,false,r3):Except SV (aO×Bool×Bs)) with
  | .error e=>.error e
  | .ok (t,em,r)=>kY o ⟨r,opens,bound⟩ t em:Except SV (List aO×hZ))=_
 cases pR (T.drop (a+9)) with
 | error e=>rfl
 | ok p=>rfl
def X8:Bs→Except SV (aO×Bs)
 | []=>.error .bad
 | b::_=>if b=45∨b=91 then .error .bad else .error .opn
theorem ST {o:mL} {first:Bool} {T:Bs} {a:Nat} {opens:List Bs} {bound:List aP} (h:([60,33]:Bs).isPrefixOf (T.drop a)=true) (d:([60,33,45,45]:Bs).isPrefixOf (T.drop a)=false) (f:([60,33,91,67,68,65,84,65,91]:Bs).isPrefixOf (T.drop a)=false) (g:([60,33,68,79,67,84,89,80,69]:Bs).isPrefixOf (T.drop a)=false) :
  ∃ k,jL o first ⟨T.drop a,opens,bound⟩=.error k∧k.num=SB (T.drop (a+2)):=by
 rw [wM h] at d f g ⊢;obtain ⟨R,n⟩:=cY (T.drop (a+2));have i:a+([60,33]:Bs).length=a+2:=rfl;rw [i,←n] at d f g ⊢;have j:([45,45]:Bs).isPrefixOf R=false:=d;have l:C4.isPrefixOf R=false:=f;have m:sV.isPrefixOf R=false:=g;have p:mQ R=X8 R:=by
  unfold mQ;rw [aN (by rw [j];simp),aN (by rw [l];simp),aN (by rw [m];simp)];cases R with
  | nil=>rfl
  | cons b r=>rfl
 have q:jL o first ⟨[60,33]++R,opens,bound⟩=(match (match mQ R with
  | .error e=>.error e
  | .ok (t,r3)=>.ok (t,false,r3):Except SV (aO×Bool×Bs)) with
  | .error e=>.error e
  | .ok (t,em,r)=>kY o ⟨r,opens,bound⟩ t em):=rfl
 rw [q,p];cases R with
 | nil=>exact ⟨.bad,rfl,rfl⟩
 | cons b r=>
  unfold SB X8;simp only;by_cases c:b=45∨b=91
  ·rw [aV c,aV c];exact ⟨.bad,rfl,rfl⟩
  ·rw [aN c,aN c];exact ⟨.opn,rfl,rfl⟩
theorem N9 {o:mL} {first:Bool} {T:Bs} {a:Nat} {opens:List Bs} {bound:List aP} (j:a < T.length) (h:T.getD a 0=60) (b:([60,47]:Bs).isPrefixOf (T.drop a)=false) (d:([60,63]:Bs).isPrefixOf (T.drop a)=false) (f:([60,33]:Bs).isPrefixOf (T.drop a)=false):jL o first ⟨T.drop a,opens,bound⟩=LX o opens bound (fM o.ents (T.drop (a + 1))):=by
  rw [cF T a j,h] at b d f ⊢;cases l:T.drop (a + 1) with
  | nil=>rfl
  | cons c r=>
    rw [l] at b d f;have g:∀ q:UInt8,([60,q]:Bs).isPrefixOf (60 :: c :: r)=false → ¬ c=q:=by
      intro q i k;rw [k] at i;have:([60,q]:Bs).isPrefixOf (60 :: q :: r)=(q == q):=by
        show ((60:UInt8) == 60 && (q == q && List.isPrefixOf [] r))=_;cases (q == q) <;> rfl
      rw [this] at i;simp at i
    have n:=g 47 b;have s:=g 63 d;have u:=g 33 f;have m : jL o first ⟨60 :: c :: r, opens, bound⟩ = (match (if c = 47 then (match oO r with
          | .error e=>.error e
          | .ok (nm,r3)=>.ok (.fin nm,false,r3))
        else if c=63 then (match fV first r with
          | .error e=>.error e
          | .ok (x,r3)=>.ok (.proc x.1 x.2,false,r3))
        else if c=33 then (match mQ r with
          | .error e=>.error e
          | .ok (t,r3)=>.ok (t,false,r3))
        else match fM o.ents (c :: r) with
          | .error e=>.error e
          | .ok (nm,ats,em,r3)=>.ok (.start nm ats,em,r3):Except SV (aO × Bool × Bs)) with
      | .error e=>.error e
      | .ok (t,em,r)=>kY o ⟨r,opens,bound⟩ t em):=rfl
    rw [m,aN n,aN s,aN u];cases fM o.ents (c :: r) with
    | error e=>rfl
    | ok p=>rfl
theorem SU (x:PX) (hT:x.T.length≤100000000) (e:Nat) (o:mL) (a2:lN o.ents) (aL:WN x e) (Y:SL x e) (a8:o.raw=x.raw) (a9:o.space=x.space) (w:World) (c:PC) (opens:List Bs) (bound:List aP) (out:List cD) (h:dZ x e w c opens bound out) (J:out.length≤499999999) (a7:opens.length≤499999999) (a3:bound.length=opens.length) (ha:c.at'<x.T.length) (hE:qM x e o.ents w) :
  Calls Tryz.prog 15 #[jP x] w (gG x e out w (jL o (c.at'==0) ⟨x.T.drop c.at',opens,bound⟩)):=by
 have T:x.T.length≤1000000000:=by omega
 have hc:=h.blk.cell;have hf:=h.blk.frozen;have ⟨H,HT,v,HE,Z,n⟩:=iH h hT T hE a2 J;have ⟨aC,X,b4,b1,a0,a1⟩:=iH a7 a3 aL Y a8 a9;have C:=Lh ha;have L:=Lh (show ∀ w',w'.os=w.os→w'.tape=w.tape→w'.output=w.output→w'.heap=w.heap→aM (fun k=>k=x.p) w w' from fun w' h1 h2 h3 h4=>eX (aM.refl _ w) h1 h2 h3 h4);have l:=Lh (fun (w':World) (hm:aM (fun k=>k=x.p) w w')=>aM.below (Below.refl e w) h.size hm (fun i hi=>by rw [hi];exact h.pb));have q:=Lh (fun (s:Bs) (hs:s.length≤1000000000) (w':World) (h:aY x w' c)=>wB x T w' c h (Nat.le_of_lt ha) s hs);obtain ⟨b,hb⟩:=cY (x.T.getD c.at' 0);have ix:∀ h,(⟨x.T.toArray⟩:ByteArray)[c.at']'h=b:=by rw [hb];exact jE x.T c.at' ha
 have t0:(0:Int)≤(c.at':Int):=by omega
 have t1:(c.at':Int)<(x.T.length:Int):=by omega
 have W:=Lh hb;clear h hT T hE a2 J a7 a3 aL Y ha a8 a9 hb;refine eI 57 Tryz.func15 [_] fun f=>?_;simp only [aF];by_cases z:b=60
 rotate_left
 ·have I:((b.toNat:Int) != 60)=true:=SE z;have t:=Lh (SR (o:=o) (first:=c.at'==0) (opens:=opens) (bound:=bound) C.o (by rw [←W.o];exact z));have c7:=Lh (fun (w':World) (h1:aY x w' c) (h2:aM (fun k=>k=x.p) w w')=>WL x v.o e o.ents Z.o w' c opens bound out (H.o.own h1 h2 rfl rfl rfl) (by have:=n.o;omega) (Nat.le_of_lt C.o) (HE.o.below (l.o w' h2)));clear z;refine vg ?_;intro K hK K hK;(refine lX [0,0,0,1,0,0,0,1,0,0,0] [0,1,2,3,4,5,6,7,8,9,10] ?_;refine vP ?_;repeat with_reducible intro nq)
  (repeat revert K);refine vg ?_;intro K hK K hK K hK;refine (c7.o _ (by exact H.o.blk) (by exact L.o _ rfl rfl rfl rfl)).mono ?_;rintro y A m;have r:gG x e out w (jL o (c.at'==0) ⟨x.T.drop c.at',opens,bound⟩) y A:=by rw [t.o];exact gG.base (l.o (w.drewN _) (L.o (w.drewN _) rfl rfl rfl rfl)) m
  obtain ⟨U,rfl⟩:=gG.bool m;have u:=Lh r;clear m r;(repeat revert K);refine vS ?_;intro K hK;refine cO ?_;exact u.o
 have I:((b.toNat:Int) != 60)=false:=by rw [z];rfl
 have bL:=Lh (show x.T.getD c.at' 0=60 by rw [←W.o];exact z);clear z;refine vg ?_;intro K hK K hK;(refine lX [0,0,0,1,0,0,0,1,0,0,0] [0,1,2,3,4,5,6,7,8,9,10] ?_;refine vP ?_;repeat with_reducible intro nq)
 clear hc hf ix I t0 t1;(repeat revert K);refine vg ?_;intro K hK K hK K hK;refine (q.o [60,47] (by decide) _ (by exact H.o.blk)).mono ?_;rintro eh w1 ⟨rfl,a,j⟩;have M:=Lh (show aM (fun k=>k=x.p) w w1 from (L.o (w.drewN _) rfl rfl rfl rfl).trans j (fun _ _ h=>h));clear j;cases g:([60,47]:Bs).isPrefixOf (x.T.drop c.at') with
 | true=>
  rw [g,aV rfl] at a;have B:=Lh (show aY x w1 { c with at':=c.at'+2 } from a);have E:=Lh (show c.at'+2≤x.T.length from oU g (Nat.le_of_lt C.o));have t:=Lh (show jL o (c.at'==0) ⟨x.T.drop c.at',opens,bound⟩=LW x.raw x.space opens bound (oO (x.T.drop (c.at'+2))) by rw [←a0.o,←a1.o];exact WQ g);have D:=Lh (N6 x v.o e b1.o w1 { c with at':=c.at'+2 } opens bound out (H.o.own B.o M.o rfl rfl rfl) (by have:=n.o;omega) (by have:=aC.o;omega) X.o E.o);clear a g;rw [show (true:Bool)=true from rfl];(repeat revert K);refine vS ?_;intro K hK K hK K hK;refine D.o.mono ?_;rintro y A m;have r:gG x e out w (jL o (c.at'==0) ⟨x.T.drop c.at',opens,bound⟩) y A:=by rw [t.o];exact gG.base (l.o _ M.o) m
  obtain ⟨U,rfl⟩:=gG.bool m;have u:=Lh r;clear m r;(repeat revert K);refine vS ?_;intro K hK;refine cO ?_;exact u.o
 | false=>
  rw [g,aN (by simp)] at a;have b5:=Lh (show aY x w1 c from a);have c2:=Lh g;clear a g;(repeat revert K);refine vS ?_;intro K hK K hK K hK;refine (q.o [60,63] (by decide) _ b5.o).mono ?_;rintro eh w2 ⟨rfl,a,j⟩;have N:=Lh (M.o.trans j (fun _ _ h=>h));clear j;cases g:([60,63]:Bs).isPrefixOf (x.T.drop c.at') with
  | true=>
   rw [g,aV rfl] at a;have B:=Lh (show aY x w2 { c with at':=c.at'+2 } from a);have E:=Lh (show c.at'+2≤x.T.length from oU g (Nat.le_of_lt C.o));have t:=Lh (show jL o (c.at'==0) ⟨x.T.drop c.at',opens,bound⟩=LQ opens bound (fV (c.at'+2==2) (x.T.drop (c.at'+2))) by rw [show (c.at'+2==2)=(c.at'==0) by rw [Bool.eq_iff_iff];simp];exact SS g);have D:=Lh (SH x v.o e w2 { c with at':=c.at'+2 } opens bound out (H.o.own B.o N.o rfl rfl rfl) (by have:=n.o;omega) E.o);clear a g;rw [show (true:Bool)=true from rfl];(repeat revert K);refine vS ?_;intro K hK K hK K hK;refine D.o.mono ?_;rintro y A m;have r:gG x e out w (jL o (c.at'==0) ⟨x.T.drop c.at',opens,bound⟩) y A:=by rw [t.o];exact gG.base (l.o _ N.o) m
   obtain ⟨U,rfl⟩:=gG.bool m;have u:=Lh r;clear m r;(repeat revert K);refine vS ?_;intro K hK;refine cO ?_;exact u.o
  | false=>
   rw [g,aN (by simp)] at a;have b6:=Lh (show aY x w2 c from a);have c3:=Lh g;clear a g;(repeat revert K);refine vS ?_;intro K hK K hK K hK;refine (q.o [60,33,45,45] (by decide) _ b6.o).mono ?_;rintro eh w3 ⟨rfl,a,j⟩;have O:=Lh (N.o.trans j (fun _ _ h=>h));clear j;cases g:([60,33,45,45]:Bs).isPrefixOf (x.T.drop c.at') with
   | true=>
    rw [g,aV rfl] at a;have B:=Lh (show aY x w3 { c with at':=c.at'+4 } from a);have E:=Lh (show c.at'+4≤x.T.length from oU g (Nat.le_of_lt C.o));have t:=Lh (show jL o (c.at'==0) ⟨x.T.drop c.at',opens,bound⟩=nO .comment opens bound (dR (x.T.drop (c.at'+4))) from WR g);have D:=Lh (JT x v.o e w3 { c with at':=c.at'+4 } opens bound out (H.o.own B.o O.o rfl rfl rfl) (by have:=n.o;omega) E.o);clear a g;rw [show (true:Bool)=true from rfl];(repeat revert K);refine vS ?_;intro K hK K hK K hK;refine D.o.mono ?_;rintro y A m;have r:gG x e out w (jL o (c.at'==0) ⟨x.T.drop c.at',opens,bound⟩) y A:=by rw [t.o];exact gG.base (l.o _ O.o) m
    obtain ⟨U,rfl⟩:=gG.bool m;have u:=Lh r;clear m r;(repeat revert K);refine vS ?_;intro K hK;refine cO ?_;exact u.o
   | false=>
    rw [g,aN (by simp)] at a;have b7:=Lh (show aY x w3 c from a);have c4:=Lh g;clear a g;(repeat revert K);refine vS ?_;intro K hK K hK K hK;refine (q.o [60,33,91,67,68,65,84,65,91] (by decide) _ b7.o).mono ?_;rintro eh w4 ⟨rfl,a,j⟩;have P:=Lh (O.o.trans j (fun _ _ h=>h));clear j;cases g:([60,33,91,67,68,65,84,65,91]:Bs).isPrefixOf (x.T.drop c.at') with
    | true=>
     rw [g,aV rfl] at a;have B:=Lh (show aY x w4 { c with at':=c.at'+9 } from a);have E:=Lh (show c.at'+9≤x.T.length from oU g (Nat.le_of_lt C.o));have t:=Lh (show jL o (c.at'==0) ⟨x.T.drop c.at',opens,bound⟩=nO .text opens bound (fB (x.T.length+1) (x.T.drop (c.at'+9)) []) from WS g);have D:=Lh (JU x v.o e w4 { c with at':=c.at'+9 } opens bound out (H.o.own B.o P.o rfl rfl rfl) (by have:=n.o;omega) E.o);clear a g;rw [show (true:Bool)=true from rfl];(repeat revert K);refine vS ?_;intro K hK K hK K hK;refine D.o.mono ?_;rintro y A m;have r:gG x e out w (jL o (c.at'==0) ⟨x.T.drop c.at',opens,bound⟩) y A:=by rw [t.o];exact gG.base (l.o _ P.o) m
     obtain ⟨U,rfl⟩:=gG.bool m;have u:=Lh r;clear m r;(repeat revert K);refine vS ?_;intro K hK;refine cO ?_;exact u.o
    | false=>
     rw [g,aN (by simp)] at a;have b8:=Lh (show aY x w4 c from a);have c5:=Lh g;clear a g;(repeat revert K);refine vS ?_;intro K hK K hK K hK;refine (q.o [60,33,68,79,67,84,89,80,69] (by decide) _ b8.o).mono ?_;rintro eh w5 ⟨rfl,a,j⟩;have Q:=Lh (P.o.trans j (fun _ _ h=>h));clear j;cases g:([60,33,68,79,67,84,89,80,69]:Bs).isPrefixOf (x.T.drop c.at') with
     | true=>
      rw [g,aV rfl] at a;have B:=Lh (show aY x w5 { c with at':=c.at'+9 } from a);have E:=Lh (show c.at'+9≤x.T.length from oU g (Nat.le_of_lt C.o));have t:=Lh (show jL o (c.at'==0) ⟨x.T.drop c.at',opens,bound⟩=nO (fun d=>.dir (sV++d)) opens bound (pR (x.T.drop (c.at'+9))) from WT g);have D:=Lh (J0 x v.o e w5 { c with at':=c.at'+9 } opens bound out (H.o.own B.o Q.o rfl rfl rfl) (by have:=n.o;omega) E.o);clear a g;rw [show (true:Bool)=true from rfl];(repeat revert K);refine vS ?_;intro K hK K hK K hK;refine D.o.mono ?_;rintro y A m;have r:gG x e out w (jL o (c.at'==0) ⟨x.T.drop c.at',opens,bound⟩) y A:=by rw [t.o];exact gG.base (l.o _ Q.o) m
      obtain ⟨U,rfl⟩:=gG.bool m;have u:=Lh r;clear m r;(repeat revert K);refine vS ?_;intro K hK;refine cO ?_;exact u.o
     | false=>
      rw [g,aN (by simp)] at a;have cT:=Lh (show aY x w5 c from a);have c6:=Lh g;clear a g;(repeat revert K);refine vS ?_;intro K hK K hK K hK;refine (q.o [60,33] (by decide) _ cT.o).mono ?_;rintro eh V ⟨rfl,a,j⟩;have aA:=Lh (Q.o.trans j (fun _ _ h=>h));clear j;cases g:([60,33]:Bs).isPrefixOf (x.T.drop c.at') with
      | true=>
       rw [g,aV rfl] at a;have B:=Lh (show aY x V { c with at':=c.at'+2 } from a);obtain ⟨kk,a4,a5⟩:=ST (o:=o) (first:=c.at'==0) (opens:=opens) (bound:=bound) g c4.o c5.o c6.o;have t:=Lh a4;have b0:=Lh (SC x V { c with at':=c.at'+2 } B.o);have HK:=Lh a5;clear a g a4 a5;(repeat revert K);refine vS ?_;intro K hK K hK K hK;refine b0.o.mono ?_;rintro e7 w7 ⟨rfl,k7,rfl⟩;rw [show ({ c with at':=c.at'+2 }:PC).at'=c.at'+2 from rfl,←HK.o];have HF:=Lh (iL x w (V.drewN k7) { c with at':=c.at'+2 } B.o (aA.o.drewN k7) kk.num);(repeat revert K);refine vS ?_;intro K hK K hK K hK;refine HF.o.mono ?_;rintro e8 w8 ⟨rfl,bC,a6⟩;have ⟨c1,b3⟩:=cN bC a6;clear bC a6;(repeat revert K);refine vS ?_;intro K hK;refine cO ?_;exact gG.err (w1:=w) (k:=kk) H.o c1.o b3.o t.o
      | false=>
       rw [g,aN (by simp)] at a;have R:=Lh (show aY x V c from a);have t:=Lh (N9 (o:=o) (first:=c.at'==0) (opens:=opens) (bound:=bound) C.o bL.o c2.o c3.o g);have c8:IntKind.i64.wrap ((c.at':Int)+1)=((c.at'+1:Nat):Int):=by rw [IntKind.wrap_i64];have:=HT.o;have:=C.o;omega
       obtain ⟨w7,G⟩:=cY (V.setCell ⟨x.p,1,none⟩ (.int .i64 ((c.at':Int)+1)));have bA:aY x w7 { c with at':=c.at'+1 }:=by rw [G];exact aJ.set (w:=V) (cs:=gA x c) R.o 1 _
       have F:aM (fun k=>k=x.p) w w7:=by rw [G];exact aM.setCell (S:=fun k=>k=x.p) aA.o (p:=⟨x.p,1,none⟩) (aH rfl) _
       have HS:=Lh (SQ x HT.o e o.ents Z.o b4.o o a0.o a1.o w7 { c with at':=c.at'+1 } opens bound out (H.o.own bA F rfl rfl rfl) n.o aC.o X.o C.o (HE.o.below (l.o w7 F)));have b2:=Lh F;have hc:=R.o.cell;have hf:=R.o.frozen;clear a g bA F;go_simp;(repeat revert K);refine vT 16 ?_;rw [←G];clear G hc hf;refine vg ?_;intro K hK K hK;refine HS.o.mono ?_;rintro y A m;have r:gG x e out w (jL o (c.at'==0) ⟨x.T.drop c.at',opens,bound⟩) y A:=by rw [t.o];exact gG.base (l.o _ b2.o) m
       obtain ⟨U,rfl⟩:=gG.bool m;have u:=Lh r;clear m r;(repeat revert K);refine vS ?_;refine cO ?_;exact u.o
theorem OA (a b:aP) (s:Bs):eS (a++b) s=match eS a s with|some t=>some t|none=>eS b s:=by
 unfold eS;rw [List.find?_append];cases a.find? (·.1==s)<;>rfl
theorem J1 (ents:aP):k8 (some (eS ents)) ents:=by
 intro s;rw [OA];have h:=yQ s;rw [List.append_nil] at h;rw [←h];unfold yI;cases tG s<;>rfl
theorem GT {ents:aP} {first em:Bool} {t:aO} {rest r:Bs} (h:kX ents first rest=.ok (t,em,r)):r.length<rest.length:=by
 obtain ⟨d,c,_⟩:=FR ⟨false,true,some (eS ents),[],[],false⟩ (J1 ents) (St.init rest) rfl rfl (first:=first) (em:=em) (t:=t) (r:=r) h;obtain ⟨_,_,_,_,_,_,b⟩:=iB c;rcases b with ⟨nm,a,_⟩|⟨_,a,_⟩
 ·cases a
 ·have:=QZ t;simp only [St.init] at a;omega
theorem vC {d:Bool} {b:Bs} {s c:hZ} {nm:Bs×Bs} {t:aO} (h:fD d b s nm=.ok (t,c)):c.rest=s.rest∧c.opens.length≤s.opens.length∧(s.bound.length=s.opens.length→c.bound.length=c.opens.length):=by
 unfold fD at h;split at h
 ·simp only [bT,bR] at h;rw [←h.2];exact ⟨rfl,dD _,id⟩
 ·cases e:s.opens with
  | nil=>rw [e] at h;cases h
  | cons a l=>
   rw [e] at h;simp only at h;split at h
   ·simp only [bT,bR] at h;rw [←h.2];refine ⟨rfl,by simp,fun f=>?_⟩;simp only [List.length_tail,gN] at f ⊢;omega
   ·cases h
theorem GU {d:Bool} {a:Bs} {s b:hZ} {nm:Bs×Bs} {c:List cZ} {t:aO} (h:nD d a s nm c=.ok (t,b)):b.rest=s.rest∧b.opens.length≤s.opens.length+1∧(s.bound.length=s.opens.length→b.bound.length=b.opens.length):=by
 unfold nD at h;split at h
 ·simp only [bT,bR] at h;rw [←h.2];exact ⟨rfl,by omega,id⟩
 ·split at h
  ·cases h
  ·split at h
   ·cases h
   ·split at h
    ·cases h
    ·split at h
     ·cases h
     ·simp only [bT,bR] at h;rw [←h.2];exact ⟨rfl,by simp,fun e=>by simp [e]⟩
theorem CF {o:mL} {first:Bool} {s c:hZ} {p:List aO} (h:jL o first s=.ok (p,c)):c.rest.length<s.rest.length∧p.length≤2∧c.opens.length≤s.opens.length+1∧(s.bound.length=s.opens.length→c.bound.length=c.opens.length):=by
 unfold jL at h;cases g:kX o.ents first s.rest with
 | error e=>rw [g] at h;cases h
 | ok x=>
  obtain ⟨t,em,r⟩:=x;have a:=GT g;rw [g] at h;simp only at h;unfold kY at h;split at h
  ·rename_i nm d;cases f:nD o.raw o.space { s with rest:=r } nm d with
   | error e=>rw [f] at h;cases h
   | ok y=>
    obtain ⟨A,n⟩:=y;obtain ⟨g1,k,l⟩:=GU f;have q:n.opens.length≤s.opens.length+1:=k;rw [f] at h;simp only at h;split at h
    ·cases b:fD o.raw o.space n nm with
     | error e=>rw [b] at h;cases h
     | ok z=>
      obtain ⟨w,v⟩:=z;obtain ⟨i,m,j⟩:=vC b;rw [b] at h;simp only [bT,bR] at h;rw [←h.1,←h.2,i,g1];exact ⟨a,by simp,by omega,fun u=>j (l u)⟩
    ·simp only [bT,bR] at h;rw [←h.1,←h.2,g1];exact ⟨a,by simp,k,l⟩
  ·rename_i nm;cases b:fD o.raw o.space { s with rest:=r } nm with
   | error e=>rw [b] at h;cases h
   | ok z=>
    obtain ⟨w,v⟩:=z;obtain ⟨i,m,j⟩:=vC b;rw [b] at h;simp only [bT,bR] at h;rw [←h.1,←h.2,i];exact ⟨a,by simp,by simp only at m;omega,j⟩
  ·simp only [bT,bR] at h;rw [←h.1,←h.2];exact ⟨a,by simp,by simp,id⟩
def dU (q:aO×Nat):cD:={ q.1.itok [] with at':=q.2 }
def qN:Option SV→Int
 | none=>0
 | some k=>k.num
def Ed (x:PX) (b:Nat) (o:mL) (w0:World) (k:Nat) (d:Act) (w:World):Prop:=
 ∃ f c opens bound a m,d=fr 45 f [(10,jP x)]∧dZ x b w c opens bound (a.map dU)∧Below b w0 w∧k=x.T.length-c.at'∧c.at'≤x.T.length∧a.length≤2*c.at'∧opens.length≤c.at'∧bound.length=opens.length∧x.T.length-c.at'<m∧cV o x.T=mS o x.T m ⟨x.T.drop c.at',opens,bound⟩ a
def pJ (o:mL) (T:Bs) (w:World) (e:Ending) (w':World):Prop:=
 ∃ out a,e=.returned (.tuple #[out,.int .i64 (qN (cV o T).2)])∧Below w.heap.size w w'∧w'.ownsRow w.heap.size 35 6 out (cV o T).1.length a∧cI (kC w' w.heap.size (fun _=>True)) ((cV o T).1.map dU) a
theorem pJ.of {x:PX} {o:mL} {w w':World} {c:PC} {opens:List Bs} {bound:List aP} {a:List (aO×Nat)} {v:Option SV} (b:cV o x.T=(a,v)) (h:dZ x w.heap.size w' c opens bound (a.map dU)) (f:Below w.heap.size w w'):pJ o x.T w (.returned (.tuple #[c.out,.int .i64 (qN v)])) w':=by
 obtain ⟨i,d,e⟩:=h.out;refine ⟨c.out,i,by rw [b],f,by rw [b];simpa using d,?_⟩;rw [b];exact e.mono (fun _ _ g=>g.mod (aM.refl (fun _=>False) _) (fun _ _ _=>⟨id,trivial⟩))
theorem AS (T:Bs) (hT:T.length≤100000000) (o:mL) (aC:lN o.ents) (ev:Value) (w:World) (x:PX) (P:x=⟨w.heap.size,T,o.raw,ev,o.space⟩) (c1:∃ A B C,ev=.slice A B C) (hE:qM x w.heap.size o.ents w) (p:WN x w.heap.size) (S:SL x w.heap.size) :
  Calls Tryz.prog 8 #[aB T,.bool o.raw,ev,aB o.space] w (pJ o T w):=by
 obtain ⟨X,Y,Z,rfl⟩:=c1;have e1:x.T=T:=by rw [P]
 have e2:x.p=w.heap.size:=by rw [P]
 have W:x.raw=o.raw:=by rw [P]
 have e4:x.space=o.space:=by rw [P]
 have e5:x.ents=.slice X Y Z:=by rw [P]
 rw [←e1,←e4,←W,←e5];obtain ⟨wa,D⟩:=cY (w.alloc (.cells (gA x ⟨0,.slice none 0 0,.slice none 0 0,.slice none 0 0,0⟩) 51));have a6:aY x wa ⟨0,.slice none 0 0,.slice none 0 0,.slice none 0 0,0⟩:=by rw [D,aY,e2];exact aJ.new w _ _
 have s:Below w.heap.size w wa:=by rw [D];exact (Below.refl _ w).alloc (dD _) _
 have d:dZ x w.heap.size wa ⟨0,.slice none 0 0,.slice none 0 0,.slice none 0 0,0⟩ [] [] []:=
  ⟨a6,by rw [e2];exact dD _,⟨[],⟨rfl,aH ⟨rfl,rfl⟩⟩,.nil⟩,⟨[],⟨rfl,aH ⟨rfl,rfl⟩⟩,.nil⟩,⟨[],⟨rfl,aH ⟨rfl,rfl⟩⟩,.nil⟩,by simp [Value.ownBlock],fun k O=>(by cases O),fun k O=>(by cases O)⟩
 have ⟨h,a,HE,bC,b4,bA⟩:=iH d s hE aC p S;have c3:=Lh e1;have HT:=Lh (show x.T.length≤100000000 by rw [e1];exact hT);have b5:=Lh W.symm;have b6:=Lh e4.symm;have a9:w.alloc (.cells #[aB x.T,.int .i64 0,.bool x.raw,.slice X Y Z,aB x.space,.slice none 0 0,.slice none 0 0,.slice none 0 0,.int .i64 0] 51)=wa:=by rw [D,←e5];rfl
 have cT:=Lh a9;have a7:jP x=.pointer (some ⟨w.heap.size,0,none⟩):=by rw [←e2]
 have b7:=Lh a7;clear P hT aC hE p S a6 s d e1 e2 W e4 D a9 a7;refine eI 45 Tryz.func8 [_,_,_,_] fun f=>?_;simp only [aF];refine vg ?_;intro K hK;rw [cT.o,←b7.o];refine cP [10] fun f=>?_;refine wp_loop_ghost_k (Ed x w.heap.size o w) x.T.length ⟨f,_,[],[],[],x.T.length+1,rfl,h.o,a.o,rfl,iW _,iW _,iW _,rfl,by simp,rfl⟩ ?_;clear e5 h a;rintro k _ w2 ⟨f,c,opens,bound,b,m,rfl,d,s,O,a1,a3,a4,a0,a2,a8⟩ J K2 hJ aL;obtain ⟨m',rfl⟩:∃ m',m=m'+1:=⟨m-1,by omega⟩;have ⟨HJ,b2,h,a,HK,c4⟩:=iH hJ aL d s O a1;have ⟨U,p,R,b3,V⟩:=o4 a3 a4 a0 a2 a8;clear hJ aL s O a1 a3 a4 a0 a2 a8;by_cases z:c.at'<x.T.length
 rotate_left
 ·have F:=Lh (fun (w':World) (h1:aY x w' c)=>oR x w' c h1 (by omega));have M:=Lh (show cV o x.T=(b,if opens=[] then none else some .bad) by
   rw [V.o,vN (by omega)];unfold mS;simp only [if_true])
  obtain ⟨oA,oC,a5⟩:∃ oA oC,c.op=.slice oA opens.length oC:=by
   obtain ⟨_,I,_⟩:=d.op;rcases I.2 with ⟨I,h8⟩|⟨g,cap,cur,I,_⟩
   ·exact ⟨none,0,by rw [I,h8]⟩
   ·exact ⟨_,_,I⟩
  have hc:=d.blk.cell;have hf:=d.blk.frozen;have c2:=Lh a5;clear d z;revert K;refine vg ?_;intro K hK K hK K hK K hK;refine (F.o _ h.o.blk).mono ?_;rintro W w3 ⟨rfl,k3,rfl⟩;go_simp;by_cases n:opens=[]
  ·have hz:opens.length=0:=by rw [n];rfl
   have G:=Lh (M.o.trans (by rw [aV n]));clear n;(repeat revert K);refine vg ?_;refine kN ?_;exact pJ.of (c:=c) (v:=none) G.o (h.o.fresh ⟨rfl,rfl,rfl,dD _,fun _ _ _=>rfl⟩) ⟨a.o.os,a.o.tape,a.o.output,a.o.size,a.o.block⟩
  ·have hz:(0:Int)<(opens.length:Int):=by cases opens with
    | nil=>exact absurd rfl n
    | cons=>simp
   have c6:0<opens.length:=by omega
   have G:=Lh (M.o.trans (by rw [aN n]));clear n;(repeat revert K);refine vg ?_;intro K hK;refine kN ?_;exact pJ.of (c:=c) (v:=some .bad) G.o (h.o.fresh ⟨rfl,rfl,rfl,dD _,fun _ _ _=>rfl⟩) ⟨a.o.os,a.o.tape,a.o.output,a.o.size,a.o.block⟩
 have F:=Lh (fun (w':World) (h1:aY x w' c)=>oS x w' c h1 z);have b8:=Lh (fun (w':World) (h1:dZ x w.heap.size w' c opens bound (b.map dU)) (h2:qM x w.heap.size o.ents w')=>SU x HT.o w.heap.size o bC.o b4.o bA.o b5.o b6.o w' c opens bound _ h1 (by rw [List.length_map];have:=U.o;have:=HT.o;omega) (by have:=p.o;have:=HT.o;omega) R.o z h2);have E:=Lh (show cV o x.T=match jL o (c.at'==0) ⟨x.T.drop c.at',opens,bound⟩ with
   | .error e=>(b,some e)
   | .ok (Q,u)=>mS o x.T m' u (b++Q.map fun t=>(t,x.T.length-u.rest.length)) by
  rw [V.o];conv=>lhs;unfold mS
  rw [aN (fun hh=>by have I:=congrArg List.length hh;simp only [eY,List.length_nil] at I;omega)];have e9:((x.T.drop c.at').length==x.T.length)=(c.at'==0):=by
   rw [Bool.eq_iff_iff,beq_iff_eq,beq_iff_eq,eY];omega
  simp only [e9];try rfl)
 clear d z;revert K;refine vg ?_;intro K hK K hK K hK K hK;refine (F.o _ h.o.blk).mono ?_;rintro W w3 ⟨rfl,k3,rfl⟩;(repeat revert K);refine vS ?_;intro K hK K hK K hK;refine (b8.o _ (by exact h.o.fresh ⟨rfl,rfl,rfl,dD _,fun _ _ _=>rfl⟩) (by exact HE.o.below ⟨a.o.os,a.o.tape,a.o.output,a.o.size,a.o.block⟩)).mono ?_;rintro e4 w4 N;obtain ⟨l,N⟩:=N;have i:=Lh (show Below w.heap.size w w4 from a.o.trans ⟨l.os,l.tape,l.output,l.size,l.block⟩);clear l;cases L:jL o (c.at'==0) ⟨x.T.drop c.at',opens,bound⟩ with
 | error kk=>
  rw [L] at N;obtain ⟨rfl,j,c7,c5,H,h6⟩:=N;have ⟨H5,H6⟩:=cN H h6;have M:=Lh (show cV o x.T=(b,some kk) by rw [E.o,L]);have hc:=H.blk.cell;have hf:=H.blk.frozen;clear H h6 L;(repeat revert K);refine vS ?_;intro K hK K hK;go_quiet (fail);(repeat revert K);refine vg ?_;intro K hK;refine kN ?_;rw [H6.o];exact pJ.of (c:=j) (v:=some kk) M.o (H5.o.fresh ⟨rfl,rfl,rfl,dD _,fun _ _ _=>rfl⟩) ⟨i.o.os,i.o.tape,i.o.output,i.o.size,i.o.block⟩
 | ok q=>
  rw [L] at N;obtain ⟨Q,u⟩:=q;obtain ⟨rfl,j,H,h6,h7⟩:=N;obtain ⟨f1,f2,f3,f4⟩:=CF L;have r:u.rest=x.T.drop j.at':=h7;have aA:j.at'≤x.T.length:=h6;rw [r,eY,eY] at f1;have ⟨H5,H6,y,bL,b0,b1⟩:=iH H aA f1 f2 f3 f4;have M:=Lh (show cV o x.T=mS o x.T m' ⟨x.T.drop j.at',u.opens,u.bound⟩ (b++Q.map fun t=>(t,j.at')) by
   rw [E.o,L];simp only;rw [r,eY,show x.T.length-(x.T.length-j.at')=j.at' by omega];obtain ⟨r9,o9,b9⟩:=u;simp only at r;rw [r])
  clear H h6 h7 L f1 f2 f3 f4 r aA;(repeat revert K);refine vS ?_;intro K hK;refine Kk [10] fun f=>?_;refine b2.o _ _ ⟨x.T.length-j.at',by rw [HK.o];have:=y.o;omega,HJ.o _ _ _ ⟨f,j,u.opens,u.bound,b++Q.map (fun t=>(t,j.at')),m',rfl,?_,i.o,rfl,H6.o,?_,?_,b1.o R.o,by have:=b3.o;have:=y.o;omega,M.o⟩⟩
  ·have e9:(b++Q.map fun t=>(t,j.at')).map dU=b.map dU++Q.map fun t=>{ t.itok [] with at':=j.at' }:=by
    rw [List.map_append,List.map_map];rfl
   rw [e9];exact H5.o
  ·rw [fY,List.length_map];have:=U.o;have:=y.o;have:=bL.o;omega
  ·have h8:u.opens.length≤opens.length+1:=b0.o;have:=p.o;have:=y.o;omega
end Go.Proofs.YthapcchcahnfaaaGreatDoor
