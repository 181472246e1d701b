/- Part of the proof that laws.FnSkip returns true for every argument. No conditions. -/
import Derived.Test.YthapcchcahnfaaaGreatDoorS38
import Derived.Test.YthapcchcahnfaaaGreatDoorS47
import Derived.Test.YthapcchcahnfaaaGreatDoorS43
import Derived.Test.YthapcchcahnfaaaGreatDoorS46
import Derived.Test.YthapcchcahnfaaaGreatDoorS37
import Derived.Test.YthapcchcahnfaaaGreatDoorS44
import Derived.Test.YthapcchcahnfaaaGreatDoorS48
import Derived.Test.YthapcchcahnfaaaGreatDoorS49
import Derived.Test.YthapcchcahnfaaaGreatDoorS50
import Derived.OpenShut
import Derived.Carry
set_option linter.all false
set_option maxHeartbeats 8000000
set_option maxRecDepth 100000
namespace Go.Proofs.YthapcchcahnfaaaGreatDoor
open Go Go.RowKit Go.Proofs.Tryz
theorem rD (ents:aM):∀ (k f:Nat) (rest out:Bs),rest.length<k→rest.length<f→dO ents k rest out=dO ents f rest out
 | 0,_,_,_,h,_=>by omega
 | _+1,0,_,_,_,h=>by omega
 | k+1,f+1,rest,out,h,h'=>by
  have e:rest=rest.drop 0:=rfl;by_cases c:0<rest.length
  ·rw [e];by_cases a:rest.getD 0 0=60
   ·rw [wN ents c a,wN ents c a]
   ·cases d:nQ.isPrefixOf (rest.drop 0) with
    | true=>rw [tK ents c a d,tK ents c a d]
    | false=>
     by_cases b:rest.getD 0 0=13
     ·rw [wO ents c a d b,wO ents c a d b];rw [rD ents k f (rest.drop (0+2)) (out++[10]) (by rw [eC];omega) (by rw [eC];omega),rD ents k f (rest.drop (0+1)) (out++[10]) (by rw [eC];omega) (by rw [eC];omega)]
     ·rw [wP ents c a d b,wP ents c a d b];cases g:fJ ents (rest.drop 0) with
      | error e=>rfl
      | ok p=>
       obtain ⟨t,i⟩:=p;have:=nN g;exact rD ents k f i (out++t) (by omega) (by omega)
  ·have:rest=[]:=wC (by omega);subst this;rfl
theorem rE:∀ (k c:Nat) (rest out:Bs),rest.length<k→rest.length<c→eH k rest out=eH c rest out
 | 0,_,_,_,h,_=>by omega
 | _+1,0,_,_,_,h=>by omega
 | k+1,c+1,rest,out,h,h'=>by
  have e:rest=rest.drop 0:=rfl;by_cases f:0<rest.length
  ·rw [e];cases b:nQ.isPrefixOf (rest.drop 0) with
   | true=>rw [tI b,tI b]
   | false=>
    by_cases a:rest.getD 0 0=13
    ·rw [wL f b a,wL f b a];rw [rE k c (rest.drop (0+2)) (out++[10]) (by rw [eC];omega) (by rw [eC];omega),rE k c (rest.drop (0+1)) (out++[10]) (by rw [eC];omega) (by rw [eC];omega)]
    ·rw [wM f b a,wM f b a];by_cases d:(aI (rest.drop 0)).2=0∨bW (aI (rest.drop 0)).1=false
     ·rw [aY d,aY d]
     ·rw [aQ d,aQ d];have:(aI (rest.drop 0)).2≠0:=fun g=>d (aG g);exact rE k c _ _ (by rw [eC];omega) (by rw [eC];omega)
  ·have:rest=[]:=wC (by omega);subst this;rfl
theorem uR {s T:Bs} {a:Nat} (h:s.isPrefixOf (T.drop a)=true):T.drop a=s++T.drop (a+s.length):=by
 obtain ⟨t,b⟩:=List.isPrefixOf_iff_prefix.1 h;rw [←List.drop_drop,←b];simp
theorem QM {o:lR} {first:Bool} {T:Bs} {a:Nat} {opens:List Bs} {bound:List aM} (b:a<T.length) (h:¬ T.getD a 0=60):iS o first ⟨T.drop a,opens,bound⟩=mY .text opens bound (dO o.ents (T.length+1) (T.drop a) []):=by
 rw [rD o.ents (T.length+1) ((T.drop a).length+1) (T.drop a) [] (by rw [eC];omega) (by omega)];unfold iS kD;simp only;rw [bV T a b];simp only [aY (show T.getD a 0≠60 from h)];cases dO o.ents ((T.getD a 0::T.drop (a+1)).length+1) (T.getD a 0::T.drop (a+1)) [] with
 | error e=>rfl
 | ok p=>rfl
theorem UF {o:lR} {first:Bool} {T:Bs} {a:Nat} {opens:List Bs} {bound:List aM} (h:([60,47]:Bs).isPrefixOf (T.drop a)=true):iS o first ⟨T.drop a,opens,bound⟩=JN o.raw o.space opens bound (nR (T.drop (a+2))):=by
 rw [uR h];show (match (match nR (T.drop (a+2)) with
  | .error e=>.error e
  | .ok (nm,r3)=>.ok (.fin nm,false,r3):Except SV (aP×Bool×Bs)) with
  | .error e=>.error e
  | .ok (t,em,r)=>kE o ⟨r,opens,bound⟩ t em:Except SV (List aP×gN))=_
 cases nR (T.drop (a+2)) with
 | error e=>rfl
 | ok p=>rfl
theorem QN {o:lR} {first:Bool} {T:Bs} {a:Nat} {opens:List Bs} {bound:List aM} (h:([60,63]:Bs).isPrefixOf (T.drop a)=true):iS o first ⟨T.drop a,opens,bound⟩=JH opens bound (fI first (T.drop (a+2))):=by
 rw [uR h];show (match (match fI first (T.drop (a+2)) with
  | .error e=>.error e
  | .ok (x,r3)=>.ok (.proc x.1 x.2,false,r3):Except SV (aP×Bool×Bs)) with
  | .error e=>.error e
  | .ok (t,em,r)=>kE o ⟨r,opens,bound⟩ t em:Except SV (List aP×gN))=_
 cases fI first (T.drop (a+2)) with
 | error e=>rfl
 | ok p=>rfl
theorem UG {o:lR} {first:Bool} {T:Bs} {a:Nat} {opens:List Bs} {bound:List aM} (h:([60,33,45,45]:Bs).isPrefixOf (T.drop a)=true):iS o first ⟨T.drop a,opens,bound⟩=mY .comment opens bound (dD (T.drop (a+4))):=by
 rw [uR h];show (match (match (match dD (T.drop (a+4)) with
  | .error e=>.error e
  | .ok (d,r2)=>.ok (.comment d,r2):Except SV (aP×Bs)) with
  | .error e=>.error e
  | .ok (t,r3)=>.ok (t,false,r3):Except SV (aP×Bool×Bs)) with
  | .error e=>.error e
  | .ok (t,em,r)=>kE o ⟨r,opens,bound⟩ t em:Except SV (List aP×gN))=_
 cases dD (T.drop (a+4)) with
 | error e=>rfl
 | ok p=>rfl
theorem UH {o:lR} {first:Bool} {T:Bs} {a:Nat} {opens:List Bs} {bound:List aM} (h:([60,33,91,67,68,65,84,65,91]:Bs).isPrefixOf (T.drop a)=true):iS o first ⟨T.drop a,opens,bound⟩=mY .text opens bound (eH (T.length+1) (T.drop (a+9)) []):=by
 obtain ⟨n,b⟩:=cK ((([91,67,68,65,84,65,91]:Bs)++T.drop (a+9)).length+1);rw [rE (T.length+1) n (T.drop (a+9)) [] (by rw [eC];omega) (by rw [b,fP];omega)];rw [uR h,b];show (match (match (match eH ((([91,67,68,65,84,65,91]:Bs)++T.drop (a+9)).length+1) (T.drop (a+9)) [] with
  | .error e=>.error e
  | .ok (d,r2)=>.ok (.text d,r2):Except SV (aP×Bs)) with
  | .error e=>.error e
  | .ok (t,r3)=>.ok (t,false,r3):Except SV (aP×Bool×Bs)) with
  | .error e=>.error e
  | .ok (t,em,r)=>kE o ⟨r,opens,bound⟩ t em:Except SV (List aP×gN))=_
 cases eH ((([91,67,68,65,84,65,91]:Bs)++T.drop (a+9)).length+1) (T.drop (a+9)) [] with
 | error e=>rfl
 | ok p=>rfl
theorem UI {o:lR} {first:Bool} {T:Bs} {a:Nat} {opens:List Bs} {bound:List aM} (h:([60,33,68,79,67,84,89,80,69]:Bs).isPrefixOf (T.drop a)=true):iS o first ⟨T.drop a,opens,bound⟩=mY (fun d=>.dir (rK++d)) opens bound (oY (T.drop (a+9))):=by
 rw [uR h];show (match (match (match oY (T.drop (a+9)) with
  | .error e=>.error e
  | .ok (d,r2)=>.ok (.dir (rK++d),r2):Except SV (aP×Bs)) with
  | .error e=>.error e
  | .ok (t,r3)=>.ok (t,false,r3):Except SV (aP×Bool×Bs)) with
  | .error e=>.error e
  | .ok (t,em,r)=>kE o ⟨r,opens,bound⟩ t em:Except SV (List aP×gN))=_
 cases oY (T.drop (a+9)) with
 | error e=>rfl
 | ok p=>rfl
def U7:Bs→Except SV (aP×Bs)
 | []=>.error .bad
 | b::_=>if b=45∨b=91 then .error .bad else .error .opn
theorem QO {o:lR} {first:Bool} {T:Bs} {a:Nat} {opens:List Bs} {bound:List aM} (h:([60,33]:Bs).isPrefixOf (T.drop a)=true) (d:([60,33,45,45]:Bs).isPrefixOf (T.drop a)=false) (f:([60,33,91,67,68,65,84,65,91]:Bs).isPrefixOf (T.drop a)=false) (g:([60,33,68,79,67,84,89,80,69]:Bs).isPrefixOf (T.drop a)=false) :
  ∃ k,iS o first ⟨T.drop a,opens,bound⟩=.error k∧k.num=PH (T.drop (a+2)):=by
 rw [uR h] at d f g ⊢;obtain ⟨R,n⟩:=cK (T.drop (a+2));have i:a+([60,33]:Bs).length=a+2:=rfl;rw [i,←n] at d f g ⊢;have j:([45,45]:Bs).isPrefixOf R=false:=d;have l:BQ.isPrefixOf R=false:=f;have m:rK.isPrefixOf R=false:=g;have p:l4 R=U7 R:=by
  unfold l4;rw [aQ (by rw [j];simp),aQ (by rw [l];simp),aQ (by rw [m];simp)];cases R with
  | nil=>rfl
  | cons b r=>rfl
 have q:iS o first ⟨[60,33]++R,opens,bound⟩=(match (match l4 R with
  | .error e=>.error e
  | .ok (t,r3)=>.ok (t,false,r3):Except SV (aP×Bool×Bs)) with
  | .error e=>.error e
  | .ok (t,em,r)=>kE o ⟨r,opens,bound⟩ t em):=rfl
 rw [q,p];cases R with
 | nil=>exact ⟨.bad,rfl,rfl⟩
 | cons b r=>
  unfold PH U7;simp only;by_cases c:b=45∨b=91
  ·rw [aY c,aY c];exact ⟨.bad,rfl,rfl⟩
  ·rw [aQ c,aQ c];exact ⟨.opn,rfl,rfl⟩
theorem ME {o:lR} {first:Bool} {T:Bs} {a:Nat} {opens:List Bs} {bound:List aM} (j:a < T.length) (h:T.getD a 0=60) (b:([60,47]:Bs).isPrefixOf (T.drop a)=false) (d:([60,63]:Bs).isPrefixOf (T.drop a)=false) (f:([60,33]:Bs).isPrefixOf (T.drop a)=false):iS o first ⟨T.drop a,opens,bound⟩=JQ o opens bound (eV o.ents (T.drop (a + 1))):=by
  rw [bV T a j,h] at b d f ⊢;cases l:T.drop (a + 1) with
  | nil=>rfl
  | cons c r=>
    rw [l] at b d f;have g:∀ q:UInt8,([60,q]:Bs).isPrefixOf (60 :: c :: r)=false → ¬ c=q:=by
      intro q i k;rw [k] at i;have:([60,q]:Bs).isPrefixOf (60 :: q :: r)=(q == q):=by
        show ((60:UInt8) == 60 && (q == q && List.isPrefixOf [] r))=_;cases (q == q) <;> rfl
      rw [this] at i;simp at i
    have n:=g 47 b;have s:=g 63 d;have u:=g 33 f;have m : iS o first ⟨60 :: c :: r, opens, bound⟩ = (match (if c = 47 then (match nR r with
          | .error e=>.error e
          | .ok (nm,r3)=>.ok (.fin nm,false,r3))
        else if c=63 then (match fI first r with
          | .error e=>.error e
          | .ok (x,r3)=>.ok (.proc x.1 x.2,false,r3))
        else if c=33 then (match l4 r with
          | .error e=>.error e
          | .ok (t,r3)=>.ok (t,false,r3))
        else match eV o.ents (c :: r) with
          | .error e=>.error e
          | .ok (nm,ats,em,r3)=>.ok (.start nm ats,em,r3):Except SV (aP × Bool × Bs)) with
      | .error e=>.error e
      | .ok (t,em,r)=>kE o ⟨r,opens,bound⟩ t em):=rfl
    rw [m,aQ n,aQ s,aQ u];cases eV o.ents (c :: r) with
    | error e=>rfl
    | ok p=>rfl
theorem QP (x:PX) (hT:x.T.length≤100000000) (e:Nat) (o:lR) (a3:nM o.ents) (a0:TU x e) (Y:PS x e) (a9:o.raw=x.raw) (bA:o.space=x.space) (w:World) (c:PC) (opens:List Bs) (bound:List aM) (out:List bS) (h:dK x e w c opens bound out) (J:out.length≤499999999) (a8:opens.length≤499999999) (a4:bound.length=opens.length) (ha:c.at'<x.T.length) (hE:pF x e o.ents w) :
  Calls prog 15 #[iU x] w (fU x e out w (iS o (c.at'==0) ⟨x.T.drop c.at',opens,bound⟩)):=by
 have T:x.T.length≤1000000000:=by omega
 have hc:=h.blk.cell;have hf:=h.blk.frozen;have ⟨H,HT,v,HE,Z,n⟩:=gT h hT T hE a3 J;have ⟨aC,X,b6,b3,a1,a2⟩:=gT a8 a4 a0 Y a9 bA;have C:=Lh ha;have L:=Lh (show ∀ w',w'.os=w.os→w'.tape=w.tape→w'.output=w.output→w'.heap=w.heap→aJ (fun k=>k=x.p) w w' from fun w' h1 h2 h3 h4=>eE (aJ.refl _ w) h1 h2 h3 h4);have l:=Lh (fun (w':World) (hm:aJ (fun k=>k=x.p) w w')=>aJ.below (Below.refl e w) h.size hm (fun i hi=>by rw [hi];exact h.pb));have q:=Lh (fun (s:Bs) (hs:s.length≤1000000000) (w':World) (h:aV x w' c)=>uF x T w' c h (Nat.le_of_lt ha) s hs);obtain ⟨b,hb⟩:=cK (x.T.getD c.at' 0);have ix:∀ h,(⟨x.T.toArray⟩:ByteArray)[c.at']'h=b:=by rw [hb];exact iL x.T c.at' ha
 have t0:(0:Int)≤(c.at':Int):=by omega
 have t1:(c.at':Int)<(x.T.length:Int):=by omega
 have W:=Lh hb;clear h hT T hE a3 J a8 a4 a0 Y ha a9 bA hb;refine eL 57 func15 [_] fun f=>?_;simp only [aF];by_cases z:b=60
 rotate_left
 ·have I:((b.toNat:Int) != 60)=true:=PN z;have t:=Lh (QM (o:=o) (first:=c.at'==0) (opens:=opens) (bound:=bound) C.o (by rw [←W.o];exact z));have dI:=Lh (fun (w':World) (h1:aV x w' c) (h2:aJ (fun k=>k=x.p) w w')=>TR x v.o e o.ents Z.o w' c opens bound out (H.o.own h1 h2 rfl rfl rfl) (by have:=n.o;omega) (Nat.le_of_lt C.o) (HE.o.below (l.o w' h2)));clear z;refine vg ?_;intro K hK K hK;(refine lD [0,0,0,1,0,0,0,1,0,0,0] [0,1,2,3,4,5,6,7,8,9,10] ?_;refine vP ?_;repeat with_reducible intro nq)
  (repeat revert K);refine vg ?_;intro K hK K hK K hK;refine (dI.o _ (by exact H.o.blk) (by exact L.o _ rfl rfl rfl rfl)).mono ?_;rintro y A m;have r:fU x e out w (iS o (c.at'==0) ⟨x.T.drop c.at',opens,bound⟩) y A:=by rw [t.o];exact fU.base (l.o (w.drewN _) (L.o (w.drewN _) rfl rfl rfl rfl)) m
  obtain ⟨U,rfl⟩:=fU.bool m;have u:=Lh r;clear m r;(repeat revert K);refine vS ?_;intro K hK;refine cM ?_;exact u.o
 have I:((b.toNat:Int) != 60)=false:=by rw [z];rfl
 have b1:=Lh (show x.T.getD c.at' 0=60 by rw [←W.o];exact z);clear z;refine vg ?_;intro K hK K hK;(refine lD [0,0,0,1,0,0,0,1,0,0,0] [0,1,2,3,4,5,6,7,8,9,10] ?_;refine vP ?_;repeat with_reducible intro nq)
 clear hc hf ix I t0 t1;(repeat revert K);refine vg ?_;intro K hK K hK K hK;refine (q.o [60,47] (by decide) _ (by exact H.o.blk)).mono ?_;rintro eh w1 ⟨rfl,a,j⟩;have M:=Lh (show aJ (fun k=>k=x.p) w w1 from (L.o (w.drewN _) rfl rfl rfl rfl).trans j (fun _ _ h=>h));clear j;cases g:([60,47]:Bs).isPrefixOf (x.T.drop c.at') with
 | true=>
  rw [g,aY rfl] at a;have B:=Lh (show aV x w1 { c with at':=c.at'+2 } from a);have E:=Lh (show c.at'+2≤x.T.length from nW g (Nat.le_of_lt C.o));have t:=Lh (show iS o (c.at'==0) ⟨x.T.drop c.at',opens,bound⟩=JN x.raw x.space opens bound (nR (x.T.drop (c.at'+2))) by rw [←a1.o,←a2.o];exact UF g);have D:=Lh (LX x v.o e b3.o w1 { c with at':=c.at'+2 } opens bound out (H.o.own B.o M.o rfl rfl rfl) (by have:=n.o;omega) (by have:=aC.o;omega) X.o E.o);clear a g;rw [show (true:Bool)=true from rfl];(repeat revert K);refine vS ?_;intro K hK K hK K hK;refine D.o.mono ?_;rintro y A m;have r:fU x e out w (iS o (c.at'==0) ⟨x.T.drop c.at',opens,bound⟩) y A:=by rw [t.o];exact fU.base (l.o _ M.o) m
  obtain ⟨U,rfl⟩:=fU.bool m;have u:=Lh r;clear m r;(repeat revert K);refine vS ?_;intro K hK;refine cM ?_;exact u.o
 | false=>
  rw [g,aQ (by simp)] at a;have b7:=Lh (show aV x w1 c from a);have c5:=Lh g;clear a g;(repeat revert K);refine vS ?_;intro K hK K hK K hK;refine (q.o [60,63] (by decide) _ b7.o).mono ?_;rintro eh w2 ⟨rfl,a,j⟩;have N:=Lh (M.o.trans j (fun _ _ h=>h));clear j;cases g:([60,63]:Bs).isPrefixOf (x.T.drop c.at') with
  | true=>
   rw [g,aY rfl] at a;have B:=Lh (show aV x w2 { c with at':=c.at'+2 } from a);have E:=Lh (show c.at'+2≤x.T.length from nW g (Nat.le_of_lt C.o));have t:=Lh (show iS o (c.at'==0) ⟨x.T.drop c.at',opens,bound⟩=JH opens bound (fI (c.at'+2==2) (x.T.drop (c.at'+2))) by rw [show (c.at'+2==2)=(c.at'==0) by rw [Bool.eq_iff_iff];simp];exact QN g);have D:=Lh (PL x v.o e w2 { c with at':=c.at'+2 } opens bound out (H.o.own B.o N.o rfl rfl rfl) (by have:=n.o;omega) E.o);clear a g;rw [show (true:Bool)=true from rfl];(repeat revert K);refine vS ?_;intro K hK K hK K hK;refine D.o.mono ?_;rintro y A m;have r:fU x e out w (iS o (c.at'==0) ⟨x.T.drop c.at',opens,bound⟩) y A:=by rw [t.o];exact fU.base (l.o _ N.o) m
   obtain ⟨U,rfl⟩:=fU.bool m;have u:=Lh r;clear m r;(repeat revert K);refine vS ?_;intro K hK;refine cM ?_;exact u.o
  | false=>
   rw [g,aQ (by simp)] at a;have cT:=Lh (show aV x w2 c from a);have c6:=Lh g;clear a g;(repeat revert K);refine vS ?_;intro K hK K hK K hK;refine (q.o [60,33,45,45] (by decide) _ cT.o).mono ?_;rintro eh w3 ⟨rfl,a,j⟩;have O:=Lh (N.o.trans j (fun _ _ h=>h));clear j;cases g:([60,33,45,45]:Bs).isPrefixOf (x.T.drop c.at') with
   | true=>
    rw [g,aY rfl] at a;have B:=Lh (show aV x w3 { c with at':=c.at'+4 } from a);have E:=Lh (show c.at'+4≤x.T.length from nW g (Nat.le_of_lt C.o));have t:=Lh (show iS o (c.at'==0) ⟨x.T.drop c.at',opens,bound⟩=mY .comment opens bound (dD (x.T.drop (c.at'+4))) from UG g);have D:=Lh (GU x v.o e w3 { c with at':=c.at'+4 } opens bound out (H.o.own B.o O.o rfl rfl rfl) (by have:=n.o;omega) E.o);clear a g;rw [show (true:Bool)=true from rfl];(repeat revert K);refine vS ?_;intro K hK K hK K hK;refine D.o.mono ?_;rintro y A m;have r:fU x e out w (iS o (c.at'==0) ⟨x.T.drop c.at',opens,bound⟩) y A:=by rw [t.o];exact fU.base (l.o _ O.o) m
    obtain ⟨U,rfl⟩:=fU.bool m;have u:=Lh r;clear m r;(repeat revert K);refine vS ?_;intro K hK;refine cM ?_;exact u.o
   | false=>
    rw [g,aQ (by simp)] at a;have c1:=Lh (show aV x w3 c from a);have c7:=Lh g;clear a g;(repeat revert K);refine vS ?_;intro K hK K hK K hK;refine (q.o [60,33,91,67,68,65,84,65,91] (by decide) _ c1.o).mono ?_;rintro eh w4 ⟨rfl,a,j⟩;have P:=Lh (O.o.trans j (fun _ _ h=>h));clear j;cases g:([60,33,91,67,68,65,84,65,91]:Bs).isPrefixOf (x.T.drop c.at') with
    | true=>
     rw [g,aY rfl] at a;have B:=Lh (show aV x w4 { c with at':=c.at'+9 } from a);have E:=Lh (show c.at'+9≤x.T.length from nW g (Nat.le_of_lt C.o));have t:=Lh (show iS o (c.at'==0) ⟨x.T.drop c.at',opens,bound⟩=mY .text opens bound (eH (x.T.length+1) (x.T.drop (c.at'+9)) []) from UH g);have D:=Lh (GV x v.o e w4 { c with at':=c.at'+9 } opens bound out (H.o.own B.o P.o rfl rfl rfl) (by have:=n.o;omega) E.o);clear a g;rw [show (true:Bool)=true from rfl];(repeat revert K);refine vS ?_;intro K hK K hK K hK;refine D.o.mono ?_;rintro y A m;have r:fU x e out w (iS o (c.at'==0) ⟨x.T.drop c.at',opens,bound⟩) y A:=by rw [t.o];exact fU.base (l.o _ P.o) m
     obtain ⟨U,rfl⟩:=fU.bool m;have u:=Lh r;clear m r;(repeat revert K);refine vS ?_;intro K hK;refine cM ?_;exact u.o
    | false=>
     rw [g,aQ (by simp)] at a;have c2:=Lh (show aV x w4 c from a);have c8:=Lh g;clear a g;(repeat revert K);refine vS ?_;intro K hK K hK K hK;refine (q.o [60,33,68,79,67,84,89,80,69] (by decide) _ c2.o).mono ?_;rintro eh w5 ⟨rfl,a,j⟩;have Q:=Lh (P.o.trans j (fun _ _ h=>h));clear j;cases g:([60,33,68,79,67,84,89,80,69]:Bs).isPrefixOf (x.T.drop c.at') with
     | true=>
      rw [g,aY rfl] at a;have B:=Lh (show aV x w5 { c with at':=c.at'+9 } from a);have E:=Lh (show c.at'+9≤x.T.length from nW g (Nat.le_of_lt C.o));have t:=Lh (show iS o (c.at'==0) ⟨x.T.drop c.at',opens,bound⟩=mY (fun d=>.dir (rK++d)) opens bound (oY (x.T.drop (c.at'+9))) from UI g);have D:=Lh (G1 x v.o e w5 { c with at':=c.at'+9 } opens bound out (H.o.own B.o Q.o rfl rfl rfl) (by have:=n.o;omega) E.o);clear a g;rw [show (true:Bool)=true from rfl];(repeat revert K);refine vS ?_;intro K hK K hK K hK;refine D.o.mono ?_;rintro y A m;have r:fU x e out w (iS o (c.at'==0) ⟨x.T.drop c.at',opens,bound⟩) y A:=by rw [t.o];exact fU.base (l.o _ Q.o) m
      obtain ⟨U,rfl⟩:=fU.bool m;have u:=Lh r;clear m r;(repeat revert K);refine vS ?_;intro K hK;refine cM ?_;exact u.o
     | false=>
      rw [g,aQ (by simp)] at a;have c3:=Lh (show aV x w5 c from a);have c9:=Lh g;clear a g;(repeat revert K);refine vS ?_;intro K hK K hK K hK;refine (q.o [60,33] (by decide) _ c3.o).mono ?_;rintro eh V ⟨rfl,a,j⟩;have aA:=Lh (Q.o.trans j (fun _ _ h=>h));clear j;cases g:([60,33]:Bs).isPrefixOf (x.T.drop c.at') with
      | true=>
       rw [g,aY rfl] at a;have B:=Lh (show aV x V { c with at':=c.at'+2 } from a);obtain ⟨kk,a5,a6⟩:=QO (o:=o) (first:=c.at'==0) (opens:=opens) (bound:=bound) g c7.o c8.o c9.o;have t:=Lh a5;have b2:=Lh (PI x V { c with at':=c.at'+2 } B.o);have HK:=Lh a6;clear a g a5 a6;(repeat revert K);refine vS ?_;intro K hK K hK K hK;refine b2.o.mono ?_;rintro e7 w7 ⟨rfl,k7,rfl⟩;rw [show ({ c with at':=c.at'+2 }:PC).at'=c.at'+2 from rfl,←HK.o];have HF:=Lh (gW x w (V.drewN k7) { c with at':=c.at'+2 } B.o (aA.o.drewN k7) kk.num);(repeat revert K);refine vS ?_;intro K hK K hK K hK;refine HF.o.mono ?_;rintro e8 w8 ⟨rfl,b0,a7⟩;have ⟨c4,b5⟩:=cB b0 a7;clear b0 a7;(repeat revert K);refine vS ?_;intro K hK;refine cM ?_;exact fU.err (w1:=w) (k:=kk) H.o c4.o b5.o t.o
      | false=>
       rw [g,aQ (by simp)] at a;have R:=Lh (show aV x V c from a);have t:=Lh (ME (o:=o) (first:=c.at'==0) (opens:=opens) (bound:=bound) C.o b1.o c5.o c6.o g);have dT:IntKind.i64.wrap ((c.at':Int)+1)=((c.at'+1:Nat):Int):=by rw [IntKind.wrap_i64];have:=HT.o;have:=C.o;omega
       obtain ⟨w7,G⟩:=cK (V.setCell ⟨x.p,1,none⟩ (.int .i64 ((c.at':Int)+1)));have bC:aV x w7 { c with at':=c.at'+1 }:=by rw [G];exact aL.set (w:=V) (cs:=fN x c) R.o 1 _
       have F:aJ (fun k=>k=x.p) w w7:=by rw [G];exact aJ.setCell (S:=fun k=>k=x.p) aA.o (p:=⟨x.p,1,none⟩) (aG rfl) _
       have HS:=Lh (QG x HT.o e o.ents Z.o b6.o o a1.o a2.o w7 { c with at':=c.at'+1 } opens bound out (H.o.own bC F rfl rfl rfl) n.o aC.o X.o C.o (HE.o.below (l.o w7 F)));have b4:=Lh F;have hc:=R.o.cell;have hf:=R.o.frozen;clear a g bC F;go_simp;(repeat revert K);refine vT 16 ?_;rw [←G];clear G hc hf;refine vg ?_;intro K hK K hK;refine HS.o.mono ?_;rintro y A m;have r:fU x e out w (iS o (c.at'==0) ⟨x.T.drop c.at',opens,bound⟩) y A:=by rw [t.o];exact fU.base (l.o _ b4.o) m
       obtain ⟨U,rfl⟩:=fU.bool m;have u:=Lh r;clear m r;(repeat revert K);refine vS ?_;refine cM ?_;exact u.o
theorem MF (a b:aM) (s:Bs):eA (a++b) s=match eA a s with|some t=>some t|none=>eA b s:=by
 unfold eA;rw [List.find?_append];cases a.find? (·.1==s)<;>rfl
theorem IB (ents:aM):kR (some (eA ents)) ents:=by
 intro s;rw [MF];have h:=yG s;rw [List.append_nil] at h;rw [←h];unfold wS;cases rV s<;>rfl
theorem FD {ents:aM} {first em:Bool} {t:aP} {rest r:Bs} (h:kD ents first rest=.ok (t,em,r)):r.length<rest.length:=by
 obtain ⟨d,c,_⟩:=E2 ⟨false,true,some (eA ents),[],[],false⟩ (IB ents) (St.init rest) rfl rfl (first:=first) (em:=em) (t:=t) (r:=r) h;obtain ⟨_,_,_,_,_,_,b⟩:=jZ c;rcases b with ⟨nm,a,_⟩|⟨_,a,_⟩
 ·cases a
 ·have:=QD t;simp only [St.init] at a;omega
theorem tR {d:Bool} {b:Bs} {s c:gN} {nm:Bs×Bs} {t:aP} (h:eJ d b s nm=.ok (t,c)):c.rest=s.rest∧c.opens.length≤s.opens.length∧(s.bound.length=s.opens.length→c.bound.length=c.opens.length):=by
 unfold eJ at h;split at h
 ·simp only [cD,b8] at h;rw [←h.2];exact ⟨rfl,dF _,id⟩
 ·cases e:s.opens with
  | nil=>rw [e] at h;cases h
  | cons a l=>
   rw [e] at h;simp only at h;split at h
   ·simp only [cD,b8] at h;rw [←h.2];refine ⟨rfl,by simp,fun f=>?_⟩;simp only [List.length_tail,f5] at f ⊢;omega
   ·cases h
theorem FE {d:Bool} {a:Bs} {s b:gN} {nm:Bs×Bs} {c:List cO} {t:aP} (h:mQ d a s nm c=.ok (t,b)):b.rest=s.rest∧b.opens.length≤s.opens.length+1∧(s.bound.length=s.opens.length→b.bound.length=b.opens.length):=by
 unfold mQ at h;split at h
 ·simp only [cD,b8] at h;rw [←h.2];exact ⟨rfl,by omega,id⟩
 ·split at h
  ·cases h
  ·split at h
   ·cases h
   ·split at h
    ·cases h
    ·split at h
     ·cases h
     ·simp only [cD,b8] at h;rw [←h.2];exact ⟨rfl,by simp,fun e=>by simp [e]⟩
theorem A4 {o:lR} {first:Bool} {s c:gN} {p:List aP} (h:iS o first s=.ok (p,c)):c.rest.length<s.rest.length∧p.length≤2∧c.opens.length≤s.opens.length+1∧(s.bound.length=s.opens.length→c.bound.length=c.opens.length):=by
 unfold iS at h;cases g:kD o.ents first s.rest with
 | error e=>rw [g] at h;cases h
 | ok x=>
  obtain ⟨t,em,r⟩:=x;have a:=FD g;rw [g] at h;simp only at h;unfold kE at h;split at h
  ·rename_i nm d;cases f:mQ o.raw o.space { s with rest:=r } nm d with
   | error e=>rw [f] at h;cases h
   | ok y=>
    obtain ⟨A,n⟩:=y;obtain ⟨g1,k,l⟩:=FE f;have q:n.opens.length≤s.opens.length+1:=k;rw [f] at h;simp only at h;split at h
    ·cases b:eJ o.raw o.space n nm with
     | error e=>rw [b] at h;cases h
     | ok z=>
      obtain ⟨w,v⟩:=z;obtain ⟨i,m,j⟩:=tR b;rw [b] at h;simp only [cD,b8] at h;rw [←h.1,←h.2,i,g1];exact ⟨a,by simp,by omega,fun u=>j (l u)⟩
    ·simp only [cD,b8] at h;rw [←h.1,←h.2,g1];exact ⟨a,by simp,k,l⟩
  ·rename_i nm;cases b:eJ o.raw o.space { s with rest:=r } nm with
   | error e=>rw [b] at h;cases h
   | ok z=>
    obtain ⟨w,v⟩:=z;obtain ⟨i,m,j⟩:=tR b;rw [b] at h;simp only [cD,b8] at h;rw [←h.1,←h.2,i];exact ⟨a,by simp,by simp only at m;omega,j⟩
  ·simp only [cD,b8] at h;rw [←h.1,←h.2];exact ⟨a,by simp,by simp,id⟩
def fE (q:aP×Nat):bS:={ q.1.itok [] with at':=q.2 }
def JS:Option SV→Int
 | none=>0
 | some k=>k.num
def Z9 (x:PX) (b:Nat) (o:lR) (w0:World) (k:Nat) (d:Act) (w:World):Prop:=
 ∃ f c opens bound a m,d=fr 45 f [(10,iU x)]∧dK x b w c opens bound (a.map fE)∧Below b w0 w∧k=x.T.length-c.at'∧c.at'≤x.T.length∧a.length≤2*c.at'∧opens.length≤c.at'∧bound.length=opens.length∧x.T.length-c.at'<m∧gC o x.T=l5 o x.T m ⟨x.T.drop c.at',opens,bound⟩ a
def oM (o:lR) (T:Bs) (w:World) (e:Ending) (w':World):Prop:=
 ∃ out a,e=.returned (.tuple #[out,.int .i64 (JS (gC o T).2)])∧Below w.heap.size w w'∧w'.ownsRow w.heap.size 35 6 out (gC o T).1.length a∧cH (lW w' w.heap.size (fun _=>True)) ((gC o T).1.map fE) a
theorem oM.of {x:PX} {o:lR} {w w':World} {c:PC} {opens:List Bs} {bound:List aM} {a:List (aP×Nat)} {v:Option SV} (b:gC o x.T=(a,v)) (h:dK x w.heap.size w' c opens bound (a.map fE)) (f:Below w.heap.size w w'):oM o x.T w (.returned (.tuple #[c.out,.int .i64 (JS v)])) w':=by
 obtain ⟨i,d,e⟩:=h.out;refine ⟨c.out,i,by rw [b],f,by rw [b];simpa using d,?_⟩;rw [b];exact e.mono (fun _ _ g=>g.mod (aJ.refl (fun _=>False) _) (fun _ _ _=>⟨id,trivial⟩))
theorem XS (T:Bs) (hT:T.length≤100000000) (o:lR) (aC:nM o.ents) (ev:Value) (w:World) (x:PX) (P:x=⟨w.heap.size,T,o.raw,ev,o.space⟩) (c4:∃ A B C,ev=.slice A B C) (hE:pF x w.heap.size o.ents w) (p:TU x w.heap.size) (S:PS x w.heap.size) :
  Calls prog 8 #[aB T,.bool o.raw,ev,aB o.space] w (oM o T w):=by
 obtain ⟨X,Y,Z,rfl⟩:=c4;have e1:x.T=T:=by rw [P]
 have e2:x.p=w.heap.size:=by rw [P]
 have W:x.raw=o.raw:=by rw [P]
 have e4:x.space=o.space:=by rw [P]
 have e5:x.ents=.slice X Y Z:=by rw [P]
 rw [←e1,←e4,←W,←e5];obtain ⟨wa,D⟩:=cK (w.alloc (.cells (fN x ⟨0,.slice none 0 0,.slice none 0 0,.slice none 0 0,0⟩) 51));have a7:aV x wa ⟨0,.slice none 0 0,.slice none 0 0,.slice none 0 0,0⟩:=by rw [D,aV,e2];exact aL.new w _ _
 have s:Below w.heap.size w wa:=by rw [D];exact (Below.refl _ w).alloc (dF _) _
 have d:dK x w.heap.size wa ⟨0,.slice none 0 0,.slice none 0 0,.slice none 0 0,0⟩ [] [] []:=
  ⟨a7,by rw [e2];exact dF _,⟨[],⟨rfl,aG ⟨rfl,rfl⟩⟩,.nil⟩,⟨[],⟨rfl,aG ⟨rfl,rfl⟩⟩,.nil⟩,⟨[],⟨rfl,aG ⟨rfl,rfl⟩⟩,.nil⟩,by simp [Value.ownBlock],fun k O=>(by cases O),fun k O=>(by cases O)⟩
 have ⟨h,a,HE,b0,b6,bC⟩:=gT d s hE aC p S;have c6:=Lh e1;have HT:=Lh (show x.T.length≤100000000 by rw [e1];exact hT);have b7:=Lh W.symm;have cT:=Lh e4.symm;have bA:w.alloc (.cells #[aB x.T,.int .i64 0,.bool x.raw,.slice X Y Z,aB x.space,.slice none 0 0,.slice none 0 0,.slice none 0 0,.int .i64 0] 51)=wa:=by rw [D,←e5];rfl
 have c3:=Lh bA;have a8:iU x=.pointer (some ⟨w.heap.size,0,none⟩):=by rw [←e2]
 have c1:=Lh a8;clear P hT aC hE p S a7 s d e1 e2 W e4 D bA a8;refine eL 45 func8 [_,_,_,_] fun f=>?_;simp only [aF];refine vg ?_;intro K hK;rw [c3.o,←c1.o];refine cG [10] fun f=>?_;refine wp_loop_ghost_k (Z9 x w.heap.size o w) x.T.length ⟨f,_,[],[],[],x.T.length+1,rfl,h.o,a.o,rfl,jU _,jU _,jU _,rfl,by simp,rfl⟩ ?_;clear e5 h a;rintro k _ w2 ⟨f,c,opens,bound,b,m,rfl,d,s,O,a2,a4,a5,a1,a3,a9⟩ J K2 hJ a0;obtain ⟨m',rfl⟩:∃ m',m=m'+1:=⟨m-1,by omega⟩;have ⟨HJ,b4,h,a,HK,c7⟩:=gT hJ a0 d s O a2;have ⟨U,p,R,b5,V⟩:=pM a4 a5 a1 a3 a9;clear hJ a0 s O a2 a4 a5 a1 a3 a9;by_cases z:c.at'<x.T.length
 rotate_left
 ·have F:=Lh (fun (w':World) (h1:aV x w' c)=>nU x w' c h1 (by omega));have M:=Lh (show gC o x.T=(b,if opens=[] then none else some .bad) by
   rw [V.o,tW (by omega)];unfold l5;simp only [if_true])
  obtain ⟨oA,oC,a6⟩:∃ oA oC,c.op=.slice oA opens.length oC:=by
   obtain ⟨_,I,_⟩:=d.op;rcases I.2 with ⟨I,h8⟩|⟨g,cap,cur,I,_⟩
   ·exact ⟨none,0,by rw [I,h8]⟩
   ·exact ⟨_,_,I⟩
  have hc:=d.blk.cell;have hf:=d.blk.frozen;have c5:=Lh a6;clear d z;revert K;refine vg ?_;intro K hK K hK K hK K hK;refine (F.o _ h.o.blk).mono ?_;rintro W w3 ⟨rfl,k3,rfl⟩;go_simp;by_cases n:opens=[]
  ·have hz:opens.length=0:=by rw [n];rfl
   have G:=Lh (M.o.trans (by rw [aY n]));clear n;(repeat revert K);refine vg ?_;refine kW ?_;exact oM.of (c:=c) (v:=none) G.o (h.o.fresh ⟨rfl,rfl,rfl,dF _,fun _ _ _=>rfl⟩) ⟨a.o.os,a.o.tape,a.o.output,a.o.size,a.o.block⟩
  ·have hz:(0:Int)<(opens.length:Int):=by cases opens with
    | nil=>exact absurd rfl n
    | cons=>simp
   have c9:0<opens.length:=by omega
   have G:=Lh (M.o.trans (by rw [aQ n]));clear n;(repeat revert K);refine vg ?_;intro K hK;refine kW ?_;exact oM.of (c:=c) (v:=some .bad) G.o (h.o.fresh ⟨rfl,rfl,rfl,dF _,fun _ _ _=>rfl⟩) ⟨a.o.os,a.o.tape,a.o.output,a.o.size,a.o.block⟩
 have F:=Lh (fun (w':World) (h1:aV x w' c)=>nV x w' c h1 z);have c2:=Lh (fun (w':World) (h1:dK x w.heap.size w' c opens bound (b.map fE)) (h2:pF x w.heap.size o.ents w')=>QP x HT.o w.heap.size o b0.o b6.o bC.o b7.o cT.o w' c opens bound _ h1 (by rw [List.length_map];have:=U.o;have:=HT.o;omega) (by have:=p.o;have:=HT.o;omega) R.o z h2);have E:=Lh (show gC o x.T=match iS o (c.at'==0) ⟨x.T.drop c.at',opens,bound⟩ with
   | .error e=>(b,some e)
   | .ok (Q,u)=>l5 o x.T m' u (b++Q.map fun t=>(t,x.T.length-u.rest.length)) by
  rw [V.o];conv=>lhs;unfold l5
  rw [aQ (fun hh=>by have I:=congrArg List.length hh;simp only [eC,List.length_nil] at I;omega)];have e9:((x.T.drop c.at').length==x.T.length)=(c.at'==0):=by
   rw [Bool.eq_iff_iff,beq_iff_eq,beq_iff_eq,eC];omega
  simp only [e9];try rfl)
 clear d z;revert K;refine vg ?_;intro K hK K hK K hK K hK;refine (F.o _ h.o.blk).mono ?_;rintro W w3 ⟨rfl,k3,rfl⟩;(repeat revert K);refine vS ?_;intro K hK K hK K hK;refine (c2.o _ (by exact h.o.fresh ⟨rfl,rfl,rfl,dF _,fun _ _ _=>rfl⟩) (by exact HE.o.below ⟨a.o.os,a.o.tape,a.o.output,a.o.size,a.o.block⟩)).mono ?_;rintro e4 w4 N;obtain ⟨l,N⟩:=N;have i:=Lh (show Below w.heap.size w w4 from a.o.trans ⟨l.os,l.tape,l.output,l.size,l.block⟩);clear l;cases L:iS o (c.at'==0) ⟨x.T.drop c.at',opens,bound⟩ with
 | error kk=>
  rw [L] at N;obtain ⟨rfl,j,dI,c8,H,h6⟩:=N;have ⟨H5,H6⟩:=cB H h6;have M:=Lh (show gC o x.T=(b,some kk) by rw [E.o,L]);have hc:=H.blk.cell;have hf:=H.blk.frozen;clear H h6 L;(repeat revert K);refine vS ?_;intro K hK K hK;go_quiet (fail);(repeat revert K);refine vg ?_;intro K hK;refine kW ?_;rw [H6.o];exact oM.of (c:=j) (v:=some kk) M.o (H5.o.fresh ⟨rfl,rfl,rfl,dF _,fun _ _ _=>rfl⟩) ⟨i.o.os,i.o.tape,i.o.output,i.o.size,i.o.block⟩
 | ok q=>
  rw [L] at N;obtain ⟨Q,u⟩:=q;obtain ⟨rfl,j,H,h6,h7⟩:=N;obtain ⟨f1,f2,f3,f4⟩:=A4 L;have r:u.rest=x.T.drop j.at':=h7;have aA:j.at'≤x.T.length:=h6;rw [r,eC,eC] at f1;have ⟨H5,H6,y,b1,b2,b3⟩:=gT H aA f1 f2 f3 f4;have M:=Lh (show gC o x.T=l5 o x.T m' ⟨x.T.drop j.at',u.opens,u.bound⟩ (b++Q.map fun t=>(t,j.at')) by
   rw [E.o,L];simp only;rw [r,eC,show x.T.length-(x.T.length-j.at')=j.at' by omega];obtain ⟨r9,o9,b9⟩:=u;simp only at r;rw [r])
  clear H h6 h7 L f1 f2 f3 f4 r aA;(repeat revert K);refine vS ?_;intro K hK;refine Kk [10] fun f=>?_;refine b4.o _ _ ⟨x.T.length-j.at',by rw [HK.o];have:=y.o;omega,HJ.o _ _ _ ⟨f,j,u.opens,u.bound,b++Q.map (fun t=>(t,j.at')),m',rfl,?_,i.o,rfl,H6.o,?_,?_,b3.o R.o,by have:=b5.o;have:=y.o;omega,M.o⟩⟩
  ·have e9:(b++Q.map fun t=>(t,j.at')).map fE=b.map fE++Q.map fun t=>{ t.itok [] with at':=j.at' }:=by
    rw [List.map_append,List.map_map];rfl
   rw [e9];exact H5.o
  ·rw [fP,List.length_map];have:=U.o;have:=y.o;have:=b1.o;omega
  ·have h8:u.opens.length≤opens.length+1:=b2.o;have:=p.o;have:=y.o;omega
end Go.Proofs.YthapcchcahnfaaaGreatDoor
namespace Go.Proofs.YthapcchcahnfaaaGreatDoor
open Go Go.Proofs.Tryz
theorem tU {ents:aM} (f:nM ents):∀ (k:Nat) (rest out d r:Bs),rest.length≤2147483647→dO ents k rest out=.ok (d,r)→d.length≤out.length+(rest.length-r.length)*2147483647∧r.length≤rest.length
 | 0,_,_,_,_,_,h=>by cases h
 | k+1,rest,out,d,r,j,h=>by
  have e:rest=rest.drop 0:=rfl;rw [e] at h;by_cases g:0<rest.length
  ·by_cases a:rest.getD 0 0=60
   ·rw [wN ents g a] at h;simp only [cD,b8] at h;rw [←h.1,←h.2];exact ⟨by omega,by simp⟩
   ·cases i:nQ.isPrefixOf (rest.drop 0) with
    | true=>rw [tK ents g a i] at h;cases h
    | false=>
     by_cases b:rest.getD 0 0=13
     ·rw [wO ents g a i b] at h;split at h
      ·have ih:=tU f k _ _ _ _ (by rw [eC];omega) h;rw [eC,fP,List.length_singleton] at ih;omega
      ·have ih:=tU f k _ _ _ _ (by rw [eC];omega) h;rw [eC,fP,List.length_singleton] at ih;omega
     ·rw [wP ents g a i b] at h;cases c:fJ ents (rest.drop 0) with
      | error e=>rw [c] at h;cases h
      | ok p=>
       obtain ⟨t,l⟩:=p;rw [c] at h;simp only at h;have m:=nN c;have n:=oL f j c;have ih:=tU f k l _ _ _ (by omega) h;rw [fP] at ih;omega
  ·have:rest=[]:=wC (by omega);subst this;rw [EM ents (by simp)] at h;simp only [cD,b8] at h;rw [←h.1,←h.2];exact ⟨by omega,by simp⟩
theorem tV:∀ (k:Nat) (rest out d r:Bs),eH k rest out=.ok (d,r)→d.length≤out.length+(rest.length-r.length)∧r.length≤rest.length
 | 0,_,_,_,_,h=>by cases h
 | k+1,rest,out,d,r,h=>by
  have e:rest=rest.drop 0:=rfl;rw [e] at h;by_cases c:0<rest.length
  ·cases f:nQ.isPrefixOf (rest.drop 0) with
   | true=>
    rw [tI f] at h;simp only [cD,b8] at h;rw [←h.1,←h.2,eC];omega
   | false=>
    by_cases a:rest.getD 0 0=13
    ·rw [wL c f a] at h;split at h
     ·have ih:=tV k _ _ _ _ h;rw [eC,fP,List.length_singleton] at ih;omega
     ·have ih:=tV k _ _ _ _ h;rw [eC,fP,List.length_singleton] at ih;omega
    ·rw [wM c f a] at h;split at h
     ·cases h
     ·rename_i j;have g:(aI (rest.drop 0)).2≠0:=fun b=>j (aG b);have i:=lO (rest.drop 0) (fun b=>by rw [←e] at b;rw [b] at c;simp at c);have ih:=tV k _ _ _ _ h;rw [eC,fP,pI] at ih;rw [←e] at i ih g;omega
  ·have:rest=[]:=wC (by omega);subst this;rw [ED (by simp)] at h;cases h
theorem CL {p:Bs}:∀ {rest s r:Bs},dJ p rest=some (s,r)→s.length+r.length≤rest.length
 | [],s,r,h=>by cases h
 | b::l,s,r,h=>by
  unfold dJ at h;split at h
  ·simp only [jW,b8] at h;rw [←h.1,←h.2,eC];simp
  ·cases a:dJ p l with
   | none=>rw [a] at h;cases h
   | some x=>
    obtain ⟨d,c⟩:=x;rw [a] at h;simp only [Option.map_some,jW,b8] at h;have ih:=CL a;rw [←h.1,←h.2];simp only [f5];omega
theorem UJ {rest s r:Bs} (h:dD rest=.ok (s,r)):s.length+r.length≤rest.length:=by
 unfold dD at h;cases a:dJ [45,45] rest with
 | none=>rw [a] at h;cases h
 | some x=>
  obtain ⟨d,b⟩:=x;have:=CL a;rw [a] at h;simp only at h;cases b with
  | nil=>cases h
  | cons c r2=>
   simp only at h;split at h
   ·split at h
    ·simp only [cD,b8] at h;rw [←h.1,←h.2];simp only [f5] at this;omega
    ·cases h
   ·cases h
theorem QQ {f:Bool} {rest r:Bs} {x:Bs×Bs} (h:fI f rest=.ok (x,r)):x.2.length+r.length≤rest.length:=by
 unfold fI at h;split at h
 ·cases h
 ·split at h
  ·cases h
  ·have b:=wR (aD rest).2;have c:=qN rest;cases a:dJ [63,62] (aT (aD rest).2) with
   | none=>rw [a] at h;cases h
   | some y=>
    obtain ⟨e,d⟩:=y;have:=CL a;rw [a] at h;simp only at h;split at h
    ·cases h
    ·simp only [cD,b8] at h;rw [←h.1,←h.2];simp only;omega
theorem UK {rest d r:Bs} (h:oY rest=.ok (d,r)):d.length+r.length≤rest.length∨d.length≤rest.length-r.length:=by
 unfold oY at h;split at h
 ·cases h
 ·cases a:lZ (aD (aT rest)).2 with
  | none=>rw [a] at h;cases h
  | some r1=>
   rw [a] at h;simp only at h;split at h
   ·simp only [cD,b8] at h;right;rw [←h.1,←h.2,pI];omega
   ·cases h
theorem MG {ents:aM} (o:nM ents) {first em:Bool} {rest r:Bs} {t:aP} (n:rest.length≤2147483647) (h:kD ents first rest=.ok (t,em,r)):(t.itok []).text.length≤(rest.length-r.length)*2147483647:=by
 have i:=FD h;unfold kD at h;cases rest with
 | nil=>cases h
 | cons b r0=>
  simp only at h;split at h
  ·cases a:dO ents ((b::r0).length+1) (b::r0) [] with
   | error e=>rw [a] at h;cases h
   | ok p=>
    obtain ⟨d,g⟩:=p;rw [a] at h;simp only [cD,b8] at h;have:=(tU o _ _ _ _ _ n a).1;rw [←h.1,←h.2.2];simpa [aP.itok] using this
  ·cases r0 with
   | nil=>cases h
   | cons c g=>
    simp only at h;split at h
    ·cases a:nR g with
     | error e=>rw [a] at h;cases h
     | ok p=>
      obtain ⟨nm,j⟩:=p;rw [a] at h;simp only [cD,b8] at h;rw [←h.1];exact jU _
    ·split at h
     ·cases a:fI first g with
      | error e=>rw [a] at h;cases h
      | ok p=>
       obtain ⟨x,j⟩:=p;rw [a] at h;simp only [cD,b8] at h;have:=QQ a;rw [←h.1,←h.2.2];show x.2.length≤_;simp only [f5];omega
     ·split at h
      ·cases a:l4 g with
       | error e=>rw [a] at h;cases h
       | ok p=>
        obtain ⟨s,j⟩:=p;rw [a] at h;simp only [cD,b8] at h;obtain ⟨rfl,_,rfl⟩:=h;simp only [f5] at i ⊢;unfold l4 at a;split at a
        ·cases f:dD (g.drop 2) with
         | error e=>rw [f] at a;cases a
         | ok q=>
          obtain ⟨d,k⟩:=q;rw [f] at a;simp only [cD,b8] at a;have:=UJ f;rw [eC] at this;rw [←a.1,←a.2];show d.length≤_;omega
        ·split at a
         ·cases f:eH (g.length+1) (g.drop 7) [] with
          | error e=>rw [f] at a;cases a
          | ok q=>
           obtain ⟨d,k⟩:=q;rw [f] at a;simp only [cD,b8] at a;have:=tV _ _ _ _ _ f;rw [eC,List.length_nil] at this;rw [←a.1,←a.2];show d.length≤_;omega
         ·split at a
          ·cases f:oY (g.drop 7) with
           | error e=>rw [f] at a;cases a
           | ok q=>
            obtain ⟨d,k⟩:=q;rw [f] at a;simp only [cD,b8] at a;have:=UK f;rw [eC] at this;rw [←a.2] at i;rw [←a.1,←a.2];show (rK++d).length≤_;rw [fP,show rK.length=7 from rfl];omega
          ·cases g with
           | nil=>cases a
           | cons b1 l1=>
            simp only at a;split at a<;>cases a
      ·cases a:eV ents (c::g) with
       | error e=>rw [a] at h;cases h
       | ok p=>
        obtain ⟨nm,l,m,j⟩:=p;rw [a] at h;simp only [cD,b8] at h;rw [←h.1];exact jU _
theorem yY {c:Bool} {b:Bs} {s e:gN} {nm:Bs×Bs} {t:aP} (h:eJ c b s nm=.ok (t,e)):(t.itok []).text=[]:=by
 unfold eJ at h;split at h
 ·simp only [cD,b8] at h;rw [←h.1];rfl
 ·cases d:s.opens with
  | nil=>rw [d] at h;cases h
  | cons a l=>
   rw [d] at h;simp only at h;split at h
   ·simp only [cD,b8] at h;rw [←h.1];rfl
   ·cases h
theorem FF {c:Bool} {a:Bs} {s d:gN} {nm:Bs×Bs} {b:List cO} {t:aP} (h:mQ c a s nm b=.ok (t,d)):(t.itok []).text=[]:=by
 unfold mQ at h;split at h
 ·simp only [cD,b8] at h;rw [←h.1];rfl
 ·split at h
  ·cases h
  ·split at h
   ·cases h
   ·split at h
    ·cases h
    ·split at h
     ·cases h
     ·simp only [cD,b8] at h;rw [←h.1];rfl
theorem UL {o:lR} (m:nM o.ents) {first:Bool} {s i:gN} {j:List aP} (l:s.rest.length≤2147483647) (h:iS o first s=.ok (j,i)):((j.map fun t=>(t.itok []).text.length).sum)≤(s.rest.length-i.rest.length)*2147483647:=by
 unfold iS at h;cases d:kD o.ents first s.rest with
 | error e=>rw [d] at h;cases h
 | ok x=>
  obtain ⟨t,em,r⟩:=x;have f:=MG m l d;rw [d] at h;simp only at h;unfold kE at h;split at h
  ·rename_i nm b;cases c:mQ o.raw o.space { s with rest:=r } nm b with
   | error e=>rw [c] at h;cases h
   | ok y=>
    obtain ⟨u,n⟩:=y;have g:=FF c;rw [c] at h;simp only at h;split at h
    ·cases a:eJ o.raw o.space n nm with
     | error e=>rw [a] at h;cases h
     | ok z=>
      obtain ⟨q,p⟩:=z;have k:=yY a;rw [a] at h;simp only [cD,b8] at h;rw [←h.1];simp [g,k]
    ·simp only [cD,b8] at h;rw [←h.1];simp [g]
  ·rename_i nm;cases a:eJ o.raw o.space { s with rest:=r } nm with
   | error e=>rw [a] at h;cases h
   | ok z=>
    obtain ⟨q,p⟩:=z;have k:=yY a;rw [a] at h;simp only [cD,b8] at h;rw [←h.1];simp [k]
  ·simp only [cD,b8] at h;rw [←h.1,←h.2];simpa using f
theorem QR (l:List (aP×Nat)):eF (l.map fE)=(l.map fun q=>(q.1.itok []).text.length).sum:=by
 unfold eF;rw [List.map_map];rfl
theorem FG {o:lR} (b:nM o.ents) (T:Bs) (g:T.length≤2147483647):∀ (k:Nat) (s:gN) (out:List (aP×Nat)),s.rest.length≤T.length→eF (out.map fE)≤(T.length-s.rest.length)*2147483647→eF ((l5 o T k s out).1.map fE)≤T.length*2147483647
 | 0,s,out,f,a=>by
  exact fQ a (Nat.mul_le_mul_right _ (Nat.sub_le _ _))
 | k+1,s,out,f,a=>by
  unfold l5;split
  ·exact fQ a (Nat.mul_le_mul_right _ (Nat.sub_le _ _))
  ·cases c:iS o (s.rest.length==T.length) s with
   | error e=>
    exact fQ a (Nat.mul_le_mul_right _ (Nat.sub_le _ _))
   | ok p=>
    obtain ⟨j,d⟩:=p;have h:=UL b (by omega) c;have i:=(A4 c).1;refine FG b T g k d _ (by omega) ?_;rw [QR] at a ⊢;rw [List.map_append,List.sum_append,List.map_map];have e:((fun q:aP×Nat=>(q.1.itok []).text.length) ∘ fun t=>(t,T.length-d.rest.length))=fun t=>(t.itok []).text.length:=rfl;rw [e];omega
theorem FH {o:lR} (b:nM o.ents) (T:Bs) (a:T.length≤2147483647):eF ((gC o T).1.map fE)≤T.length*2147483647:=
 FG b T a _ _ [] (dF _) (jU _)
end Go.Proofs.YthapcchcahnfaaaGreatDoor
namespace Go.Proofs.YthapcchcahnfaaaGreatDoor
open Go Go.RowKit Go.Proofs.Tryz
theorem jS.like {w:World} {g o b:Nat} {p q:bS} (h:jS w g o b p) (k:p.kind=q.kind) (l:p.space=q.space) (m:p.loc=q.loc) (n:p.attrs=q.attrs) (r:p.text=q.text) (s:p.at'=q.at'):jS w g o b q:=by
 obtain ⟨t,v,u,c0,a,c,i,d,e,f,j⟩:=h.ex;rw [k] at c0;rw [l] at a;rw [m] at c;rw [r] at d;rw [s] at e;rw [n] at f;exact ⟨t,v,u,c0,a,c,i,d,e,f,j⟩
theorem vX {T:Bs} {l:List (aP×St)} {i:Nat} {q:bS} (h:((dA T l).map fE)[i]?=some q):∃ p,(f0 T l)[i]?=some p∧p.kind=q.kind∧p.space=q.space∧p.loc=q.loc∧p.attrs=q.attrs∧p.text=q.text∧p.at'=q.at':=by
 unfold dA at h;unfold f0;rw [List.getElem?_map,List.getElem?_map] at h;rw [List.getElem?_map];cases b:l[i]? with
 | none=>rw [b] at h;cases h
 | some ts=>
  rw [b] at h;simp only [Option.map_some,jW] at h;refine ⟨_,rfl,?_⟩;have a:(T.take (T.length-ts.2.rest.length)).length=T.length-ts.2.rest.length:=by rw [pI];omega
  rw [←h];obtain ⟨c,d⟩:=ts;unfold fE;cases c<;>exact ⟨rfl,rfl,rfl,rfl,rfl,by first|exact congrArg _ a|exact congrArg _ a.symm|(simp only [aP.itok,a];done)|(simp only [aP.itok,a];rfl)⟩
theorem m7 (T:Bs) (l:List (aP×St)):((dA T l).map fE).length=l.length:=by simp [dA]
theorem QS {w:World} {T:Bs} {l:List (aP×St)} {out:Value} (h:Z2 w (f0 T l) out):∃ A C,out=.slice A ((dA T l).map fE).length C∧(0<((dA T l).map fE).length→∃ g n,A=some ⟨g,n,none⟩∧g<w.heap.size∧∀ i p,((dA T l).map fE)[i]?=some p→jS w g (n+i*6) w.heap.size p):=by
 obtain ⟨b,B,F,m,o⟩:=h.ex;have f:(f0 T l).length=l.length:=G7 T l;rw [m7];rcases m.2 with ⟨c,E⟩|⟨g,cap,cur,c,_⟩
 ·refine ⟨none,0,by rw [c];congr 1;omega,fun r=>by omega⟩
 ·refine ⟨_,cap,by rw [c,f],fun r=>?_⟩;obtain ⟨D,k,d,_,e,_,_,a⟩:=gL m (by omega);rw [c] at d;simp only [Value.slice.injEq,jW,Addr.mk.injEq] at d;obtain ⟨⟨rfl,_⟩,_⟩:=d;refine ⟨_,0,rfl,e,fun i q s=>?_⟩;obtain ⟨p,j,t,u,v,x,y,z⟩:=vX s;rw [Nat.zero_add];exact (tJ o a j).like t u v x y z
theorem UM {w:World} {c:Nat} {L:List bS} {out:Value} {m:List Value} {G:Nat→Prop} {a:Nat} (j:w.ownsRow c 35 6 out L.length m) (n:cH (lW w a G) L m):∃ A C,out=.slice A L.length C∧(0<L.length→∃ g l,A=some ⟨g,l,none⟩∧g<w.heap.size∧∀ i p,L[i]?=some p→jS w g (l+i*6) w.heap.size p):=by
 rcases j.2 with ⟨d,o⟩|⟨g,cap,cur,d,_⟩
 ·exact ⟨none,0,by rw [d,o],fun k=>by omega⟩
 ·refine ⟨_,cap,d,fun k=>?_⟩;obtain ⟨s,h,e,_,f,_,_,b⟩:=gL j k;rw [d] at e;simp only [Value.slice.injEq,jW,Addr.mk.injEq] at e;obtain ⟨⟨rfl,_⟩,_⟩:=e;refine ⟨_,0,rfl,f,fun i q r=>?_⟩;rw [Nat.zero_add];exact tJ n b r
theorem UN {a n:Nat} (h:a≤n*2147483647) (b:n≤65536):a≤4611686018427387904:=
 fQ h (fQ (Nat.mul_le_mul_right _ b) (Nat.le_of_ble_eq_true rfl))
structure pD (T:Bs) (w:World) (P:List (aP×St)) (v:Value) (b:Option Addr):Prop where
 run:∃ c,pG T w v P c
 src:0<P.length→∃ g a,b=some ⟨g,a,none⟩∧g<w.heap.size∧∀ i p,((dA T P).map fE)[i]?=some p→jS w g (a+i*6) w.heap.size p
 ats:∀ p∈f0 T P,p.attrs.length≤1000000000
 len:P.length≤1000000000
 txt:eF ((dA T P).map fE)≤4611686018427387904
theorem jS.below {w w':World} {g o:Nat} {p:bS} (h:jS w g o w.heap.size p) (n:g<w.heap.size) (b:Below w.heap.size w w'):jS w' g o w'.heap.size p:=by
 obtain ⟨r,t,s,c0,c,d,e,f,i,l,m⟩:=h.ex;have a:∀ j v,w.cell? ⟨g,j,none⟩=some v→w'.cell? ⟨g,j,none⟩=some v:=fun j v h=>(b.cell (p:=⟨g,j,none⟩) n).trans h;exact ⟨r,t,s,a _ _ c0,a _ _ c,a _ _ d,a _ _ e,a _ _ f,a _ _ i,aE (S:=fun _=>False) l (aH b _) (fun _ _=>id),fun k q=>pL (m k q) b.size⟩
theorem yZ {T:Bs} {w:World} {P:List (aP×St)} {v:Value} {s:Option Addr} (h:pD T w P v s) :
  Calls prog 11 #[v] w fun e w'=>∃ A C,e=.returned (.slice A P.length C)∧Below w.heap.size w w'∧∀ t w1,Below w'.heap.size w' w1→Calls prog 10 #[.slice A P.length C,.slice s P.length t,.bool true] w1 fun f H=>f=.returned (.bool true)∧Below w1.heap.size w1 H:=by
 obtain ⟨I,F⟩:=h.run;refine (L7 T w v P I F h.len h.ats).mono ?_;rintro e w' ⟨out,rfl,l,n⟩;obtain ⟨A,C,rfl,r⟩:=QS n;have j:=m7 T P;rw [j];refine ⟨A,C,rfl,l,fun t w1 b=>?_⟩;have x:∀ {B:Option Addr} {u:World},Below u.heap.size u w1→(0<((dA T P).map fE).length→∃ g a,B=some ⟨g,a,none⟩∧g<u.heap.size∧∀ i p,((dA T P).map fE)[i]?=some p→jS u g (a+i*6) u.heap.size p)→(0<((dA T P).map fE).length→∃ g a,B=some ⟨g,a,none⟩∧g<w1.heap.size∧∀ i p,((dA T P).map fE)[i]?=some p→jS w1 g (a+i*6) w1.heap.size p):=fun c k d=>by
  obtain ⟨g,a,y,f,z⟩:=k d;exact ⟨g,a,y,pL f c.size,fun i p d=>(z i p d).below f c⟩
 have k:=WU w1 ((dA T P).map fE) (by rw [j];exact h.len) h.txt (fun q E=>by
  obtain ⟨i,D,o⟩:=List.getElem_of_mem E;obtain ⟨p,m,_,_,_,G,_,_⟩:=vX (q:=q) (i:=i) (by rw [List.getElem?_eq_getElem D,o]);rw [←G];exact h.ats p (List.mem_of_getElem? m)) A s C t (x b r) (x (l.trans (b.mono l.size)) (fun d=>h.src (by rw [←j];exact d))) true
 rw [j] at k;exact k
theorem jV.len {fold:Bs→Bs→Bool} {o:cV} {s:St} {l:List (aP×St)} {e:EK} (h:jV fold o s l e):l.length≤s.mu2:=by
 induction h with
 | stop _=>exact jU _
 | more a _ ih=>
  have:=(xW a).1;simp only [f5];omega
theorem pD.part {T:Bs} {w:World} {l a b c:List (aP×St)} (k:l=a++b++c) {v:Value} {o:List Value} (t:pG T w v b o) {g:Nat} (r:g<w.heap.size) (h:∀ i p,((dA T l).map fE)[i]?=some p→jS w g (i*6) w.heap.size p)
  (e:∀ p∈f0 T l,p.attrs.length≤1000000000) (n:l.length≤1000000000) (d:eF ((dA T l).map fE)≤4611686018427387904):pD T w b v (some ⟨g,a.length*6,none⟩):=by
 have f:(dA T l).map fE=(dA T a).map fE++(dA T b).map fE++(dA T c).map fE:=by rw [k];simp [dA]
 have m:f0 T l=f0 T a++f0 T b++f0 T c:=by rw [k];simp [f0]
 refine ⟨⟨o,t⟩,fun _=>⟨g,a.length*6,rfl,r,fun i p j=>?_⟩,fun p j=>e p (by rw [m];simp [j]),?_,?_⟩
 ·rw [show a.length*6+i*6=(a.length+i)*6 by omega];refine h _ p ?_;have s:=(A9.1 j).1;rw [f,rG,CQ (by rw [m7];omega),m7,show a.length+i-a.length=i by omega,List.getElem?_append_left s];exact j
 ·have q:=congrArg List.length k;simp only [fP] at q;omega
 ·rw [f] at d;unfold eF at d ⊢;simp only [List.map_append,List.sum_append] at d ⊢;omega
theorem pD.below {T:Bs} {w w':World} {P:List (aP×St)} {v:Value} {d:Option Addr} (h:pD T w P v d) (a:Below w.heap.size w w'):pD T w' P v d:=by
 obtain ⟨l,j⟩:=h.run;refine ⟨⟨l,j.below a⟩,fun b=>?_,h.ats,h.len,h.txt⟩;obtain ⟨g,k,e,c,f⟩:=h.src b;exact ⟨g,k,e,pL c a.size,fun i p b=>(f i p b).below c a⟩
noncomputable def uS (n:Nat):Code:=((Tryz.f7.body).bind (Code.partAt n)).getD .skip
structure CM (T:Bs) (w:World) (l:List (aP×St)) (g a:Nat):Prop where
 env:EB w
 toks:jV bZ V2 (St.init T) l .eof
 lt:g<w.heap.size
 cap:l.length≤a
 src:∀ i p,((dA T l).map fE)[i]?=some p→jS w g (i*6) w.heap.size p
 txt:eF ((dA T l).map fE)≤4611686018427387904
theorem CM.below {T:Bs} {w w':World} {l:List (aP×St)} {g b:Nat} (h:CM T w l g b) (a:Below w.heap.size w w'):CM T w' l g b:=
 ⟨h.env.below a,h.toks,pL h.lt a.size,h.cap,fun i p c=>(h.src i p c).below h.lt a,h.txt⟩
theorem CM.kind {T:Bs} {w:World} {l:List (aP×St)} {g c:Nat} (h:CM T w l g c) {i:Nat} {a:aP×St} (b:l[i]?=some a):jS w g (i*6) w.heap.size (fE (a.1,T.length-a.2.rest.length)):=
 h.src i _ (by unfold dA;rw [List.getElem?_map,List.getElem?_map,b];rfl)
theorem A6 (t:aP) (a:Nat):(∃ nm b,t=.start nm b∧(fE (t,a)).kind=1)∨(∃ nm,t=.fin nm∧(fE (t,a)).kind=2)∨((∀ nm b,t≠.start nm b)∧(∀ nm,t≠.fin nm)∧(fE (t,a)).kind≠1∧(fE (t,a)).kind≠2):=by
 cases t with
 | start nm b=>exact aG ⟨nm,b,rfl,rfl⟩
 | fin nm=>exact aU (aG ⟨nm,rfl,rfl⟩)
 | text d=>exact aU (aU ⟨fun _ _ h=>(by cases h),fun _ h=>(by cases h),(by simp [fE,aP.itok]),(by simp [fE,aP.itok])⟩)
 | comment d=>exact aU (aU ⟨fun _ _ h=>(by cases h),fun _ h=>(by cases h),(by simp [fE,aP.itok]),(by simp [fE,aP.itok])⟩)
 | dir d=>exact aU (aU ⟨fun _ _ h=>(by cases h),fun _ h=>(by cases h),(by simp [fE,aP.itok]),(by simp [fE,aP.itok])⟩)
 | proc x y=>exact aU (aU ⟨fun _ _ h=>(by cases h),fun _ h=>(by cases h),(by simp [fE,aP.itok]),(by simp [fE,aP.itok])⟩)
theorem QT (T:Bs) (hT:T.length≤65536) (w1:World) {l:List (aP×St)} {g A:Nat} (h:CM T w1 l g A) (n C:Nat) (X:n≤l.length) (U:kO 0 (l.drop n)=some C) (o:n+C≤l.length)
  (Q:Exit→Act→World→Prop) (hQ:∀ f w',Below w1.heap.size w1 w'→Q .ret (fr 124 f [(4,.bool true)]) w') (f:Nat→Value) :
  (uS 22).wp prog Q (fr 124 f [(0,aB T),(1,.int .i64 (n:Nat)),(5,.slice (some ⟨g,0,none⟩) l.length A),(10,.int .i64 ((n+C:Nat):Int))]) w1:=by
 have i:l.length≤600000:=by
  have h1:=h.toks.len;rw [show (St.init T).mu2=8*T.length by rw [lT rfl];unfold St.mu St.init;simp] at h1;omega
 have HS:=Lh (MD T (by omega) w1 h.env h.toks n X (by omega) C U);have s:∀ p∈f0 T l,p.attrs.length≤1000000000:=fun p hp=>by
  unfold f0 at hp;obtain ⟨ts,h1,rfl⟩:=List.mem_map.1 hp;have h9:=QE rfl h.toks rfl ts h1 (T.take (T.length-ts.2.rest.length));have h7:(St.init T).rest.length=T.length:=rfl;omega
 have ⟨q,H,HQ⟩:=kV s h hQ;obtain ⟨m,W⟩:=cK l.length;rw [←W] at i X o ⊢;have t:=h.cap;rw [←W] at t;obtain ⟨e,x⟩:=cK (n+C);rw [←x] at o ⊢;have ⟨B,r,Z⟩:=kV W i x;have s1:(n:Int)≤(A:Int):=by omega
 have s2:(e:Int)≤(m:Int):=by omega
 have s3:(m:Int)≤(A:Int):=by omega
 have s4:(0:Int)≤(n:Int):=by omega
 have s5:(0:Int)≤(e:Int):=by omega
 have ⟨HN,G⟩:=cB X o;clear h hQ s i W x t X U o;conv=>arg 2;unfold uS;whnf
 refine vg ?_;intro K hK K hK;refine HS.o.mono ?_;rintro e2 d ⟨tv,a1,xs,a3,rfl,w,P,y⟩;have v:=H.o.below w;have hd:(l.drop n).drop C=l.drop e:=by rw [List.drop_drop,Z.o]
 rw [hd] at y;have z:=pD.part (a:=[]) (c:=l.drop n) (by simp) P v.lt v.src q.o (by have:=B.o;have:=r.o;omega) v.txt;have b:=pD.part (a:=l.take e) (c:=[]) (by simp) y v.lt v.src q.o (by have:=B.o;have:=r.o;omega) v.txt;rw [show ([]:List (aP×St)).length*6=0 from rfl] at z;rw [show (l.take e).length=e by rw [pI];have:=G.o;have:=B.o;omega] at b;obtain ⟨a0,j⟩:∃ a,a=(if A=e then some (⟨g,0,none⟩:Addr) else some ⟨g,e*6,none⟩):=⟨_,rfl⟩;have V:pD T d (l.drop e) a1 a0:=by
  rw [j];by_cases hc:A=e
  ·rw [aY hc];exact ⟨b.run,fun h=>absurd h (by rw [eC];have:=B.o;have:=G.o;omega),b.ats,b.len,b.txt⟩
  ·rw [aQ hc];exact b
 have a2:=j.symm;have I:=Lh (fun (w':World) (hb:Below d.heap.size d w')=>yZ (z.below hb));have J:=Lh (fun (w':World) (hb:Below d.heap.size d w')=>yZ (V.below hb));rw [show (l.take n).length=n by rw [pI];have:=HN.o;have:=B.o;omega] at I;rw [show (l.drop e).length=m-e by rw [eC,B.o]] at J;have D:=Lh w;clear w P y v hd z b V j HS;(repeat revert K);refine vS ?_;intro K hK;(refine lD [0,0,0,0,0,0,0,0,2,0,0,0,2,0,0,0,2,0,0,0,2,0,0] [0,1,2,3,4,5,6,7,9,10,11,8,12,13,14,15,17,18,19,16,20,21,22] ?_;refine vP ?_;repeat with_reducible intro nq)
 refine bI rfl rfl (fun nq K hK=>?_);go_simp;refine (I.o _ (bM (Below.refl _ _) _)).mono ?_;rintro e3 w3 ⟨A3,C3,rfl,L,R⟩;have E:=Lh (show Below d.heap.size d w3 from (bM (Below.refl _ d) _).trans L);have aA:=Lh (fun k=>R A (w3.drewN k) (bM (Below.refl _ _) _));clear L R;go_simp;refine hK.out _ _ ?_;clear hK K;(refine vP ?_;repeat with_reducible intro nq)
 refine bI rfl rfl (fun nq K hK=>?_);go_simp;refine (aA.o _).mono ?_;rintro e4 w4 ⟨rfl,M⟩;have u:=Lh (show Below d.heap.size d w4 from E.o.trans (((bM (Below.refl _ w3) _).trans M).mono E.o.size));clear M;go_simp;refine hK.out _ _ ?_;clear hK K;(refine vP ?_;repeat with_reducible intro nq)
 refine bI rfl rfl (fun nq K hK=>?_);go_simp;refine (J.o _ (bM u.o _)).mono ?_;rintro e5 w5 ⟨A5,C5,rfl,N,S⟩;have F:=Lh (show Below d.heap.size d w5 from u.o.trans (((bM (Below.refl _ w4) _).trans N).mono u.o.size));have aC:=Lh (fun c k=>S c (w5.drewN k) (bM (Below.refl _ _) _));clear N S;go_simp;refine hK.out _ _ ?_;clear hK K;(refine vP ?_;repeat with_reducible intro nq)
 refine bI rfl rfl (fun nq K hK=>?_);go_simp;refine (aC.o _ _).mono ?_;rintro e6 w6 ⟨rfl,O⟩;have Y:=Lh (show Below d.heap.size d w6 from F.o.trans (((bM (Below.refl _ w5) _).trans O).mono F.o.size));clear O;go_simp;refine hK.out _ _ ?_;clear hK K;(refine vP ?_;repeat with_reducible intro nq)
 revert K;refine vg ?_;refine Qk [4] fun f=>?_;exact HQ.o f _ (bM (D.o.trans (Y.o.mono D.o.size)) _)
def Aa (T:Bs) (n:Int) (l:List (aP×St)) (g h e:Nat) (w1:World) (c:Nat) (a:Act) (w:World):Prop:=
 ∃ f b k,a=fr 124 f [(0,aB T),(1,.int .i64 n),(5,.slice (some ⟨g,0,none⟩) l.length h),(9,.int .i64 (b:Nat)),(10,.int .i64 (k:Nat))]∧w1=w∧((b=0∧c=0∧k=e)∨∃ d,b=d+1∧kO d (l.drop k)=some c∧k+c=e)∧b≤k+1
theorem QU (T:Bs) (hT:T.length≤65536) (w1:World) {l:List (aP×St)} {g oC:Nat} (h:CM T w1 l g oC) (n R:Nat) (hn:n≤l.length) (C:kO 0 (l.drop n)=some R) (c:n+R≤l.length)
  (Q:Exit→Act→World→Prop) (hQ:∀ f w',Below w1.heap.size w1 w'→Q .ret (fr 124 f [(4,.bool true)]) w') (f:Nat→Value) :
  (uS 14).wp prog Q (fr 124 f [(0,aB T),(1,.int .i64 (n:Nat)),(5,.slice (some ⟨g,0,none⟩) l.length oC)]) w1:=by
 have y:l.length≤600000:=by
  have h1:=h.toks.len;rw [show (St.init T).mu2=8*T.length by rw [lT rfl];unfold St.mu St.init;simp] at h1;omega
 have F:=Lh (fun f=>QT T hT w1 h n R hn C c Q hQ f);have ⟨E,H,a1,o⟩:=kS C h c y;clear h hQ y hn C c hT;conv=>arg 2;unfold uS;whnf
 refine vg ?_;intro K hK;refine cG [0,1,5,9,10] fun f=>?_;refine wp_loop_ghost_k (Aa T n l g oC (n+R) w1) R ⟨f,1,n,rfl,rfl,aU ⟨0,rfl,E.o,rfl⟩,by omega⟩ ?_;clear E;rintro k0 _ w ⟨f,b,k,rfl,rfl,A,I⟩ J K2 hJ G;have ⟨S,r,m⟩:=kV hJ G I;clear hJ G I;rcases A with ⟨rfl,rfl,rfl⟩|⟨d,i,B,x⟩
 ·have t0:¬ (0:Int)<0:=by omega
  revert K;refine vT 22 ?_;refine cG [0,1,5,10] fun f=>?_;exact bB (F.o f) (by kernel_rfl)
 obtain ⟨⟨t,s⟩,U,D⟩:∃ p U,l.drop k=p::U:=by
  cases hd:l.drop k with
  | nil=>rw [hd] at B;cases B
  | cons p U=>exact ⟨p,U,rfl⟩
 have q:l[k]?=some (t,s):=by
  have:=congrArg (fun a=>a[0]?) D;simpa using this
 have c:k<l.length:=(A9.1 q).1;have v:=(A2 D).2;rw [D] at B;obtain ⟨V,W,X⟩:=yX B;obtain ⟨sa,sl,sc,c0,_⟩:=(H.o.kind q).ex;have t0:(0:Int)<(b:Int):=by omega
 have t1:(k:Int)<(l.length:Int):=by omega
 have t2:(0:Int)≤(k:Int):=by omega
 have wk:IntKind.i64.wrap ((k:Int)+1)=((k+1:Nat):Int):=by rw [IntKind.wrap_i64];have:=o.o;omega
 have wd:IntKind.i64.wrap ((b:Int)+1)=((b+1:Nat):Int):=by rw [IntKind.wrap_i64];have:=o.o;have:=m.o;omega
 have a2:IntKind.i64.wrap ((b:Int)-1)=(d:Int):=by rw [IntKind.wrap_i64];have:=o.o;have:=m.o;omega
 have ⟨j,u,z⟩:=kV i x v;rcases A6 t (T.length-s.rest.length) with ⟨nm,ats,L,O⟩|⟨nm,L,O⟩|⟨M,N,aC,a0⟩
 ·obtain ⟨P,rfl,e⟩:=V nm ats L;have Y:=Lh e;rw [O] at c0;clear D q c B V W X v x L O e i;revert K;refine vg ?_;intro K hK;refine Kk [0,1,5,9,10] fun f=>?_;exact r.o _ _ ⟨P,by omega,S.o _ _ _ ⟨f,b+1,k+1,rfl,rfl,aU ⟨b,rfl,by rw [z.o,j.o];exact Y.o,by have:=u.o;omega⟩,by have:=m.o;omega⟩⟩
 ·rw [O] at c0;have hq:=Lh (W nm L);clear D q c B V W X v x L O i;revert K;refine vg ?_;intro K hK;refine Kk [0,1,5,9,10] fun f=>?_;rcases hq.o with ⟨aA,rfl⟩|⟨d',P,Z,rfl,e⟩
  ·exact r.o _ _ ⟨0,by omega,S.o _ _ _ ⟨f,d,k+1,rfl,rfl,aG ⟨aA,rfl,u.o⟩,by omega⟩⟩
  ·exact r.o _ _ ⟨P,by omega,S.o _ _ _ ⟨f,d,k+1,rfl,rfl,aU ⟨d',Z,by rw [z.o];exact e,by have:=u.o;omega⟩,by have:=m.o;have:=j.o;omega⟩⟩
 ·obtain ⟨P,rfl,e⟩:=X M N;have Y:=Lh e;have e1:(((fE (t,T.length-s.rest.length)).kind:Int)==1)=false:=by rw [lQ];omega
  have e2:(((fE (t,T.length-s.rest.length)).kind:Int)==2)=false:=by rw [lQ];omega
  clear D q c B V W X v x M N e aC a0 i;revert K;refine vg ?_;intro K hK;refine Kk [0,1,5,9,10] fun f=>?_;exact r.o _ _ ⟨P,by omega,S.o _ _ _ ⟨f,b,k+1,rfl,rfl,aU ⟨d,j.o,by rw [z.o];exact Y.o,by have:=u.o;omega⟩,by have:=m.o;omega⟩⟩
def XT (T:Bs) (n:Int) (b:Nat) (g c:Nat) (w1:World) (d:Nat) (a:Act) (w:World):Prop:=
 ∃ f i,a=fr 124 f [(0,aB T),(1,.int .i64 n),(5,.slice (some ⟨g,0,none⟩) b c),(47,.slice (some ⟨g,0,none⟩) b c),(48,.int .i64 (b:Nat)),(49,.int .i64 (i:Nat))]∧Below w1.heap.size w1 w∧i≤b∧d=b-i
theorem UO (T:Bs) (hT:T.length≤65536) (w1:World) {l:List (aP×St)} {g oC:Nat} (h:CM T w1 l g oC) (n kk:Nat) (hn:n≤l.length) (M:kO 0 (l.drop n)=some kk) (L:n+kk≤l.length)
  (Q:Exit→Act→World→Prop) (Y:∀ f w',Below w1.heap.size w1 w'→Q .ret (fr 124 f [(4,.bool true)]) w') (f:Nat→Value) :
  (uS 8).wp prog Q (fr 124 f [(0,aB T),(1,.int .i64 (n:Nat)),(5,.slice (some ⟨g,0,none⟩) l.length oC)]) w1:=by
 have o:l.length≤600000:=by
  have h1:=h.toks.len;rw [show (St.init T).mu2=8*T.length by rw [lT rfl];unfold St.mu St.init;simp] at h1;omega
 have x:=Lh (fun w2 (D:Below w1.heap.size w1 w2) f=>QU T hT w2 (h.below D) n kk hn M L Q (fun f w' Z=>Y f w' (D.trans (Z.mono D.size))) f);have ⟨HQ,H⟩:=cB Y h;obtain ⟨m,hm⟩:=cK l.length;rw [←hm] at o x ⊢;have ⟨HM,u⟩:=cB hm o;clear h Y o hn M L hT hm;conv=>arg 2;unfold uS;whnf
 refine vg ?_;intro K hK;refine cG [0,1,5,47,48,49] fun f=>?_;refine wp_loop_ghost_k (XT T n m g oC w1) m ⟨f,0,rfl,Below.refl _ _,jU _,rfl⟩ ?_;rintro k0 _ w ⟨f,i,rfl,D,hi,R⟩ J K2 hJ F;have ⟨U,y,O,V⟩:=kS hJ F D R;clear hJ F D R;rcases Nat.lt_or_ge i m with C|aA;rotate_left
 ·obtain rfl:i=m:=by omega
  have t0:¬ (i:Int)<(i:Int):=by omega
  clear aA hi;revert K;refine vT 14 ?_;refine cG [0,1,5] fun f=>?_;exact bB (x.o w O.o f) (by kernel_rfl)
 have S:=H.o.below O.o;obtain ⟨⟨t,s⟩,N⟩:∃ p,l[i]?=some p:=⟨_,List.getElem?_eq_getElem (by rw [←HM.o];exact C)⟩;obtain ⟨sa,sl,sc,c0,c1,c2,c3,c4,c5,_⟩:=(S.kind N).ex;obtain ⟨p,hp⟩:=cK (fE (t,T.length-s.rest.length));rw [←hp] at c0 c1 c2 c4 c5;have q:i=0∨∃ (j k:Nat),i=j+1∧w.cell? ⟨g,j*6,none⟩=some (.int .i64 (k:Nat)):=by
  cases i with
  | zero=>exact aG rfl
  | succ j=>
   obtain ⟨p2,aC⟩:∃ p,l[j]?=some p:=⟨_,List.getElem?_eq_getElem (by rw [←HM.o];omega)⟩;obtain ⟨_,_,_,d0,_⟩:=(S.kind aC).ex;exact aU ⟨j,_,rfl,d0⟩
 have B:p.kind≠3∨(p.kind=3∧p.text=[])∨(p.kind=3∧p.text≠[]∧i=0)∨∃ (j k:Nat),p.kind=3∧p.text≠[]∧i=j+1∧w.cell? ⟨g,j*6,none⟩=some (.int .i64 (k:Nat)):=by
  by_cases c:p.kind=3
  ·by_cases d:p.text=[]
   ·exact aU (aG ⟨c,d⟩)
   ·rcases q with z|⟨j,k,z,P⟩
    ·exact aU (aU (aG ⟨c,d,z⟩))
    ·exact aU (aU (aU ⟨j,k,c,d,z,P⟩))
  ·exact aG c
 have t0:(i:Int)<(m:Int):=by omega
 have t1:(0:Int)≤(i:Int):=by omega
 have wi:IntKind.i64.wrap ((i:Int)+1)=((i+1:Nat):Int):=by rw [IntKind.wrap_i64];have:=u.o;omega
 obtain ⟨E,r⟩:=cK (w.alloc (.cells #[.int .i64 p.kind,aB p.space,aB p.loc,.slice sa sl sc,aB p.text,.int .i64 p.at'] 35));have A:Below w.heap.size w E:=by rw [r];exact (Below.refl _ w).alloc (dF _) _
 have G:aL E w.heap.size #[.int .i64 p.kind,aB p.space,aB p.loc,.slice sa sl sc,aB p.text,.int .i64 p.at'] 35:=by rw [r];exact aL.new w _ _
 have b:=G.cell;have I:=S.lt;have e:=Lh (O.o.trans (A.mono O.o.size));have a:=Lh C;have W:=Lh (fun j v (h:w.cell? ⟨g,j,none⟩=some v)=>show E.cell? ⟨g,j,none⟩=some v from (A.cell (p:=⟨g,j,none⟩) I).trans h);clear S N hp q A G I C hi;revert K;refine vT 11 ?_;intro K hK K hK;rw [show w.alloc (.cells #[.int .i64 p.kind,.string ⟨List.toArray p.space⟩,.string ⟨List.toArray p.loc⟩,.slice sa sl sc,.string ⟨List.toArray p.text⟩,.int .i64 p.at'] 35)=E from r.symm];clear r c0 c1 c2 c3 c4 c5;rcases B with c|⟨c,d⟩|⟨c,d,z⟩|⟨j,k,c,d,z,P⟩
 ·have e1:((p.kind:Int)==3)=false:=by rw [lQ];omega
  (repeat revert K);refine vg ?_;intro K hK;refine Kk [0,1,5,47,48,49] fun f=>?_;exact y.o _ _ ⟨m-(i+1),by rw [V.o];have:=a.o;omega,U.o _ _ _ ⟨f,i+1,rfl,e.o,a.o,rfl⟩⟩
 ·rw [c,d] at b;clear c d;(repeat revert K);refine vg ?_;intro K hK K hK;refine Qk [4] fun f=>?_;exact HQ.o f E e.o
 ·rw [c] at b;have e4:(p.text==[])=false:=by simpa using d
  have e5:¬ (0:Int)<(i:Int):=by omega
  have X:¬ 0<i:=by omega
  clear c d z;(repeat revert K);refine vg ?_;intro K hK;refine Kk [0,1,5,47,48,49] fun f=>?_;exact y.o _ _ ⟨m-(i+1),by rw [V.o];have:=a.o;omega,U.o _ _ _ ⟨f,i+1,rfl,e.o,a.o,rfl⟩⟩
 ·rw [c] at b;have e4:(p.text==[])=false:=by simpa using d
  have e5:(0:Int)<(i:Int):=by omega
  have X:0<i:=by omega
  have e6:IntKind.i64.wrap ((i:Int)-1)=(j:Int):=by rw [IntKind.wrap_i64];have:=u.o;have:=a.o;omega
  have e7:(j:Int)<(m:Int):=by have:=a.o;omega
  have a0:j<m:=by have:=a.o;omega
  have e8:(0:Int)≤(j:Int):=by omega
  have h7:=W.o _ _ P;clear P d c z;by_cases R:k=3
  ·subst R;(repeat revert K);refine vg ?_;intro K hK K hK;refine Qk [4] fun f=>?_;exact HQ.o f E e.o
  ·have e9:((k:Int)==3)=false:=by rw [lQ];omega
   (repeat revert K);refine vg ?_;intro K hK;refine Kk [0,1,5,47,48,49] fun f=>?_;exact y.o _ _ ⟨m-(i+1),by rw [V.o];have:=a.o;omega,U.o _ _ _ ⟨f,i+1,rfl,e.o,a.o,rfl⟩⟩
theorem XU (T:Bs) (n:Int) (w:World) (h:65536<T.length):Calls prog 7 #[aB T,.int .i64 n] w fun e w'=>e=.returned (.bool true)∧Below w.heap.size w w':=by
 by_cases a:(2147483647:Int)<(T.length:Int)
 ·refine eL 124 func7 [_,_] fun f=>?_;simp only [aF];refine vg ?_;intro K hK;refine cM ?_;exact ⟨rfl,Below.refl _ w⟩
 have b:(65536:Int)<(T.length:Int):=by omega
 refine eL 124 func7 [_,_] fun f=>?_;simp only [aF];refine vg ?_;intro K hK;refine cM ?_;exact ⟨rfl,Below.refl _ w⟩
theorem Ab (T:Bs) (hT:T.length≤65536) (n:Int) (w:World) (hE:EB w) :
  Calls prog 7 #[aB T,.int .i64 n] w fun e w'=>e=.returned (.bool true)∧Below w.heap.size w w':=by
 have h2:¬ (2147483647:Int)<(T.length:Int):=by omega
 have h4:¬ (65536:Int)<(T.length:Int):=by omega
 have H:nM ([]:aM):=fun p hp=>by cases hp
 have r:=Lh (XS T (by omega) ⟨false,[],[]⟩ H (.slice none 0 0) w ⟨w.heap.size,T,false,.slice none 0 0,[]⟩ rfl ⟨none,0,0,rfl⟩ ⟨jU _,aG ⟨rfl,rfl⟩⟩ (QH _ _ rfl (JO _ _ rfl)) (JO _ _ rfl));have ⟨HE,F⟩:=cB hE hT;have X:=Lh (FH (o:=⟨false,[],[]⟩) H T (by omega));clear hE hT H;refine eL 124 func7 [_,_] fun f=>?_;simp only [aF];refine vg ?_;intro K hK K hK;refine r.o.mono ?_;rintro e1 w1 ⟨out,xs,rfl,O,c,a⟩;have q:=Lh O;obtain ⟨oA,oC,rfl,N⟩:=UM (by rw [List.length_map];exact c) a;obtain ⟨m,Z⟩:=cK (((gC ⟨false,[],[]⟩ T).1.map fE).length);rw [←Z];obtain ⟨S,C⟩:=cK (JS (gC ⟨false,[],[]⟩ T).2);rw [←C];have u:(S≠0)∨∃ R,jV bZ V2 (St.init T) R .eof∧(gC ⟨false,[],[]⟩ T).1=dA T R∧S=0:=by
  cases Y:(gC ⟨false,[],[]⟩ T).2 with
  | some Q=>
   left;rw [C,Y];cases Q<;>simp [JS,SV.num]
  | none=>
   right;obtain ⟨R,h8,h9⟩:=T8 bZ V2 rfl (aG rfl) rfl T Y;exact ⟨R,h8,h9,by rw [C,Y];rfl⟩
 have ⟨h,HM,E,A⟩:=kS u Z c a;clear O c a C u N r Z;rcases h.o with hz|⟨l,d,b,rfl⟩
 ·have a1:(S != 0)=true:=by simpa using hz
  have a2:(S==0)=false:=by simpa using hz
  clear hz;(repeat revert K);refine vS ?_;intro K hK;refine cM ?_;exact ⟨rfl,q.o⟩
 by_cases aC:n<1
 ·clear d b h;(repeat revert K);refine vS ?_;intro K hK;refine cM ?_;exact ⟨rfl,q.o⟩
 by_cases a0:(m:Int)<n
 ·clear d b h;(repeat revert K);refine vS ?_;intro K hK;refine cM ?_;exact ⟨rfl,q.o⟩
 obtain ⟨D,rfl⟩:∃ D:Nat,n=(D:Int):=⟨n.toNat,by omega⟩;obtain ⟨j,P⟩:∃ j:Nat,D=j+1:=⟨D-1,by omega⟩;have x:m=l.length:=by rw [HM.o,b,m7]
 have c:=E.o;have a:=A.o;have z:=X.o;rw [b] at c a z;rw [show (dA T l).length=l.length by simp [dA],←x] at c;obtain ⟨g,aA,he,_,B,G,_,k⟩:=gL c (by omega);simp only [Value.slice.injEq] at he;obtain ⟨rfl,_,rfl⟩:=he;have v:CM T w1 l g oC:=⟨HE.o.below q.o,d,B,by omega,fun i p hp=>tJ a k hp,UN z F.o⟩;obtain ⟨⟨t,s⟩,y⟩:∃ p,l[j]?=some p:=⟨_,List.getElem?_eq_getElem (by omega)⟩;obtain ⟨_,_,_,c0,_⟩:=(v.kind y).ex;have L:m≤600000:=by
  have h1:=d.len;rw [show (St.init T).mu2=8*T.length by rw [lT rfl];unfold St.mu St.init;simp] at h1;have:=F.o;omega
 have wj:IntKind.i64.wrap ((D:Int)-1)=(j:Int):=by rw [IntKind.wrap_i64];omega
 have j0:(0:Int)≤(j:Int):=by omega
 have j1:(j:Int)<(m:Int):=by omega
 rcases A6 t (T.length-s.rest.length) with ⟨nm,ats,rfl,I⟩|⟨nm,rfl,I⟩|⟨_,_,I,_⟩
 ·obtain ⟨Q,M,_,J⟩:=LK (o:=V2) rfl T d y;rw [←P] at M J;rw [eC] at J;rw [I] at c0;have ⟨V,W⟩:=cB v x;have U:=Lh (And.intro (show D≤l.length by omega) (And.intro M (show D+Q≤l.length by omega)));clear d b h P x c a z B G k v y L M J I;go_simp;(repeat revert K);refine vT 8 ?_;refine cG [0,1,5] fun f=>?_;rw [W.o];refine bB (UO T F.o w1 V.o D Q U.o.1 U.o.2.1 U.o.2.2 _ (fun f w' hb=>?_) f) (by kernel_rfl);refine cM ?_;exact ⟨rfl,q.o.trans (hb.mono q.o.size)⟩
 ·rw [I] at c0;clear d b h P x c a z B G k v y L I;(repeat revert K);refine vS ?_;intro K hK;refine cM ?_;exact ⟨rfl,q.o⟩
 ·have e1:(((fE (t,T.length-s.rest.length)).kind:Int) != 1)=true:=by simp;omega
  have e2:(((fE (t,T.length-s.rest.length)).kind:Int)==1)=false:=by rw [lQ];omega
  clear d b h P x c a z B G k v y L I;(repeat revert K);refine vS ?_;intro K hK;refine cM ?_;exact ⟨rfl,q.o⟩
end Go.Proofs.YthapcchcahnfaaaGreatDoor
namespace Go.Proofs.YthapcchcahnfaaaGreatDoor
open Go Go.RowKit Go.ChangeShapes Go.WideShapes Go.ChangeAt Go.Shelf Go.Proofs.Tryz
theorem UP (T:Bs) (n:Int) (w:World) (a:EB w):Calls prog 7 #[aB T,.int .i64 n] w fun e w'=>e=.returned (.bool true)∧Below w.heap.size w w':=by
 by_cases h:T.length≤65536
 ·exact Ab T h n w a
 ·exact XU T n w (by omega)
theorem MH (os:Os) (c:os.Started) (H:Type) (enc:TypeId×Value→H) :
  ReturnsInHanded {} Tryz.checked os 7 .any (fun w a=>(Rows.fnSkipSpec.pre enc prog Tryz.f7 [] false w a∧laidMetH prog gR w)∧sizedMet enc prog Tryz.f7 (OpenSpec.ofChange Rows.fnSkipSpec) false w a)
   (Rows.fnSkipSpec.post enc prog Tryz.f7 false true false false):=by
 refine returnsInHanded_of_change_and (C:=Tryz.checked) (X:=fun w _=>laidMetH prog gR w) (fun _ _ _ B h=>h.of_heap B) own c (by kernel_rfl) func7
  (ChangeSpec.witness_shaped (enc:=enc) (C:=Tryz.checked) (os:=os) (X:=fun w _=>laidMetH prog gR w) false (uK os) #[.string ⟨#[]⟩,.int .i64 0] 8 (World.layVars_os _ _ _)
   (World.shaped_of_ZipB (by kernel_rfl) (by kernel_rfl)) (by kernel_rfl) (by kernel_rfl) (by kernel_rfl)
   (OG os _)) ?_
 intro W f a r J i d o _ _ x _;have b:∀ (j:Nat) t v,Tryz.f7.params[j]?=some t→a[j]?=some v→Value.okWide prog W .any f t v:=d;have g:=o;obtain ⟨p,q,k,y,rfl,_,_⟩:=o;have n:DataW.TrodAll enc prog W 0 (fun _=>true) true Tryz.f7.params.toList a.toList r p:=k;rw [Tryz.params7] at n b;obtain ⟨v0,E,G,I,L,M,rfl,rfl,rfl,s,u⟩:=trodAll_two n;obtain ⟨rfl,rfl⟩:=trodVars_none y;obtain ⟨F,rfl,rfl,rfl,l⟩:=Go.ChangeMaps.open_string underlying9 (b 0 9 v0 rfl rfl) s;obtain ⟨D,rfl,rfl,rfl,m⟩:=Go.ChangeShapes.open_int underlying3 (b 1 3 E rfl rfl) u;simp only [List.append_nil,List.nil_append] at g;refine (UP F.data.toList D W (UE x)).mono fun e W' ⟨A,z⟩=>?_;subst A;exact ⟨_,rfl,_,_,_,[],_,[],g,trodAll_mk1 (shut_bool underlying4 _),trodAll_mk2 (Go.ChangeMaps.shut_string underlying9 l) (Go.ChangeShapes.shut_int underlying3 m),rfl,z.frame _,fun h=>by cases h⟩
end Go.Proofs.YthapcchcahnfaaaGreatDoor
