/- Part of the proof that laws.FnWithin returns true for every argument. No conditions. -/
import Derived.Test.YthapcchcahnfaaaGreatDoorQ41
import Derived.Test.YthapcchcahnfaaaGreatDoorQ48
import Derived.Test.YthapcchcahnfaaaGreatDoorQ44
import Derived.Test.YthapcchcahnfaaaGreatDoorQ22
import Derived.Test.YthapcchcahnfaaaGreatDoorQ39
import Derived.Test.YthapcchcahnfaaaGreatDoorQ40
import Derived.Test.YthapcchcahnfaaaGreatDoorQ50
import Derived.Test.YthapcchcahnfaaaGreatDoorQ46
import Derived.Test.YthapcchcahnfaaaGreatDoorQ45
import Derived.Test.YthapcchcahnfaaaGreatDoorQ11
import Derived.OpenShut
import Derived.Carry
set_option linter.all false
set_option maxHeartbeats 8000000
set_option maxRecDepth 100000
namespace Go.Proofs.YthapcchcahnfaaaGreatDoor
open Go Go.RowKit Go.Proofs.Tryz
theorem rG (ents:aN):∀ (k f:Nat) (rest out:Bs),rest.length<k→rest.length<f→dU ents k rest out=dU ents f rest out
 | 0,_,_,_,h,_=>by omega
 | _+1,0,_,_,_,h=>by omega
 | k+1,f+1,rest,out,h,h'=>by
  have e:rest=rest.drop 0:=rfl;by_cases c:0<rest.length
  ·rw [e];by_cases a:rest.getD 0 0=60
   ·rw [wW ents c a,wW ents c a]
   ·cases d:nR.isPrefixOf (rest.drop 0) with
    | true=>rw [tQ ents c a d,tQ ents c a d]
    | false=>
     by_cases b:rest.getD 0 0=13
     ·rw [wX ents c a d b,wX ents c a d b];rw [rG ents k f (rest.drop (0+2)) (out++[10]) (by rw [eO];omega) (by rw [eO];omega),rG ents k f (rest.drop (0+1)) (out++[10]) (by rw [eO];omega) (by rw [eO];omega)]
     ·rw [wY ents c a d b,wY ents c a d b];cases g:fN ents (rest.drop 0) with
      | error e=>rfl
      | ok p=>
       obtain ⟨t,i⟩:=p;have:=nP g;exact rG ents k f i (out++t) (by omega) (by omega)
  ·have:rest=[]:=tZ (by omega);subst this;rfl
theorem rH:∀ (k c:Nat) (rest out:Bs),rest.length<k→rest.length<c→eP k rest out=eP c rest out
 | 0,_,_,_,h,_=>by omega
 | _+1,0,_,_,_,h=>by omega
 | k+1,c+1,rest,out,h,h'=>by
  have e:rest=rest.drop 0:=rfl;by_cases f:0<rest.length
  ·rw [e];cases b:nR.isPrefixOf (rest.drop 0) with
   | true=>rw [tN b,tN b]
   | false=>
    by_cases a:rest.getD 0 0=13
    ·rw [wT f b a,wT f b a];rw [rH k c (rest.drop (0+2)) (out++[10]) (by rw [eO];omega) (by rw [eO];omega),rH k c (rest.drop (0+1)) (out++[10]) (by rw [eO];omega) (by rw [eO];omega)]
    ·rw [wU f b a,wU f b a];by_cases d:(aI (rest.drop 0)).2=0∨bY (aI (rest.drop 0)).1=false
     ·rw [aT d,aT d]
     ·rw [aM d,aM d];have:(aI (rest.drop 0)).2≠0:=fun g=>d (aG g);exact rH k c _ _ (by rw [eO];omega) (by rw [eO];omega)
  ·have:rest=[]:=tZ (by omega);subst this;rfl
theorem uV {s T:Bs} {a:Nat} (h:s.isPrefixOf (T.drop a)=true):T.drop a=s++T.drop (a+s.length):=by
 obtain ⟨t,b⟩:=List.isPrefixOf_iff_prefix.1 h;rw [←List.drop_drop,←b];simp
theorem QZ {o:lT} {first:Bool} {T:Bs} {a:Nat} {opens:List Bs} {bound:List aN} (b:a<T.length) (h:¬ T.getD a 0=60):iW o first ⟨T.drop a,opens,bound⟩=mY .text opens bound (dU o.ents (T.length+1) (T.drop a) []):=by
 rw [rG o.ents (T.length+1) ((T.drop a).length+1) (T.drop a) [] (by rw [eO];omega) (by omega)];unfold iW kB;simp only;rw [bX T a b];simp only [aT (show T.getD a 0≠60 from h)];cases dU o.ents ((T.getD a 0::T.drop (a+1)).length+1) (T.getD a 0::T.drop (a+1)) [] with
 | error e=>rfl
 | ok p=>rfl
theorem UT {o:lT} {first:Bool} {T:Bs} {a:Nat} {opens:List Bs} {bound:List aN} (h:([60,47]:Bs).isPrefixOf (T.drop a)=true):iW o first ⟨T.drop a,opens,bound⟩=JU o.raw o.space opens bound (nS (T.drop (a+2))):=by
 rw [uV h];show (match (match nS (T.drop (a+2)) with
  | .error e=>.error e
  | .ok (nm,r3)=>.ok (.fin nm,false,r3):Except SV (aU×Bool×Bs)) with
  | .error e=>.error e
  | .ok (t,em,r)=>kC o ⟨r,opens,bound⟩ t em:Except SV (List aU×gS))=_
 cases nS (T.drop (a+2)) with
 | error e=>rfl
 | ok p=>rfl
theorem Q0 {o:lT} {first:Bool} {T:Bs} {a:Nat} {opens:List Bs} {bound:List aN} (h:([60,63]:Bs).isPrefixOf (T.drop a)=true):iW o first ⟨T.drop a,opens,bound⟩=JO opens bound (fL first (T.drop (a+2))):=by
 rw [uV h];show (match (match fL first (T.drop (a+2)) with
  | .error e=>.error e
  | .ok (x,r3)=>.ok (.proc x.1 x.2,false,r3):Except SV (aU×Bool×Bs)) with
  | .error e=>.error e
  | .ok (t,em,r)=>kC o ⟨r,opens,bound⟩ t em:Except SV (List aU×gS))=_
 cases fL first (T.drop (a+2)) with
 | error e=>rfl
 | ok p=>rfl
theorem UU {o:lT} {first:Bool} {T:Bs} {a:Nat} {opens:List Bs} {bound:List aN} (h:([60,33,45,45]:Bs).isPrefixOf (T.drop a)=true):iW o first ⟨T.drop a,opens,bound⟩=mY .comment opens bound (dJ (T.drop (a+4))):=by
 rw [uV h];show (match (match (match dJ (T.drop (a+4)) with
  | .error e=>.error e
  | .ok (d,r2)=>.ok (.comment d,r2):Except SV (aU×Bs)) with
  | .error e=>.error e
  | .ok (t,r3)=>.ok (t,false,r3):Except SV (aU×Bool×Bs)) with
  | .error e=>.error e
  | .ok (t,em,r)=>kC o ⟨r,opens,bound⟩ t em:Except SV (List aU×gS))=_
 cases dJ (T.drop (a+4)) with
 | error e=>rfl
 | ok p=>rfl
theorem UV {o:lT} {first:Bool} {T:Bs} {a:Nat} {opens:List Bs} {bound:List aN} (h:([60,33,91,67,68,65,84,65,91]:Bs).isPrefixOf (T.drop a)=true):iW o first ⟨T.drop a,opens,bound⟩=mY .text opens bound (eP (T.length+1) (T.drop (a+9)) []):=by
 obtain ⟨n,b⟩:=cR ((([91,67,68,65,84,65,91]:Bs)++T.drop (a+9)).length+1);rw [rH (T.length+1) n (T.drop (a+9)) [] (by rw [eO];omega) (by rw [b,fU];omega)];rw [uV h,b];show (match (match (match eP ((([91,67,68,65,84,65,91]:Bs)++T.drop (a+9)).length+1) (T.drop (a+9)) [] with
  | .error e=>.error e
  | .ok (d,r2)=>.ok (.text d,r2):Except SV (aU×Bs)) with
  | .error e=>.error e
  | .ok (t,r3)=>.ok (t,false,r3):Except SV (aU×Bool×Bs)) with
  | .error e=>.error e
  | .ok (t,em,r)=>kC o ⟨r,opens,bound⟩ t em:Except SV (List aU×gS))=_
 cases eP ((([91,67,68,65,84,65,91]:Bs)++T.drop (a+9)).length+1) (T.drop (a+9)) [] with
 | error e=>rfl
 | ok p=>rfl
theorem UW {o:lT} {first:Bool} {T:Bs} {a:Nat} {opens:List Bs} {bound:List aN} (h:([60,33,68,79,67,84,89,80,69]:Bs).isPrefixOf (T.drop a)=true):iW o first ⟨T.drop a,opens,bound⟩=mY (fun d=>.dir (rM++d)) opens bound (oZ (T.drop (a+9))):=by
 rw [uV h];show (match (match (match oZ (T.drop (a+9)) with
  | .error e=>.error e
  | .ok (d,r2)=>.ok (.dir (rM++d),r2):Except SV (aU×Bs)) with
  | .error e=>.error e
  | .ok (t,r3)=>.ok (t,false,r3):Except SV (aU×Bool×Bs)) with
  | .error e=>.error e
  | .ok (t,em,r)=>kC o ⟨r,opens,bound⟩ t em:Except SV (List aU×gS))=_
 cases oZ (T.drop (a+9)) with
 | error e=>rfl
 | ok p=>rfl
def VR:Bs→Except SV (aU×Bs)
 | []=>.error .bad
 | b::_=>if b=45∨b=91 then .error .bad else .error .opn
theorem Q1 {o:lT} {first:Bool} {T:Bs} {a:Nat} {opens:List Bs} {bound:List aN} (h:([60,33]:Bs).isPrefixOf (T.drop a)=true) (d:([60,33,45,45]:Bs).isPrefixOf (T.drop a)=false) (f:([60,33,91,67,68,65,84,65,91]:Bs).isPrefixOf (T.drop a)=false) (g:([60,33,68,79,67,84,89,80,69]:Bs).isPrefixOf (T.drop a)=false) :
  ∃ k,iW o first ⟨T.drop a,opens,bound⟩=.error k∧k.num=QA (T.drop (a+2)):=by
 rw [uV h] at d f g ⊢;obtain ⟨R,n⟩:=cR (T.drop (a+2));have i:a+([60,33]:Bs).length=a+2:=rfl;rw [i,←n] at d f g ⊢;have j:([45,45]:Bs).isPrefixOf R=false:=d;have l:BN.isPrefixOf R=false:=f;have m:rM.isPrefixOf R=false:=g;have p:lY R=VR R:=by
  unfold lY;rw [aM (by rw [j];simp),aM (by rw [l];simp),aM (by rw [m];simp)];cases R with
  | nil=>rfl
  | cons b r=>rfl
 have q:iW o first ⟨[60,33]++R,opens,bound⟩=(match (match lY R with
  | .error e=>.error e
  | .ok (t,r3)=>.ok (t,false,r3):Except SV (aU×Bool×Bs)) with
  | .error e=>.error e
  | .ok (t,em,r)=>kC o ⟨r,opens,bound⟩ t em):=rfl
 rw [q,p];cases R with
 | nil=>exact ⟨.bad,rfl,rfl⟩
 | cons b r=>
  unfold QA VR;simp only;by_cases c:b=45∨b=91
  ·rw [aT c,aT c];exact ⟨.bad,rfl,rfl⟩
  ·rw [aM c,aM c];exact ⟨.opn,rfl,rfl⟩
theorem MH {o:lT} {first:Bool} {T:Bs} {a:Nat} {opens:List Bs} {bound:List aN} (j:a < T.length) (h:T.getD a 0=60) (b:([60,47]:Bs).isPrefixOf (T.drop a)=false) (d:([60,63]:Bs).isPrefixOf (T.drop a)=false) (f:([60,33]:Bs).isPrefixOf (T.drop a)=false):iW o first ⟨T.drop a,opens,bound⟩=JW o opens bound (fA o.ents (T.drop (a + 1))):=by
  rw [bX T a j,h] at b d f ⊢;cases l:T.drop (a + 1) with
  | nil=>rfl
  | cons c r=>
    rw [l] at b d f;have g:∀ q:UInt8,([60,q]:Bs).isPrefixOf (60 :: c :: r)=false → ¬ c=q:=by
      intro q i k;rw [k] at i;have:([60,q]:Bs).isPrefixOf (60 :: q :: r)=(q == q):=by
        show ((60:UInt8) == 60 && (q == q && List.isPrefixOf [] r))=_;cases (q == q) <;> rfl
      rw [this] at i;simp at i
    have n:=g 47 b;have s:=g 63 d;have u:=g 33 f;have m : iW o first ⟨60 :: c :: r, opens, bound⟩ = (match (if c = 47 then (match nS r with
          | .error e=>.error e
          | .ok (nm,r3)=>.ok (.fin nm,false,r3))
        else if c=63 then (match fL first r with
          | .error e=>.error e
          | .ok (x,r3)=>.ok (.proc x.1 x.2,false,r3))
        else if c=33 then (match lY r with
          | .error e=>.error e
          | .ok (t,r3)=>.ok (t,false,r3))
        else match fA o.ents (c :: r) with
          | .error e=>.error e
          | .ok (nm,ats,em,r3)=>.ok (.start nm ats,em,r3):Except SV (aU × Bool × Bs)) with
      | .error e=>.error e
      | .ok (t,em,r)=>kC o ⟨r,opens,bound⟩ t em):=rfl
    rw [m,aM n,aM s,aM u];cases fA o.ents (c :: r) with
    | error e=>rfl
    | ok p=>rfl
theorem Q2 (x:PX) (hT:x.T.length≤100000000) (e:Nat) (o:lT) (a3:nO o.ents) (a0:UA x e) (Y:QK x e) (a9:o.raw=x.raw) (bA:o.space=x.space) (w:World) (c:PC) (opens:List Bs) (bound:List aN) (out:List cA) (h:dN x e w c opens bound out) (J:out.length≤499999999) (a8:opens.length≤499999999) (a4:bound.length=opens.length) (ha:c.at'<x.T.length) (hE:pK x e o.ents w) :
  Calls prog 15 #[jA x] w (fX x e out w (iW o (c.at'==0) ⟨x.T.drop c.at',opens,bound⟩)):=by
 have T:x.T.length≤1000000000:=by omega
 have hc:=h.blk.cell;have hf:=h.blk.frozen;have ⟨H,HT,v,HE,Z,n⟩:=iD h hT T hE a3 J;have ⟨aC,X,b6,b3,a1,a2⟩:=iD a8 a4 a0 Y a9 bA;have C:=Lh ha;have L:=Lh (show ∀ w',w'.os=w.os→w'.tape=w.tape→w'.output=w.output→w'.heap=w.heap→aK (fun k=>k=x.p) w w' from fun w' h1 h2 h3 h4=>eM (aK.refl _ w) h1 h2 h3 h4);have l:=Lh (fun (w':World) (hm:aK (fun k=>k=x.p) w w')=>aK.below (Below.refl e w) h.size hm (fun i hi=>by rw [hi];exact h.pb));have q:=Lh (fun (s:Bs) (hs:s.length≤1000000000) (w':World) (h:aV x w' c)=>uK x T w' c h (Nat.le_of_lt ha) s hs);obtain ⟨b,hb⟩:=cR (x.T.getD c.at' 0);have ix:∀ h,(⟨x.T.toArray⟩:ByteArray)[c.at']'h=b:=by rw [hb];exact iP x.T c.at' ha
 have t0:(0:Int)≤(c.at':Int):=by omega
 have t1:(c.at':Int)<(x.T.length:Int):=by omega
 have W:=Lh hb;clear h hT T hE a3 J a8 a4 a0 Y ha a9 bA hb;refine eT 57 func15 [_] fun f=>?_;simp only [aF];by_cases z:b=60
 rotate_left
 ·have I:((b.toNat:Int) != 60)=true:=QF z;have t:=Lh (QZ (o:=o) (first:=c.at'==0) (opens:=opens) (bound:=bound) C.o (by rw [←W.o];exact z));have c9:=Lh (fun (w':World) (h1:aV x w' c) (h2:aK (fun k=>k=x.p) w w')=>T8 x v.o e o.ents Z.o w' c opens bound out (H.o.own h1 h2 rfl rfl rfl) (by have:=n.o;omega) (Nat.le_of_lt C.o) (HE.o.below (l.o w' h2)));clear z;refine vg ?_;intro K hK K hK;(refine lI [0,0,0,1,0,0,0,1,0,0,0] [0,1,2,3,4,5,6,7,8,9,10] ?_;refine vP ?_;repeat with_reducible intro nq)
  (repeat revert K);refine vg ?_;intro K hK K hK K hK;refine (c9.o _ (by exact H.o.blk) (by exact L.o _ rfl rfl rfl rfl)).mono ?_;rintro y A m;have r:fX x e out w (iW o (c.at'==0) ⟨x.T.drop c.at',opens,bound⟩) y A:=by rw [t.o];exact fX.base (l.o (w.drewN _) (L.o (w.drewN _) rfl rfl rfl rfl)) m
  obtain ⟨U,rfl⟩:=fX.bool m;have u:=Lh r;clear m r;(repeat revert K);refine vS ?_;intro K hK;refine cX ?_;exact u.o
 have I:((b.toNat:Int) != 60)=false:=by rw [z];rfl
 have b1:=Lh (show x.T.getD c.at' 0=60 by rw [←W.o];exact z);clear z;refine vg ?_;intro K hK K hK;(refine lI [0,0,0,1,0,0,0,1,0,0,0] [0,1,2,3,4,5,6,7,8,9,10] ?_;refine vP ?_;repeat with_reducible intro nq)
 clear hc hf ix I t0 t1;(repeat revert K);refine vg ?_;intro K hK K hK K hK;refine (q.o [60,47] (by decide) _ (by exact H.o.blk)).mono ?_;rintro eh w1 ⟨rfl,a,j⟩;have M:=Lh (show aK (fun k=>k=x.p) w w1 from (L.o (w.drewN _) rfl rfl rfl rfl).trans j (fun _ _ h=>h));clear j;cases g:([60,47]:Bs).isPrefixOf (x.T.drop c.at') with
 | true=>
  rw [g,aT rfl] at a;have B:=Lh (show aV x w1 { c with at':=c.at'+2 } from a);have E:=Lh (show c.at'+2≤x.T.length from nX g (Nat.le_of_lt C.o));have t:=Lh (show iW o (c.at'==0) ⟨x.T.drop c.at',opens,bound⟩=JU x.raw x.space opens bound (nS (x.T.drop (c.at'+2))) by rw [←a1.o,←a2.o];exact UT g);have D:=Lh (MB x v.o e b3.o w1 { c with at':=c.at'+2 } opens bound out (H.o.own B.o M.o rfl rfl rfl) (by have:=n.o;omega) (by have:=aC.o;omega) X.o E.o);clear a g;rw [show (true:Bool)=true from rfl];(repeat revert K);refine vS ?_;intro K hK K hK K hK;refine D.o.mono ?_;rintro y A m;have r:fX x e out w (iW o (c.at'==0) ⟨x.T.drop c.at',opens,bound⟩) y A:=by rw [t.o];exact fX.base (l.o _ M.o) m
  obtain ⟨U,rfl⟩:=fX.bool m;have u:=Lh r;clear m r;(repeat revert K);refine vS ?_;intro K hK;refine cX ?_;exact u.o
 | false=>
  rw [g,aM (by simp)] at a;have b7:=Lh (show aV x w1 c from a);have c4:=Lh g;clear a g;(repeat revert K);refine vS ?_;intro K hK K hK K hK;refine (q.o [60,63] (by decide) _ b7.o).mono ?_;rintro eh w2 ⟨rfl,a,j⟩;have N:=Lh (M.o.trans j (fun _ _ h=>h));clear j;cases g:([60,63]:Bs).isPrefixOf (x.T.drop c.at') with
  | true=>
   rw [g,aT rfl] at a;have B:=Lh (show aV x w2 { c with at':=c.at'+2 } from a);have E:=Lh (show c.at'+2≤x.T.length from nX g (Nat.le_of_lt C.o));have t:=Lh (show iW o (c.at'==0) ⟨x.T.drop c.at',opens,bound⟩=JO opens bound (fL (c.at'+2==2) (x.T.drop (c.at'+2))) by rw [show (c.at'+2==2)=(c.at'==0) by rw [Bool.eq_iff_iff];simp];exact Q0 g);have D:=Lh (QE x v.o e w2 { c with at':=c.at'+2 } opens bound out (H.o.own B.o N.o rfl rfl rfl) (by have:=n.o;omega) E.o);clear a g;rw [show (true:Bool)=true from rfl];(repeat revert K);refine vS ?_;intro K hK K hK K hK;refine D.o.mono ?_;rintro y A m;have r:fX x e out w (iW o (c.at'==0) ⟨x.T.drop c.at',opens,bound⟩) y A:=by rw [t.o];exact fX.base (l.o _ N.o) m
   obtain ⟨U,rfl⟩:=fX.bool m;have u:=Lh r;clear m r;(repeat revert K);refine vS ?_;intro K hK;refine cX ?_;exact u.o
  | false=>
   rw [g,aM (by simp)] at a;have b8:=Lh (show aV x w2 c from a);have c5:=Lh g;clear a g;(repeat revert K);refine vS ?_;intro K hK K hK K hK;refine (q.o [60,33,45,45] (by decide) _ b8.o).mono ?_;rintro eh w3 ⟨rfl,a,j⟩;have O:=Lh (N.o.trans j (fun _ _ h=>h));clear j;cases g:([60,33,45,45]:Bs).isPrefixOf (x.T.drop c.at') with
   | true=>
    rw [g,aT rfl] at a;have B:=Lh (show aV x w3 { c with at':=c.at'+4 } from a);have E:=Lh (show c.at'+4≤x.T.length from nX g (Nat.le_of_lt C.o));have t:=Lh (show iW o (c.at'==0) ⟨x.T.drop c.at',opens,bound⟩=mY .comment opens bound (dJ (x.T.drop (c.at'+4))) from UU g);have D:=Lh (G8 x v.o e w3 { c with at':=c.at'+4 } opens bound out (H.o.own B.o O.o rfl rfl rfl) (by have:=n.o;omega) E.o);clear a g;rw [show (true:Bool)=true from rfl];(repeat revert K);refine vS ?_;intro K hK K hK K hK;refine D.o.mono ?_;rintro y A m;have r:fX x e out w (iW o (c.at'==0) ⟨x.T.drop c.at',opens,bound⟩) y A:=by rw [t.o];exact fX.base (l.o _ O.o) m
    obtain ⟨U,rfl⟩:=fX.bool m;have u:=Lh r;clear m r;(repeat revert K);refine vS ?_;intro K hK;refine cX ?_;exact u.o
   | false=>
    rw [g,aM (by simp)] at a;have cT:=Lh (show aV x w3 c from a);have c6:=Lh g;clear a g;(repeat revert K);refine vS ?_;intro K hK K hK K hK;refine (q.o [60,33,91,67,68,65,84,65,91] (by decide) _ cT.o).mono ?_;rintro eh w4 ⟨rfl,a,j⟩;have P:=Lh (O.o.trans j (fun _ _ h=>h));clear j;cases g:([60,33,91,67,68,65,84,65,91]:Bs).isPrefixOf (x.T.drop c.at') with
    | true=>
     rw [g,aT rfl] at a;have B:=Lh (show aV x w4 { c with at':=c.at'+9 } from a);have E:=Lh (show c.at'+9≤x.T.length from nX g (Nat.le_of_lt C.o));have t:=Lh (show iW o (c.at'==0) ⟨x.T.drop c.at',opens,bound⟩=mY .text opens bound (eP (x.T.length+1) (x.T.drop (c.at'+9)) []) from UV g);have D:=Lh (G9 x v.o e w4 { c with at':=c.at'+9 } opens bound out (H.o.own B.o P.o rfl rfl rfl) (by have:=n.o;omega) E.o);clear a g;rw [show (true:Bool)=true from rfl];(repeat revert K);refine vS ?_;intro K hK K hK K hK;refine D.o.mono ?_;rintro y A m;have r:fX x e out w (iW o (c.at'==0) ⟨x.T.drop c.at',opens,bound⟩) y A:=by rw [t.o];exact fX.base (l.o _ P.o) m
     obtain ⟨U,rfl⟩:=fX.bool m;have u:=Lh r;clear m r;(repeat revert K);refine vS ?_;intro K hK;refine cX ?_;exact u.o
    | false=>
     rw [g,aM (by simp)] at a;have c1:=Lh (show aV x w4 c from a);have c7:=Lh g;clear a g;(repeat revert K);refine vS ?_;intro K hK K hK K hK;refine (q.o [60,33,68,79,67,84,89,80,69] (by decide) _ c1.o).mono ?_;rintro eh w5 ⟨rfl,a,j⟩;have Q:=Lh (P.o.trans j (fun _ _ h=>h));clear j;cases g:([60,33,68,79,67,84,89,80,69]:Bs).isPrefixOf (x.T.drop c.at') with
     | true=>
      rw [g,aT rfl] at a;have B:=Lh (show aV x w5 { c with at':=c.at'+9 } from a);have E:=Lh (show c.at'+9≤x.T.length from nX g (Nat.le_of_lt C.o));have t:=Lh (show iW o (c.at'==0) ⟨x.T.drop c.at',opens,bound⟩=mY (fun d=>.dir (rM++d)) opens bound (oZ (x.T.drop (c.at'+9))) from UW g);have D:=Lh (IF x v.o e w5 { c with at':=c.at'+9 } opens bound out (H.o.own B.o Q.o rfl rfl rfl) (by have:=n.o;omega) E.o);clear a g;rw [show (true:Bool)=true from rfl];(repeat revert K);refine vS ?_;intro K hK K hK K hK;refine D.o.mono ?_;rintro y A m;have r:fX x e out w (iW o (c.at'==0) ⟨x.T.drop c.at',opens,bound⟩) y A:=by rw [t.o];exact fX.base (l.o _ Q.o) m
      obtain ⟨U,rfl⟩:=fX.bool m;have u:=Lh r;clear m r;(repeat revert K);refine vS ?_;intro K hK;refine cX ?_;exact u.o
     | false=>
      rw [g,aM (by simp)] at a;have c2:=Lh (show aV x w5 c from a);have c8:=Lh g;clear a g;(repeat revert K);refine vS ?_;intro K hK K hK K hK;refine (q.o [60,33] (by decide) _ c2.o).mono ?_;rintro eh V ⟨rfl,a,j⟩;have aA:=Lh (Q.o.trans j (fun _ _ h=>h));clear j;cases g:([60,33]:Bs).isPrefixOf (x.T.drop c.at') with
      | true=>
       rw [g,aT rfl] at a;have B:=Lh (show aV x V { c with at':=c.at'+2 } from a);obtain ⟨kk,a5,a6⟩:=Q1 (o:=o) (first:=c.at'==0) (opens:=opens) (bound:=bound) g c6.o c7.o c8.o;have t:=Lh a5;have b2:=Lh (QB x V { c with at':=c.at'+2 } B.o);have HK:=Lh a6;clear a g a5 a6;(repeat revert K);refine vS ?_;intro K hK K hK K hK;refine b2.o.mono ?_;rintro e7 w7 ⟨rfl,k7,rfl⟩;rw [show ({ c with at':=c.at'+2 }:PC).at'=c.at'+2 from rfl,←HK.o];have HF:=Lh (hZ x w (V.drewN k7) { c with at':=c.at'+2 } B.o (aA.o.drewN k7) kk.num);(repeat revert K);refine vS ?_;intro K hK K hK K hK;refine HF.o.mono ?_;rintro e8 w8 ⟨rfl,b0,a7⟩;have ⟨c3,b5⟩:=cH b0 a7;clear b0 a7;(repeat revert K);refine vS ?_;intro K hK;refine cX ?_;exact fX.err (w1:=w) (k:=kk) H.o c3.o b5.o t.o
      | false=>
       rw [g,aM (by simp)] at a;have R:=Lh (show aV x V c from a);have t:=Lh (MH (o:=o) (first:=c.at'==0) (opens:=opens) (bound:=bound) C.o b1.o c4.o c5.o g);have dI:IntKind.i64.wrap ((c.at':Int)+1)=((c.at'+1:Nat):Int):=by rw [IntKind.wrap_i64];have:=HT.o;have:=C.o;omega
       obtain ⟨w7,G⟩:=cR (V.setCell ⟨x.p,1,none⟩ (.int .i64 ((c.at':Int)+1)));have bC:aV x w7 { c with at':=c.at'+1 }:=by rw [G];exact aJ.set (w:=V) (cs:=fR x c) R.o 1 _
       have F:aK (fun k=>k=x.p) w w7:=by rw [G];exact aK.setCell (S:=fun k=>k=x.p) aA.o (p:=⟨x.p,1,none⟩) (aG rfl) _
       have HS:=Lh (QT x HT.o e o.ents Z.o b6.o o a1.o a2.o w7 { c with at':=c.at'+1 } opens bound out (H.o.own bC F rfl rfl rfl) n.o aC.o X.o C.o (HE.o.below (l.o w7 F)));have b4:=Lh F;have hc:=R.o.cell;have hf:=R.o.frozen;clear a g bC F;go_simp;(repeat revert K);refine vT 16 ?_;rw [←G];clear G hc hf;refine vg ?_;intro K hK K hK;refine HS.o.mono ?_;rintro y A m;have r:fX x e out w (iW o (c.at'==0) ⟨x.T.drop c.at',opens,bound⟩) y A:=by rw [t.o];exact fX.base (l.o _ b4.o) m
       obtain ⟨U,rfl⟩:=fX.bool m;have u:=Lh r;clear m r;(repeat revert K);refine vS ?_;refine cX ?_;exact u.o
theorem MI (a b:aN) (s:Bs):eJ (a++b) s=match eJ a s with|some t=>some t|none=>eJ b s:=by
 unfold eJ;rw [List.find?_append];cases a.find? (·.1==s)<;>rfl
theorem IK (ents:aN):kE (some (eJ ents)) ents:=by
 intro s;rw [MI];have h:=xJ s;rw [List.append_nil] at h;rw [←h];unfold xA;cases sB s<;>rfl
theorem FJ {ents:aN} {first em:Bool} {t:aU} {rest r:Bs} (h:kB ents first rest=.ok (t,em,r)):r.length<rest.length:=by
 obtain ⟨d,c,_⟩:=EA ⟨false,true,some (eJ ents),[],[],false⟩ (IK ents) (St.init rest) rfl rfl (first:=first) (em:=em) (t:=t) (r:=r) h;obtain ⟨_,_,_,_,_,_,b⟩:=iN c;rcases b with ⟨nm,a,_⟩|⟨_,a,_⟩
 ·cases a
 ·have:=OX t;simp only [St.init] at a;omega
theorem tV {d:Bool} {b:Bs} {s c:gS} {nm:Bs×Bs} {t:aU} (h:eR d b s nm=.ok (t,c)):c.rest=s.rest∧c.opens.length≤s.opens.length∧(s.bound.length=s.opens.length→c.bound.length=c.opens.length):=by
 unfold eR at h;split at h
 ·simp only [bT,bP] at h;rw [←h.2];exact ⟨rfl,dC _,id⟩
 ·cases e:s.opens with
  | nil=>rw [e] at h;cases h
  | cons a l=>
   rw [e] at h;simp only at h;split at h
   ·simp only [bT,bP] at h;rw [←h.2];refine ⟨rfl,by simp,fun f=>?_⟩;simp only [List.length_tail,gF] at f ⊢;omega
   ·cases h
theorem FK {d:Bool} {a:Bs} {s b:gS} {nm:Bs×Bs} {c:List cV} {t:aU} (h:mO d a s nm c=.ok (t,b)):b.rest=s.rest∧b.opens.length≤s.opens.length+1∧(s.bound.length=s.opens.length→b.bound.length=b.opens.length):=by
 unfold mO at h;split at h
 ·simp only [bT,bP] at h;rw [←h.2];exact ⟨rfl,by omega,id⟩
 ·split at h
  ·cases h
  ·split at h
   ·cases h
   ·split at h
    ·cases h
    ·split at h
     ·cases h
     ·simp only [bT,bP] at h;rw [←h.2];exact ⟨rfl,by simp,fun e=>by simp [e]⟩
theorem BD {o:lT} {first:Bool} {s c:gS} {p:List aU} (h:iW o first s=.ok (p,c)):c.rest.length<s.rest.length∧p.length≤2∧c.opens.length≤s.opens.length+1∧(s.bound.length=s.opens.length→c.bound.length=c.opens.length):=by
 unfold iW at h;cases g:kB o.ents first s.rest with
 | error e=>rw [g] at h;cases h
 | ok x=>
  obtain ⟨t,em,r⟩:=x;have a:=FJ g;rw [g] at h;simp only at h;unfold kC at h;split at h
  ·rename_i nm d;cases f:mO o.raw o.space { s with rest:=r } nm d with
   | error e=>rw [f] at h;cases h
   | ok y=>
    obtain ⟨A,n⟩:=y;obtain ⟨g1,k,l⟩:=FK f;have q:n.opens.length≤s.opens.length+1:=k;rw [f] at h;simp only at h;split at h
    ·cases b:eR o.raw o.space n nm with
     | error e=>rw [b] at h;cases h
     | ok z=>
      obtain ⟨w,v⟩:=z;obtain ⟨i,m,j⟩:=tV b;rw [b] at h;simp only [bT,bP] at h;rw [←h.1,←h.2,i,g1];exact ⟨a,by simp,by omega,fun u=>j (l u)⟩
    ·simp only [bT,bP] at h;rw [←h.1,←h.2,g1];exact ⟨a,by simp,k,l⟩
  ·rename_i nm;cases b:eR o.raw o.space { s with rest:=r } nm with
   | error e=>rw [b] at h;cases h
   | ok z=>
    obtain ⟨w,v⟩:=z;obtain ⟨i,m,j⟩:=tV b;rw [b] at h;simp only [bT,bP] at h;rw [←h.1,←h.2,i];exact ⟨a,by simp,by simp only at m;omega,j⟩
  ·simp only [bT,bP] at h;rw [←h.1,←h.2];exact ⟨a,by simp,by simp,id⟩
def m9 (q:aU×Nat):cA:={ q.1.itok [] with at':=q.2 }
def JY:Option SV→Int
 | none=>0
 | some k=>k.num
def Ao (x:PX) (b:Nat) (o:lT) (w0:World) (k:Nat) (d:Act) (w:World):Prop:=
 ∃ f c opens bound a m,d=fr 45 f [(10,jA x)]∧dN x b w c opens bound (a.map m9)∧Below b w0 w∧k=x.T.length-c.at'∧c.at'≤x.T.length∧a.length≤2*c.at'∧opens.length≤c.at'∧bound.length=opens.length∧x.T.length-c.at'<m∧fM o x.T=lZ o x.T m ⟨x.T.drop c.at',opens,bound⟩ a
def oP (o:lT) (T:Bs) (w:World) (e:Ending) (w':World):Prop:=
 ∃ out a,e=.returned (.tuple #[out,.int .i64 (JY (fM o T).2)])∧Below w.heap.size w w'∧w'.ownsRow w.heap.size 35 6 out (fM o T).1.length a∧cF (mD w' w.heap.size (fun _=>True)) ((fM o T).1.map m9) a
theorem oP.of {x:PX} {o:lT} {w w':World} {c:PC} {opens:List Bs} {bound:List aN} {a:List (aU×Nat)} {v:Option SV} (b:fM o x.T=(a,v)) (h:dN x w.heap.size w' c opens bound (a.map m9)) (f:Below w.heap.size w w'):oP o x.T w (.returned (.tuple #[c.out,.int .i64 (JY v)])) w':=by
 obtain ⟨i,d,e⟩:=h.out;refine ⟨c.out,i,by rw [b],f,by rw [b];simpa using d,?_⟩;rw [b];exact e.mono (fun _ _ g=>g.mod (aK.refl (fun _=>False) _) (fun _ _ _=>⟨id,trivial⟩))
theorem X8 (T:Bs) (hT:T.length≤100000000) (o:lT) (aC:nO o.ents) (ev:Value) (w:World) (x:PX) (P:x=⟨w.heap.size,T,o.raw,ev,o.space⟩) (c3:∃ A B C,ev=.slice A B C) (hE:pK x w.heap.size o.ents w) (p:UA x w.heap.size) (S:QK x w.heap.size) :
  Calls prog 8 #[aB T,.bool o.raw,ev,aB o.space] w (oP o T w):=by
 obtain ⟨X,Y,Z,rfl⟩:=c3;have e1:x.T=T:=by rw [P]
 have e2:x.p=w.heap.size:=by rw [P]
 have W:x.raw=o.raw:=by rw [P]
 have e4:x.space=o.space:=by rw [P]
 have e5:x.ents=.slice X Y Z:=by rw [P]
 rw [←e1,←e4,←W,←e5];obtain ⟨wa,D⟩:=cR (w.alloc (.cells (fR x ⟨0,.slice none 0 0,.slice none 0 0,.slice none 0 0,0⟩) 51));have a7:aV x wa ⟨0,.slice none 0 0,.slice none 0 0,.slice none 0 0,0⟩:=by rw [D,aV,e2];exact aJ.new w _ _
 have s:Below w.heap.size w wa:=by rw [D];exact (Below.refl _ w).alloc (dC _) _
 have d:dN x w.heap.size wa ⟨0,.slice none 0 0,.slice none 0 0,.slice none 0 0,0⟩ [] [] []:=
  ⟨a7,by rw [e2];exact dC _,⟨[],⟨rfl,aG ⟨rfl,rfl⟩⟩,.nil⟩,⟨[],⟨rfl,aG ⟨rfl,rfl⟩⟩,.nil⟩,⟨[],⟨rfl,aG ⟨rfl,rfl⟩⟩,.nil⟩,by simp [Value.ownBlock],fun k O=>(by cases O),fun k O=>(by cases O)⟩
 have ⟨h,a,HE,b0,b6,bC⟩:=iD d s hE aC p S;have c5:=Lh e1;have HT:=Lh (show x.T.length≤100000000 by rw [e1];exact hT);have b7:=Lh W.symm;have b8:=Lh e4.symm;have bA:w.alloc (.cells #[aB x.T,.int .i64 0,.bool x.raw,.slice X Y Z,aB x.space,.slice none 0 0,.slice none 0 0,.slice none 0 0,.int .i64 0] 51)=wa:=by rw [D,←e5];rfl
 have c2:=Lh bA;have a8:jA x=.pointer (some ⟨w.heap.size,0,none⟩):=by rw [←e2]
 have cT:=Lh a8;clear P hT aC hE p S a7 s d e1 e2 W e4 D bA a8;refine eT 45 func8 [_,_,_,_] fun f=>?_;simp only [aF];refine vg ?_;intro K hK;rw [c2.o,←cT.o];refine cM [10] fun f=>?_;refine wp_loop_ghost_k (Ao x w.heap.size o w) x.T.length ⟨f,_,[],[],[],x.T.length+1,rfl,h.o,a.o,rfl,kW _,kW _,kW _,rfl,by simp,rfl⟩ ?_;clear e5 h a;rintro k _ w2 ⟨f,c,opens,bound,b,m,rfl,d,s,O,a2,a4,a5,a1,a3,a9⟩ J K2 hJ a0;obtain ⟨m',rfl⟩:∃ m',m=m'+1:=⟨m-1,by omega⟩;have ⟨HJ,b4,h,a,HK,c6⟩:=iD hJ a0 d s O a2;have ⟨U,p,R,b5,V⟩:=pI a4 a5 a1 a3 a9;clear hJ a0 s O a2 a4 a5 a1 a3 a9;by_cases z:c.at'<x.T.length
 rotate_left
 ·have F:=Lh (fun (w':World) (h1:aV x w' c)=>nV x w' c h1 (by omega));have M:=Lh (show fM o x.T=(b,if opens=[] then none else some .bad) by
   rw [V.o,t6 (by omega)];unfold lZ;simp only [if_true])
  obtain ⟨oA,oC,a6⟩:∃ oA oC,c.op=.slice oA opens.length oC:=by
   obtain ⟨_,I,_⟩:=d.op;rcases I.2 with ⟨I,h8⟩|⟨g,cap,cur,I,_⟩
   ·exact ⟨none,0,by rw [I,h8]⟩
   ·exact ⟨_,_,I⟩
  have hc:=d.blk.cell;have hf:=d.blk.frozen;have c4:=Lh a6;clear d z;revert K;refine vg ?_;intro K hK K hK K hK K hK;refine (F.o _ h.o.blk).mono ?_;rintro W w3 ⟨rfl,k3,rfl⟩;go_simp;by_cases n:opens=[]
  ·have hz:opens.length=0:=by rw [n];rfl
   have G:=Lh (M.o.trans (by rw [aT n]));clear n;(repeat revert K);refine vg ?_;refine jV ?_;exact oP.of (c:=c) (v:=none) G.o (h.o.fresh ⟨rfl,rfl,rfl,dC _,fun _ _ _=>rfl⟩) ⟨a.o.os,a.o.tape,a.o.output,a.o.size,a.o.block⟩
  ·have hz:(0:Int)<(opens.length:Int):=by cases opens with
    | nil=>exact absurd rfl n
    | cons=>simp
   have c8:0<opens.length:=by omega
   have G:=Lh (M.o.trans (by rw [aM n]));clear n;(repeat revert K);refine vg ?_;intro K hK;refine jV ?_;exact oP.of (c:=c) (v:=some .bad) G.o (h.o.fresh ⟨rfl,rfl,rfl,dC _,fun _ _ _=>rfl⟩) ⟨a.o.os,a.o.tape,a.o.output,a.o.size,a.o.block⟩
 have F:=Lh (fun (w':World) (h1:aV x w' c)=>nW x w' c h1 z);have c1:=Lh (fun (w':World) (h1:dN x w.heap.size w' c opens bound (b.map m9)) (h2:pK x w.heap.size o.ents w')=>Q2 x HT.o w.heap.size o b0.o b6.o bC.o b7.o b8.o w' c opens bound _ h1 (by rw [List.length_map];have:=U.o;have:=HT.o;omega) (by have:=p.o;have:=HT.o;omega) R.o z h2);have E:=Lh (show fM o x.T=match iW o (c.at'==0) ⟨x.T.drop c.at',opens,bound⟩ with
   | .error e=>(b,some e)
   | .ok (Q,u)=>lZ o x.T m' u (b++Q.map fun t=>(t,x.T.length-u.rest.length)) by
  rw [V.o];conv=>lhs;unfold lZ
  rw [aM (fun hh=>by have I:=congrArg List.length hh;simp only [eO,List.length_nil] at I;omega)];have e9:((x.T.drop c.at').length==x.T.length)=(c.at'==0):=by
   rw [Bool.eq_iff_iff,beq_iff_eq,beq_iff_eq,eO];omega
  simp only [e9];try rfl)
 clear d z;revert K;refine vg ?_;intro K hK K hK K hK K hK;refine (F.o _ h.o.blk).mono ?_;rintro W w3 ⟨rfl,k3,rfl⟩;(repeat revert K);refine vS ?_;intro K hK K hK K hK;refine (c1.o _ (by exact h.o.fresh ⟨rfl,rfl,rfl,dC _,fun _ _ _=>rfl⟩) (by exact HE.o.below ⟨a.o.os,a.o.tape,a.o.output,a.o.size,a.o.block⟩)).mono ?_;rintro e4 w4 N;obtain ⟨l,N⟩:=N;have i:=Lh (show Below w.heap.size w w4 from a.o.trans ⟨l.os,l.tape,l.output,l.size,l.block⟩);clear l;cases L:iW o (c.at'==0) ⟨x.T.drop c.at',opens,bound⟩ with
 | error kk=>
  rw [L] at N;obtain ⟨rfl,j,c9,c7,H,h6⟩:=N;have ⟨H5,H6⟩:=cH H h6;have M:=Lh (show fM o x.T=(b,some kk) by rw [E.o,L]);have hc:=H.blk.cell;have hf:=H.blk.frozen;clear H h6 L;(repeat revert K);refine vS ?_;intro K hK K hK;go_quiet (fail);(repeat revert K);refine vg ?_;intro K hK;refine jV ?_;rw [H6.o];exact oP.of (c:=j) (v:=some kk) M.o (H5.o.fresh ⟨rfl,rfl,rfl,dC _,fun _ _ _=>rfl⟩) ⟨i.o.os,i.o.tape,i.o.output,i.o.size,i.o.block⟩
 | ok q=>
  rw [L] at N;obtain ⟨Q,u⟩:=q;obtain ⟨rfl,j,H,h6,h7⟩:=N;obtain ⟨f1,f2,f3,f4⟩:=BD L;have r:u.rest=x.T.drop j.at':=h7;have aA:j.at'≤x.T.length:=h6;rw [r,eO,eO] at f1;have ⟨H5,H6,y,b1,b2,b3⟩:=iD H aA f1 f2 f3 f4;have M:=Lh (show fM o x.T=lZ o x.T m' ⟨x.T.drop j.at',u.opens,u.bound⟩ (b++Q.map fun t=>(t,j.at')) by
   rw [E.o,L];simp only;rw [r,eO,show x.T.length-(x.T.length-j.at')=j.at' by omega];obtain ⟨r9,o9,b9⟩:=u;simp only at r;rw [r])
  clear H h6 h7 L f1 f2 f3 f4 r aA;(repeat revert K);refine vS ?_;intro K hK;refine Kk [10] fun f=>?_;refine b4.o _ _ ⟨x.T.length-j.at',by rw [HK.o];have:=y.o;omega,HJ.o _ _ _ ⟨f,j,u.opens,u.bound,b++Q.map (fun t=>(t,j.at')),m',rfl,?_,i.o,rfl,H6.o,?_,?_,b3.o R.o,by have:=b5.o;have:=y.o;omega,M.o⟩⟩
  ·have e9:(b++Q.map fun t=>(t,j.at')).map m9=b.map m9++Q.map fun t=>{ t.itok [] with at':=j.at' }:=by
    rw [List.map_append,List.map_map];rfl
   rw [e9];exact H5.o
  ·rw [fU,List.length_map];have:=U.o;have:=y.o;have:=b1.o;omega
  ·have h8:u.opens.length≤opens.length+1:=b2.o;have:=p.o;have:=y.o;omega
end Go.Proofs.YthapcchcahnfaaaGreatDoor
namespace Go.Proofs.YthapcchcahnfaaaGreatDoor
open Go Go.Proofs.Tryz
theorem tW {ents:aN} (f:nO ents):∀ (k:Nat) (rest out d r:Bs),rest.length≤2147483647→dU ents k rest out=.ok (d,r)→d.length≤out.length+(rest.length-r.length)*2147483647∧r.length≤rest.length
 | 0,_,_,_,_,_,h=>by cases h
 | k+1,rest,out,d,r,j,h=>by
  have e:rest=rest.drop 0:=rfl;rw [e] at h;by_cases g:0<rest.length
  ·by_cases a:rest.getD 0 0=60
   ·rw [wW ents g a] at h;simp only [bT,bP] at h;rw [←h.1,←h.2];exact ⟨by omega,by simp⟩
   ·cases i:nR.isPrefixOf (rest.drop 0) with
    | true=>rw [tQ ents g a i] at h;cases h
    | false=>
     by_cases b:rest.getD 0 0=13
     ·rw [wX ents g a i b] at h;split at h
      ·have ih:=tW f k _ _ _ _ (by rw [eO];omega) h;rw [eO,fU,List.length_singleton] at ih;omega
      ·have ih:=tW f k _ _ _ _ (by rw [eO];omega) h;rw [eO,fU,List.length_singleton] at ih;omega
     ·rw [wY ents g a i b] at h;cases c:fN ents (rest.drop 0) with
      | error e=>rw [c] at h;cases h
      | ok p=>
       obtain ⟨t,l⟩:=p;rw [c] at h;simp only at h;have m:=nP c;have n:=oO f j c;have ih:=tW f k l _ _ _ (by omega) h;rw [fU] at ih;omega
  ·have:rest=[]:=tZ (by omega);subst this;rw [E4 ents (by simp)] at h;simp only [bT,bP] at h;rw [←h.1,←h.2];exact ⟨by omega,by simp⟩
theorem tX:∀ (k:Nat) (rest out d r:Bs),eP k rest out=.ok (d,r)→d.length≤out.length+(rest.length-r.length)∧r.length≤rest.length
 | 0,_,_,_,_,h=>by cases h
 | k+1,rest,out,d,r,h=>by
  have e:rest=rest.drop 0:=rfl;rw [e] at h;by_cases c:0<rest.length
  ·cases f:nR.isPrefixOf (rest.drop 0) with
   | true=>
    rw [tN f] at h;simp only [bT,bP] at h;rw [←h.1,←h.2,eO];omega
   | false=>
    by_cases a:rest.getD 0 0=13
    ·rw [wT c f a] at h;split at h
     ·have ih:=tX k _ _ _ _ h;rw [eO,fU,List.length_singleton] at ih;omega
     ·have ih:=tX k _ _ _ _ h;rw [eO,fU,List.length_singleton] at ih;omega
    ·rw [wU c f a] at h;split at h
     ·cases h
     ·rename_i j;have g:(aI (rest.drop 0)).2≠0:=fun b=>j (aG b);have i:=lO (rest.drop 0) (fun b=>by rw [←e] at b;rw [b] at c;simp at c);have ih:=tX k _ _ _ _ h;rw [eO,fU,rJ] at ih;rw [←e] at i ih g;omega
  ·have:rest=[]:=tZ (by omega);subst this;rw [EX (by simp)] at h;cases h
theorem CV {p:Bs}:∀ {rest s r:Bs},dM p rest=some (s,r)→s.length+r.length≤rest.length
 | [],s,r,h=>by cases h
 | b::l,s,r,h=>by
  unfold dM at h;split at h
  ·simp only [kQ,bP] at h;rw [←h.1,←h.2,eO];simp
  ·cases a:dM p l with
   | none=>rw [a] at h;cases h
   | some x=>
    obtain ⟨d,c⟩:=x;rw [a] at h;simp only [Option.map_some,kQ,bP] at h;have ih:=CV a;rw [←h.1,←h.2];simp only [gF];omega
theorem UX {rest s r:Bs} (h:dJ rest=.ok (s,r)):s.length+r.length≤rest.length:=by
 unfold dJ at h;cases a:dM [45,45] rest with
 | none=>rw [a] at h;cases h
 | some x=>
  obtain ⟨d,b⟩:=x;have:=CV a;rw [a] at h;simp only at h;cases b with
  | nil=>cases h
  | cons c r2=>
   simp only at h;split at h
   ·split at h
    ·simp only [bT,bP] at h;rw [←h.1,←h.2];simp only [gF] at this;omega
    ·cases h
   ·cases h
theorem Q3 {f:Bool} {rest r:Bs} {x:Bs×Bs} (h:fL f rest=.ok (x,r)):x.2.length+r.length≤rest.length:=by
 unfold fL at h;split at h
 ·cases h
 ·split at h
  ·cases h
  ·have b:=wZ (aD rest).2;have c:=qQ rest;cases a:dM [63,62] (aQ (aD rest).2) with
   | none=>rw [a] at h;cases h
   | some y=>
    obtain ⟨e,d⟩:=y;have:=CV a;rw [a] at h;simp only at h;split at h
    ·cases h
    ·simp only [bT,bP] at h;rw [←h.1,←h.2];simp only;omega
theorem UY {rest d r:Bs} (h:oZ rest=.ok (d,r)):d.length+r.length≤rest.length∨d.length≤rest.length-r.length:=by
 unfold oZ at h;split at h
 ·cases h
 ·cases a:lX (aD (aQ rest)).2 with
  | none=>rw [a] at h;cases h
  | some r1=>
   rw [a] at h;simp only at h;split at h
   ·simp only [bT,bP] at h;right;rw [←h.1,←h.2,rJ];omega
   ·cases h
theorem MJ {ents:aN} (o:nO ents) {first em:Bool} {rest r:Bs} {t:aU} (n:rest.length≤2147483647) (h:kB ents first rest=.ok (t,em,r)):(t.itok []).text.length≤(rest.length-r.length)*2147483647:=by
 have i:=FJ h;unfold kB at h;cases rest with
 | nil=>cases h
 | cons b r0=>
  simp only at h;split at h
  ·cases a:dU ents ((b::r0).length+1) (b::r0) [] with
   | error e=>rw [a] at h;cases h
   | ok p=>
    obtain ⟨d,g⟩:=p;rw [a] at h;simp only [bT,bP] at h;have:=(tW o _ _ _ _ _ n a).1;rw [←h.1,←h.2.2];simpa [aU.itok] using this
  ·cases r0 with
   | nil=>cases h
   | cons c g=>
    simp only at h;split at h
    ·cases a:nS g with
     | error e=>rw [a] at h;cases h
     | ok p=>
      obtain ⟨nm,j⟩:=p;rw [a] at h;simp only [bT,bP] at h;rw [←h.1];exact kW _
    ·split at h
     ·cases a:fL first g with
      | error e=>rw [a] at h;cases h
      | ok p=>
       obtain ⟨x,j⟩:=p;rw [a] at h;simp only [bT,bP] at h;have:=Q3 a;rw [←h.1,←h.2.2];show x.2.length≤_;simp only [gF];omega
     ·split at h
      ·cases a:lY g with
       | error e=>rw [a] at h;cases h
       | ok p=>
        obtain ⟨s,j⟩:=p;rw [a] at h;simp only [bT,bP] at h;obtain ⟨rfl,_,rfl⟩:=h;simp only [gF] at i ⊢;unfold lY at a;split at a
        ·cases f:dJ (g.drop 2) with
         | error e=>rw [f] at a;cases a
         | ok q=>
          obtain ⟨d,k⟩:=q;rw [f] at a;simp only [bT,bP] at a;have:=UX f;rw [eO] at this;rw [←a.1,←a.2];show d.length≤_;omega
        ·split at a
         ·cases f:eP (g.length+1) (g.drop 7) [] with
          | error e=>rw [f] at a;cases a
          | ok q=>
           obtain ⟨d,k⟩:=q;rw [f] at a;simp only [bT,bP] at a;have:=tX _ _ _ _ _ f;rw [eO,List.length_nil] at this;rw [←a.1,←a.2];show d.length≤_;omega
         ·split at a
          ·cases f:oZ (g.drop 7) with
           | error e=>rw [f] at a;cases a
           | ok q=>
            obtain ⟨d,k⟩:=q;rw [f] at a;simp only [bT,bP] at a;have:=UY f;rw [eO] at this;rw [←a.2] at i;rw [←a.1,←a.2];show (rM++d).length≤_;rw [fU,show rM.length=7 from rfl];omega
          ·cases g with
           | nil=>cases a
           | cons b1 l1=>
            simp only at a;split at a<;>cases a
      ·cases a:fA ents (c::g) with
       | error e=>rw [a] at h;cases h
       | ok p=>
        obtain ⟨nm,l,m,j⟩:=p;rw [a] at h;simp only [bT,bP] at h;rw [←h.1];exact kW _
theorem y8 {c:Bool} {b:Bs} {s e:gS} {nm:Bs×Bs} {t:aU} (h:eR c b s nm=.ok (t,e)):(t.itok []).text=[]:=by
 unfold eR at h;split at h
 ·simp only [bT,bP] at h;rw [←h.1];rfl
 ·cases d:s.opens with
  | nil=>rw [d] at h;cases h
  | cons a l=>
   rw [d] at h;simp only at h;split at h
   ·simp only [bT,bP] at h;rw [←h.1];rfl
   ·cases h
theorem FL {c:Bool} {a:Bs} {s d:gS} {nm:Bs×Bs} {b:List cV} {t:aU} (h:mO c a s nm b=.ok (t,d)):(t.itok []).text=[]:=by
 unfold mO at h;split at h
 ·simp only [bT,bP] at h;rw [←h.1];rfl
 ·split at h
  ·cases h
  ·split at h
   ·cases h
   ·split at h
    ·cases h
    ·split at h
     ·cases h
     ·simp only [bT,bP] at h;rw [←h.1];rfl
theorem UZ {o:lT} (m:nO o.ents) {first:Bool} {s i:gS} {j:List aU} (l:s.rest.length≤2147483647) (h:iW o first s=.ok (j,i)):((j.map fun t=>(t.itok []).text.length).sum)≤(s.rest.length-i.rest.length)*2147483647:=by
 unfold iW at h;cases d:kB o.ents first s.rest with
 | error e=>rw [d] at h;cases h
 | ok x=>
  obtain ⟨t,em,r⟩:=x;have f:=MJ m l d;rw [d] at h;simp only at h;unfold kC at h;split at h
  ·rename_i nm b;cases c:mO o.raw o.space { s with rest:=r } nm b with
   | error e=>rw [c] at h;cases h
   | ok y=>
    obtain ⟨u,n⟩:=y;have g:=FL c;rw [c] at h;simp only at h;split at h
    ·cases a:eR o.raw o.space n nm with
     | error e=>rw [a] at h;cases h
     | ok z=>
      obtain ⟨q,p⟩:=z;have k:=y8 a;rw [a] at h;simp only [bT,bP] at h;rw [←h.1];simp [g,k]
    ·simp only [bT,bP] at h;rw [←h.1];simp [g]
  ·rename_i nm;cases a:eR o.raw o.space { s with rest:=r } nm with
   | error e=>rw [a] at h;cases h
   | ok z=>
    obtain ⟨q,p⟩:=z;have k:=y8 a;rw [a] at h;simp only [bT,bP] at h;rw [←h.1];simp [k]
  ·simp only [bT,bP] at h;rw [←h.1,←h.2];simpa using f
theorem Q4 (l:List (aU×Nat)):fG (l.map m9)=(l.map fun q=>(q.1.itok []).text.length).sum:=by
 unfold fG;rw [List.map_map];rfl
theorem FM {o:lT} (b:nO o.ents) (T:Bs) (g:T.length≤2147483647):∀ (k:Nat) (s:gS) (out:List (aU×Nat)),s.rest.length≤T.length→fG (out.map m9)≤(T.length-s.rest.length)*2147483647→fG ((lZ o T k s out).1.map m9)≤T.length*2147483647
 | 0,s,out,f,a=>by
  exact gA a (Nat.mul_le_mul_right _ (Nat.sub_le _ _))
 | k+1,s,out,f,a=>by
  unfold lZ;split
  ·exact gA a (Nat.mul_le_mul_right _ (Nat.sub_le _ _))
  ·cases c:iW o (s.rest.length==T.length) s with
   | error e=>
    exact gA a (Nat.mul_le_mul_right _ (Nat.sub_le _ _))
   | ok p=>
    obtain ⟨j,d⟩:=p;have h:=UZ b (by omega) c;have i:=(BD c).1;refine FM b T g k d _ (by omega) ?_;rw [Q4] at a ⊢;rw [List.map_append,List.sum_append,List.map_map];have e:((fun q:aU×Nat=>(q.1.itok []).text.length) ∘ fun t=>(t,T.length-d.rest.length))=fun t=>(t.itok []).text.length:=rfl;rw [e];omega
theorem FN {o:lT} (b:nO o.ents) (T:Bs) (a:T.length≤2147483647):fG ((fM o T).1.map m9)≤T.length*2147483647:=
 FM b T a _ _ [] (dC _) (kW _)
end Go.Proofs.YthapcchcahnfaaaGreatDoor
namespace Go.Proofs.YthapcchcahnfaaaGreatDoor
open Go Go.RowKit Go.Proofs.Tryz
theorem y9 (T:Bs) (l:List (aU×St)):((gM T l).map m9).length=l.length:=by simp [gM]
theorem JZ {w:World} {c:Nat} {L:List cA} {out:Value} {m:List Value} {G:Nat→Prop} {a:Nat} (j:w.ownsRow c 35 6 out L.length m) (n:cF (mD w a G) L m):∃ A C,out=.slice A L.length C∧(0<L.length→∃ g l,A=some ⟨g,l,none⟩∧g<w.heap.size∧∀ i p,L[i]?=some p→qR w g (l+i*6) w.heap.size p):=by
 rcases j.2 with ⟨d,o⟩|⟨g,cap,cur,d,_⟩
 ·exact ⟨none,0,by rw [d,o],fun k=>by omega⟩
 ·refine ⟨_,cap,d,fun k=>?_⟩;obtain ⟨s,h,e,_,f,_,_,b⟩:=gY j k;rw [d] at e;simp only [Value.slice.injEq,kQ,Addr.mk.injEq] at e;obtain ⟨⟨rfl,_⟩,_⟩:=e;refine ⟨_,0,rfl,f,fun i q r=>?_⟩;rw [Nat.zero_add];exact wV n b r
theorem U0 {a n:Nat} (h:a≤n*2147483647) (b:n≤65536):a≤4611686018427387904:=
 gA h (gA (Nat.mul_le_mul_right _ b) (Nat.le_of_ble_eq_true rfl))
theorem qR.below {w w':World} {g o:Nat} {p:cA} (h:qR w g o w.heap.size p) (n:g<w.heap.size) (b:Below w.heap.size w w'):qR w' g o w'.heap.size p:=by
 obtain ⟨r,t,s,c0,c,d,e,f,i,l,m⟩:=h.ex;have a:∀ j v,w.cell? ⟨g,j,none⟩=some v→w'.cell? ⟨g,j,none⟩=some v:=fun j v h=>(b.cell (p:=⟨g,j,none⟩) n).trans h;exact ⟨r,t,s,a _ _ c0,a _ _ c,a _ _ d,a _ _ e,a _ _ f,a _ _ i,aE (S:=fun _=>False) l (aH b _) (fun _ _=>id),fun k q=>rS (m k q) b.size⟩
theorem IL {fold:Bs→Bs→Bool} {o:cP} {s:St} {l l':List (aU×St)} {e a:EK} (h:jX fold o s l e) (b:jX fold o s l' a):l=l'∧e=a:=h.det b
theorem Bw (T:Bs):(⟨#[60,97,62]⟩:ByteArray)++⟨T.toArray⟩=⟨(60::97::62::T).toArray⟩:=gU [60,97,62] T
theorem Ap (T:Bs):(⟨T.toArray⟩:ByteArray)++⟨#[60,47,97,62]⟩=⟨(T++[60,47,97,62]).toArray⟩:=gU T [60,47,97,62]
def nZ (T:Bs):Bs:=60::97::62::(T++[60,47,97,62])
def kP (T:Bs) (l:List (aU×St)):List cA:=l.map fun p=>p.1.itok ((nZ T).take ((nZ T).length-(p.2.ext [47,97,62] [wG]).rest.length))
theorem MK (t:aU) (a b:Bs):iB (t.itok a)=iB (t.itok b):=by cases t<;>rfl
theorem r8 (T:Bs) (l:List (aU×St)):((gM T l).map m9).map iB=(kP T l).map iB:=by
 unfold kP gM;rw [List.map_map,List.map_map,List.map_map];refine List.map_congr_left fun p _=>?_;exact (show iB (m9 (p.1,_))=iB (p.1.itok []) from rfl).trans (MK _ _ _)
theorem IM (T:Bs) (P:T.length≤65536) (w:World) (F:CH w) {l:List (aU×St)} (h:jX cN AJ (St.init T) l .eof) :
  Calls prog 9 #[aB (nZ T),.slice none 0 0,.bool false,.agg #[.bool false,.bool false,.slice none 0 0,.slice none 0 0,.string ⟨#[]⟩]] w fun e w'=>∃ g d,e=.returned (.tuple #[.slice (some ⟨g,0,none⟩) (l.length+2) d,.int .i64 0])∧Below w.heap.size w w'∧g<w'.heap.size∧l.length+2≤d∧l.length≤1000000∧w'.cell? ⟨g,0,none⟩=some (.int .i64 1)∧w'.cell? ⟨g,(l.length+1)*8,none⟩=some (.int .i64 2) ∧
   ∀ i p,(kP T l)[i]?=some p→CM w' g (8+i*8) p:=by
 have G:(nZ T).length=T.length+7:=by unfold nZ;simp
 have B:=P7 (nZ T) (by omega) AJ rfl rfl none 0 none 0 0 [] w F (At.nil _ _ _) ⟨kW _,kW _,fun h=>absurd h (Nat.lt_irrefl _)⟩;have D:WW AJ.raw (!AJ.strict) (.slice none AJ.auto.length 0) AJ.space=.agg #[.bool false,.bool false,.slice none 0 0,.slice none 0 0,.string ⟨#[]⟩]:=by simp [AJ]
 have E:AJ.fails=false:=rfl;rw [D,E] at B;refine B.mono ?_;rintro e w' ⟨Q,M,R,S,rfl,z,H,j,b,y⟩;obtain ⟨p,q,k,⟨nm,C,I⟩,⟨L,J⟩⟩:=F5 cN T h;obtain ⟨rfl,rfl⟩:=IL z k;have u:(p::(l.map (fun p=>(p.1,p.2.ext [47,97,62] [wG]))++[q])).length=l.length+2:=by simp
 rw [u] at j y;obtain ⟨g,d,rfl,_,x,s,_,a⟩:=gY j (by omega);have c:∀ n∈p::(l.map (fun p=>(p.1,p.2.ext [47,97,62] [wG]))++[q]),∀ pre,(n.1.itok pre).attrs.length≤1000000000:=fun n A pre=>by
  have v:=QX rfl k rfl n A pre;have N:(St.init (nZ T)).rest.length=(nZ T).length:=rfl;have O:(n.1.itok pre).attrs.length≤(nZ T).length:=v;omega
 refine ⟨g,d,rfl,H,x,s,by omega,?_,?_,fun i r m=>?_⟩
 ·obtain ⟨⟨_,_,_,_,_,o,_⟩,_⟩:=CN (i:=0) b a rfl (c _ List.mem_cons_self _);rw [I] at o;exact o
 ·have t:(p::(l.map (fun p=>(p.1,p.2.ext [47,97,62] [wG]))++[q]))[l.length+1]?=some q:=by
   rw [List.getElem?_cons_succ,C0 (by simp)];simp
  obtain ⟨⟨_,_,_,_,_,o,_⟩,_⟩:=CN b a t (c _ (List.mem_of_getElem? t) _);rw [J] at o;exact o
 ·unfold kP at m;rw [List.getElem?_map] at m;cases f:l[i]? with
  | none=>rw [f] at m;cases m
  | some n=>
   rw [f] at m;simp only [Option.map_some,kQ] at m;have t:(p::(l.map (fun p=>(p.1,p.2.ext [47,97,62] [wG]))++[q]))[i+1]?=some (n.1,n.2.ext [47,97,62] [wG]):=by
    rw [List.getElem?_cons_succ,List.getElem?_append_left (by rw [List.length_map];exact (FP.1 f).1),List.getElem?_map,f];rfl
   have v:=CN b a t (c _ (List.mem_of_getElem? t) _);rw [←m];rw [show 8+i*8=(i+1)*8 by omega];exact v
theorem CW (T:Bs) (w:World) {l:List (aU×St)} (H:l.length≤1000000) (g f:Nat) (B:g<w.heap.size) (b:∀ i p,(kP T l)[i]?=some p→CM w g (8+i*8) p) (u:Option Addr) (t:fG ((gM T l).map m9)≤4611686018427387904)
  (F:0<l.length→∃ g n,u=some ⟨g,n,none⟩∧g<w.heap.size∧∀ i p,((gM T l).map m9)[i]?=some p→qR w g (n+i*6) w.heap.size p) :
  Calls prog 11 #[.slice (some ⟨g,8,none⟩) l.length f] w fun e w'=>∃ A C,e=.returned (.slice A l.length C)∧Below w.heap.size w w'∧∀ v,Calls prog 10 #[.slice A l.length C,.slice u l.length v,.bool false] w' fun m G=>m=.returned (.bool true)∧Below w'.heap.size w' G:=by
 have a:(kP T l).length=l.length:=by unfold kP;simp
 have d:=TZ w (kP T l) (by omega) g 8 f B b;rw [a] at d;refine d.mono ?_;rintro e w' ⟨out,I,rfl,o,j,c⟩;obtain ⟨A,C,rfl,s⟩:=JZ (by rw [a];exact j) c;rw [a];refine ⟨A,C,rfl,o,fun v=>?_⟩;have k:=XL w' (kP T l) ((gM T l).map m9) false (r8 T l) (fun h=>by cases h) (by omega) (by rw [←tP (r8 T l)];exact t) (fun q E=>by
  obtain ⟨i,D,r⟩:=List.getElem_of_mem E;exact (b i q (by rw [List.getElem?_eq_getElem D,r])).len) A u C v s (fun d=>by
  obtain ⟨z,n,x,m,y⟩:=F (by rw [←a];exact d);refine ⟨z,n,x,rS m o.size,fun i p d=>?_⟩;exact (y i p d).below m o)
 rw [a] at k;exact k
theorem X9 (T:Bs) (w:World) (h:65536<T.length):Calls prog 6 #[aB T] w fun e w'=>e=.returned (.bool true)∧Below w.heap.size w w':=by
 by_cases a:(2147483647:Int)<(T.length:Int)
 ·refine eT 79 func6 [_] fun f=>?_;simp only [aF];refine vg ?_;intro K hK;refine cX ?_;exact ⟨rfl,Below.refl _ w⟩
 have b:(65536:Int)<(T.length:Int):=by omega
 refine eT 79 func6 [_] fun f=>?_;simp only [aF];refine vg ?_;intro K hK;refine cX ?_;exact ⟨rfl,Below.refl _ w⟩
noncomputable def Q5 (n:Nat):Code:=((Tryz.f6.body).bind (Code.partAt n)).getD .skip
theorem U1 (T:Bs) (O:T.length≤65536) (w1:World) (M:CH w1) {l:List (aU×St)} (c:jX cN AJ (St.init T) l .eof) (I:Option Addr) (n X:Nat) (b:n=l.length) (B:fG ((gM T l).map m9)≤4611686018427387904)
  (A:0<l.length→∃ g C,I=some ⟨g,C,none⟩∧g<w1.heap.size∧∀ i p,((gM T l).map m9)[i]?=some p→qR w1 g (C+i*6) w1.heap.size p) (Q:Exit→Act→World→Prop) (N:∀ f w',Below w1.heap.size w1 w'→Q .ret (fr 79 f [(2,.bool true)]) w') (f:Nat→Value) :
  (Q5 8).wp prog Q (fr 79 f [(0,aB T),(3,.slice I n X)]) w1:=by
 have b1:¬ 9223372036854775807<3+T.length:=by omega
 have b3:¬ 9223372036854775807<T.length+1+1+1+4:=by omega
 have c1:=Bw T;have c3:(⟨(60::97::62::T).toArray⟩:ByteArray)++⟨#[60,47,97,62]⟩=⟨(nZ T).toArray⟩:=Ap (60::97::62::T);have t:=Lh (IM T O w1 M c);have ⟨u,G,E,P⟩:=kY B A b N;clear M O c B A b N;conv=>arg 2;unfold Q5;whnf
 refine vg ?_;intro K hK K hK;refine t.o.mono ?_;rintro H w2 ⟨g,a,rfl,e,y,h,q,S,L,j⟩;have r:=Lh e;have v:=Lh (fun a=>CW T w2 q g a y j I u.o (fun V=>by
  obtain ⟨U,C,R,H,J⟩:=G.o V;exact ⟨U,C,R,rS H e.size,fun i p W=>(J i p W).below H e⟩))
 obtain ⟨d,m⟩:=cR (l.length+1);obtain ⟨k,o⟩:=cR (l.length+2);have b:=E.o;rw [←o] at h ⊢;rw [←m] at L;rw [←b] at q v m o;have u1:¬ (k:Int)<2:=by omega
 have u2:(0:Int)<(k:Int):=by omega
 have u3:(d:Int)<(k:Int):=by omega
 have u4:(0:Int)≤(d:Int):=by omega
 have Y:¬ k<2:=by omega
 have Z:0<k:=by omega
 have a0:d<k:=by omega
 have wi:IntKind.i64.wrap ((k:Int)-1)=(d:Int):=by rw [IntKind.wrap_i64];omega
 have u5:(1:Int)≤(d:Int):=by omega
 have a1:1≤d:=by omega
 have u6:(d:Int)≤(a:Int):=by omega
 have a2:d≤a:=by omega
 have u7:d-1=n:=by omega
 have u8:¬ a=1:=by omega
 clear e y h q j b t m o;(repeat revert K);refine vS ?_;intro K hK K hK;refine (v.o _).mono ?_;rintro J w3 ⟨aA,aC,rfl,w,z⟩;have s:=Lh (r.o.trans (w.mono r.o.size));have F:=Lh z;clear w z S L;(repeat revert K);refine vS ?_;intro K hK K hK;refine (F.o _).mono ?_;rintro e4 w4 ⟨rfl,x⟩;have D:=Lh (s.o.trans (x.mono s.o.size));clear x;(repeat revert K);refine vS ?_;refine Qk [2] fun f=>?_;exact P.o f w4 D.o
theorem Aq (T:Bs) (hT:T.length≤65536) (w:World) (hE:CH w) :
  Calls prog 6 #[aB T] w fun e w'=>e=.returned (.bool true)∧Below w.heap.size w w':=by
 have U:¬ (2147483647:Int)<(T.length:Int):=by omega
 have V:¬ (65536:Int)<(T.length:Int):=by omega
 have G:nO ([]:aN):=fun p hp=>by cases hp
 have v:=Lh (X8 T (by omega) ⟨false,[],[]⟩ G (.slice none 0 0) w ⟨w.heap.size,T,false,.slice none 0 0,[]⟩ rfl ⟨none,0,0,rfl⟩ ⟨kW _,aG ⟨rfl,rfl⟩⟩ (QU _ _ rfl (JV _ _ rfl)) (JV _ _ rfl));have ⟨HE,I⟩:=cH hE hT;have J:=Lh (FN (o:=⟨false,[],[]⟩) G T (by omega));clear hE hT G;refine eT 79 func6 [_] fun f=>?_;simp only [aF];refine vg ?_;intro K hK K hK;refine v.o.mono ?_;rintro e1 w1 ⟨out,xs,rfl,N,b,c⟩;have t:=Lh N;obtain ⟨R,oC,rfl,z⟩:=JZ (by rw [List.length_map];exact b) c;obtain ⟨n,hn⟩:=cR (((fM ⟨false,[],[]⟩ T).1.map m9).length);rw [←hn];obtain ⟨Z,B⟩:=cR (JY (fM ⟨false,[],[]⟩ T).2);rw [←B];have y:(Z≠0)∨∃ Y,jX cN AJ (St.init T) Y .eof∧(fM ⟨false,[],[]⟩ T).1=gM T Y∧Z=0:=by
  cases h7:(fM ⟨false,[],[]⟩ T).2 with
  | some kk=>
   left;rw [B,h7];cases kk<;>simp [JY,SV.num]
  | none=>
   right;obtain ⟨Y,h8,W⟩:=UC cN AJ rfl (aG rfl) rfl T h7;exact ⟨Y,h8,W,by rw [B,h7];rfl⟩
 have ⟨u,S,C,x,m⟩:=pI y hn z b c;clear N b c B y z v hn;rcases u.o with hz|⟨l,A,a,rfl⟩
 ·have a5:(Z != 0)=true:=by simpa using hz
  have a6:(Z==0)=false:=by simpa using hz
  clear hz;(repeat revert K);refine vS ?_;intro K hK;refine cX ?_;exact ⟨rfl,t.o⟩
 have E:=Lh A;have P:n=l.length:=by rw [S.o,a,y9]
 have Q:0<l.length→∃ g ro,R=some ⟨g,ro,none⟩∧g<w1.heap.size∧∀ i p,((gM T l).map m9)[i]?=some p→qR w1 g (ro+i*6) w1.heap.size p:=fun M=>by
  have W:=C.o;rw [a] at W;exact W (by rw [y9];exact M)
 have H:=J.o;rw [a] at H;have L:=Lh (U0 H I.o);have aC:=Lh Q;have r:n=0∨∃ g k s,R=some ⟨g,0,none⟩∧0<n∧w1.cell? ⟨g,0,none⟩=some (.int .i64 (k:Nat))∧w1.cell? ⟨g,2,none⟩=some (aB s):=by
  by_cases M:n=0
  ·exact aG M
  ·right;have b:=x.o;have a0:(fM ⟨false,[],[]⟩ T).1.length=n:=by rw [S.o,List.length_map]
   rw [a0] at b;obtain ⟨g,a3,he,_,a4,_,_,F⟩:=gY b (by omega);simp only [Value.slice.injEq] at he;obtain ⟨rfl,_,rfl⟩:=he;have a1:0<((fM ⟨false,[],[]⟩ T).1.map m9).length:=by rw [←S.o];omega
   obtain ⟨q,hq⟩:∃ q,((fM ⟨false,[],[]⟩ T).1.map m9)[0]?=some q:=⟨_,List.getElem?_eq_getElem a1⟩;obtain ⟨_,_,_,c0,_,c2,_⟩:=(wV m.o F hq).ex;exact ⟨g,_,_,rfl,by omega,c0,c2⟩
 have ⟨j,aA⟩:=cH r P;clear A a u P Q H r C x m J S;have d:(n=0∨∃ g k s,R=some ⟨g,0,none⟩∧0<n∧w1.cell? ⟨g,0,none⟩=some (.int .i64 (k:Nat))∧w1.cell? ⟨g,2,none⟩=some (aB s)∧k≠5)∨(∃ g s,R=some ⟨g,0,none⟩∧0<n∧w1.cell? ⟨g,0,none⟩=some (.int .i64 (5:Nat))∧w1.cell? ⟨g,2,none⟩=some (aB s)∧s≠[120,109,108])∨∃ g,R=some ⟨g,0,none⟩∧0<n∧w1.cell? ⟨g,0,none⟩=some (.int .i64 (5:Nat))∧w1.cell? ⟨g,2,none⟩=some (aB [120,109,108]):=by
  rcases j.o with h|⟨g,k,s,h1,U,h3,V⟩
  ·exact aG (aG h)
  ·by_cases hk:k=5
   ·subst hk;by_cases X:s=[120,109,108]
    ·subst X;exact aX (aX ⟨g,h1,U,h3,V⟩)
    ·exact aX (aG ⟨g,s,h1,U,h3,V,X⟩)
   ·exact aG (aX ⟨g,k,s,h1,U,h3,V,hk⟩)
 have D:=Lh d;clear d j;rcases D.o with (M|⟨g0,k,s,rfl,O,k0,k2,hk⟩)|⟨g0,s,rfl,O,k0,k2,X⟩|⟨g0,rfl,O,k0,k2⟩;rotate_left 3
 ·have t1:(0:Int)<(n:Int):=by omega
  clear D;(repeat revert K);refine vS ?_;intro K hK;refine cX ?_;exact ⟨rfl,t.o⟩
 all_goals
  first
   | (have t1:¬ (0:Int)<(n:Int):=by omega)
   | (have t1:(0:Int)<(n:Int):=by omega)
  first
   | (have a2:¬ 0<n:=by omega)
   | (have a2:0<n:=by omega)
  try have e5:((k:Int)==5)=false:=by rw [m6];omega
  try have e6:(s==[120,109,108])=false:=by simpa using X
  clear D;try clear M
  go_simp;(repeat revert K);refine vT 8 ?_;refine cM [0,3] fun f=>?_;refine bB (U1 T I.o w1 (HE.o.below t.o) E.o _ n oC aA.o L.o aC.o _ (fun f w' hb=>?_) f) (by kernel_rfl);refine cX ?_;exact ⟨rfl,t.o.trans (hb.mono t.o.size)⟩
end Go.Proofs.YthapcchcahnfaaaGreatDoor
namespace Go.Proofs.YthapcchcahnfaaaGreatDoor
open Go Go.RowKit Go.ChangeShapes Go.WideShapes Go.ChangeAt Go.Shelf Go.Proofs.Tryz
theorem U2 (T:Bs) (w:World) (a:CH w):Calls prog 6 #[aB T] w fun e w'=>e=.returned (.bool true)∧Below w.heap.size w w':=by
 by_cases h:T.length≤65536
 ·exact Aq T h w a
 ·exact X9 T w (by omega)
theorem ML (os:Os) (b:os.Started) (H:Type) (enc:TypeId×Value→H) :
  ReturnsInHanded {} Tryz.checked os 6 .any (fun w a=>(Rows.fnWithinSpec.pre enc prog Tryz.f6 [] false w a∧laidMetH prog gV w)∧sizedMet enc prog Tryz.f6 (OpenSpec.ofChange Rows.fnWithinSpec) false w a)
   (Rows.fnWithinSpec.post enc prog Tryz.f6 false true false false):=by
 refine returnsInHanded_of_change_and (C:=Tryz.checked) (X:=fun w _=>laidMetH prog gV w) (fun _ _ _ z h=>h.of_heap z) own b (by kernel_rfl) func6
  (ChangeSpec.witness_shaped (enc:=enc) (C:=Tryz.checked) (os:=os) (X:=fun w _=>laidMetH prog gV w) false (uU os) #[.string ⟨#[]⟩] 8 (World.layVars_os _ _ _)
   (World.shaped_of_ZipB (by kernel_rfl) (by kernel_rfl)) (by kernel_rfl) (by kernel_rfl) (by kernel_rfl)
   (QW os _)) ?_
 intro W f a o D i d n _ _ s _;have c:∀ (j:Nat) t v,Tryz.f6.params[j]?=some t→a[j]?=some v→Value.okWide prog W .any f t v:=d;have g:=n;obtain ⟨p,q,k,u,rfl,_,_⟩:=n;have m:DataW.TrodAll enc prog W 0 (fun _=>true) true Tryz.f6.params.toList a.toList o p:=k;rw [Tryz.params6] at m c;obtain ⟨v0,B,rfl,rfl,r⟩:=trodAll_one m;obtain ⟨rfl,rfl⟩:=trodVars_none u;obtain ⟨A,rfl,rfl,rfl,l⟩:=Go.ChangeMaps.open_string underlying9 (c 0 9 v0 rfl rfl) r;simp only [List.append_nil] at g;refine (U2 A.data.toList W (US s)).mono fun e W' ⟨y,x⟩=>?_;subst y;exact ⟨_,rfl,_,_,_,[],[],[],g,trodAll_mk1 (shut_bool underlying4 _),trodAll_mk1 (Go.ChangeMaps.shut_string underlying9 l),rfl,x.frame _,fun h=>by cases h⟩
end Go.Proofs.YthapcchcahnfaaaGreatDoor
