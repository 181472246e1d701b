/- Part of the proof that laws.FnStrictIsLoose, laws.FnUnclosed, laws.FnReaderFails, laws.FnWithin, laws.FnSkip returns true for every argument. No conditions. -/
import Derived.Test.YthapcchcahnfaaaGreatDoorP23
import Derived.Test.YthapcchcahnfaaaGreatDoorP25
set_option linter.all false
set_option maxHeartbeats 8000000
set_option maxRecDepth 100000
namespace Go.Proofs.YthapcchcahnfaaaGreatDoor
open Go Go.RowKit Tryz
structure DW (x:Cx) (c:DC) (w:World) (v:DV) (s:St):Prop where
 rd:∃ e b,cK x c w v s.rest e b∧(s.ended=true→e≠none)∧(e≠none→s.toClose=none)
 nc:c.needClose=s.toClose.isSome
 tc:∀ nm,s.toClose=some nm→c.tcs=⟨nm.1.toArray⟩∧c.tcl=⟨nm.2.toArray⟩
 nb:v.nb≠10
def rK (c a:DC):Prop:=∃ b p q,a={ c with needClose:=b,tcs:=p,tcl:=q }
theorem rK.refl (c:DC):rK c c:=⟨c.needClose,c.tcs,c.tcl,rfl⟩
def dA (x:Cx) (c:DC) (w:World) (v:DV) (s:St) (t e:Value) (w':World):Prop:=
 match dN x.o s with
 | .error k=>∃ v',dB x w v w' v'∧t=.nilIface∧e=v'.err∧jM x c w' v' k∧kL w' e k
 | .ok (tk,s')=>∃ v' a,dB x w v w' v'∧e=.nilIface∧rK c a∧DW x a w' v' s'∧iR w' v'.bufv w.heap.size t tk∧((∀ d,tk≠.text d)→s'.ended=false∧∃ b,cK x a w' v' s'.rest none b)
theorem iX.tok {x:Cx} {c:DC} {w0 w:World} {v0 v:DV} {s:St} {R:Except EK (aO×Bs)} {t e:Value} {w':World} (B:dB x w0 v0 w v) (u:c.needClose=false) (j:s.toClose=none) (y:w0.heap.size≤w.heap.size)
  (J:dN x.o s=match R with|.error e=>.error e|.ok (t,r)=>.ok (t,{ s with rest:=r })) (i:s.ended=false) (h:iX x c w v R t e w'):dA x c w0 v0 s t e w':=by
 obtain ⟨⟨v',l,m⟩,I⟩:=h;unfold dA;rw [J];cases R with
 | error k=>exact ⟨v',B.trans l,m.1,m.2.1,m.2.2,I k rfl⟩
 | ok p=>
  obtain ⟨M,r⟩:=p;obtain ⟨H,C,b,o,z,a,q⟩:=m;refine ⟨v',c,B.trans l,H,rK.refl c,⟨⟨C,b,o,fun h=>(by rw [i] at h;cases h),fun _=>j⟩,by rw [u,j];rfl,fun nm h=>(by rw [j] at h;cases h),by rw [q];decide⟩,?_⟩;cases M with
  | start nm ats=>
   refine ⟨?_,fun _=>?_⟩
   ·obtain ⟨L,D,E,A⟩:=z;refine ⟨L,D,E,A.1,?_⟩;rcases A.2 with n|⟨g,cap,cur,n,F,G⟩
    ·exact aH n
    ·exact aW ⟨g,cap,cur,n,fX y F,G⟩
   ·rcases a with f|⟨⟨d,f⟩,_⟩
    ·subst f;exact ⟨i,b,o⟩
    ·cases f
  | text d=>exact ⟨z,fun h=>absurd rfl (h d)⟩
  | _=>
   refine ⟨z,fun _=>?_⟩;rcases a with f|⟨⟨d,f⟩,_⟩
   ·subst f;exact ⟨i,b,o⟩
   ·cases f
theorem DU.tok {x:Cx} {c:DC} {w0 w:World} {v0 v:DV} {s:St} {R:Except EK (((Bs×Bs)×List cZ)×Bool×Bs)} {t e:Value} {w':World} (z:dB x w0 v0 w v) (m:c.needClose=false) (I:s.toClose=none) (q:w0.heap.size≤w.heap.size)
  (G:dN x.o s=match R with|.error e=>.error e|.ok ((nm,a),em,r)=>.ok (.start nm a,{ s with rest:=r,toClose:=if em then some nm else none })) (d:s.ended=false) (n:tX R) (h:DU x c w v R t e w'):dA x c w0 v0 s t e w':=by
 obtain ⟨v',f,i⟩:=h;unfold dA;rw [G];cases R with
 | error k=>exact ⟨v',z.trans f,i.1,i.2.1,i.2.2,kL.no (fun F=>n (by rw [F]))⟩
 | ok p=>
  obtain ⟨⟨nm,a⟩,em,r⟩:=p;obtain ⟨E,b,y,H,l⟩:=i;have o:rK c (c.closing nm em):=by
   cases em
   ·exact rK.refl c
   ·exact ⟨_,_,_,rfl⟩
  refine ⟨v',_,z.trans f,E,o,⟨⟨none,b,y,fun h=>(by rw [d] at h;cases h),fun h=>absurd rfl h⟩,?_,?_,by rw [l];decide⟩,?_⟩
  ·cases em
   ·simp [DC.closing,m]
   ·rfl
  ·intro J h;cases em
   ·cases h
   ·simp only [if_true,kD] at h;subst h;exact ⟨rfl,rfl⟩
  ·refine ⟨?_,fun _=>⟨d,b,y⟩⟩;obtain ⟨L,A,B,u⟩:=H;refine ⟨L,A,B,u.1,?_⟩;rcases u.2 with j|⟨g,cap,cur,j,C,D⟩
   ·exact aH j
   ·exact aW ⟨g,cap,cur,j,fX q C,D⟩
def ZF (o:cM) (s:St):Bs→Except EK (aO×St)
 | []=>.error (cE o.fails)
 | c::r2=>
  if c=47 then (match kQ o r2 with|.error e=>.error e|.ok (t,r3)=>.ok (t,{ s with rest:=r3 }))
  else if c=63 then (match vL o r2 with|.error e=>.error e|.ok (t,r3)=>.ok (t,{ s with rest:=r3 }))
  else if c=33 then (match gS o r2 with|.error e=>.error e|.ok (t,r3)=>.ok (t,{ s with rest:=r3 }))
  else match eG o (c::r2) with
   | .error e=>.error e
   | .ok ((nm,ats),em,r3)=>.ok (.start nm ats,{ s with rest:=r3,toClose:=if em then some nm else none })
theorem VH {o:cM} {s:St} (a:s.ended=false) (b:s.toClose=none) {r:Bs} (c:s.rest=60::r):dN o s=ZF o s r:=by
 obtain ⟨rest,e,h,d,f,g⟩:=s;simp only at a b c;subst a b c;unfold dN ZF;cases r<;>rfl
theorem JF (o:cM) (b:UInt8) (r:Bs):gS o (b::r)=if b=45 then zU o r else if b=91 then sX o FH r else mM o b r:=by
 unfold gS zU sX mM;simp only;split
 ·rfl
 ·split
  ·rfl
  ·rfl
theorem ZG (x:Cx) (hx:x.All) (a4:jS x.W0) (P:3<x.B) (c:DC) (S:iU x c) (a9:tC x c) (a8:c.needClose=false) (w:World) (v:DV) (s:St) (r:Bs) (hr:s.rest=60::r) (T:s.ended=false) (U:s.toClose=none) (g:Bs) (h:cK x c w v (60::r) none g) :
  Calls prog 35 #[cB x] w fun en w'=>∃ t e,en=.returned (.tuple #[t,e])∧dA x c w v s t e w':=by
 have hg:=Lh (o8 x hx.toOk c S w v 60 r none g h);have ⟨L,bA,Z,J,a0,u⟩:=iH hx a4 P S a9 a8;have ⟨q,y⟩:=cN T U;have l:=Lh (VH (o:=x.o) T U hr);have hc:=h.dec.cell;have hf:=h.dec.frozen;have he:v.err=.nilIface:=h.err;have b4:=Lh h.suf;clear h hx a4 P S a9 hr T U;refine eI 731 func35 [_] fun f=>?_;simp only [aF];refine vg ?_;intro K hK K hK;refine hg.o.mono ?_;rintro e1 w1 ⟨rfl,v1,h1,bL,a5,a6,_⟩;have a1:=Lh ((dB.refl x w v).s0 a6 a5);have Q:=Lh h1;clear h1 bL a5 a6 hg hc hf he a8
 have d:=Lh (show ∀ f w' t e,dA x c w v s t e w'→bodyPost prog Tryz.f35 (fun en w'=>∃ t e,en=.returned (.tuple #[t,e])∧dA x c w v s t e w') .ret (fr 731 f [(2,t),(3,e)]) w' from
  fun f w' t e A=>C1 rfl (by decide) (by decide) (by simp only [aK,aQ,aS,aX,Nat.reduceEqDiff,↓reduceIte]) (by simp only [aK,aQ,aS,aX,Nat.reduceEqDiff,↓reduceIte]) ⟨t,e,rfl,A⟩)
 cases r with
 | nil=>
  have j:=Lh (bS x L.o.toOk c J.o w1 v1 none g Q.o);(repeat revert K);refine vS ?_;intro K hK K hK K hK;refine j.o.mono ?_;rintro e4 Y ⟨rfl,W,E,F,H⟩;have k:=Lh (a1.o.s0 H F);obtain ⟨t1,u1,V⟩:=E.err.iface;have HE:=Lh E;have hc:=E.dec.cell;have hf:=E.dec.frozen;have HU:=Lh V;clear E H F j;(repeat revert K);refine vS ?_;intro K hK K hK
  ((refine cP [0] fun f=>?_);go_quiet (fail);((repeat revert K);refine vg ?_;intro K hK);refine Qk [2,3] fun f=>?_)
  refine d.o f _ _ _ ?_;unfold dA;rw [l.o];exact ⟨W,k.o.drawn _,rfl,HU.o.symm,HE.o.drewN _,kL.no (zV _)⟩
 | cons b r2=>
  have j:=Lh (bO x L.o.toOk c J.o w1 v1 b r2 none g Q.o);(repeat revert K);refine vS ?_;intro K hK K hK K hK;refine j.o.mono ?_;rintro e4 Y ⟨rfl,W,a2,a7,F,H,b1⟩;have m:=Lh (a1.o.s0 H F);have ⟨B,bC⟩:=cN a2 a7;clear a2 a7 H F b1 j;by_cases z:b=47
  ·subst z;have a:=Lh (show dN x.o s=(match kQ x.o r2 with|.error e=>.error e|.ok (t,r3)=>.ok (t,{ s with rest:=r3 })) by rw [l.o];rfl);go_simp;(repeat revert K);refine vT 22 ?_;intro K hK;refine cP [0] fun f=>?_;refine bB (YZ x L.o c J.o Y W r2 none g B.o _ ?_ f) (by kernel_rfl);intro f w' t e A;exact d.o f w' t e (iX.tok m.o u.o y.o m.o.mod.size a.o q.o (A.o (U5 _ _)))
  ·have t1:=fL (n:=47) z rfl;by_cases C:b=63
   ·subst C;have a:=Lh (show dN x.o s=(match vL x.o r2 with|.error e=>.error e|.ok (t,r3)=>.ok (t,{ s with rest:=r3 })) by rw [l.o];rfl);clear z t1;go_simp;(repeat revert K);refine vT 37 ?_;intro K hK;refine cP [0] fun f=>?_;refine bB (Cc x L.o bA.o Z.o c J.o Y W r2 none g B.o _ ?_ f) (by kernel_rfl);intro f w' t e A;exact d.o f w' t e (iX.tok m.o u.o y.o m.o.mod.size a.o q.o A)
   ·have t2:=fL (n:=63) C rfl;by_cases M:b=33
    ·subst M;have a:=Lh (show dN x.o s=(match gS x.o r2 with|.error e=>.error e|.ok (t,r3)=>.ok (t,{ s with rest:=r3 })) by rw [l.o];rfl);clear z C t1 t2;cases r2 with
     | nil=>
      have j:=Lh (bS x L.o.toOk c J.o Y W none g B.o);(repeat revert K);refine vS ?_;intro K hK K hK K hK K hK;refine j.o.mono ?_;rintro e5 w5 ⟨rfl,v5,E,G,I⟩;have k:=Lh (m.o.s0 I G);obtain ⟨t1,u1,V⟩:=E.err.iface;have HE:=Lh E;have hc:=E.dec.cell;have hf:=E.dec.frozen;have HU:=Lh V;clear E I G j;(repeat revert K);refine vS ?_;intro K hK K hK K hK
      ((refine cP [0] fun f=>?_);go_quiet (fail);((repeat revert K);refine vg ?_;intro K hK K hK);refine Qk [2,3] fun f=>?_)
      refine d.o f _ _ _ ?_;unfold dA;rw [a.o];exact ⟨v5,k.o.drawn _,rfl,HU.o.symm,HE.o.drewN _,kL.no (zV _)⟩
     | cons N r3=>
      have j:=Lh (bO x L.o.toOk c J.o Y W N r3 none g B.o);have X:=Lh (JF x.o N r3);(repeat revert K);refine vS ?_;intro K hK K hK K hK K hK;refine j.o.mono ?_;rintro e5 w5 ⟨rfl,v5,a3,b0,G,I,b3⟩;have k:=Lh (m.o.s0 I G);have R:=Lh a3;clear a3 b0 I G b3 j;by_cases p:N=45
      ·subst p;have i:=Lh (show dN x.o s=(match zU x.o r3 with|.error e=>.error e|.ok (t,r3)=>.ok (t,{ s with rest:=r3 })) by rw [a.o,X.o,aV rfl]);have aA:=Lh (show tX (zU x.o r3) by have O:=zX x.o (45::r3);rw [X.o,aV rfl] at O;exact O);go_simp;(repeat revert K);refine vT 79 ?_;intro K hK K hK;refine cP [0] fun f=>?_;refine bB (Y0 x L.o c J.o w5 v5 r3 none g R.o _ ?_ f) (by kernel_rfl);intro f w' t e A;exact d.o f w' t e (iX.tok k.o u.o y.o k.o.mod.size i.o q.o (A.o aA.o))
      ·have t3:=fL (n:=45) p rfl;by_cases D:N=91
       ·subst D;have i:=Lh (show dN x.o s=(match sX x.o FH r3 with|.error e=>.error e|.ok (t,r3)=>.ok (t,{ s with rest:=r3 })) by rw [a.o,X.o,aN p,aV rfl]);have aC:=Lh (show tX (sX x.o FH r3) by have O:=zX x.o (91::r3);rw [X.o,aN p,aV rfl] at O;exact O);clear p t3;go_simp;(repeat revert K);refine vT 100 ?_;intro K hK K hK;refine cP [0] fun f=>?_;refine bB (Y1 x L.o c J.o a0.o w5 v5 r3 none g R.o _ ?_ f) (by kernel_rfl);intro f w' t e A;exact d.o f w' t e (iX.tok k.o u.o y.o k.o.mod.size i.o q.o (A.o aC.o))
       ·have t4:=fL (n:=91) D rfl;have i:=Lh (show dN x.o s=(match mM x.o N r3 with|.error e=>.error e|.ok (t,r3)=>.ok (t,{ s with rest:=r3 })) by rw [a.o,X.o,aN p,aN D]);have aL:=Lh (show tX (mM x.o N r3) by have O:=zX x.o (N::r3);rw [X.o,aN p,aN D] at O;exact O);clear p D;go_simp;(repeat revert K);refine vT 113 ?_;intro K hK;refine cP [0,4] fun f=>?_;refine bB (Y2 x L.o c J.o w5 v5 N r3 g R.o _ ?_ f) (by kernel_rfl);intro f w' t e A;exact d.o f w' t e (iX.tok k.o u.o y.o k.o.mod.size i.o q.o (A.o aL.o))
    ·have t3:=fL (n:=33) M rfl;have a:=Lh (show dN x.o s=(match eG x.o (b::r2) with|.error e=>.error e|.ok ((nm,ats),em,r3)=>.ok (.start nm ats,{ s with rest:=r3,toClose:=if em then some nm else none })) by
      rw [l.o];simp only [ZF,aN z,aN C,aN M])
     clear z C M;go_simp;(repeat revert K);refine vT 152 ?_;refine cP [0,4] fun f=>?_;refine bB (RA x L.o c J.o a0.o Y W b r2 g B.o bC.o (by have:=Q.o.suf;exact this) _ ?_ f) (by kernel_rfl);intro f w' t e A;exact d.o f w' t e (A.tok m.o u.o y.o m.o.mod.size a.o q.o (NA _ _))
theorem JG {o:cM}:∀ (n:Nat) (rest:Bs),rest.length≤n→∀ (b0 b1:UInt8) (a:Bs) {d r:Bs},bE o none false rest b0 b1 a=.ok (d,r)→r=[]∨∃ t,r=60::t:=by
 intro n;induction n with
 | zero=>
  intro rest f b0 b1 a d r h;have:rest=[]:=tZ (by omega);subst this;unfold bE at h;rw [aN (by simp)] at h;split at h
  ·simp only [bT,bR] at h;exact aH h.2.symm
  ·cases h
 | succ n ih=>
  intro rest f b0 b1 a d r h;cases rest with
  | nil=>
   unfold bE at h;rw [aN (by simp)] at h;split at h
   ·simp only [bT,bR] at h;exact aH h.2.symm
   ·cases h
  | cons b t=>
   have i:t.length≤n:=by simp at f;omega
   unfold bE at h;split at h
   ·split at h
    ·rename_i c;cases c
    ·cases h
   ·split at h
    ·rename_i g;rw [aV rfl] at h;split at h
     ·simp only [bT,bR] at h;exact aW ⟨t,by rw [←h.2,g.1]⟩
     ·cases h
    ·split at h
     ·rename_i c;cases c
     ·split at h
      ·split at h
       ·cases h
       ·rename_i e;exact ih _ (by have:=eR (iE e);omega) _ _ _ h
       ·rename_i e;split at h
        ·cases h
        ·exact ih _ (by have:=eR (iE e);omega) _ _ _ h
      ·exact ih _ i _ _ _ h
theorem cK.nb_text {x:Cx} {c:DC} {w:World} {v:DV} {r:Bs} {e:Option EK} {b:Bs} (h:cK x c w v r e b) (f:r=[]∨∃ t,r=60::t):v.nb≠10:=by
 obtain ⟨g,_,a⟩:=h.inp;rcases a with ⟨a,_⟩|⟨b,a,d⟩
 ·rw [a];decide
 ·rcases f with f|⟨t,f⟩
  ·rw [f] at d;cases d
  ·rw [f] at d;simp only [List.cons.injEq] at d;rw [a,←d.1];decide
theorem RB (x:Cx) (E:x.Ok) (c:DC) (w:World) (v:DV) (s:St) (nm:Bs×Bs) (g:s.ended=false) (a:s.toClose=some nm) (y:DW x c w v s) :
  Calls prog 35 #[cB x] w fun F w'=>∃ t e,F=.returned (.tuple #[t,e])∧dA x c w v s t e w':=by
 obtain ⟨⟨e,b,n,G,A⟩,j,d,o⟩:=y;have H:e=none:=by
  cases e with
  | none=>rfl
  | some k=>have:=A (by simp);rw [a] at this;cases this
 subst H;obtain ⟨N,O⟩:=d nm a;rw [a] at j;have D:c.needClose=true:=j;have L:=n.dec.cell;have M:=n.dec.frozen;have J:v.err=.nilIface:=n.err;have ⟨z,r⟩:=cN E n;have m:=Lh (show dN x.o s=.ok (.fin nm,{ s with toClose:=none }) by unfold dN;rw [aN (by rw [g];simp),a]);have ⟨l,q⟩:=cN g o;clear n G A j d a g E o;refine eI 731 func35 [_] fun f=>?_;simp only [aF];refine vg ?_;intro K hK;refine kN ?_;refine ⟨_,_,rfl,?_⟩;unfold dA;rw [m.o];have u:aM (fun k=>k=x.d) w (w.setCell ⟨x.d,14,none⟩ (.bool false)):=(aM.refl (fun k=>k=x.d) w).setCell (p:=⟨x.d,14,none⟩) (aH rfl) _;have C:bX (w.setCell ⟨x.d,14,none⟩ (.bool false)) x.d { c with needClose:=false } v:=(show aJ w x.d _ _ from r.o.dec).set 14 (.bool false);refine ⟨v,{ c with needClose:=false },(dB.refl x w v).s0 (u.mono (fun i _ I=>aH I)) rfl,rfl,⟨false,c.tcs,c.tcl,rfl⟩,⟨⟨none,b,r.o.turn z.o C u,fun h=>?_,fun _=>rfl⟩,rfl,fun nm h=>(by cases h),q.o⟩,rfl,fun _=>⟨l.o,b,r.o.turn z.o C u⟩⟩;have B:s.ended=true:=h;rw [l.o] at B;cases B
theorem VI (x:Cx) (o:x.All) (c:DC) (e:iU x c) (k:c.needClose=false) (w:World) (v:DV) (b:Bs) (h:cK x c w v [] none b) :
  Calls prog 35 #[cB x] w fun r w'=>∃ v',dB x w v w' v'∧r=.returned (.tuple #[.nilIface,v'.err])∧jM x c w' v' (mF x.o.fails):=by
 have n:=Lh (sH x o.toOk c e w v none b h);have s:=h.dec.cell;have u:=h.dec.frozen;have t:v.err=.nilIface:=h.err;clear h o e;refine eI 731 func35 [_] fun f=>?_;simp only [aF];refine vg ?_;intro K hK K hK;refine n.o.mono ?_;rintro y w1 ⟨rfl,p,a,j,d,g,_⟩;have i:=Lh ((dB.refl x w v).s0 g d);have m:=Lh (show jM x c w1 p (mF x.o.fails) from ⟨a.base,a.dec,a.err⟩);obtain ⟨z,A,l⟩:=m.o.err.iface;have q:=Lh l;have s:=a.dec.cell;have u:=a.dec.frozen;clear a j d g n t k;(repeat revert K);refine vS ?_;intro K hK K hK
 ((refine cP [0] fun f=>?_);go_quiet (fail);((repeat revert K);refine vg ?_;intro K hK);refine Qk [2,3] fun f=>?_)
 refine kN ?_;exact ⟨p,i.o.drawn _,by rw [q.o],m.o.drewN _⟩
theorem F3 {o:cM} {s:St} (a:s.toClose=none) (b:s.rest=[]):dN o s=.error (mF o.fails):=by
 obtain ⟨rest,c,g,d,e,f⟩:=s;simp only at a b;subst a b;unfold dN;cases c<;>rfl
theorem NM {o:cM} {s:St} (a:s.ended=false) (c:s.toClose=none) {b:UInt8} {r:Bs} (g:b≠60) (f:s.rest=b::r):dN o s=match bE o none false (b::r) 0 0 [] with
  | .error e=>.error e
  | .ok (d,r2)=>.ok (.text d,{ s with rest:=r2,ended:=r2==[] }):=by
 obtain ⟨rest,i,l,h,j,k⟩:=s;simp only at c f a;subst c f a;unfold dN;simp only [sS,if_false];rw [aV g];cases bE o none false (b::r) 0 0 []<;>rfl
theorem F4 (x:Cx) (J:x.All) (M:jS x.W0) (A:3<x.B) (c:DC) (u:iU x c) (C:tC x c) (w:World) (v:DV) (s:St) (E:DW x c w v s) :
  Calls prog 35 #[cB x] w fun F w'=>∃ t e,F=.returned (.tuple #[t,e])∧dA x c w v s t e w':=by
 obtain ⟨⟨e,b,n,Y,Z⟩,S,V,_⟩:=id E;cases e with
 | some k=>
  have a:=Z (by simp);obtain ⟨t1,u1,T⟩:=n.err.iface;have f:=n.fin;rcases f with f|⟨f,z⟩
  ·cases f
  ·refine (YY x c w v n.dec t1 u1 T).mono ?_;rintro F w' ⟨rfl,k',rfl⟩;refine ⟨_,_,rfl,?_⟩;unfold dA;rw [F3 a z];have hk:k=mF x.o.fails:=by simpa using f
   subst hk;exact ⟨v,dB.drewN _,rfl,rfl,jM.drewN ⟨n.base,n.dec,n.err⟩ _,kL.no (K1 _)⟩
 | none=>
  have y:s.ended=false:=by
   cases h:s.ended with
   | false=>rfl
   | true=>exact absurd rfl (Y h)
  cases a:s.toClose with
  | some nm=>exact RB x J.toOk c w v s nm y a E
  | none=>
   have i:c.needClose=false:=by rw [S,a];rfl
   cases D:s.rest with
   | nil=>
    rw [D] at n;refine (VI x J c u i w v b n).mono ?_;rintro F w' ⟨v',I,rfl,L⟩;refine ⟨_,_,rfl,?_⟩;unfold dA;rw [F3 a D];exact ⟨v',I,rfl,rfl,L,kL.no (K1 _)⟩
   | cons d r=>
    rw [D] at n;by_cases P:d=60
    ·subst P;exact ZG x J M A c u C i w v s r D y a b n
    ·refine (U0 x J c u C i w v d r b P n).mono ?_;rintro F w' ⟨v',I,H⟩;have j:=NM (o:=x.o) y a P D;cases l:bE x.o none false (d::r) 0 0 [] with
     | error k=>
      rw [l] at H j;obtain ⟨rfl,L⟩:=H;refine ⟨_,_,rfl,?_⟩;unfold dA;rw [j];exact ⟨v',I,rfl,rfl,L,kL.no (fun hh=>zW _ _ _ _ _ (dD _) _ _ _ (by rw [←hh];exact l))⟩
     | ok p=>
      obtain ⟨tx,r'⟩:=p;rw [l] at H j;obtain ⟨g,W,X,U,rfl,q,m,Q,R,B⟩:=H;refine ⟨_,_,rfl,?_⟩;unfold dA;rw [j];refine ⟨v',c,I,rfl,rK.refl c,⟨⟨X,U,q,fun h=>?_,fun _=>a⟩,by rw [i,a];rfl,fun nm h=>(by rw [a] at h;cases h),q.nb_text (JG _ _ (dD _) _ _ _ l)⟩,⟨_,rfl,?_⟩,fun h=>absurd rfl (h tx)⟩
      ·have h9:r'=[]:=by simpa using h
       rw [B h9];simp
      ·have N:=(q.bf.part m Q R).1;rcases q.bf with ⟨G,_⟩|⟨g',cap',arr,G,hg,aC,hl,O,_,_,aA⟩
       ·rw [G] at m;cases m
       ·have h6:=G;rw [G] at m;simp only [Value.slice.injEq,kD,Addr.mk.injEq] at m;obtain ⟨⟨rfl,_⟩,_,rfl⟩:=m;exact ⟨g',cap',U.length,rfl,h6,N,by omega,O⟩
structure F5 (x:Cx) (c:DC) (w:World) (v:DV) (k:Int) (e:List Nat) (w':World) (q:Nat) (a:List Nat):Prop where
 dec:∃ d,bX w' x.d d v∧∃ f g,d={ c with stk:=.pointer (some ⟨q,0,none⟩),free:=f,depth:=g }∧∃ h,iY w' f h a
 blk:∃ sp loc ok,aJ w' q (jX c.stk k sp loc ok) 95
 mod:aM (fun b=>b=x.d∨b=q) w w'
 fbs:(e=q::a)∨(e=[]∧a=[]∧q=w.heap.size)
theorem iY.ptr {w:World} {p:Value} {l:List gT} {a:List Nat} (h:iY w p l a):(p=.pointer none∧a=[]∧l=[])∨∃ q e l' c,p=.pointer (some ⟨q,0,none⟩)∧a=q::c∧l=e::l':=by
 cases l with
 | nil=>
  cases a with
  | nil=>exact aH ⟨h,rfl,rfl⟩
  | cons b a=>exact h.elim
 | cons e l=>
  cases a with
  | nil=>exact h.elim
  | cons b a=>exact aW ⟨b,e,l,a,h.1,rfl,rfl⟩
noncomputable def RC (n:Nat):Code:=((Tryz.f78.body).bind (Code.partAt n)).getD .skip
noncomputable def RD (n:Nat):Code:=((Tryz.f79.body).bind (Code.partAt n)).getD .skip
theorem F6 (x:Cx) (c:DC) (w:World) (v:DV) (l:bX w x.d c v) (k:Int) (O:k=0∨k=1) (q:Nat) (g:q≠x.d) (R:Value) (P:Int) (D i:Bs) (C:Bool) (m:aJ w q (jX R P D i C) 95) (a:Option Addr) (h:c.stk=.pointer a) (Q:Exit→Act→World→Prop)
  (A:∀ f w' y,bX w' x.d y v→(∃ J,y={ c with stk:=.pointer (some ⟨q,0,none⟩),depth:=J })→aJ w' q (jX c.stk k D i C) 95→aM (fun b=>b=x.d∨b=q) w w'→Q .ret (fr 45 f [(4,.pointer (some ⟨q,0,none⟩))]) w') (f:Nat→Value) :
  (RC 5).wp prog Q (fr 45 f [(0,cB x),(1,.int .i64 k),(5,.pointer (some ⟨q,0,none⟩))]) w:=by
 have hc:=l.cell;have hf:=l.frozen;have M:=m.cell;have N:=m.frozen;have d:x.d≠q:=fun e=>g e.symm;have ⟨t,s,u⟩:=mJ l m A;clear l m A;obtain ⟨T,U,V,W,X,Y,j,Z,c9,F,G,H,I⟩:=c;simp only at h;subst h;unfold RC;conv=>arg 2;whnf
 have B:∀ (S:Nat→Prop),S x.d→S q→∀ (n o r:Value),aM S w (((w.setCell ⟨q,0,none⟩ n).setCell ⟨q,1,none⟩ o).setCell ⟨x.d,11,none⟩ r):=fun S L z n o r=>
  (((aM.refl S w).setCell (p:=⟨q,0,none⟩) (aH z) n).setCell (p:=⟨q,1,none⟩) (aH z) o).setCell (p:=⟨x.d,11,none⟩) (aH L) r
 have E:=Lh B;clear B;rcases O with rfl|rfl
 ·refine vg ?_;refine Qk [4] fun f=>?_;refine u.o f _ _ ?_ ⟨IntKind.i64.wrap (j+1),rfl⟩ ?_ ?_
  ·exact ((((show aJ w x.d _ _ from t.o).set_ne (a:=⟨q,0,none⟩) d (.pointer a)).set_ne (a:=⟨q,1,none⟩) d (.int .i64 0)).set 12 (.int .i64 (IntKind.i64.wrap (j+1)))).set 11 (.pointer (some ⟨q,0,none⟩))
  ·exact ((((show aJ w q _ _ from s.o).set 0 (.pointer a)).set 1 (.int .i64 0)).set_ne (a:=⟨x.d,12,none⟩) g (.int .i64 (IntKind.i64.wrap (j+1)))).set_ne (a:=⟨x.d,11,none⟩) g (.pointer (some ⟨q,0,none⟩))
  ·exact ((((aM.refl (fun b=>b=x.d∨b=q) w).setCell (p:=⟨q,0,none⟩) (aH (aW rfl)) _).setCell (p:=⟨q,1,none⟩) (aH (aW rfl)) _).setCell (p:=⟨x.d,12,none⟩) (aH (aH rfl)) _).setCell (p:=⟨x.d,11,none⟩) (aH (aH rfl)) _
 ·refine vg ?_;refine Qk [4] fun f=>?_;refine u.o f _ _ ?_ ⟨j,rfl⟩ ?_ ?_
  ·exact (((show aJ w x.d _ _ from t.o).set_ne (a:=⟨q,0,none⟩) d (.pointer a)).set_ne (a:=⟨q,1,none⟩) d (.int .i64 1)).set 11 (.pointer (some ⟨q,0,none⟩))
  ·exact (((show aJ w q _ _ from s.o).set 0 (.pointer a)).set 1 (.int .i64 1)).set_ne (a:=⟨x.d,11,none⟩) g (.pointer (some ⟨q,0,none⟩))
  ·exact E.o _ (aH rfl) (aW rfl) _ _ _
theorem RE (x:Cx) (c:DC) (w:World) (v:DV) (y:bX w x.d c v) (k:Int) (P:k=0∨k=1) (a:Option Addr) (j:c.stk=.pointer a) (fl:List gT) (G:List Nat) (d:iY w c.free fl G) (o:∀ b∈G,b≠x.d) (n:G.Nodup) :
  Calls prog 78 #[cB x,.int .i64 k] w fun en w'=>∃ q J,en=.returned (.pointer (some ⟨q,0,none⟩))∧F5 x c w v k G w' q J:=by
 have hc:=y.cell;have hf:=y.frozen;have ⟨R,S⟩:=cN y P;rcases d.ptr with ⟨E,rfl,rfl⟩|⟨q,e,l',bs',E,rfl,rfl⟩
 ·have O:x.d≠w.heap.size:=by have:=aJ.lt y;omega
  clear d o n y P;obtain ⟨T,U,V,W,X,c6,Y,c8,Z,A,B,C,D⟩:=c;simp only at j E;subst j E;refine eI 45 func78 [_,_] fun f=>?_;simp only [aF];refine vT 5 ?_;refine cP [0,1,5] fun f=>?_;refine bB (F6 x _ _ v ((show aJ w x.d _ _ from R.o).alloc _) k S.o w.heap.size (fun e=>O e.symm) _ _ [] [] _ (aJ.new w #[.pointer none,.int .i64 0,aB [],aB [],.bool false] 95) a rfl _ ?_ f) (by kernel_rfl);rintro f w' c' s ⟨I,rfl⟩ r t;refine cO ?_;refine ⟨w.heap.size,[],rfl,⟨_,s,_,I,rfl,[],rfl⟩,⟨[],[],false,r⟩,?_,aW ⟨rfl,rfl,rfl⟩⟩;exact (aG ((Below.refl _ w).alloc (dD _) _) _).trans t (fun i _ hi=>hi)
 ·have u:q≠x.d:=o q (by simp);obtain ⟨hp,nx,ok,H,Q,g⟩:=d;obtain ⟨m,L⟩:∃ m,nx=.pointer m:=by
   rcases g.ptr with ⟨h,_⟩|⟨_,_,_,_,h,_⟩
   ·exact ⟨_,h⟩
   ·exact ⟨_,h⟩
  subst L;have aA:=H.cell;have aL:=H.frozen;have aC:x.d≠q:=fun e=>u e.symm;have ⟨HB,HR⟩:=cN H g;have z:=Lh (show ∀ b∈bs',b≠x.d∧b≠q from fun b l=>⟨o b (by simp [l]),fun e=>by
   rw [List.nodup_cons] at n;exact n.1 (e▸l)⟩)
  clear o n y P hp Q g H;obtain ⟨T,U,V,W,X,c6,Y,c8,Z,A,B,C,D⟩:=c;simp only at j E;subst j E;refine eI 45 func78 [_,_] fun f=>?_;simp only [aF];refine vT 5 ?_;refine cP [0,1,5] fun f=>?_;have N:bX (w.setCell ⟨x.d,13,none⟩ (.pointer m)) x.d ⟨T,U,V,W,X,.pointer a,Y,.pointer m,Z,A,B,C,D⟩ v:=(show aJ w x.d _ _ from R.o).set 13 (.pointer m);have M:aJ (w.setCell ⟨x.d,13,none⟩ (.pointer m)) q _ _:=(show aJ w q _ _ from HB.o).set_ne (a:=⟨x.d,13,none⟩) u (.pointer m);refine bB (F6 x _ _ v N k S.o q u _ _ _ _ _ M a rfl _ ?_ f) (by kernel_rfl);rintro f w' c' s ⟨I,rfl⟩ r t;refine cO ?_;have F:aM (fun b=>b=x.d∨b=q) w w':=((aM.refl (fun b=>b=x.d∨b=q) w).setCell (p:=⟨x.d,13,none⟩) (aH (aH rfl)) (.pointer m)).trans t (fun _ _ h=>h);refine ⟨q,bs',rfl,⟨_,s,.pointer m,I,rfl,l',HR.o.mod F (fun b l=>by
   rintro (h|h)
   ·exact (z.o b l).1 h
   ·exact (z.o b l).2 h)⟩,⟨_,_,_,r⟩,F,aH rfl⟩
theorem VJ (x:Cx) (c:DC) (w:World) (v:DV) (a:bX w x.d c v) (b:c.stk=.pointer none) :
  Calls prog 79 #[cB x] w fun d w'=>d=.returned (.pointer none)∧w'=w:=by
 have e:=a.cell;have g:=a.frozen;clear a;refine eI 41 func79 [_] fun f=>?_;simp only [aF];refine vg ?_;refine cO ?_;exact ⟨rfl,rfl⟩
structure x6 (x:Cx) (c:DC) (w:World) (v:DV) (e:gT) (a:List gT) (d:List Nat) (j:List gT) (i:List Nat) (w':World) (q:Nat):Prop where
 dec:∃ f,bX w' x.d f v∧∃ g h,f={ c with stk:=g,free:=.pointer (some ⟨q,0,none⟩),depth:=h }∧iY w' g a d
 free:iY w' (.pointer (some ⟨q,0,none⟩)) (e::j) (q::i)
 mod:aM (fun b=>b=x.d∨b=q) w w'
theorem LB (x:Cx) (c:DC) (w:World) (v:DV) (j:bX w x.d c v) (q:Nat) (d:q≠x.d) (i:Option Addr) (n:Int) (r h:Bs) (o:Bool) (k:aJ w q (jX (.pointer i) n r h o) 95) (a:Option Addr) (g:c.free=.pointer a) (Q:Exit→Act→World→Prop)
  (m:∀ f w',bX w' x.d { c with stk:=.pointer i,free:=.pointer (some ⟨q,0,none⟩) } v→aJ w' q (jX (.pointer a) n r h o) 95→aM (fun b=>b=x.d∨b=q) w w'→Q .normal (fr 41 f [(3,.pointer (some ⟨q,0,none⟩))]) w') (f:Nat→Value) :
  (RD 5).wp prog Q (fr 41 f [(0,cB x),(3,.pointer (some ⟨q,0,none⟩))]) w:=by
 have O:=j.cell;have P:=j.frozen;have C:=k.cell;have D:=k.frozen;have l:x.d≠q:=fun e=>d e.symm;have ⟨t,s,u⟩:=mJ j k m;clear j k m;obtain ⟨E,F,G,H,I,J,L,M,N,y,z,A,B⟩:=c;simp only at g;subst g;unfold RD;conv=>arg 2;whnf
 refine vg ?_;refine Qk [3] fun f=>?_;refine u.o f _ ?_ ?_ ?_
 ·exact (((show aJ w x.d _ _ from t.o).set 11 (.pointer i)).set_ne (a:=⟨q,0,none⟩) l (.pointer a)).set 13 (.pointer (some ⟨q,0,none⟩))
 ·exact (((show aJ w q _ _ from s.o).set_ne (a:=⟨x.d,11,none⟩) d (.pointer i)).set 0 (.pointer a)).set_ne (a:=⟨x.d,13,none⟩) d (.pointer (some ⟨q,0,none⟩))
 ·exact (((aM.refl (fun b=>b=x.d∨b=q) w).setCell (p:=⟨x.d,11,none⟩) (aH (aH rfl)) _).setCell (p:=⟨q,0,none⟩) (aH (aW rfl)) _).setCell (p:=⟨x.d,13,none⟩) (aH (aH rfl)) _
theorem RF (x:Cx) (c:DC) (w:World) (v:DV) (T:bX w x.d c v) (q:Nat) (e:gT) (he:e.kind=0∨e.kind=1) (j:List gT) (i:List Nat) (R:iY w c.stk (e::j) (q::i)) (fl:List gT) (F:List Nat) (d:iY w c.free fl F)
  (E:∀ b∈(q::i)++F,b≠x.d) (D:((q::i)++F).Nodup) :
  Calls prog 79 #[cB x] w fun en w'=>en=.returned (.pointer (some ⟨q,0,none⟩))∧x6 x c w v e j i fl F w' q:=by
 have hc:=T.cell;have hf:=T.frozen;have HD:=Lh T;have l:q≠x.d:=E q (by simp);have aL:x.d≠q:=fun e=>l e.symm;obtain ⟨hp,nx,ok,o,Q,g⟩:=R;obtain ⟨S,aC⟩:∃ S,nx=.pointer S:=by
  rcases g.ptr with ⟨h,_⟩|⟨_,_,_,_,h,_⟩
  ·exact ⟨_,h⟩
  ·exact ⟨_,h⟩
 subst aC;obtain ⟨n,N⟩:∃ n,c.free=.pointer n:=by
  rcases d.ptr with ⟨h,_⟩|⟨_,_,_,_,h,_⟩
  ·exact ⟨_,h⟩
  ·exact ⟨_,h⟩
 have L:=o.cell;have O:=o.frozen;have ⟨HB,HR,s,X⟩:=kV o g d Q;have G:=Lh (show ∀ b,b∈i∨b∈F→¬ (b=x.d∨b=q) from fun b J P=>by
  rw [jJ,List.nodup_cons] at D;rcases P with P|P
  ·exact E b (by rcases J with h|h<;>simp [h]) P
  ·subst P;exact D.1 (by rcases J with h|h<;>simp [h]))
 clear E D T Q g o d;obtain ⟨Y,Z,c3,c4,c5,c6,A,c8,c9,t,u,y,z⟩:=c;simp only at hp N;subst hp N;obtain ⟨ek,H,m,aA⟩:=e;simp only at he
 have r:∀ dp w',bX w' x.d ⟨Y,Z,c3,c4,c5,.pointer S,dp,.pointer (some ⟨q,0,none⟩),c9,t,u,y,z⟩ v→aJ w' q (jX (.pointer n) (ek:Int) H m ok) 95→aM (fun b=>b=x.d∨b=q) w w' →
   x6 x ⟨Y,Z,c3,c4,c5,.pointer (some ⟨q,0,none⟩),A,.pointer n,c9,t,u,y,z⟩ w v ⟨ek,H,m,aA⟩ j i fl F w' q:=fun dp w' B C k=>
  ⟨⟨_,B,.pointer S,dp,rfl,HR.o.mod k (fun b o=>G.o b (aH o))⟩,⟨rfl,.pointer n,ok,C,X.o,s.o.mod k (fun b o=>G.o b (aW o))⟩,k⟩
 have HF:=Lh r;clear r;rcases he with rfl|rfl
 ·refine eI 41 func79 [_] fun f=>?_;simp only [aF];refine vT 5 ?_;intro K hK;refine cP [0,3] fun f=>?_;have M:bX (w.setCell ⟨x.d,12,none⟩ (.int .i64 (IntKind.i64.wrap (A-1)))) x.d ⟨Y,Z,c3,c4,c5,.pointer (some ⟨q,0,none⟩),IntKind.i64.wrap (A-1),.pointer n,c9,t,u,y,z⟩ v:=(show aJ w x.d _ _ from HD.o).set 12 (.int .i64 (IntKind.i64.wrap (A-1)));have I:aJ (w.setCell ⟨x.d,12,none⟩ (.int .i64 (IntKind.i64.wrap (A-1)))) q _ _:=(show aJ w q _ _ from HB.o).set_ne (a:=⟨x.d,12,none⟩) l (.int .i64 (IntKind.i64.wrap (A-1)));refine bB (LB x _ _ v M q l _ _ _ _ _ I n rfl _ ?_ f) (by kernel_rfl);intro f w' B C k;have ⟨U,V⟩:=cN B C;have W:=Lh (((aM.refl (fun b=>b=x.d∨b=q) w).setCell (p:=⟨x.d,12,none⟩) (aH (aH rfl)) (.int .i64 (IntKind.i64.wrap (A-1)))).trans k (fun _ _ h=>h));clear B C k M I hc hf L O;revert K;refine vg ?_;refine cO ?_;exact ⟨rfl,HF.o _ _ U.o V.o W.o⟩
 ·refine eI 41 func79 [_] fun f=>?_;simp only [aF];refine vT 5 ?_;intro K hK;refine cP [0,3] fun f=>?_;refine bB (LB x _ _ v HD.o q l _ _ _ _ _ HB.o n rfl _ ?_ f) (by kernel_rfl);intro f w' B C k;have ⟨U,V,W⟩:=mJ B C k;clear B C k hc hf L O;revert K;refine vg ?_;refine cO ?_;exact ⟨rfl,HF.o _ _ U.o V.o W.o⟩
structure eL (x:Cx) (c:DC) (w:World) (v:DV) (m:Nat) (g f:List Nat) (e:DC) (w':World) (d a:List Nat):Prop where
 dec:bX w' x.d e v
 cs:∃ p q h,e={ c with stk:=p,free:=q,depth:=h }
 mod:aM (fun b=>b=x.d∨b∈m::(g++f)) w w'
 sub:∀ b∈m::(d++a),b∈m::(g++f)∨w.heap.size≤b
theorem eL.trans {x:Cx} {c n o:DC} {w w1 t:World} {v:DV} {m:Nat} {s r g d j e:List Nat} (h:eL x c w v m s r n w1 g d) (k:eL x n w1 v m g d o t j e):eL x c w v m s r o t j e:=by
 obtain ⟨p,q,A,rfl⟩:=h.cs;obtain ⟨y,z,l,rfl⟩:=k.cs;refine ⟨k.dec,⟨y,z,l,rfl⟩,h.mod.trans k.mod (fun i B f=>?_),fun b u=>?_⟩
 ·rcases f with f|f
  ·exact aH f
  ·rcases h.sub i f with a|a
   ·exact aW a
   ·omega
 ·rcases k.sub b u with a|a
  ·exact h.sub b a
  ·exact aW (fX h.mod.size a)
theorem iY.isPtr {w:World} {p:Value} {l:List gT} {b:List Nat} (h:iY w p l b):∃ a,p=.pointer a:=by
 rcases h.ptr with ⟨h,_⟩|⟨_,_,_,_,h,_⟩
 ·exact ⟨_,h⟩
 ·exact ⟨_,h⟩
theorem m5.pushed {x:Cx} (hx:x.Ok) {w w1 w':World} {c:DC} {v:DV} {m:Nat} {o r:List Nat} {n:Nat} {H:List gT} {W:Bs→Option Bs} (h:m5 x w c v m o r n H W) (F:∀ k,x.S1 v k→k<w.heap.size) (Z:x.B≤w.heap.size) {k:Int} {q:Nat} {f:List Nat} (J:F5 x c w v k r w1 q f)
  (R:aM (fun b=>b=q) w1 w') (e:gT) (U:Bool) (S:e.kind=1→U=e.ok) (j:aJ w' q (jX c.stk e.kind e.space e.loc U) 95) :
  ∃ M,eL x c w v m o r M w' (q::o) f∧m5 x w' M v m (q::o) f n (e::H) W:=by
 obtain ⟨M,hd,⟨nx,dp,rfl,Y,P⟩⟩:=J.dec;have D:=h.nodup;have G:∀ b∈m::(o++r),b≠x.d:=fun b j z=>h.s1 b j (aH (aH z));have T:q∉m::o∧q∉f∧q≠x.d∧x.B≤q∧¬ x.S1 v q∧(q∈r∨w.heap.size≤q)∧(∀ b∈f,b∈r):=by
  rcases J.fbs with rfl|⟨rfl,rfl,rfl⟩
  ·have t:(m::(o++q::f)).Nodup:=D;have u:q∈m::(o++q::f):=by simp
   refine ⟨?_,?_,G q u,h.base q u,h.s1 q u,aH (by simp),fun b j=>by simp [j]⟩
   ·intro g;have B:(m::o++q::f).Nodup:=t;exact (List.nodup_append.1 B).2.2 q g q (by simp) rfl
   ·intro g;have B:(m::o++q::f).Nodup:=t;exact (List.nodup_cons.1 (List.nodup_append.1 B).2.1).1 g
  ·refine ⟨fun g=>?_,by simp,?_,Z,fun g=>Nat.lt_irrefl _ (F _ g),aW (dD _),by simp⟩
   ·have:=h.lt w.heap.size (by simp at g ⊢;exact g);omega
   ·intro z;have:=F x.d (aH (aH rfl));omega
 obtain ⟨L,V,q3,q4,q5,X,A⟩:=T;have l:aM (fun b=>b=x.d∨b=q) w w':=J.mod.trans R (fun i _ Q=>aW Q);have E:∀ b∈m::(o++f),¬ (b=x.d∨b=q):=by
  intro b O g;have p:b=m∨b∈o∨b∈f:=by simpa using O
  have N:b∈m::(o++r):=by
   rcases p with h|h|h
   ·simp [h]
   ·simp [h]
   ·simp [A b h]
  rcases g with g|g
  ·exact G b N g
  ·rw [g] at p;rcases p with h|h|h
   ·exact L (by simp [h])
   ·exact L (by simp [h])
   ·exact V h
 refine ⟨_,⟨aJ.mod hd R (fun z=>q3 z.symm),⟨_,_,_,rfl⟩,?_,?_⟩,⟨⟨rfl,c.stk,U,j,S,h.stk.mod l (fun b j=>E b (by simp [j]))⟩,⟨Y,P.mod R (fun b j z=>V (z▸j))⟩,h.map,h.ns.mod l (E m (by simp)),?_,?_,?_⟩⟩
 ·refine ⟨l.os,l.tape,l.output,l.size,fun i Q hn=>l.block i Q (fun g=>hn ?_)⟩;rcases g with g|g
  ·exact aH g
  ·subst g;rcases X with y|y
   ·exact aW (by simp [y])
   ·omega
 ·intro b j;simp only [mH,List.mem_append,jJ] at j;rcases j with d|d|d|d
  ·exact aH (by simp [d])
  ·subst d;rcases X with y|y
   ·exact aH (by simp [y])
   ·exact aW y
  ·exact aH (by simp [d])
  ·exact aH (by simp [A b d])
 ·have B:(m::o++r).Nodup:=D;have I:=List.nodup_append.1 B;have s:=List.nodup_cons.1 I.1;have C:f.Nodup:=by
   rcases J.fbs with rfl|⟨rfl,rfl,rfl⟩
   ·exact (List.nodup_cons.1 I.2.1).2
   ·simp
  rw [List.nodup_cons];refine ⟨?_,?_⟩
  ·intro g;simp only [jJ,mH,List.mem_append] at g;rcases g with d|d|d
   ·exact L (by simp [d])
   ·exact s.1 d
   ·exact I.2.2 m (by simp) m (A m d) rfl
  ·rw [jJ,List.nodup_cons];refine ⟨?_,?_⟩
   ·intro g;rcases List.mem_append.1 g with d|d
    ·exact L (by simp [d])
    ·exact V d
   ·rw [List.nodup_append];exact ⟨s.2,C,fun a ha b j=>I.2.2 a (by simp [ha]) b (A b j)⟩
 ·intro b j;simp only [mH,List.mem_append,jJ] at j;rcases j with d|d|d|d
  ·exact h.base b (by simp [d])
  ·subst d;exact q4
  ·exact h.base b (by simp [d])
  ·exact h.base b (by simp [A b d])
 ·intro b j;simp only [mH,List.mem_append,jJ] at j;rcases j with d|d|d|d
  ·exact h.s1 b (by simp [d])
  ·subst d;exact q5
  ·exact h.s1 b (by simp [d])
  ·exact h.s1 b (by simp [A b d])
theorem m5.freeNd {x:Cx} {w:World} {c:DC} {v:DV} {m:Nat} {e a:List Nat} {n:Nat} {d:List gT} {j:Bs→Option Bs} (h:m5 x w c v m e a n d j):a.Nodup∧∀ b∈a,b≠x.d:=by
 have f:(m::e++a).Nodup:=h.nodup;exact ⟨(List.nodup_append.1 f).2.1,fun b g i=>h.s1 b (by simp [g]) (aH (aH i))⟩
theorem F7 (x:Cx) (F:x.Ok) (c:DC) (w:World) (v:DV) (E:bX w x.d c v) (o:∀ k,x.S1 v k→k<w.heap.size) (C:x.B≤w.heap.size) (m:Nat) (J A:List Nat) (n:Nat) (s:List gT) (I:Bs→Option Bs) (h:m5 x w c v m J A n s I) (d e:Bs) (g:Bool) :
  Calls prog 38 #[cB x,aB d,aB e,.bool g] w fun O w'=>O=.returned (.tuple #[])∧∃ t r i,eL x c w v m J A t w' r i∧m5 x w' t v m r i n ({ kind:=1,space:=e,loc:=d,ok:=g }::s) I:=by
 obtain ⟨P,j⟩:=h.free;obtain ⟨a,D⟩:=h.stk.isPtr;have l:=Lh (RE x c w v E 1 (aW rfl) a D P A j h.freeNd.2 h.freeNd.1);have ⟨H,N,z,L⟩:=kV h F o C;clear h F E o C j D;refine eI 25 func38 [_,_,_,_] fun f=>?_;simp only [aF];refine vg ?_;intro K hK K hK;refine l.o.mono ?_;rintro X w1 ⟨q,i,rfl,B⟩;obtain ⟨W,G,V,u⟩:=B.blk;have S:=u.cell;have T:=u.frozen;have ⟨y,M⟩:=cN u B;clear u B l;(repeat revert K);refine vS ?_;refine kF ?_;refine kU rfl ?_;have U:aM (fun b=>b=q) w1 (((w1.setCell ⟨q,3,none⟩ (aB d)).setCell ⟨q,2,none⟩ (aB e)).setCell ⟨q,4,none⟩ (.bool g)):=(((aM.refl (fun b=>b=q) w1).setCell (p:=⟨q,3,none⟩) (aH rfl) _).setCell (p:=⟨q,2,none⟩) (aH rfl) _).setCell (p:=⟨q,4,none⟩) (aH rfl) _;obtain ⟨t,Q,R⟩:=H.o.pushed N.o z.o L.o M.o U { kind:=1,space:=e,loc:=d,ok:=g } g (fun _=>rfl) (((y.o.set 3 (aB d)).set 2 (aB e)).set 4 (.bool g));exact ⟨rfl,t,_,_,Q,R⟩
theorem BB (x:Cx) (S:x.Ok) (c:DC) (w:World) (v:DV) (R:bX w x.d c v) (E:∀ k,x.S1 v k→k<w.heap.size) (P:x.B≤w.heap.size) (m:Nat) (O I:List Nat) (n:Nat) (r:List gT) (M:Bs→Option Bs) (h:m5 x w c v m O I n r M) (nm:Bs×Bs) :
  Calls prog 39 #[cB x,.agg #[aB nm.1,aB nm.2]] w fun Y w'=>Y=.returned (.tuple #[])∧∃ G F j,eL x c w v m O I G w' F j∧m5 x w' G v m F j n ({ kind:=0,space:=nm.1,loc:=nm.2,ok:=false }::r) M:=by
 have o:aM (fun _=>False) w (w.alloc (.cells #[aB nm.1,aB nm.2] 89)):=aG ((Below.refl _ w).alloc (dD _) _) _;have u:bX (w.alloc (.cells #[aB nm.1,aB nm.2] 89)) x.d c v:=(show aJ w x.d _ _ from R).alloc _;have d:m5 x (w.alloc (.cells #[aB nm.1,aB nm.2] 89)) c v m O I n r M:=h.mod o (fun _ _=>id) h.s1;obtain ⟨Z,y⟩:=d.free;obtain ⟨a,Q⟩:=d.stk.isPtr;have D:=Lh (RE x c _ v u 0 (aH rfl) a Q Z I y d.freeNd.2 d.freeNd.1);have A:=aJ.new w #[aB nm.1,aB nm.2] 89;have ⟨L,H,U,X,t,V⟩:=iH A d h S E P;have i:=Lh o;clear h d S R u E P y Q A o;refine eI 11 func39 [_,_] fun f=>?_;simp only [aF];refine vg ?_;intro K hK K hK;refine D.o.mono ?_;rintro e1 w1 ⟨q,j,rfl,C⟩;obtain ⟨a1,T,N,s⟩:=C.blk;have aC:=s.cell;have a0:=s.frozen;have ⟨J,W⟩:=cN s C;have B:w.heap.size≠x.d∧w.heap.size≠q:=by
  refine ⟨fun e=>?_,fun e=>?_⟩
  ·have:=t.o x.d (aH (aH rfl));omega
  ·rcases C.fbs with l|⟨_,_,l⟩
   ·have:=U.o.lt q (by rw [l];simp);omega
   ·simp at l;omega
 have g:=L.o.mod C.mod (fun z=>by rcases z with z|z;exact B.1 z;exact B.2 z);have aA:=g.cell;have aL:=g.frozen;clear s C D g;(repeat revert K);refine vS ?_;refine kF ?_;refine kU rfl ?_;have hm:aM (fun b=>b=q) w1 ((w1.setCell ⟨q,2,none⟩ (aB nm.1)).setCell ⟨q,3,none⟩ (aB nm.2)):=((aM.refl (fun b=>b=q) w1).setCell (p:=⟨q,2,none⟩) (aH rfl) _).setCell (p:=⟨q,3,none⟩) (aH rfl) _;obtain ⟨G,d,h2⟩:=H.o.pushed X.o (fun k hk=>oX (t.o k hk) i.o.size) (fX V.o i.o.size) W.o hm { kind:=0,space:=nm.1,loc:=nm.2,ok:=false } N (fun h=>by cases h) ((J.o.set 2 (aB nm.1)).set 3 (aB nm.2));refine ⟨rfl,G,_,_,⟨d.dec,d.cs,(i.o.mono (fun _ _ h=>h.elim)).trans d.mod (fun _ _ h=>h),fun b s=>?_⟩,h2⟩;rcases d.sub b s with l|l
 ·exact aH l
 ·exact aW (fX i.o.size l)
theorem kO.drewN {w:World} {m n:Nat} {a:Bs→Option Bs} (h:kO w m n a) (k:Nat):kO (w.drewN k) m n a:=h.mod (S:=fun _=>False) (aG (show Below w.heap.size w (w.drewN k) from ⟨rfl,rfl,rfl,dD _,fun _ _=>rfl⟩) _) id
abbrev kA:Bs:=[120,109,108,110,115]
theorem RG {cs:Array Value} {o:Nat} {v:Value} (h:cs[o]?=some v):cs.setIfInBounds o v=cs:=by
 apply Array.ext
 ·simp
 ·intro i b a;rw [Array.getElem_setIfInBounds a];split
  ·rename_i e;subst e;rw [Array.getElem?_eq_getElem a] at h;simpa using h.symm
  ·rfl
def lG (w:World) (g:Nat) (cs:Array Value) (t:TypeId) (o:Nat) (s:Bs) (w':World):Prop:=
 aM (fun k=>k=g) w w'∧aJ w' g (cs.setIfInBounds o (aB s)) t∧w'.heap.size=w.heap.size
theorem lG.keep {w:World} {g:Nat} {cs:Array Value} {t:TypeId} {o:Nat} {s:Bs} (a:aJ w g cs t) (h:cs[o]?=some (aB s)) (k:Nat):lG w g cs t o s (w.drewN k):=
 ⟨(aM.refl _ w).drewN k,by rw [RG h];exact a,rfl⟩
theorem lG.one {w:World} {g:Nat} {cs:Array Value} {t:TypeId} {o:Nat} (s:Bs) (a:aJ w g cs t) (k:Nat):lG w g cs t o s ((w.drewN k).setCell ⟨g,o,none⟩ (aB s)):=
 ⟨((aM.refl (fun k=>k=g) w).drewN k).setCell (p:=⟨g,o,none⟩) (aH rfl) _,(show aJ (w.drewN k) g cs t from a).set o (aB s),by simp [World.setCell]⟩
theorem rL (x:Cx) (c:DC) (w:World) (v:DV) (L:bX w x.d c v) (m n:Nat) (d:Bs→Option Bs) (B:c.ns=.map (some m)) (H:kO w m n d) (I:c.space=⟨x.o.space.toArray⟩)
  (g:Nat) (cs:Array Value) (t:TypeId) (E:aJ w g cs t) (P:g≠x.d) (Q:g≠m) (o:Nat) (nm:Bs×Bs) (O:cs[o]?=some (aB nm.1)) (R:cs[o+1]?=some (aB nm.2)) (hl:nm.1.length≤100000000000) (r:Bool) :
  Calls prog 40 #[cB x,.pointer (some ⟨g,o,none⟩),.bool r] w fun Z w'=>Z=.returned (.tuple #[])∧lG w g cs t o (cX x.o d nm r).1 w':=by
 have aA:x.d≠g:=fun e=>P e.symm;have hc:=L.cell;have hf:=L.frozen;have F:w.cell? ⟨g,o,none⟩=some (aB nm.1):=(E.cell o).trans O;have G:w.cell? ⟨g,o+1,none⟩=some (aB nm.2):=(E.cell (o+1)).trans R;have aC:=E.frozen;have ⟨z,HD,D,J⟩:=kV E L H O;obtain ⟨c1,c2,c3,c4,c5,c6,c7,c8,c9,V,W,X,Y⟩:=c;simp only at B I;subst B I;clear E L H O R;obtain ⟨q,j⟩:=nm;simp only at F G hl;by_cases e1:q=kA
 ·subst e1;refine eI 75 func40 [_,_,_] fun f=>?_;simp only [aF];refine vg ?_;intro K hK;refine kU rfl ?_;exact ⟨rfl,lG.keep z.o J.o 0⟩
 obtain ⟨a1,a2⟩:=sY e1;by_cases e2:q=[]
 ·subst e2;cases r with
  | false=>
   refine eI 75 func40 [_,_,_] fun f=>?_;simp only [aF];refine vg ?_;intro K hK;refine kU rfl ?_;exact ⟨rfl,lG.keep z.o J.o 0⟩
  | true=>
   by_cases e3:j=kA
   ·subst e3;refine eI 75 func40 [_,_,_] fun f=>?_;simp only [aF];refine vg ?_;intro K hK;refine kU rfl ?_;exact ⟨rfl,lG.keep z.o J.o 0⟩
   obtain ⟨b1,U⟩:=sY e3;have a:=fun k=>(D.o.drewN k).look [] (by simp);have A:=Lh (show cX x.o d ([],j) true=(match d [] with|some v=>(v,j)|none=>(x.o.space,j)) by
    unfold cX;rw [aN (show ¬ (([]:Bs)=bF) by decide),aN (by simp),aN (by rintro ⟨_,_,h⟩;exact e3 h)];simp only [show ¬ (([]:Bs)=nA) by decide,if_false];cases d []<;>rfl)
   clear e1 e3;cases l:d [] with
   | some u=>
    rw [l] at a;simp only [Option.isSome_some,Option.getD_some] at a;have b:=Lh (show (cX x.o d ([],j) true).1=u by rw [A.o,l]);refine eI 75 func40 [_,_,_] fun f=>?_;simp only [aF];refine vg ?_;intro K hK;refine cP [0,1] fun f=>?_;go_quiet (fail);revert K;refine vg ?_;refine kF ?_;refine kU rfl ?_;rw [b.o];exact ⟨rfl,lG.one u z.o _⟩
   | none=>
    rw [l] at a;simp only [Option.isSome_none,Option.getD_none] at a;have b:=Lh (show (cX x.o d ([],j) true).1=x.o.space by rw [A.o,l]);refine eI 75 func40 [_,_,_] fun f=>?_;simp only [aF];refine vg ?_;intro K hK;refine cP [0,1] fun f=>?_;go_quiet (fail);revert K;refine vg ?_;refine kF ?_;refine kU rfl ?_;rw [b.o];exact ⟨rfl,lG.one x.o.space z.o _⟩
 obtain ⟨b1,U⟩:=sY e2;by_cases e3:q=wG
 ·subst e3;have y:aJ (w.setCell ⟨g,o,none⟩ (aB eB)) g (cs.setIfInBounds o (aB eB)) t:=(show aJ w g cs t from z.o).set o (aB eB);have C:kO (w.setCell ⟨g,o,none⟩ (aB eB)) m n d:=D.o.mod (S:=fun k=>k=g) ((aM.refl (fun k=>k=g) w).setCell (p:=⟨g,o,none⟩) (aH rfl) _) (fun e=>Q e.symm);have a:=fun k=>(C.drewN k).look eB (by decide);have T:=Lh y;have N:=Lh (show ∀ s k,lG w g cs t o s (((w.setCell ⟨g,o,none⟩ (aB eB)).drewN k).setCell ⟨g,o,none⟩ (aB s)) from fun s k=>by
   refine ⟨(((aM.refl (fun i=>i=g) w).setCell (p:=⟨g,o,none⟩) (aH rfl) _).drewN k).setCell (p:=⟨g,o,none⟩) (aH rfl) _,?_,by simp [World.setCell]⟩;have:=(show aJ ((w.setCell ⟨g,o,none⟩ (aB eB)).drewN k) g _ t from y).set o (aB s);simpa using this)
  have M:=Lh (show ∀ k,lG w g cs t o eB ((w.setCell ⟨g,o,none⟩ (aB eB)).drewN k) from fun k=>
   ⟨((aM.refl (fun i=>i=g) w).setCell (p:=⟨g,o,none⟩) (aH rfl) _).drewN k,y,by simp [World.setCell]⟩)
  have A:=Lh (show cX x.o d (wG,j) r=(match d eB with|some v=>(v,j)|none=>(eB,j)) by
   unfold cX;rw [aN (show ¬ (wG=bF) by decide),aN (by simp),aN (by rintro ⟨h,_⟩;exact h rfl)];simp only [show wG=nA from rfl,if_true,show ¬ (eB=[]) by decide,if_false];cases d eB<;>rfl)
  clear e1 e2 y C;cases l:d eB with
  | some u=>
   rw [l] at a;simp only [Option.isSome_some,Option.getD_some,aB,eB] at a;have b:=Lh (show (cX x.o d (wG,j) r).1=u by rw [A.o,l]);cases r
   all_goals
    refine eI 75 func40 [_,_,_] fun f=>?_;simp only [aF];refine vg ?_;intro K hK;refine cP [0,1] fun f=>?_;go_quiet (fail);revert K;refine vg ?_;refine kF ?_;refine kU rfl ?_;rw [b.o];exact ⟨rfl,N.o u _⟩
  | none=>
   rw [l] at a;simp only [Option.isSome_none,Option.getD_none,aB,eB] at a;have b:=Lh (show (cX x.o d (wG,j) r).1=eB by rw [A.o,l]);cases r
   all_goals
    refine eI 75 func40 [_,_,_] fun f=>?_;simp only [aF];refine vg ?_;intro K hK;refine cP [0,1] fun f=>?_;go_quiet (fail);revert K;refine vg ?_;refine kF ?_;refine kU rfl ?_;rw [b.o];exact ⟨rfl,M.o _⟩
 ·obtain ⟨d1,d2⟩:=sY e3;have a:=fun k=>(D.o.drewN k).look q (by unfold maxLen;omega);have A:=Lh (show cX x.o d (q,j) r=(match d q with|some v=>(v,j)|none=>(q,j)) by
   unfold cX;rw [aN (show ¬ (q=bF) from e1),aN (by rintro ⟨h,_⟩;exact e2 h),aN (by rintro ⟨_,h,_⟩;exact e2 h)];simp only [show ¬ (q=nA) from e3,if_false,e2];cases d q<;>rfl)
  clear e1 e2 e3;cases l:d q with
  | some u=>
   rw [l] at a;simp only [Option.isSome_some,Option.getD_some] at a;have b:=Lh (show (cX x.o d (q,j) r).1=u by rw [A.o,l]);cases r
   all_goals
    refine eI 75 func40 [_,_,_] fun f=>?_;simp only [aF];refine vg ?_;intro K hK;refine cP [0,1] fun f=>?_;go_quiet (fail);revert K;refine vg ?_;refine kF ?_;refine kU rfl ?_;rw [b.o];exact ⟨rfl,lG.one u z.o _⟩
  | none=>
   rw [l] at a;simp only [Option.isSome_none,Option.getD_none] at a;have b:=Lh (show (cX x.o d (q,j) r).1=q by rw [A.o,l]);cases r
   all_goals
    refine eI 75 func40 [_,_,_] fun f=>?_;simp only [aF];refine vg ?_;intro K hK;refine cP [0,1] fun f=>?_;go_quiet (fail);revert K;refine vg ?_;refine kF ?_;refine kU rfl ?_;rw [b.o];exact ⟨rfl,lG.keep z.o J.o _⟩
theorem m5.popped {x:Cx} {w w':World} {c:DC} {v:DV} {m q:Nat} {g f:List Nat} {n:Nat} {e:gT} {i:List gT} {u:Bs→Option Bs} (h:m5 x w c v m (q::g) f n (e::i) u) {z:List gT} (k:x6 x c w v e i g z f w' q) :
  ∃ l,eL x c w v m (q::g) f l w' g (q::f)∧m5 x w' l v m g (q::f) n i u∧(∃ y,l.free=.pointer (some ⟨q,0,none⟩)∧∃ o,aJ w' q (jX y e.kind e.space e.loc o) 95∧(e.kind=1→o=e.ok)):=by
 obtain ⟨l,B,y,D,rfl,r⟩:=k.dec;have d:∀ b,b∈m::(g++q::f)↔b∈m::((q::g)++f):=by
  intro b;simp only [mH,List.mem_append,jJ];constructor
  ·rintro (h|h|h|h)
   ·exact aH h
   ·exact aW (aW (aH h))
   ·exact aW (aH h)
   ·exact aW (aW (aW h))
  ·rintro (h|h|h|h)
   ·exact aH h
   ·exact aW (aW (aH h))
   ·exact aW (aH h)
   ·exact aW (aW (aW h))
 have s:∀ b∈m::((q::g)++f),b≠x.d:=fun b a j=>h.s1 b a (aH (aH j));have p:¬ (m=x.d∨m=q):=by
  rintro (j|j)
  ·exact s m (by simp) j
  ·have:=(List.nodup_cons.1 h.nodup).1;exact this (by simp [j])
 refine ⟨_,⟨B,⟨_,_,_,rfl⟩,k.mod.mono (fun b _ a=>?_),fun b a=>aH ((d b).1 a)⟩,⟨r,⟨_,k.free⟩,h.map,h.ns.mod k.mod p,?_,fun b a=>h.base b ((d b).1 a),fun b a=>h.s1 b ((d b).1 a)⟩,?_⟩
 ·rcases a with a|a
  ·exact aH a
  ·exact aW (by simp [a])
 ·have A:(m::(q::g++f)).Nodup:=h.nodup;have:(m::(q::g++f)).Perm (m::(g++q::f)):=by
   refine List.Perm.cons m ?_;exact (List.perm_middle).symm
  exact this.nodup_iff.1 A
 ·obtain ⟨_,t,o,a,C,_⟩:=k.free;exact ⟨t,rfl,o,a,C⟩
theorem m5.turned {x:Cx} {w w':World} {c:DC} {v:DV} {m:Nat} {i g:List Nat} {n l:Nat} {f:List gT} {s e:Bs→Option Bs} (h:m5 x w c v m i g n f s) (j:aM (fun k=>k=m) w w') (r:kO w' m l e):m5 x w' c v m i g l f e:=by
 obtain ⟨o,q⟩:=h.free;have d:∀ b∈i++g,¬ b=m:=fun b a p=>(List.nodup_cons.1 h.nodup).1 (p▸a);exact ⟨h.stk.mod j (fun b a=>d b (by simp [a])),⟨o,q.mod j (fun b a=>d b (by simp [a]))⟩,h.map,r,h.nodup,h.base,h.s1⟩
noncomputable def RH (n:Nat):Code:=((Tryz.f41.body).bind (Code.partAt n)).getD .skip
def lH (a:List gT):Prop:=∀ e∈a,(e.kind=0∨e.kind=1)∧e.space.length≤100000000000∧e.loc.length≤100000000000
def Cg (x:Cx) (c0:DC) (w0:World) (v:DV) (m:Nat) (h e:List Nat) (o:Nat) (d:List gT) (g:Bs→Option Bs) (k:Nat) (a:Act) (w:World):Prop:=
 ∃ f c l i n b j,a=fr 179 f [(0,cB x)]∧eL x c0 w0 v m h e c w l i∧m5 x w c v m l i n b j∧k=b.length∧fA d g=fA b j∧n+b.length≤o+d.length∧lH b
theorem eL.refl {x:Cx} {c:DC} {w:World} {v:DV} (e:bX w x.d c v) (m:Nat) (b a:List Nat):eL x c w v m b a c w b a:=
 ⟨e,⟨c.stk,c.free,c.depth,rfl⟩,aM.refl _ _,fun _ d=>aH d⟩
theorem ZH (x:Cx) (hx:x.Ok) (c0:DC) (w0:World) (v:DV) (hd:bX w0 x.d c0 v) (m:Nat) (B r:List Nat) (M:Nat) (a:List gT) (o:Bs→Option Bs) (h:m5 x w0 c0 v m B r M a o) (t:lH a) (hn:M+a.length≤100000000000) (Q:Exit→Act→World→Prop)
  (hQ:∀ f c w sb l n,eL x c0 w0 v m B r c w sb l→m5 x w c v m sb l n (fA a o).1 (fA a o).2→n+(fA a o).1.length≤M+a.length→Q .normal (fr 179 f [(0,cB x)]) w) (f:Nat→Value) (c1:Code) (bA:c1=.loop (RH 21)) :
  c1.wp prog (Exit.inBlock 1 Q) (fr 179 f [(0,cB x)]) w0:=by
 subst bA;have ⟨HX,HQ,HN⟩:=mJ hx hQ hn;refine wp_loop_ghost_k (Cg x c0 w0 v m B r M a o) a.length ⟨f,c0,B,r,M,a,o,rfl,eL.refl hd m B r,h,rfl,rfl,dD _,t⟩ ?_;clear h t hd hx hQ hn;rintro k _ w ⟨f,c,sb,l,n,b4,Z,rfl,hs,D,hk,hu,hn,t⟩ J K2 hJ a2;have ⟨HJ,aC,HS,HO,HK,HU⟩:=iH hJ a2 hs D hk hu;have ⟨p,E⟩:=cN hn t;have hc:=hs.dec.cell;have hf:=hs.dec.frozen;have HD:=Lh hs.dec;clear hJ a2 hs hk hu hn t;unfold RH;conv=>arg 2;whnf
 rcases D.stk.ptr with ⟨h1,h2,Y⟩|⟨q,e,stk',sb',h1,h2,Y⟩
 ·subst h2 Y;clear D;refine vg ?_;intro K hK;refine Qk [0] fun f=>?_;have i:=HU.o;rw [show fA [] Z=([],Z) from rfl] at i;refine HQ.o f c w [] l n HS.o ?_ ?_
  ·rw [i];exact HO.o
  ·rw [i];exact p.o
 ·subst h2 Y;have b0:=D.stk;obtain ⟨_,nx,ok,C,a7,u⟩:=b0;have U:=C.cell;have bC:=C.frozen;have d:=(E.o e (by simp)).1;rcases d with d|d
  ·have i:=HU.o;have A:fA (e::stk') Z=(e::stk',Z):=by unfold fA;rw [aV d]
   rw [A] at i;have a0:=Lh i;clear D C a7 u i A;rw [d] at U;refine vg ?_;intro K hK;refine Qk [0] fun f=>?_;refine HQ.o f c w (q::sb') l n HS.o ?_ ?_
   ·rw [a0.o];exact HO.o
   ·rw [a0.o];exact p.o
  ·have A:fA (e::stk') Z=fA stk' (iA Z e.loc (if e.ok then some e.space else none)):=by
    conv=>lhs;unfold fA
    rw [aN (by rw [d];decide)]
   have a1:=Lh (HU.o.trans A);obtain ⟨fl,a4⟩:=D.free;have Y:(m::((q::sb')++l)).Nodup:=D.nodup;have L:=Lh (RF x c w v HD.o q e (aW d) stk' sb' D.stk fl l a4 (fun b C he=>D.s1 b (List.mem_cons_of_mem _ C) (aH (aH he))) (List.nodup_cons.1 Y).2);have a9:=Lh d;rw [d] at U;clear D C a7 u A a4 Y;refine vg ?_;intro K hK K hK;refine L.o.mono ?_;rintro e1 w1 ⟨rfl,hp⟩;obtain ⟨c1,y,X,b1,a5,b2,T,a6⟩:=HO.o.popped hp;have a8:=a6 a9.o;subst a8;have hc:=y.dec.cell;have hf:=y.dec.frozen;have U:=T.cell;have bC:=T.frozen;have I:=X.map;have ⟨aL,j⟩:=cN y X;have aA:=Lh y.dec;have N:=Lh (E.o e (by simp)).2;obtain ⟨p1,p2,p3,p4,p5,p6,p7,p8,p9,F,G,H,b3⟩:=c1;simp only at I;subst I;clear hp y X T a6 L a5;cases a3:e.ok with
   | true=>
    (repeat revert K);refine vS ?_;(refine lX [0,0,0,1,0,0,0,0,1,0,0,0,0,1,2] [0,1,2,3,4,5,6,7,8,9,10,11,12,13,14] ?_;refine vP ?_;repeat with_reducible intro nq)
    refine bK rfl rfl (fun nq K hK=>?_);obtain ⟨w2,bL,s,z⟩:=(j.o.ns.drewN nq).store (by have h9:n+(e::stk').length≤M+a.length:=p.o;have:=HN.o;unfold maxLen;rw [gN] at h9;omega) e.loc e.space (by have:=N.o.2;unfold maxLen;omega) (by have:=N.o.1;unfold maxLen;omega);have ⟨O,P⟩:=cN s z;clear s z;go_simp;refine hK.out _ _ ?_;clear hK K;(refine vP ?_;repeat with_reducible intro nq)
    (try refine vg ?_)
    have g:aM (fun k=>k=m) w1 (w2.drewN nq):=((show aM (fun k=>k=m) w1 (w1.drewN _) from (aM.refl _ w1).drewN _).trans (lR P.o) (fun _ _ h=>h)).drewN nq;have R:=j.o.turned g (O.o.drewN nq);have W:x.d≠m:=fun e=>j.o.s1 m (by simp) (aH (aH e.symm));have S:eL x ⟨p1,p2,p3,p4,p5,p6,p7,p8,p9,F,G,H,.map (some m)⟩ w1 v m sb' (q::l) ⟨p1,p2,p3,p4,p5,p6,p7,p8,p9,F,G,H,.map (some m)⟩ (w2.drewN nq) sb' (q::l):=⟨aJ.mod aA.o g W,⟨_,_,_,rfl⟩,g.mono (fun _ _ h=>aW (by simp [h])),fun _ C=>aH C⟩;refine Kk [0] fun f=>?_;refine aC.o _ _ ⟨stk'.length,by rw [HK.o];simp,HJ.o _ _ _ ⟨f,_,sb',q::l,n+1,stk',_,rfl,HS.o.trans (aL.o.trans S),R,rfl,?_,?_,fun e' V=>E.o e' (by simp [V])⟩⟩
    ·rw [a1.o,a3];rfl
    ·have h9:n+(e::stk').length≤M+a.length:=p.o;rw [gN] at h9;omega
   | false=>
    (repeat revert K);refine vS ?_;(refine lX [0,0,0,1,0,0,0,0,1,2] [0,1,2,3,4,5,6,7,8,9] ?_;refine vP ?_;repeat with_reducible intro nq)
    refine bK rfl rfl (fun nq K hK=>?_);obtain ⟨w2,bL,s,z⟩:=(j.o.ns.drewN nq).drop e.loc (by have:=N.o.2;unfold maxLen;omega) 0;have ⟨O,P⟩:=cN s z;clear s z;go_simp;refine hK.out _ _ ?_;clear hK K;(refine vP ?_;repeat with_reducible intro nq)
    (try refine vg ?_)
    have g:aM (fun k=>k=m) w1 (w2.drewN nq):=((show aM (fun k=>k=m) w1 (w1.drewN _) from (aM.refl _ w1).drewN _).trans (lR P.o) (fun _ _ h=>h)).drewN nq;have R:=j.o.turned g (O.o.drewN nq);have W:x.d≠m:=fun e=>j.o.s1 m (by simp) (aH (aH e.symm));have S:eL x ⟨p1,p2,p3,p4,p5,p6,p7,p8,p9,F,G,H,.map (some m)⟩ w1 v m sb' (q::l) ⟨p1,p2,p3,p4,p5,p6,p7,p8,p9,F,G,H,.map (some m)⟩ (w2.drewN nq) sb' (q::l):=⟨aJ.mod aA.o g W,⟨_,_,_,rfl⟩,g.mono (fun _ _ h=>aW (by simp [h])),fun _ C=>aH C⟩;refine Kk [0] fun f=>?_;refine aC.o _ _ ⟨stk'.length,by rw [HK.o];simp,HJ.o _ _ _ ⟨f,_,sb',q::l,n,stk',_,rfl,HS.o.trans (aL.o.trans S),R,rfl,?_,?_,fun e' V=>E.o e' (by simp [V])⟩⟩
    ·rw [a1.o,a3];rfl
    ·have h9:n+(e::stk').length≤M+a.length:=p.o;rw [gN] at h9;omega
def rM (c a:DC):Prop:=∃ p q d b e f,a={ c with stk:=p,free:=q,depth:=d,needClose:=b,tcs:=e,tcl:=f }
theorem rM.trans {a b c:DC} (h:rM a b) (k:rM b c):rM a c:=by
 obtain ⟨_,_,_,_,_,_,rfl⟩:=h;obtain ⟨p,q,d,b,e,f,rfl⟩:=k;exact ⟨p,q,d,b,e,f,rfl⟩
theorem rK.toD {c a:DC} (h:rK c a):rM c a:=by
 obtain ⟨b,p,q,rfl⟩:=h;exact ⟨c.stk,c.free,c.depth,b,p,q,rfl⟩
theorem eL.same {x:Cx} {c:DC} {w:World} {v:DV} {m:Nat} {g f:List Nat} {d:DC} {w':World} {b a:List Nat} (h:eL x c w v m g f d w' b a):rM c d:=by
 obtain ⟨p,q,e,rfl⟩:=h.cs;exact ⟨p,q,e,c.needClose,c.tcs,c.tcl,rfl⟩
theorem cK.own {x:Cx} (g:x.Ok) {c m:DC} {w w':World} {v:DV} {rest:Bs} {e:Option EK} {d:Bs} (h:cK x c w v rest e d) (o:bX w' x.d m v) {S:Nat→Prop} (i:aM S w w') (n:∀ k,S k→k=x.d∨(¬ x.S1 v k∧x.B≤k)):cK x m w' v rest e d:=by
 obtain ⟨r,l,q⟩:=h.inp;have f:∀ k,x.S1 v k→k≠x.d→¬ S k:=fun k b j p=>by
  rcases n k p with a|a
  ·exact j a
  ·exact a.1 b
 exact ⟨aM.below h.base h.base.size i (fun k b=>by rcases n k b with a|a;exact a▸g.d;exact a.2),o,
  ⟨r,l.mod i (f _ (aH (aW (aH rfl))) (fun e=>g.ne1 e.symm)) (f _ (aH (aW (aW (aH rfl)))) (fun e=>g.ne2 e.symm)) (f _ (aH (aW (aW (aW rfl)))) (fun e=>g.ne3 e.symm)),q⟩,
  h.pos,h.err,h.fin,h.bf.mod i (fun k b=>f k (aW b) (fun e=>h.bf.notS0 k b (aH e)))⟩
theorem QM.drewN {x:Cx} {c:DC} {w:World} {v:DV} {w':World} {a:Addr} (h:QM x c w v w' a) (k:Nat):QM x c w v (w'.drewN k) a:=
 ⟨h.dec,show jM x c ((w'.setCell ⟨x.d,20,none⟩ (xX a)).drewN k) { v with err:=xX a } .syn from h.err.drewN k,show dB x w v ((w'.setCell ⟨x.d,20,none⟩ (xX a)).drewN k) { v with err:=xX a } from h.stp.drawn k⟩
theorem AG {x:Cx} {v:DV} {m:Nat} {d c:List Nat} {f:Nat} {w e w':World} (h:aM (fun b=>b=x.d∨b∈m::(d++c)) w e) (k:aM (x.S1 v) e w'):aM (fun b=>x.S1 v b∨b∈m::(d++c)∨b=f) w w':=
 (h.mono (fun i _ a=>by
  rcases a with a|a
  ·exact aH (aH (aH a))
  ·exact aW (aH a))).trans (k.mono (fun _ _ a=>aH a)) (fun _ _ a=>a)
def gY (x:Cx) (c:DC) (w:World) (v:DV) (s:St) (nm:Bs×Bs) (m:Nat) (h g:List Nat) (n:Nat) (i:Nat) (j:Ending) (w':World):Prop:=
 match kR x.o nm s with
 | .error k=>j=.returned (.bool false)∧∃ d v',jM x d w' v' k∧aM (fun b=>x.S1 v b∨b∈m::(h++g)∨b=i) w w'
 | .ok (tk,s')=>∃ a,tk=.fin a∧j=.returned (.bool true)∧∃ d f e l,DW x d w' v s'∧m5 x w' d v m f e l s'.stk s'.ns∧aJ w' i #[aB a.1,aB a.2] 110∧rM c d ∧
   aM (fun b=>b=x.d∨b∈m::(h++g)∨b=i) w w'∧(∀ b∈m::(f++e),b∈m::(h++g)∨w.heap.size≤b)∧l+s'.stk.length≤n+s.stk.length
structure RI (x:Cx) (c:DC) (w:World) (v:DV) (s:St) (m:Nat) (g f:List Nat) (n:Nat) (d:Nat) (nm:Bs×Bs):Prop where
 fit:(s.ended=false∧∃ b,cK x c w v s.rest none b)∨∃ e a,s.stk=e::a∧e.kind=0∧nm=(e.space,e.loc)
 strict:c.strict=x.o.strict
 rts:DW x c w v s
 own:m5 x w c v m g f n s.stk s.ns
 sok:lH s.stk
 bnd:n+s.stk.length≤100000000000
 sp:c.space=⟨x.o.space.toArray⟩
 tok:aJ w d #[aB nm.1,aB nm.2] 110
 tS:¬ x.S1 v d
 tO:d∉m::(g++f)
 tB:x.B≤d
 l1:nm.1.length≤100000000000
 l2:nm.2.length≤100000000000
theorem RJ (x:Cx) (y:x.All) (c:DC) (w:World) (v:DV) (s:St) (m:Nat) (z u:List Nat) (n:Nat) (q:Nat) (nm:Bs×Bs) (h:RI x c w v s m z u n q nm) (o:s.stk=[]) :
  Calls prog 41 #[cB x,.pointer (some ⟨q,0,none⟩)] w fun C w'=>gY x c w v s nm m z u n q C w':=by
 obtain ⟨M,b0,i,_,_⟩:=h.rts.rd;have a:c.stk=.pointer none:=by
  have:=h.own.stk;rw [o] at this;rcases this.ptr with ⟨g,_⟩|⟨_,_,_,_,_,_,g⟩
  ·exact g
  ·cases g
 have b:=Lh (VJ x c w v i.dec a);have k:=h.tok.cell;have l:=h.tok.frozen;have ⟨B,t⟩:=cN i y;have A:=Lh (show kR x.o nm s=.error .syn by unfold kR;rw [o]);have F:=h.l2;have G:¬ 9223372036854775807<25+nm.2.length:=by omega
 have H:¬ 9223372036854775807<25+nm.2.length+1:=by omega
 have I:¬ 9223372036854775807<25+(nm.2.length+1):=by omega
 have J:=Lh h.tok;clear i y h F o a;refine eI 179 func41 [_,_] fun f=>?_;simp only [aF];refine vg ?_;intro K hK K hK;refine b.o.mono ?_;rintro N w1 ⟨rfl,rfl⟩;clear b;have j:Below w1.heap.size w1 (w1.alloc (.cells #[aB nm.1,aB nm.2] 89)):=(Below.refl _ w1).alloc (dD _) _;(repeat revert K);refine vS ?_;intro K hK K hK K hK;have e:=Lh (fun p=>gV t.o.toOk (B.o.below t.o.toOk j) p);refine (e.o _).mono ?_;rintro O P ⟨L,rfl,d⟩;have D:=d.dec.cell;have E:=d.dec.frozen;have r:=Lh d;clear d k l;(repeat revert K);refine vS ?_;intro K hK;refine cO ?_;unfold gY;rw [A.o];exact ⟨rfl,c,_,r.o.err,AG (aG ((Below.refl _ w1).alloc (dD _) _) _) r.o.stp.mod⟩
theorem VK (x:Cx) (hx:x.All) (c:DC) (w:World) (v:DV) (s:St) (m:Nat) (sb r:List Nat) (n:Nat) (F:Nat) (nm:Bs×Bs) (h:RI x c w v s m sb r n F nm) (e:gT) (g:List gT) (hs:s.stk=e::g) (d:e.kind=1) :
  Calls prog 41 #[cB x,.pointer (some ⟨F,0,none⟩)] w fun en w'=>gY x c w v s nm m sb r n F en w':=by
 obtain ⟨e0,b0,S,_,_⟩:=h.rts.rd;have j:=h.own;rw [hs] at j;obtain ⟨q,G,l',a,t,R,H⟩:∃ q G l' a,c.stk=.pointer (some ⟨q,0,none⟩)∧sb=q::a∧e::g=G::l':=by
  rcases j.stk.ptr with ⟨_,_,t⟩|⟨q,G,l',a,t,R,H⟩
  ·cases t
  ·exact ⟨q,G,l',a,t,R,H⟩
 obtain ⟨rfl,rfl⟩:=List.cons.inj H;subst R;obtain ⟨fl,C⟩:=j.free;have E:(m::((q::a)++r)).Nodup:=j.nodup;have l:=Lh (RF x c w v S.dec q e (aW d) g a j.stk fl r C (fun b hb B=>j.s1 b (List.mem_cons_of_mem _ hb) (aH (aH B))) (List.nodup_cons.1 E).2);have HP:=Lh (show kR x.o nm s=.error .syn by unfold kR;rw [hs];simp only;rw [aV (by rw [d];decide)]);have hl:=h.l2;have a0:¬ 9223372036854775807<25+nm.2.length:=by omega
 have a1:¬ 9223372036854775807<25+nm.2.length+1:=by omega
 have HT:=Lh h.tok;have ⟨HR,Q,L⟩:=mJ S hx j;have O:=Lh h.tO;have P:=Lh h.tS;have J:=Lh d;clear S hx h hl hs H C E j d t;refine eI 179 func41 [_,_] fun f=>?_;simp only [aF];refine vg ?_;intro K hK K hK;refine l.o.mono ?_;rintro e1 w1 ⟨rfl,Z⟩;obtain ⟨c1,i,Y,a2,D,a3,z,W⟩:=L.o.popped Z;have M:=Lh i.mod;have X:¬ (F=x.d∨F=q):=by
  rintro (B|B)
  ·exact P.o (aH (aH B))
  ·exact O.o (by simp [B])
 have p:=HT.o.mod Z.mod X;have T:=p.cell;have V:=p.frozen;have u:=HR.o.own Q.o.toOk i.dec i.mod (fun k d=>by
  rcases d with d|d
  ·exact aH d
  ·exact aW ⟨L.o.s1 k d,L.o.base k d⟩)
 have y:Below w1.heap.size w1 (w1.alloc (.cells #[aB nm.1,aB nm.2] 89)):=(Below.refl _ w1).alloc (dD _) _;have o:=z.alloc (.cells #[aB nm.1,aB nm.2] 89);have A:=o.cell;have U:=o.frozen;rw [J.o] at A;have N:=Lh (fun aA=>gV Q.o.toOk (u.below Q.o.toOk y) aA);clear Z i Y z W l D p u y o;(repeat revert K);refine vS ?_;intro K hK K hK K hK;refine (N.o _).mono ?_;rintro e3 w3 ⟨a9,rfl,I⟩;have aC:=I.dec.cell;have aL:=I.dec.frozen;have HS:=Lh I;clear I T V A U;(repeat revert K);refine vS ?_;intro K hK;refine cO ?_;unfold gY;rw [HP.o];exact ⟨rfl,c1,_,HS.o.err,AG (M.o.trans (aG ((Below.refl _ w1).alloc (dD _) _) (fun b=>b=x.d∨b∈m::((q::a)++r))) (fun _ _ h=>h)) HS.o.stp.mod⟩
end Go.Proofs.YthapcchcahnfaaaGreatDoor
