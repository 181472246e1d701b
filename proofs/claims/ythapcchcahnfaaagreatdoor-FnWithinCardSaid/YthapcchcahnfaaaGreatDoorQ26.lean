/- Part of the proof that laws.FnWithin returns true for every argument. No conditions. -/
import Derived.Test.YthapcchcahnfaaaGreatDoorQ23
import Derived.Test.YthapcchcahnfaaaGreatDoorQ25
set_option linter.all false
set_option maxHeartbeats 8000000
set_option maxRecDepth 100000
namespace Go.Proofs.YthapcchcahnfaaaGreatDoor
open Go Go.RowKit
structure CD (x:Cx) (c:DC) (w:World) (v:DV) (s:St):Prop where
 rd:∃ e b,cD x c w v s.rest e b∧(s.ended=true→e≠none)∧(e≠none→s.toClose=none)
 nc:c.needClose=s.toClose.isSome
 tc:∀ nm,s.toClose=some nm→c.tcs=⟨nm.1.toArray⟩∧c.tcl=⟨nm.2.toArray⟩
 nb:v.nb≠10
def qH (c a:DC):Prop:=∃ b p q,a={ c with needClose:=b,tcs:=p,tcl:=q }
theorem qH.refl (c:DC):qH c c:=⟨c.needClose,c.tcs,c.tcl,rfl⟩
def cS (x:Cx) (c:DC) (w:World) (v:DV) (s:St) (t e:Value) (w':World):Prop:=
 match eC x.o s with
 | .error k=>∃ v',cU x w v w' v'∧t=.nilIface∧e=v'.err∧iX x c w' v' k∧jT w' e k
 | .ok (tk,s')=>∃ v' a,cU x w v w' v'∧e=.nilIface∧qH c a∧CD x a w' v' s'∧iT w' v'.bufv w.heap.size t tk∧((∀ d,tk≠.text d)→s'.ended=false∧∃ b,cD x a w' v' s'.rest none b)
theorem iI.tok {x:Cx} {c:DC} {w0 w:World} {v0 v:DV} {s:St} {R:Except EK (aU×Bs)} {t e:Value} {w':World} (B:cU x w0 v0 w v) (u:c.needClose=false) (j:s.toClose=none) (y:w0.heap.size≤w.heap.size)
  (J:eC x.o s=match R with|.error e=>.error e|.ok (t,r)=>.ok (t,{ s with rest:=r })) (i:s.ended=false) (h:iI x c w v R t e w'):cS x c w0 v0 s t e w':=by
 obtain ⟨⟨v',l,m⟩,I⟩:=h;unfold cS;rw [J];cases R with
 | error k=>exact ⟨v',B.trans l,m.1,m.2.1,m.2.2,I k rfl⟩
 | ok p=>
  obtain ⟨M,r⟩:=p;obtain ⟨H,C,b,o,z,a,q⟩:=m;refine ⟨v',c,B.trans l,H,qH.refl c,⟨⟨C,b,o,fun h=>(by rw [i] at h;cases h),fun _=>j⟩,by rw [u,j];rfl,fun nm h=>(by rw [j] at h;cases h),by rw [q];decide⟩,?_⟩;cases M with
  | start nm ats=>
   refine ⟨?_,fun _=>?_⟩
   ·obtain ⟨L,D,E,A⟩:=z;refine ⟨L,D,E,A.1,?_⟩;rcases A.2 with n|⟨g,cap,cur,n,F,G⟩
    ·exact aG n
    ·exact aX ⟨g,cap,cur,n,gA y F,G⟩
   ·rcases a with f|⟨⟨d,f⟩,_⟩
    ·subst f;exact ⟨i,b,o⟩
    ·cases f
  | text d=>exact ⟨z,fun h=>absurd rfl (h d)⟩
  | _=>
   refine ⟨z,fun _=>?_⟩;rcases a with f|⟨⟨d,f⟩,_⟩
   ·subst f;exact ⟨i,b,o⟩
   ·cases f
theorem CC.tok {x:Cx} {c:DC} {w0 w:World} {v0 v:DV} {s:St} {R:Except EK (((Bs×Bs)×List cV)×Bool×Bs)} {t e:Value} {w':World} (z:cU x w0 v0 w v) (m:c.needClose=false) (I:s.toClose=none) (q:w0.heap.size≤w.heap.size)
  (G:eC x.o s=match R with|.error e=>.error e|.ok ((nm,a),em,r)=>.ok (.start nm a,{ s with rest:=r,toClose:=if em then some nm else none })) (d:s.ended=false) (n:sN R) (h:CC x c w v R t e w'):cS x c w0 v0 s t e w':=by
 obtain ⟨v',f,i⟩:=h;unfold cS;rw [G];cases R with
 | error k=>exact ⟨v',z.trans f,i.1,i.2.1,i.2.2,jT.no (fun F=>n (by rw [F]))⟩
 | ok p=>
  obtain ⟨⟨nm,a⟩,em,r⟩:=p;obtain ⟨E,b,y,H,l⟩:=i;have o:qH c (c.closing nm em):=by
   cases em
   ·exact qH.refl c
   ·exact ⟨_,_,_,rfl⟩
  refine ⟨v',_,z.trans f,E,o,⟨⟨none,b,y,fun h=>(by rw [d] at h;cases h),fun h=>absurd rfl h⟩,?_,?_,by rw [l];decide⟩,?_⟩
  ·cases em
   ·simp [DC.closing,m]
   ·rfl
  ·intro J h;cases em
   ·cases h
   ·simp only [if_true,kQ] at h;subst h;exact ⟨rfl,rfl⟩
  ·refine ⟨?_,fun _=>⟨d,b,y⟩⟩;obtain ⟨L,A,B,u⟩:=H;refine ⟨L,A,B,u.1,?_⟩;rcases u.2 with j|⟨g,cap,cur,j,C,D⟩
   ·exact aG j
   ·exact aX ⟨g,cap,cur,j,gA q C,D⟩
def WZ (o:cP) (s:St):Bs→Except EK (aU×St)
 | []=>.error (bW o.fails)
 | c::r2=>
  if c=47 then (match jW o r2 with|.error e=>.error e|.ok (t,r3)=>.ok (t,{ s with rest:=r3 }))
  else if c=63 then (match tY o r2 with|.error e=>.error e|.ok (t,r3)=>.ok (t,{ s with rest:=r3 }))
  else if c=33 then (match gJ o r2 with|.error e=>.error e|.ok (t,r3)=>.ok (t,{ s with rest:=r3 }))
  else match dX o (c::r2) with
   | .error e=>.error e
   | .ok ((nm,ats),em,r3)=>.ok (.start nm ats,{ s with rest:=r3,toClose:=if em then some nm else none })
theorem SZ {o:cP} {s:St} (a:s.ended=false) (b:s.toClose=none) {r:Bs} (c:s.rest=60::r):eC o s=WZ o s r:=by
 obtain ⟨rest,e,h,d,f,g⟩:=s;simp only at a b c;subst a b c;unfold eC WZ;cases r<;>rfl
theorem GV (o:cP) (b:UInt8) (r:Bs):gJ o (b::r)=if b=45 then yC o r else if b=91 then rN o D0 r else lU o b r:=by
 unfold gJ yC rN lU;simp only;split
 ·rfl
 ·split
  ·rfl
  ·rfl
theorem W1 (x:Cx) (hx:x.All) (a5:kL x.W0) (P:3<x.B) (c:DC) (S:iF x c) (bA:rX x c) (a9:c.needClose=false) (w:World) (v:DV) (s:St) (r:Bs) (hr:s.rest=60::r) (T:s.ended=false) (U:s.toClose=none) (g:Bs) (h:cD x c w v (60::r) none g) :
  Calls Tryz.prog 35 #[bV x] w fun en w'=>∃ t e,en=.returned (.tuple #[t,e])∧cS x c w v s t e w':=by
 have hg:=Lh (oI x hx.toOk c S w v 60 r none g h);have ⟨L,bC,Z,J,a1,u⟩:=iD hx a5 P S bA a9;have ⟨q,y⟩:=cH T U;have l:=Lh (SZ (o:=x.o) T U hr);have hc:=h.dec.cell;have hf:=h.dec.frozen;have he:v.err=.nilIface:=h.err;have b6:=Lh h.suf;clear h hx a5 P S bA hr T U;refine eT 731 Tryz.func35 [_] fun f=>?_;simp only [aF];refine vg ?_;intro K hK K hK;refine hg.o.mono ?_;rintro e1 w1 ⟨rfl,v1,h1,b1,a6,a7,_⟩;have a2:=Lh ((cU.refl x w v).s0 a7 a6);have Q:=Lh h1;clear h1 b1 a6 a7 hg hc hf he a9
 have d:=Lh (show ∀ f w' t e,cS x c w v s t e w'→bodyPost Tryz.prog Tryz.f35 (fun en w'=>∃ t e,en=.returned (.tuple #[t,e])∧cS x c w v s t e w') .ret (fr 731 f [(2,t),(3,e)]) w' from
  fun f w' t e A=>BL rfl (by decide) (by decide) (by simp only [aL,aP,aR,aZ,Nat.reduceEqDiff,↓reduceIte]) (by simp only [aL,aP,aR,aZ,Nat.reduceEqDiff,↓reduceIte]) ⟨t,e,rfl,A⟩)
 cases r with
 | nil=>
  have j:=Lh (bM x L.o.toOk c J.o w1 v1 none g Q.o);(repeat revert K);refine vS ?_;intro K hK K hK K hK;refine j.o.mono ?_;rintro e4 Y ⟨rfl,W,E,F,H⟩;have k:=Lh (a2.o.s0 H F);obtain ⟨t1,u1,V⟩:=E.err.iface;have HE:=Lh E;have hc:=E.dec.cell;have hf:=E.dec.frozen;have HU:=Lh V;clear E H F j;(repeat revert K);refine vS ?_;intro K hK K hK
  ((refine cM [0] fun f=>?_);go_quiet (fail);((repeat revert K);refine vg ?_;intro K hK);refine Qk [2,3] fun f=>?_)
  refine d.o f _ _ _ ?_;unfold cS;rw [l.o];exact ⟨W,k.o.drawn _,rfl,HU.o.symm,HE.o.drewN _,jT.no (yE _)⟩
 | cons b r2=>
  have j:=Lh (bK x L.o.toOk c J.o w1 v1 b r2 none g Q.o);(repeat revert K);refine vS ?_;intro K hK K hK K hK;refine j.o.mono ?_;rintro e4 Y ⟨rfl,W,a3,a8,F,H,b4⟩;have m:=Lh (a2.o.s0 H F);have ⟨B,b0⟩:=cH a3 a8;clear a3 a8 H F b4 j;by_cases z:b=47
  ·subst z;have a:=Lh (show eC x.o s=(match jW x.o r2 with|.error e=>.error e|.ok (t,r3)=>.ok (t,{ s with rest:=r3 })) by rw [l.o];rfl);go_simp;(repeat revert K);refine vT 22 ?_;intro K hK;refine cM [0] fun f=>?_;refine bB (WK x L.o c J.o Y W r2 none g B.o _ ?_ f) (by kernel_rfl);intro f w' t e A;exact d.o f w' t e (iI.tok m.o u.o y.o m.o.mod.size a.o q.o (A.o (SO _ _)))
  ·have t1:=eZ (n:=47) z rfl;by_cases C:b=63
   ·subst C;have a:=Lh (show eC x.o s=(match tY x.o r2 with|.error e=>.error e|.ok (t,r3)=>.ok (t,{ s with rest:=r3 })) by rw [l.o];rfl);clear z t1;go_simp;(repeat revert K);refine vT 37 ?_;intro K hK;refine cM [0] fun f=>?_;refine bB (Y3 x L.o bC.o Z.o c J.o Y W r2 none g B.o _ ?_ f) (by kernel_rfl);intro f w' t e A;exact d.o f w' t e (iI.tok m.o u.o y.o m.o.mod.size a.o q.o A)
   ·have t2:=eZ (n:=63) C rfl;by_cases M:b=33
    ·subst M;have a:=Lh (show eC x.o s=(match gJ x.o r2 with|.error e=>.error e|.ok (t,r3)=>.ok (t,{ s with rest:=r3 })) by rw [l.o];rfl);clear z C t1 t2;cases r2 with
     | nil=>
      have j:=Lh (bM x L.o.toOk c J.o Y W none g B.o);(repeat revert K);refine vS ?_;intro K hK K hK K hK K hK;refine j.o.mono ?_;rintro e5 w5 ⟨rfl,v5,E,G,I⟩;have k:=Lh (m.o.s0 I G);obtain ⟨t1,u1,V⟩:=E.err.iface;have HE:=Lh E;have hc:=E.dec.cell;have hf:=E.dec.frozen;have HU:=Lh V;clear E I G j;(repeat revert K);refine vS ?_;intro K hK K hK K hK
      ((refine cM [0] fun f=>?_);go_quiet (fail);((repeat revert K);refine vg ?_;intro K hK K hK);refine Qk [2,3] fun f=>?_)
      refine d.o f _ _ _ ?_;unfold cS;rw [a.o];exact ⟨v5,k.o.drawn _,rfl,HU.o.symm,HE.o.drewN _,jT.no (yE _)⟩
     | cons N r3=>
      have j:=Lh (bK x L.o.toOk c J.o Y W N r3 none g B.o);have X:=Lh (GV x.o N r3);(repeat revert K);refine vS ?_;intro K hK K hK K hK K hK;refine j.o.mono ?_;rintro e5 w5 ⟨rfl,v5,a4,b3,G,I,b5⟩;have k:=Lh (m.o.s0 I G);have R:=Lh a4;clear a4 b3 I G b5 j;by_cases p:N=45
      ·subst p;have i:=Lh (show eC x.o s=(match yC x.o r3 with|.error e=>.error e|.ok (t,r3)=>.ok (t,{ s with rest:=r3 })) by rw [a.o,X.o,aT rfl]);have aA:=Lh (show sN (yC x.o r3) by have O:=yG x.o (45::r3);rw [X.o,aT rfl] at O;exact O);go_simp;(repeat revert K);refine vT 79 ?_;intro K hK K hK;refine cM [0] fun f=>?_;refine bB (WL x L.o c J.o w5 v5 r3 none g R.o _ ?_ f) (by kernel_rfl);intro f w' t e A;exact d.o f w' t e (iI.tok k.o u.o y.o k.o.mod.size i.o q.o (A.o aA.o))
      ·have t3:=eZ (n:=45) p rfl;by_cases D:N=91
       ·subst D;have i:=Lh (show eC x.o s=(match rN x.o D0 r3 with|.error e=>.error e|.ok (t,r3)=>.ok (t,{ s with rest:=r3 })) by rw [a.o,X.o,aM p,aT rfl]);have aC:=Lh (show sN (rN x.o D0 r3) by have O:=yG x.o (91::r3);rw [X.o,aM p,aT rfl] at O;exact O);clear p t3;go_simp;(repeat revert K);refine vT 100 ?_;intro K hK K hK;refine cM [0] fun f=>?_;refine bB (WM x L.o c J.o a1.o w5 v5 r3 none g R.o _ ?_ f) (by kernel_rfl);intro f w' t e A;exact d.o f w' t e (iI.tok k.o u.o y.o k.o.mod.size i.o q.o (A.o aC.o))
       ·have t4:=eZ (n:=91) D rfl;have i:=Lh (show eC x.o s=(match lU x.o N r3 with|.error e=>.error e|.ok (t,r3)=>.ok (t,{ s with rest:=r3 })) by rw [a.o,X.o,aM p,aM D]);have a0:=Lh (show sN (lU x.o N r3) by have O:=yG x.o (N::r3);rw [X.o,aM p,aM D] at O;exact O);clear p D;go_simp;(repeat revert K);refine vT 113 ?_;intro K hK;refine cM [0,4] fun f=>?_;refine bB (WN x L.o c J.o w5 v5 N r3 g R.o _ ?_ f) (by kernel_rfl);intro f w' t e A;exact d.o f w' t e (iI.tok k.o u.o y.o k.o.mod.size i.o q.o (A.o a0.o))
    ·have t3:=eZ (n:=33) M rfl;have a:=Lh (show eC x.o s=(match dX x.o (b::r2) with|.error e=>.error e|.ok ((nm,ats),em,r3)=>.ok (.start nm ats,{ s with rest:=r3,toClose:=if em then some nm else none })) by
      rw [l.o];simp only [WZ,aM z,aM C,aM M])
     clear z C M;go_simp;(repeat revert K);refine vT 152 ?_;refine cM [0,4] fun f=>?_;refine bB (O6 x L.o c J.o a1.o Y W b r2 g B.o b0.o (by have:=Q.o.suf;exact this) _ ?_ f) (by kernel_rfl);intro f w' t e A;exact d.o f w' t e (A.tok m.o u.o y.o m.o.mod.size a.o q.o (LF _ _))
end Go.Proofs.YthapcchcahnfaaaGreatDoor
