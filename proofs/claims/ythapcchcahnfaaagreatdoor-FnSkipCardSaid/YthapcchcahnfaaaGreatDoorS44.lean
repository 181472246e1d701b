/- Part of the proof that laws.FnSkip returns true for every argument. No conditions. -/
import Derived.Test.YthapcchcahnfaaaGreatDoorS42
import Derived.Test.YthapcchcahnfaaaGreatDoorS36
import Derived.Test.YthapcchcahnfaaaGreatDoorS40
set_option linter.all false
set_option maxHeartbeats 8000000
set_option maxRecDepth 100000
namespace Go.Proofs.YthapcchcahnfaaaGreatDoor
open Go Go.RowKit Go.Proofs.Tryz
theorem ER {rest r:Bs} {nm:Bs×Bs} (h:fL rest=.ok (nm,r)):nm.1.length≤rest.length∧nm.2.length≤rest.length:=by
 have i:=qN rest;unfold fL at h;split at h
 ·cases h
 ·split at h
  ·cases h
  ·cases c:jD (aD rest).1 with
   | none=>rw [c] at h;cases h
   | some p=>
    obtain ⟨a,b⟩:=p;rw [c] at h;simp only at h;split at h
    ·cases h
    ·simp only [cD,b8] at h;have g:a.length≤(aD rest).1.length∧b.length≤(aD rest).1.length:=by
      unfold jD at c;have d:=congrArg List.length (List.takeWhile_append_dropWhile (p:=(· != (58:UInt8))) (l:=(aD rest).1));rw [fP] at d;split at c
      ·simp only [jW,b8] at c;rw [←c.1,←c.2];simp
      ·rename_i f e;rw [e,f5] at d;split at c
       ·cases c
       ·split at c
        ·cases c
        ·simp only [jW,b8] at c;rw [←c.1,←c.2];omega
     rw [←h.1];simp only;omega
def JN (b:Bool) (a:Bs) (opens:List Bs) (bound:List aM) (r:Except SV ((Bs×Bs)×Bs)):Except SV (List aP×gN):=match r with
 | .error e=>.error e
 | .ok (nm,r)=>U1 (eJ b a ⟨r,opens,bound⟩ nm)
theorem fU.base {x:PX} {a:Nat} {out:List bS} {w w1:World} {r:Except SV (List aP×gN)} {e:Ending} {w':World} (b:Below a w w1) (h:fU x a out w1 r e w'):fU x a out w r e w':=⟨b.trans h.1,h.2⟩
theorem LX (x:PX) (hT:x.T.length≤1000000000) (a:Nat) (A:PS x a) (w:World) (c:PC) (opens:List Bs) (bound:List aM) (out:List bS) (h:dK x a w c opens bound out) (u:out.length≤500000000) (V:opens.length≤500000000) (P:bound.length=opens.length) (ha:c.at'≤x.T.length) :
  Calls prog 27 #[iU x] w (fU x a out w (JN x.raw x.space opens bound (nR (x.T.drop c.at')))):=by
 have HN:=Lh (B9 x hT w c h.blk ha);have ⟨H,L,D,a6,a0,a3⟩:=gT h hT u V P A;have l:=Lh (show nR (x.T.drop c.at')=match fL (x.T.drop c.at') with
  | .error e=>.error e
  | .ok (nm,r)=>match aT r with
   | []=>.error .bad
   | b::r2=>if b=62 then .ok (nm,r2) else .error .bad from rfl)
 clear h hT u V P A ha;refine eL 25 func27 [_] fun f=>?_;simp only [aF];refine vg ?_;intro K hK K hK;refine HN.o.mono ?_;rintro e1 w1 ⟨y,h1⟩;have E:=Lh y;cases hn:fL (x.T.drop c.at') with
 | error k=>
  rw [hn] at h1 l;obtain ⟨⟨N,j⟩,rfl⟩:=h1;have I:=Lh j;clear j y HN;(repeat revert K);refine vS ?_;intro K hK;refine cM ?_;exact fU.err (w1:=w) (k:=k) H.o I.o E.o (by rw [l.o];rfl)
 | ok q=>
  obtain ⟨nm,r⟩:=q;have G:=Lh (ER hn);rw [hn] at h1 l;obtain ⟨N,Y,m,Q,j,rfl⟩:=h1;have Z:r=x.T.drop N:=Y;subst Z;have I:=Lh (show aV x w1 { c with at':=N } from j);have bA:=Lh m;have z:=Lh (mL x L.o w1 { c with at':=N } j m);clear j y HN Y m Q;(repeat revert K);refine vS ?_;intro K hK K hK;refine z.o.mono ?_;rintro e2 w2 ⟨d,rfl,W,T,t,R,aC⟩;have J:=Lh (show aV x w2 { c with at':=d } from W);have F:=Lh (E.o.trans T (fun _ _ h=>h));have C:=Lh t;have M:=Lh (show aT (x.T.drop N)=x.T.drop d from aC);clear W T t R aC z;go_simp;cases g:([62]:Bs).isPrefixOf (x.T.drop d) with
  | true=>
   have B:=Lh (iE x L.o w2 { c with at':=d } J.o C.o [62] (by decide) g);have s:=kQ g (by decide);have HR:=Lh (show nR (x.T.drop c.at')=.ok (nm,x.T.drop (d+1)) by
    have O:=dC 62 x.T d s;rw [g] at O;have v:x.T.getD d 0=62:=(beq_iff_eq.1 O.symm).symm;rw [l.o];simp only;rw [M.o,bV x.T d s,v];rfl)
   have a4:=Lh s;clear g s;(repeat revert K);refine vg ?_;intro K hK K hK K hK;refine B.o.mono ?_;rintro e3 w3 ⟨rfl,o,n⟩;have a7:=Lh (show aV x w3 { c with at':=d+1 } from o);have p:=Lh (F.o.trans n (fun _ _ h=>h));have aA:=H.o.own a7.o p.o rfl rfl rfl;have HC:=Lh (a3.o w3 { c with at':=d+1 } opens bound out aA D.o a6.o a0.o a4.o nm (by have:=G.o.1;have:=L.o;rw [eC] at *;omega) (by have:=G.o.2;have:=L.o;rw [eC] at *;omega));have HB:=Lh (aJ.below (Below.refl a w) H.o.size p.o (fun i hi=>by rw [hi];exact H.o.pb));clear o n aA B;(repeat revert K);refine vS ?_;intro K hK K hK;refine HC.o.mono ?_;rintro e4 w4 h4;have h5:fU x a out w (JN x.raw x.space opens bound (nR (x.T.drop c.at'))) e4 w4:=by rw [HR.o];exact fU.base HB.o h4
   have a9:∃ b,e4=.returned (.bool b):=by
    obtain ⟨_,h6⟩:=h4;split at h6
    ·exact ⟨_,h6.1⟩
    ·exact ⟨_,h6.1⟩
   obtain ⟨b,rfl⟩:=a9;have H5:=Lh h5;clear h4 h5;(repeat revert K);refine vS ?_;refine cM ?_;exact H5.o
  | false=>
   have B:=Lh (gX x L.o w2 { c with at':=d } J.o C.o [62] (by decide) g);have HR:=Lh (show nR (x.T.drop c.at')=.error .bad by
    rw [l.o];simp only;rw [M.o];by_cases S:d<x.T.length
    ·have v:¬ x.T.getD d 0=62:=by
      intro hh;have O:=dC 62 x.T d S;rw [g,hh] at O;cases O
     rw [bV x.T d S];simp only [aQ v]
    ·rw [tW (by omega)])
   clear g;(repeat revert K);refine vg ?_;intro K hK K hK K hK;refine B.o.mono ?_;rintro e3 w3 ⟨rfl,o,n⟩;have p:=Lh (F.o.trans n (fun _ _ h=>h));have HF:=Lh (gW x w w3 { c with at':=d } o p.o 1);clear o n B;(repeat revert K);refine vS ?_;intro K hK K hK K hK;refine HF.o.mono ?_;rintro e6 w6 ⟨rfl,X,U⟩;have ⟨a8,a5⟩:=cB X U;clear X U;(repeat revert K);refine vS ?_;intro K hK;refine cM ?_;exact fU.err (w1:=w) (k:=.bad) H.o a8.o a5.o (by rw [HR.o];rfl)
theorem ES {a:List aM} {p:Bs} {j:Nat} {l:aM} (h:a[j]?=some l):iR (a.drop j) p=match eA l p with
  | some v=>some v
  | none=>iR (a.drop (j+1)) p:=by
 obtain ⟨b,rfl⟩:=A9.1 h;rw [CN b];rfl
theorem dK.bnd {x:PX} {a:Nat} {w:World} {c:PC} {opens:List Bs} {bound:List aM} {out:List bS} (h:dK x a w c opens bound out) {j:Nat} {l:aM} (m:bound[j]?=some l) :
  ∃ g b f i,c.bd=.slice (some ⟨g,0,none⟩) bound.length b∧g<w.heap.size∧w.cell? ⟨g,bound.length-1-j,none⟩=some (.slice f l.length i)∧l.length≤1000000000∧w.ownsRow a 177 2 (.slice f l.length i) l.length (cJ l):=by
 obtain ⟨z,p,q⟩:=h.bd;have t:=(A9.1 m).1;obtain ⟨g,b,u,_,k,_,_,d⟩:=gL p (by omega);have r:bound.reverse[bound.length-1-j]?=some l:=by
  rw [List.getElem?_reverse (by omega),show bound.length-1-(bound.length-1-j)=j by omega];exact m
 obtain ⟨A,⟨f,y,i,rfl,o,_,s⟩,v⟩:=q.get (n:=1) (fun _ _ h=>by obtain ⟨_,_,_,rfl,_⟩:=h;rfl) r;have e:=tE o;subst e;refine ⟨g,b,f,i,u,k,?_,s,o⟩;have:=v 0 (by omega);exact d _ _ (by simpa using this)
def ZY (x:PX) (p:Bs) (bound:List aM) (w0:World) (k:Nat) (a:Act) (w:World):Prop:=
 ∃ f j,a=fr 59 f [(0,iU x),(1,aB p),(7,.int .i64 ((bound.length:Int)-1-(j:Nat)))]∧Below w0.heap.size w0 w∧k=bound.length-j∧j≤bound.length∧iR bound p=iR (bound.drop j) p
def ZZ (x:PX) (p:Bs) (i:Int) (v:Value) (l:aM) (w0:World) (k:Nat) (a:Act) (w:World):Prop:=
 ∃ f j,a=fr 59 f [(0,iU x),(1,aB p),(7,.int .i64 i),(39,v),(40,.int .i64 (l.length:Nat)),(41,.int .i64 (j:Nat))]∧Below w0.heap.size w0 w∧k=l.length-j∧j≤l.length∧eA l p=eA (l.drop j) p
noncomputable def PU (n:Nat):Code:=((Tryz.f91.body).bind (Code.partAt n)).getD .skip
theorem G2 (x:PX) (O:Nat) (w:World) (c:PC) (opens:List Bs) (bound:List aM) (out:List bS) (h:dK x O w c opens bound out) (V:bound.length≤1000000000) (p:Bs) (Q:Exit→Act→World→Prop)
  (hQ:∀ r,(r=match iR bound p with
   | some v=>v
   | none=>if p=[] then x.space else p)→∀ f w',Below w.heap.size w w'→Q .ret (fr 59 f [(6,aB r)]) w') (f:Nat→Value) :
  (PU 5).wp prog Q (fr 59 f [(0,iU x),(1,aB p)]) w:=by
 have hc:=h.blk.cell;have hf:=h.blk.frozen;have ⟨H,F,HQ⟩:=kV h V hQ;clear h V hQ;have b1:IntKind.i64.wrap ((bound.length:Int)-1)=(bound.length:Int)-1:=by rw [IntKind.wrap_i64];have:=F.o;omega
 obtain ⟨sA,sC,bA⟩:∃ sA sC,c.bd=.slice sA bound.length sC:=by
  obtain ⟨_,P,_⟩:=H.o.bd;rcases P.2 with ⟨P,h8⟩|⟨g,a9,cur,P,_⟩
  ·exact ⟨none,0,by rw [P,h8]⟩
  ·exact ⟨_,_,P⟩
 unfold PU;conv=>arg 2;whnf
 refine vg ?_;intro K hK;refine cG [0,1,7] fun f=>?_;refine wp_loop_ghost_k (ZY x p bound w) bound.length ⟨f,0,by simp,Below.refl _ _,by simp,jU _,rfl⟩ ?_;clear hc hf b1;rintro k _ w2 ⟨f,j,rfl,hb,hk,hj,W⟩ J K2 hJ S;have ⟨HJ,a4,HB,HK,G⟩:=pM hJ S hb hk W;have C:aV x w2 c:=H.o.blk.mod (aH hb (fun _=>False)) id;have hc:=C.cell;have hf:=C.frozen;clear hJ S hb hk W C;by_cases a2:j<bound.length
 ·obtain ⟨l,hl⟩:∃ l,bound[j]?=some l:=⟨bound[j],by simp [a2]⟩;obtain ⟨g,a9,sa,sc,e,aA,B,a1,y⟩:=H.o.bnd hl;rw [bA] at e;simp only [Value.slice.injEq] at e;obtain ⟨rfl,_,rfl⟩:=e;obtain ⟨i,hi⟩:∃ i:Nat,i=bound.length-1-j:=⟨_,rfl⟩;rw [←hi] at B;have o:(bound.length:Int)-1-(j:Nat)=(i:Int):=by omega
  rw [o];have t0:(0:Int)≤(i:Int):=by omega
  have t1:(i:Int)<(bound.length:Int):=by omega
  have wd:IntKind.i64.wrap ((i:Int)-1)=(bound.length:Int)-1-((j+1:Nat):Int):=by rw [IntKind.wrap_i64];have:=F.o;omega
  have X:w2.cell? ⟨g,i,none⟩=some (.slice sa l.length sc):=(HB.o.cell (p:=⟨g,i,none⟩) aA).trans B;have I:=Lh (G.o.trans (ES hl));have ⟨N,a7,WD⟩:=kV y a1 wd;clear B hi o aA hl a1 y wd;revert K;refine vg ?_;intro K hK K hK;refine cG [0,1,7,39,40,41] fun f=>?_;refine wp_loop_ghost_k (ZZ x p i (.slice sa l.length sc) l w) l.length ⟨f,0,rfl,HB.o,by simp,jU _,by simp⟩ ?_;clear hc hf X;rintro k9 _ w9 ⟨f,n,rfl,U,aC,b6,a0⟩ J3 K3 R T;have ⟨a3,a5,d,a6,L⟩:=pM R T U aC a0;clear R T U aC a0;by_cases u:n<l.length
  ·have t2:(0:Int)≤(n:Int):=by omega
   have t3:(n:Int)<(l.length:Int):=by omega
   have wi:IntKind.i64.wrap ((n:Int)+1)=((n+1:Nat):Int):=by rw [IntKind.wrap_i64];have h2:=a7.o;omega
   obtain ⟨q,hq⟩:∃ q,l[n]?=some q:=⟨l[n],by simp [u]⟩;obtain ⟨q1,q2⟩:=qP l n q hq;obtain ⟨g2,b2,t,_,m,_,_,a⟩:=gL N.o (by omega);simp only [Value.slice.injEq] at t;obtain ⟨rfl,_,rfl⟩:=t;have Y:w9.cell? ⟨g2,n*2,none⟩=some (aB q.1):=(d.o.cell (p:=⟨g2,n*2,none⟩) m).trans (a _ _ q1);have Z:w9.cell? ⟨g2,n*2+1,none⟩=some (aB q.2):=(d.o.cell (p:=⟨g2,n*2+1,none⟩) m).trans (a _ _ q2);have M:=Lh (L.o.trans (yB hq));obtain ⟨wa,s⟩:=cK (w9.alloc (.cells #[aB q.1,aB q.2] 177));have A:aL wa w9.heap.size #[aB q.1,aB q.2] 177:=by rw [s];exact aL.new w9 _ _
   have E:=Lh (show Below w.heap.size w wa by rw [s];exact d.o.alloc d.o.size _);have b3:=A.cell;have b4:=A.frozen;clear q1 q2 hq A a m;(repeat revert K);refine vT 11 ?_;intro K hK K hK K hK;rw [←s];clear s Y Z;cases D:(q.1==p) with
   | true=>
    have b:=Lh (show iR bound p=some q.2 by rw [I.o,M.o,aY (beq_iff_eq.1 D)]);(repeat revert K);refine vg ?_;intro K hK K hK K hK;refine Qk [6] fun f=>?_;exact HQ.o _ (by rw [b.o]) f _ E.o
   | false=>
    have a8:=Lh (show eA l p=eA (l.drop (n+1)) p by rw [M.o,aQ (fun h=>by rw [beq_iff_eq.2 h] at D;cases D)]);(repeat revert K);refine vg ?_;intro K hK K hK;refine Kk [0,1,7,39,40,41] fun f=>?_;exact a5.o _ _ ⟨l.length-(n+1),by rw [a6.o];omega,a3.o _ _ _ ⟨f,n+1,rfl,E.o,rfl,u,a8.o⟩⟩
  ·have b0:n=l.length:=by omega
   subst b0;have t3:¬ ((l.length:Int)<(l.length:Int)):=by omega
   have b:=Lh (show iR bound p=iR (bound.drop (j+1)) p by rw [I.o,L.o,List.drop_length];rfl);have wd:=WD.o;(repeat revert K);refine vg ?_;intro K hK;refine Kk [0,1,7] fun f=>?_;exact a4.o _ _ ⟨bound.length-(j+1),by rw [HK.o];omega,HJ.o _ _ _ ⟨f,j+1,rfl,d.o,rfl,a2,b.o⟩⟩
 ·have bC:j=bound.length:=by omega
  subst bC;have o:(bound.length:Int)-1-(bound.length:Nat)=-1:=by omega
  rw [o];have b:=Lh (show iR bound p=none by rw [G.o,List.drop_length];rfl);clear o;by_cases t:p=[]
  ·have z:=Lh (HQ.o x.space (by rw [b.o];simp only [aY t]));subst t;revert K;refine vg ?_;intro K hK;refine Qk [6] fun f=>?_;exact z.o f _ HB.o
  ·have z:=Lh (HQ.o p (by rw [b.o];simp only [aQ t]));have b5:p.isEmpty=false:=by cases p with
    | nil=>exact absurd rfl t
    | cons=>rfl
   clear t;revert K;refine vg ?_;refine Qk [6] fun f=>?_;exact z.o f _ HB.o
theorem sH (x:PX) (i:Nat) (w:World) (c:PC) (opens:List Bs) (bound:List aM) (out:List bS) (h:dK x i w c opens bound out) (o:bound.length≤1000000000) (p:Bs) (a:Bool) :
  Calls prog 91 #[iU x,aB p,.bool a] w fun e w'=>e=.returned (aB (cC x.space bound p a))∧Below w.heap.size w w':=by
 have B:=h.blk.cell;have D:=h.blk.frozen;have ⟨H,t⟩:=cB h o;clear h o;refine eL 59 func91 [_,_,_] fun f=>?_;simp only [aF]
 have l:=Lh (show cC x.space bound p a=if (p=[]∧a=false)∨p=bD then p
  else if p=mN then dN
  else match iR bound p with
   | some v=>v
   | none=>if p=[] then x.space else p from rfl)
 by_cases j:p=[]∧a=false
 ·have b:=Lh (l.o.trans (aY (aG j)));obtain ⟨rfl,rfl⟩:=j;refine vg ?_;intro K hK;refine cM ?_;exact ⟨by rw [b.o],Below.refl _ w⟩
 by_cases m:p=bD
 ·have b:=Lh (l.o.trans (aY (aU m)));have k:p=[120,109,108,110,115]:=m;clear j m;rw [b.o];subst k;refine vg ?_;intro K hK;refine cM ?_;exact ⟨rfl,Below.refl _ w⟩
 have d:=Lh (l.o.trans (aQ (fun E=>E.elim j m)));by_cases k:p=mN
 ·have b:=Lh (d.o.trans (aY k));have z:p=[120,109,108]:=k;clear j m k;rw [b.o];subst z;refine vg ?_;intro K hK;refine cM ?_;exact ⟨rfl,Below.refl _ w⟩
 have g:=Lh (d.o.trans (aQ k));have G:(p==[120,109,108,110,115])=false:=by rw [lQ];exact m
 have I:(p==[120,109,108])=false:=by rw [lQ];exact k
 have y:=Lh (fun (Q:Exit→Act→World→Prop) (A:∀ r,(r=match iR bound p with
   | some v=>v
   | none=>if p=[] then x.space else p)→∀ f w',Below w.heap.size w w'→Q .ret (fr 59 f [(6,aB r)]) w') (f:Nat→Value)=>G2 x i w c opens bound out H.o t.o p Q A f)
 clear B D m k;by_cases u:p=[]
 ·have C:a=true:=by
   cases a with
   | false=>exact absurd ⟨u,rfl⟩ j
   | true=>rfl
  subst C;subst u;clear j;refine vT 5 ?_;refine cG [0,1] fun f=>?_;refine bB (y.o _ (fun r q f w' n=>?_) f) (by kernel_rfl);have s:=Lh n;have b:=Lh (show r=cC x.space bound [] true by rw [q,g.o]);clear q n;refine vg ?_;refine cM ?_;exact ⟨by rw [b.o],s.o⟩
 ·have F:p.isEmpty=false:=by cases p with
   | nil=>exact absurd rfl u
   | cons=>rfl
  clear j;refine vT 5 ?_;refine cG [0,1] fun f=>?_;refine bB (y.o _ (fun r q f w' n=>?_) f) (by kernel_rfl);have s:=Lh n;have b:=Lh (show r=cC x.space bound p a by rw [q,g.o]);clear q n;refine vg ?_;refine cM ?_;exact ⟨by rw [b.o],s.o⟩
theorem cH.popR {α:Type} {P:α→List Value→Prop} {n:Nat} (g:∀ a e,P a e→e.length=n) {l:List α} {a:α} {d:List Value} (h:cH P (l++[a]) d):cH P l (d.take (l.length*n)):=by
 generalize c:l++[a]=m at h;cases h with
 | nil=>simp at c
 | snoc b i=>
  obtain ⟨rfl,j⟩:=List.append_inj' c rfl;have f:=b.len g;rw [←f,List.take_left' rfl];exact b
theorem tL {w:World} {a g n c:Nat} {e:TypeId} {b:Nat} {i:List Value} (h:w.ownsRow a e b (.slice (some ⟨g,0,none⟩) (n+1) c) (n+1) i):w.ownsRow a e b (.slice (some ⟨g,0,none⟩) n c) n (i.take (n*b)):=by
 obtain ⟨j,k⟩:=h;have f:n*b≤(n+1)*b:=Nat.mul_le_mul_right b (by omega);refine ⟨by rw [pI,j];omega,?_⟩;rcases k with ⟨d,_⟩|⟨g',cap',cur,d,l,m,r,o,p,q⟩
 ·simp at d
 ·simp only [Value.slice.injEq,jW,Addr.mk.injEq] at d;obtain ⟨⟨rfl,_⟩,_,rfl⟩:=d;refine aU ⟨_,_,cur,rfl,l,m,by omega,o,p,?_⟩;rw [←q,List.take_take,Nat.min_eq_left f]
theorem dK.top {x:PX} {e:Nat} {w:World} {c:PC} {o:Bs} {opens:List Bs} {b:aM} {bound:List aM} {out:List bS} (h:dK x e w c (o::opens) (b::bound) out) :
  ∃ g f p d,c.op=.slice (some ⟨g,0,none⟩) (opens.length+1) f∧opens.length+1≤f∧w.cell? ⟨g,opens.length,none⟩=some (aB o)∧g<w.heap.size∧c.bd=.slice (some ⟨p,0,none⟩) (bound.length+1) d∧bound.length+1≤d ∧
   (∃ l,w.ownsRow e 9 1 (.slice (some ⟨g,0,none⟩) opens.length f) opens.length l∧cH (fun b z=>z=[aB b]) opens.reverse l) ∧
   ∃ l,w.ownsRow e 47 1 (.slice (some ⟨p,0,none⟩) bound.length d) bound.length l∧cH (EC w e (fun k=>¬ fS x c k)) bound.reverse l:=by
 obtain ⟨l,q,s⟩:=h.op;obtain ⟨z,r,v⟩:=h.bd;rw [f5] at q r;rw [List.reverse_cons] at s v;obtain ⟨g,f,y,_,u,A,_,j⟩:=gL q (by omega);obtain ⟨p,d,m,_,_,t,_,_⟩:=gL r (by omega);rw [y] at q;rw [m] at r;refine ⟨g,f,p,d,y,A,?_,u,m,t,⟨_,tL q,?_⟩,⟨_,tL r,?_⟩⟩
 ·obtain ⟨C,rfl,B⟩:=s.get (n:=1) (i:=opens.length) (a:=o) (fun _ _ h=>by rw [h];rfl) (by simp);have:=B 0 (by omega);exact j _ _ (by simpa using this)
 ·have:=cH.popR (n:=1) (fun _ _ h=>by rw [h];rfl) s;simpa using this
 ·have:=cH.popR (n:=1) (fun _ _ h=>by obtain ⟨_,_,_,rfl,_⟩:=h;rfl) v;simpa using this
theorem Ba (nm:Bs×Bs):(⟨nm.1.toArray⟩:ByteArray)++⟨#[58]⟩++⟨nm.2.toArray⟩=⟨(dG nm).toArray⟩:=by
 have a:(⟨nm.1.toArray⟩:ByteArray)++⟨#[58]⟩=⟨(nm.1++[58]).toArray⟩:=iF nm.1 [58];rw [a,iF];simp [dG]
theorem JO (x:PX) (a:Nat) (c6:x.raw=false):PS x a:=by
 intro w c opens bound out h W c4 a5 ha nm d2 d3;have dT:=aL.lt h.blk;obtain ⟨wa,j⟩:=cK (w.alloc (.cells #[.int .i64 2,aB nm.1,aB nm.2,.slice none 0 0,.string ⟨#[]⟩,.int .i64 0] 35));have a8:aJ (fun _=>False) w wa:=by rw [j];exact (aJ.refl _ w).alloc _
 have L:aL wa w.heap.size #[.int .i64 2,aB nm.1,aB nm.2,.slice none 0 0,.string ⟨#[]⟩,.int .i64 0] 35:=by rw [j];exact aL.new w _ _
 have r:dK x a wa c opens bound out:=h.fresh a8;have hc:=r.blk.cell;have a6:=L.cell;have a7:=L.frozen;have ⟨H,t,c7,a3,HA,b2⟩:=gT h r L a8 ha W;have aA:=Lh (show ∀ s:gN,eJ x.raw x.space s nm=match s.opens with
   | []=>.error .bad
   | y::l=>if y=dG nm then .ok (.fin (cC x.space s.bound nm.1 true,nm.2),{ s with opens:=l,bound:=s.bound.tail }) else .error .bad from fun s=>by unfold eJ;rw [c6];rfl)
 have HF:=Lh (fun (w':World) (h1:aV x w' c) (h2:aJ (fun k=>k=x.p) w w')=>gW x w w' c h1 h2 1);clear h r L a8 ha W dT;cases opens with
 | nil=>
  obtain ⟨sA,sC,c5⟩:∃ sA sC,c.op=.slice sA 0 sC:=by
   obtain ⟨_,U,_⟩:=t.o.op;rcases U.2 with ⟨U,h8⟩|⟨g,J,cur,U,_⟩
   ·exact ⟨none,0,U⟩
   ·exact ⟨_,_,U⟩
  refine eL 70 func51 [_,_,_] fun f=>?_;simp only [aF];refine vT 2 ?_;rw [←j];clear j;refine vg ?_;intro K hK K hK K hK;refine (HF.o _ (by exact t.o.blk) (by exact a3.o.mono (fun _ _ h=>h.elim))).mono ?_;rintro e6 w6 ⟨rfl,D,C⟩;have a4:=Lh (show aV x w6 { c with at':=c.at',verd:=SV.bad.num } from D);have a0:=Lh C;clear D C;(repeat revert K);refine vS ?_;intro K hK;refine cM ?_;exact fU.err (w1:=w) (k:=.bad) H.o a4.o a0.o (by rw [aA.o];rfl)
 | cons o l=>
  obtain ⟨b,d,rfl⟩:∃ b d,bound=b::d:=by cases bound with
   | nil=>simp at a5
   | cons b d=>exact ⟨b,d,rfl⟩
  obtain ⟨g,J,g2,u,c5,V,E,c2,cT,e,Y,A⟩:=H.o.top;have c1:Below w.heap.size w wa:=by rw [j];exact (Below.refl _ w).alloc (dF _) _
  have E:=(c1.cell (p:=⟨g,l.length,none⟩) c2).trans E;have B:d.length=l.length:=by simpa using a5
  rw [B] at cT e A;have X:l.length+1≤500000000:=c4;have e0:((l.length:Int)+1==0)=false:=by rw [lQ];omega
  have ws:IntKind.i64.wrap (l.length:Int)=(l.length:Int):=by rw [IntKind.wrap_i64];omega
  have a1:¬ 9223372036854775807<nm.1.length+1:=by omega
  have a2:¬ 9223372036854775807<nm.1.length+1+nm.2.length:=by omega
  have d1:=Ba nm;have t0:(0:Int)≤(l.length:Int):=by omega
  have t1:(l.length:Int)<(l.length:Int)+1:=by omega
  have ⟨b4,b0,b1,Z,T,b3⟩:=gT Y A V e B X;clear Y A V e B X c4 a5 c1 c2;refine eL 70 func51 [_,_,_] fun f=>?_;simp only [aF];refine vT 2 ?_;rw [←j];clear j;refine vg ?_;intro K hK;by_cases M:o=dG nm
  ·have HR:=Lh (show eJ x.raw x.space ⟨x.T.drop c.at',o::l,b::d⟩ nm=.ok (.fin (cC x.space (b::d) nm.1 true,nm.2),⟨x.T.drop c.at',l,d⟩) by
    rw [aA.o];simp only [aY M];rfl)
   have b5:=Lh (fun (w':World) (h':dK x a w' c (o::l) (b::d) out)=>sH x a w' c (o::l) (b::d) out h' (by rw [f5,T.o];have:=b3.o;omega) nm.1 true);generalize cC x.space (b::d) nm.1 true=rs at HR b5;have d0:(o==dG nm)=true:=by rw [M];simp
   revert K;refine vg ?_;intro K hK K hK;refine (b5.o _ (by exact t.o)).mono ?_;rintro e3 w3 ⟨rfl,b7⟩;have aC:=Lh (aH b7 (fun _=>False));have m:=c7.o.mod aC.o id;have n:=t.o.fresh aC.o;have hc:=n.blk.cell;have hf:=n.blk.frozen;have a6:=m.cell;have a7:=m.frozen;have ⟨b6,bC⟩:=cB n m;clear b7 m n E;go_simp;(repeat revert K);refine vT 8 ?_;obtain ⟨I,F⟩:=cK (w3.setCell ⟨w.heap.size,1,none⟩ (aB rs));rw [←F];have O:aV x I c:=by rw [F];exact aL.set_ne b6.o.blk (fun he=>by have:=aL.lt H.o.blk;simp at he;omega) _
   have b9:aL I w.heap.size #[.int .i64 2,aB rs,aB nm.2,.slice none 0 0,.string ⟨#[]⟩,.int .i64 0] 35:=by
    have:=bC.o.set 1 (aB rs);rw [F];simpa using this
   have c3:aJ (fun _=>False) w I:=by rw [F];exact aJ.setCell (S:=fun _=>False) (a3.o.trans aC.o (fun _ _ h=>h)) (p:=⟨w.heap.size,1,none⟩) (aU (dF _)) _
   have ⟨dI,c8,q⟩:=kV O b9 c3;have hc:=O.cell;have hf:=O.frozen;have tc:(l.length:Int)≤(J:Int):=by have:=b1.o;omega
   have d4:(l.length:Int)≤(u:Int):=by have:=Z.o;omega
   clear F O b9 c3 a6 a7;refine vg ?_;intro K hK;(refine lD [0,0,0,0,0,1,0,0,0,0,0,0,1,0,0,0,0,0,2,0,0,2] [0,1,2,3,4,5,6,7,8,9,10,11,12,13,14,15,16,17,18,19,20,21] ?_;refine vP ?_;repeat with_reducible intro nq)
   rename_i na nb;revert K;refine vT 9 ?_;obtain ⟨R,P⟩:∃ v,v=Value.slice (some ⟨g,0,none⟩) l.length J:=⟨_,rfl⟩;obtain ⟨v7,Q⟩:∃ v,v=Value.slice (some ⟨g2,0,none⟩) l.length u:=⟨_,rfl⟩;obtain ⟨wd,G⟩:=cK (((((I.drewN na).setCell ⟨x.p,6,none⟩ (.slice (some ⟨g,0,none⟩) l.length J)).drewN nb).setCell ⟨x.p,7,none⟩ (.slice (some ⟨g2,0,none⟩) l.length u)).drewN nq);rw [←G];rw [←P,←Q] at G;have h6:aV x ((I.drewN na).setCell ⟨x.p,6,none⟩ R) { c with op:=R }:=aL.set (w:=I.drewN na) (cs:=fN x c) dI.o 6 _;have h7:aV x ((((I.drewN na).setCell ⟨x.p,6,none⟩ R).drewN nb).setCell ⟨x.p,7,none⟩ v7) { c with op:=R,bd:=v7 }:=aL.set (w:=((I.drewN na).setCell ⟨x.p,6,none⟩ R).drewN nb) (cs:=fN x { c with op:=R }) h6 7 _;have a9:aV x wd { c with op:=R,bd:=v7 }:=by rw [G];exact h7
   have N:aJ (fun k=>k=x.p) I wd:=by
    rw [G];exact (aJ.setCell (S:=fun k=>k=x.p) ((aJ.setCell (S:=fun k=>k=x.p) ((aJ.refl _ I).drewN _) (p:=⟨x.p,6,none⟩) (aG rfl) _).drewN _) (p:=⟨x.p,7,none⟩) (aG rfl) _).drewN _
   have z:aL wd w.heap.size #[.int .i64 2,aB rs,aB nm.2,.slice none 0 0,.string ⟨#[]⟩,.int .i64 0] 35:=c8.o.mod N (fun he=>by have:=aL.lt H.o.blk;omega)
   have r:dK x a wd { c with op:=R,bd:=v7 } l d out:=(H.o.fresh q.o).own2 a9 N rfl (by rw [P,c5];rfl) (by rw [Q,cT];rfl)
    (by
     obtain ⟨ys,h1,h2⟩:=b4.o;exact ⟨ys,by rw [P];exact aE (S:=fun _=>False) h1 q.o (fun _ _=>id),h2⟩)
    (by
     obtain ⟨ys,h1,h2⟩:=b0.o;exact ⟨ys,by rw [Q,T.o];exact aE (S:=fun _=>False) h1 q.o (fun _ _=>id),h2.mono (fun _ _ hh=>hh.mod (G':=fun k=>¬ fS x c k) q.o (fun k hk _=>⟨id,hk⟩))⟩)
   have bA:=Lh (rA x a wd wd { c with op:=R,bd:=v7 } l d out r (by have:=b2.o;omega) c.at' HA.o (by exact a9) (aJ.refl _ _) (.fin (rs,nm.2)) rfl (.ok ([.fin (rs,nm.2)],⟨x.T.drop c.at',l,d⟩)) rfl);have c9:=Lh (show Below a w wd from aJ.below (aJ.below (Below.refl _ w) H.o.size q.o (fun i hi=>hi.elim)) (fQ H.o.size q.o.size) N (fun i hi=>by rw [hi];exact H.o.pb));have a6:=z.cell;have a7:=z.frozen;clear G h6 h7 a9 N z r hc hf P Q;refine vg ?_;intro K hK K hK;refine bA.o.mono ?_;rintro e9 w9 ⟨rfl,U⟩;have H9:=Lh U;clear U;(repeat revert K);refine vS ?_;refine cM ?_;refine fU.base c9.o ?_;rw [HR.o];exact H9.o
  ·have HR:=Lh (show eJ x.raw x.space ⟨x.T.drop c.at',o::l,b::d⟩ nm=.error .bad by
    rw [aA.o];simp only [aQ M])
   have d0:(o==dG nm)=false:=by rw [lQ];exact M
   revert K;refine vg ?_;intro K hK K hK K hK;refine (HF.o _ (by exact t.o.blk) (by exact a3.o.mono (fun _ _ h=>h.elim))).mono ?_;rintro e6 w6 ⟨rfl,D,C⟩;have a4:=Lh (show aV x w6 { c with at':=c.at',verd:=SV.bad.num } from D);have a0:=Lh C;clear D C;(repeat revert K);refine vS ?_;intro K hK;refine cM ?_;exact fU.err (w1:=w) (k:=.bad) H.o a4.o a0.o (by rw [HR.o];rfl)
noncomputable def nX (n:Nat):Code:=((Tryz.f60.body).bind (Code.partAt n)).getD .skip
def CF (acc:aM) (r:Except SV aM):Except SV aM:=match r with
 | .error e=>.error e
 | .ok l=>.ok (acc++l)
theorem PV (acc:aM) (p:Bs×Bs) (r:Except SV aM):CF acc (CF [p] r)=CF (acc++[p]) r:=by
 cases r<;>simp [CF]
def tM (a v:Bs):Prop:=a=mN∨a=bD∨(a≠[]∧v=[])∨v=dN∨v=oG
theorem LY {a:List cO} {i:Nat} {c b v:Bs} (h:a[i]?=some (c,b,v)) (f:c≠bD∧(c≠[]∨b≠bD)):eB (a.drop i)=eB (a.drop (i+1)):=by
 obtain ⟨e,d⟩:=A9.1 h;rw [CN e,d];conv=>lhs;unfold eB
 rw [aY f]
theorem PW {b:List cO} {i:Nat} {c a v:Bs} (h:b[i]?=some (c,a,v)) (g:¬ (c≠bD∧(c≠[]∨a≠bD))) (d:tM (if c=bD then a else []) v):eB (b.drop i)=.error .opn:=by
 obtain ⟨f,e⟩:=A9.1 h;rw [CN f,e];unfold eB;rw [aQ g];exact aY d
theorem LZ {a:List cO} {i:Nat} {c b v:Bs} (h:a[i]?=some (c,b,v)) (g:¬ (c≠bD∧(c≠[]∨b≠bD))) (d:¬ tM (if c=bD then b else []) v):eB (a.drop i)=CF [(if c=bD then b else [],v)] (eB (a.drop (i+1))):=by
 obtain ⟨f,e⟩:=A9.1 h;rw [CN f,e];conv=>lhs;unfold eB
 rw [aQ g];refine (aQ d).trans ?_;cases eB (a.drop (i+1))<;>rfl
theorem Z0 (x:PX) (w0 w:World) (c:PC) (hp:aV x w0 c) (O:Below w0.heap.size w0 w) (em:Bool) (bt:Nat) (nm:Bs×Bs) (sv:Value) (n i:Nat) (ba:Nat) (sp aC b a:Bs) (e:aL w ba #[aB sp,aB aC,aB b] 68) (acc:aM) (v:Value) (q:w.ownsRow w0.heap.size 177 2 v acc.length (cJ acc)) (H:acc.length≤1000000000) (Q:Exit→Act→World→Prop)
  (hE:tM a b→∀ f w',aV x w' { c with verd:=2 }→aJ (fun k=>k=x.p) w0 w'→Q .ret (fr 182 f [(6,.bool false)]) w')
  (hM:¬ tM a b→∀ f v' w',Below w0.heap.size w0 w'→w'.ownsRow w0.heap.size 177 2 v' (acc.length+1) (cJ (acc++[(a,b)]))→Q .normal (fr 182 f [(0,iU x),(2,.bool em),(4,.pointer (some ⟨bt,0,none⟩)),(7,aB nm.1),(8,aB nm.2),(9,v'),(36,sv),(37,.int .i64 (n:Nat)),(38,.int .i64 (i:Nat))]) w') (f:Nat→Value) :
  (nX 13).wp prog Q (fr 182 f [(0,iU x),(2,.bool em),(4,.pointer (some ⟨bt,0,none⟩)),(7,aB nm.1),(8,aB nm.2),(9,v),(11,.pointer (some ⟨ba,0,none⟩)),(12,aB a),(36,sv),(37,.int .i64 (n:Nat)),(38,.int .i64 (i:Nat))]) w:=by
 have a7:=e.cell;have a8:=e.frozen;have HF:=Lh (gW x w0 w c (hp.mod (aH O (fun _=>False)) id) (aH O _) 2);have ⟨N,a0,m,P,HE,HM⟩:=gT O e q H hE hM;clear O e q H hE hM hp;unfold nX;conv=>arg 2;whnf
 have y:a=mN↔(a==[120,109,108])=true:=beq_iff_eq.symm;have z:a=bD↔(a==[120,109,108,110,115])=true:=beq_iff_eq.symm;have A:a≠[]↔a.isEmpty=false:=by cases a<;>simp
 have B:b=[]↔b.isEmpty=true:=by cases b<;>simp
 have C:b=dN↔(b==[104,116,116,112,58,47,47,119,119,119,46,119,51,46,111,114,103,47,88,77,76,47,49,57,57,56,47,110,97,109,101,115,112,97,99,101])=true:=beq_iff_eq.symm;have D:b=oG↔(b==[104,116,116,112,58,47,47,119,119,119,46,119,51,46,111,114,103,47,50,48,48,48,47,120,109,108,110,115,47])=true:=beq_iff_eq.symm;by_cases d:tM a b
 ·have R:=Lh (HE.o d);unfold tM at d;rw [y,z,A,B,C,D] at d
  have Z:((a==[120,109,108])=true)∨((a==[120,109,108])=false∧(a==[120,109,108,110,115])=true)∨((a==[120,109,108])=false∧(a==[120,109,108,110,115])=false∧a.isEmpty=false∧b.isEmpty=true)
    ∨ ((a==[120,109,108])=false∧(a==[120,109,108,110,115])=false∧a.isEmpty=true∧(b==[104,116,116,112,58,47,47,119,119,119,46,119,51,46,111,114,103,47,88,77,76,47,49,57,57,56,47,110,97,109,101,115,112,97,99,101])=true)
    ∨ ((a==[120,109,108])=false∧(a==[120,109,108,110,115])=false∧a.isEmpty=false∧b.isEmpty=false∧(b==[104,116,116,112,58,47,47,119,119,119,46,119,51,46,111,114,103,47,88,77,76,47,49,57,57,56,47,110,97,109,101,115,112,97,99,101])=true)
    ∨ ((a==[120,109,108])=false∧(a==[120,109,108,110,115])=false∧a.isEmpty=true∧(b==[104,116,116,112,58,47,47,119,119,119,46,119,51,46,111,114,103,47,88,77,76,47,49,57,57,56,47,110,97,109,101,115,112,97,99,101])=false∧(b==[104,116,116,112,58,47,47,119,119,119,46,119,51,46,111,114,103,47,50,48,48,48,47,120,109,108,110,115,47])=true)
    ∨ ((a==[120,109,108])=false∧(a==[120,109,108,110,115])=false∧a.isEmpty=false∧b.isEmpty=false∧(b==[104,116,116,112,58,47,47,119,119,119,46,119,51,46,111,114,103,47,88,77,76,47,49,57,57,56,47,110,97,109,101,115,112,97,99,101])=false∧(b==[104,116,116,112,58,47,47,119,119,119,46,119,51,46,111,114,103,47,50,48,48,48,47,120,109,108,110,115,47])=true):=by
   clear y z A B C D;revert d;generalize (a==[120,109,108])=a1;generalize (a==[120,109,108,110,115])=a2;generalize a.isEmpty=a3;generalize b.isEmpty=a4;generalize (b==[104,116,116,112,58,47,47,119,119,119,46,119,51,46,111,114,103,47,88,77,76,47,49,57,57,56,47,110,97,109,101,115,112,97,99,101])=a5;generalize (b==[104,116,116,112,58,47,47,119,119,119,46,119,51,46,111,114,103,47,50,48,48,48,47,120,109,108,110,115,47])=a6;cases a1<;>cases a2<;>cases a3<;>cases a4<;>cases a5<;>cases a6<;>simp
  clear d y z A B C D;rcases Z with o|⟨o,s⟩|⟨o,s,t,X⟩|⟨o,s,t,G⟩|⟨o,s,t,X,G⟩|⟨o,s,t,G,Y⟩|⟨o,s,t,X,G,Y⟩
  all_goals
   refine vg ?_;intro K hK K hK K hK;refine HF.o.mono ?_;rintro e1 w1 ⟨rfl,M,J⟩;have ⟨W,T⟩:=cB M J;clear M J;(repeat revert K);refine vS ?_;intro K hK;refine Qk [6] fun f=>?_;exact R.o f _ W.o T.o
 ·have U:=Lh (HM.o d);unfold tM at d;rw [y,z,A,B,C,D] at d
  have Z:((a==[120,109,108])=false∧(a==[120,109,108,110,115])=false∧a.isEmpty=true∧(b==[104,116,116,112,58,47,47,119,119,119,46,119,51,46,111,114,103,47,88,77,76,47,49,57,57,56,47,110,97,109,101,115,112,97,99,101])=false∧(b==[104,116,116,112,58,47,47,119,119,119,46,119,51,46,111,114,103,47,50,48,48,48,47,120,109,108,110,115,47])=false)
    ∨ ((a==[120,109,108])=false∧(a==[120,109,108,110,115])=false∧a.isEmpty=false∧b.isEmpty=false∧(b==[104,116,116,112,58,47,47,119,119,119,46,119,51,46,111,114,103,47,88,77,76,47,49,57,57,56,47,110,97,109,101,115,112,97,99,101])=false∧(b==[104,116,116,112,58,47,47,119,119,119,46,119,51,46,111,114,103,47,50,48,48,48,47,120,109,108,110,115,47])=false):=by
   clear y z A B C D;revert d;generalize (a==[120,109,108])=a1;generalize (a==[120,109,108,110,115])=a2;generalize a.isEmpty=a3;generalize b.isEmpty=a4;generalize (b==[104,116,116,112,58,47,47,119,119,119,46,119,51,46,111,114,103,47,88,77,76,47,49,57,57,56,47,110,97,109,101,115,112,97,99,101])=a5;generalize (b==[104,116,116,112,58,47,47,119,119,119,46,119,51,46,111,114,103,47,50,48,48,48,47,120,109,108,110,115,47])=a6;cases a1<;>cases a2<;>cases a3<;>cases a4<;>cases a5<;>cases a6<;>simp
  clear d y z A B C D;obtain ⟨wq,l⟩:=cK (w.alloc (.cells #[aB a,aB b] 177));have I:aL wq w.heap.size #[aB a,aB b] 177:=by rw [l];exact aL.new w _ _
  have g:aJ (fun _=>False) w wq:=by rw [l];exact (aJ.refl _ w).alloc _
  obtain ⟨v',w4,r,p,L,hv,gv,cv,aA⟩:=nL PO underlying47 rfl (by decide) (by decide) wq w0.heap.size (fQ N.o.size g.size) v acc.length P.o (cJ acc) (aE (S:=fun _=>False) m.o g (fun _ _=>id)) w.heap.size [aB a,aB b] rfl
   (fun j u hj=>by rw [I.cell];simpa using hj)
   (fun u hu=>by
    simp only [mF,y5,or_false] at hu;rcases hu with rfl|rfl<;>rfl)
  have ⟨F,V,E⟩:=kV p L g;clear I g p L hv aA;rcases Z with ⟨o,s,t,G,Y⟩|⟨o,s,t,X,G,Y⟩
  all_goals
   refine vB ?_;rw [←l];clear l;refine eP rfl (.tmp 87) (.tmp 92) _ _ rfl _ _ _ (by rw [bU (by decide)];(try simp only [aK,aO,aR,aW,Nat.reduceEqDiff,↓reduceIte]);(try rfl)) (by rw [bU (by decide)];(try simp only [aK,aO,aR,aW,Nat.reduceEqDiff,↓reduceIte]);(try rfl)) r ?_;clear r;rw [fG (by decide)];refine vg ?_;refine Qk [0,2,4,7,8,9,36,37,38] fun f=>?_;refine U.o f v' w4 (aJ.below (aJ.below N.o N.o.size E.o (fun _ h=>h.elim)) (fQ N.o.size E.o.size) V.o (fun i hi=>(aS m.o hi).2)) ?_;rw [vM];exact F.o
def Z1 (x:PX) (em:Bool) (c:Nat) (nm:Bs×Bs) (d:Value) (b:List cO) (w0:World) (k:Nat) (a:Act) (w:World):Prop:=
 ∃ f i acc v,a=fr 182 f [(0,iU x),(2,.bool em),(4,.pointer (some ⟨c,0,none⟩)),(7,aB nm.1),(8,aB nm.2),(9,v),(36,d),(37,.int .i64 (b.length:Nat)),(38,.int .i64 (i:Nat))]∧Below w0.heap.size w0 w ∧
  w.ownsRow w0.heap.size 177 2 v acc.length (cJ acc)∧acc.length≤i∧k=b.length-i∧i≤b.length∧eB b=CF acc (eB (b.drop i))
theorem yE {s:Bs} (h:(s==[120,109,108,110,115])=true):s=bD:=by rw [beq_iff_eq] at h;exact h
theorem yF {s:Bs} (h:(s==[120,109,108,110,115])=false):s≠bD:=by rw [lQ] at h;exact h
theorem W8 (x:PX) (w0:World) (c:PC) (hp:aV x w0 c) (em:Bool) (P:Nat) (nm:Bs×Bs) (b:List cO) (V:b.length≤1000000000) (sa:Option Addr) (sc b0:Nat) (F:w0.ownsRow b0 68 3 (.slice sa b.length sc) b.length (aN b)) (Q:Exit→Act→World→Prop)
  (hE:eB b=.error .opn→∀ f w',aV x w' { c with verd:=2 }→aJ (fun k=>k=x.p) w0 w'→Q .ret (fr 182 f [(6,.bool false)]) w')
  (hN:∀ l,eB b=.ok l→l.length≤b.length→∀ f v w',Below w0.heap.size w0 w'→w'.ownsRow w0.heap.size 177 2 v l.length (cJ l)→Q .normal (fr 182 f [(0,iU x),(2,.bool em),(4,.pointer (some ⟨P,0,none⟩)),(7,aB nm.1),(8,aB nm.2),(9,v)]) w') (f:Nat→Value) (c1:Code) (aC:c1=.loop (nX 7)) :
  c1.wp prog (Exit.inBlock 0 Q) (fr 182 f [(0,iU x),(2,.bool em),(4,.pointer (some ⟨P,0,none⟩)),(7,aB nm.1),(8,aB nm.2),(9,.slice none 0 0),(36,.slice sa b.length sc),(37,.int .i64 (b.length:Nat)),(38,.int .i64 0)]) w0:=by
 subst aC;have ⟨HP,G,E,HE,HN⟩:=pM hp V F hE hN;refine wp_loop_ghost_k (Z1 x em P nm (.slice sa b.length sc) b w0) b.length ⟨f,0,[],.slice none 0 0,rfl,Below.refl _ _,⟨rfl,aG ⟨rfl,rfl⟩⟩,jU _,by simp,jU _,by rw [List.drop_zero];cases eB b<;>rfl⟩ ?_;clear hp V F hE hN;rintro k _ w ⟨f,i,acc,v,rfl,j,hr,U,hk,hi,W⟩ J K2 hJ R;have ⟨HJ,A,M,HR,HK,n⟩:=gT hJ R j hr hk U;have y:=Lh W;clear hJ R j hr hk U W;unfold nX;conv=>arg 2;whnf
 by_cases t:i<b.length
 ·have t1:(i:Int)<(b.length:Int):=by omega
  have t0:(0:Int)≤(i:Int):=by omega
  have wi:IntKind.i64.wrap ((i:Int)+1)=((i+1:Nat):Int):=by rw [IntKind.wrap_i64];have:=G.o;omega
  obtain ⟨⟨r,d,e⟩,ha⟩:∃ a,b[i]?=some a:=⟨b[i],by simp [t]⟩;obtain ⟨g,a1,_,k1,k2,k3⟩:=jR E.o ha;subst a1;have D:g<w0.heap.size:=(aS E.o (g:=g) rfl).1;have X:w.cell? ⟨g,i*3,none⟩=some (aB r):=(M.o.cell (p:=⟨g,i*3,none⟩) D).trans k1;have Y:w.cell? ⟨g,i*3+1,none⟩=some (aB d):=(M.o.cell (p:=⟨g,i*3+1,none⟩) D).trans k2;have Z:w.cell? ⟨g,i*3+2,none⟩=some (aB e):=(M.o.cell (p:=⟨g,i*3+2,none⟩) D).trans k3;obtain ⟨wa,u⟩:=cK (w.alloc (.cells #[aB r,aB d,aB e] 68));have C:aL wa w.heap.size #[aB r,aB d,aB e] 68:=by rw [u];exact aL.new w _ _
  have N:=Lh C;have z:=Lh (show Below w0.heap.size w0 wa by rw [u];exact M.o.alloc M.o.size _);have B:=Lh (show wa.ownsRow w0.heap.size 177 2 v acc.length (cJ acc) from aE (S:=fun _=>False) HR.o (by rw [u];exact (aJ.refl _ w).alloc _) (fun _ _=>id));have H:=Lh ha;have a2:=C.cell;have a3:=C.frozen;clear k1 k2 k3 D C ha;refine vT 9 ?_;intro K hK;rw [←u];clear u X Y Z;have s:=Lh (fun (q:Bs) (hs:¬ (r≠bD∧(r≠[]∨d≠bD))) (hn:(if r=bD then d else [])=q)=>(⟨fun j=>by
    rw [←hn] at j;rw [y.o,PW H.o hs j];rfl,fun j=>by
    have h9:=j;rw [←hn] at h9;rw [y.o,LZ H.o hs h9,hn,PV]⟩:(tM q e→eB b=.error .opn)∧(¬ tM q e→eB b=CF (acc++[(q,e)]) (eB (b.drop (i+1))))))
  cases m:(r==[120,109,108,110,115]) with
  | true=>
   have T:=s.o d (fun hh=>hh.1 (yE m)) (aY (yE m));have O:=Lh T;clear T;revert K;refine vT 13 ?_;intro K hK;refine cG [0,2,4,7,8,9,11,12,36,37,38] fun f=>?_;refine bB (Z0 x w0 wa c HP.o z.o em P nm (.slice (some ⟨g,0,none⟩) b.length sc) b.length i w.heap.size r d e d N.o acc v B.o (by have:=n.o;have:=G.o;omega) _ (fun j f w' m o=>?_) (fun j f v' w' m o=>?_) f) (by kernel_rfl)
   ·have I:=Lh (HE.o (O.o.1 j) f w' m o);clear m o j;revert K;refine vg ?_;intro K hK;exact I.o
   ·have H1:=Lh m;have H2:=Lh o;have H3:=Lh (O.o.2 j);clear m o j;revert K;refine vg ?_;refine Kk [0,2,4,7,8,9,36,37,38] fun f=>?_;exact A.o _ _ ⟨b.length-(i+1),by rw [HK.o];omega,HJ.o _ _ _ ⟨f,i+1,acc++[(d,e)],v',rfl,H1.o,by rw [fP];exact H2.o,by rw [fP];have:=n.o;simp;omega,rfl,t,H3.o⟩⟩
  | false=>
   have skip:(r≠[]∨d≠bD)→eB b=CF acc (eB (b.drop (i+1))):=fun h=>by rw [y.o,LY H.o ⟨yF m,h⟩]
   cases o:r.isEmpty with
   | false=>
    have HS:=Lh (skip (aG (fun hh=>by rw [hh] at o;cases o)));clear skip;revert K;refine vg ?_;refine Kk [0,2,4,7,8,9,36,37,38] fun f=>?_;exact A.o _ _ ⟨b.length-(i+1),by rw [HK.o];omega,HJ.o _ _ _ ⟨f,i+1,acc,v,rfl,z.o,B.o,by have:=n.o;omega,rfl,t,HS.o⟩⟩
   | true=>
    have L:r=[]:=by
     cases r with
     | nil=>rfl
     | cons=>cases o
    cases h3:(d==[120,109,108,110,115]) with
    | false=>
     have HS:=Lh (skip (aU (yF h3)));clear skip L;revert K;refine vg ?_;refine Kk [0,2,4,7,8,9,36,37,38] fun f=>?_;exact A.o _ _ ⟨b.length-(i+1),by rw [HK.o];omega,HJ.o _ _ _ ⟨f,i+1,acc,v,rfl,z.o,B.o,by have:=n.o;omega,rfl,t,HS.o⟩⟩
    | true=>
     have T:=s.o [] (fun hh=>hh.2.elim (fun h=>h L) (fun h=>h (yE h3))) (aQ (yF m));have O:=Lh T;clear T skip L;revert K;refine vT 13 ?_;intro K hK;refine cG [0,2,4,7,8,9,11,12,36,37,38] fun f=>?_;refine bB (Z0 x w0 wa c HP.o z.o em P nm (.slice (some ⟨g,0,none⟩) b.length sc) b.length i w.heap.size r d e [] N.o acc v B.o (by have:=n.o;have:=G.o;omega) _ (fun j f w' m o=>?_) (fun j f v' w' m o=>?_) f) (by kernel_rfl)
     ·have I:=Lh (HE.o (O.o.1 j) f w' m o);clear m o j;revert K;refine vg ?_;intro K hK;exact I.o
     ·have H1:=Lh m;have H2:=Lh o;have H3:=Lh (O.o.2 j);clear m o j;revert K;refine vg ?_;refine Kk [0,2,4,7,8,9,36,37,38] fun f=>?_;exact A.o _ _ ⟨b.length-(i+1),by rw [HK.o];omega,HJ.o _ _ _ ⟨f,i+1,acc++[([],e)],v',rfl,H1.o,by rw [fP];exact H2.o,by rw [fP];have:=n.o;simp;omega,rfl,t,H3.o⟩⟩
 ·have a0:i=b.length:=by omega
  subst a0;have t1:¬ ((b.length:Int)<(b.length:Int)):=by omega
  have aA:=Lh (HN.o acc (by rw [y.o,List.drop_length];unfold eB CF;simp) n.o);refine vg ?_;intro K hK;refine Qk [0,2,4,7,8,9] fun f=>?_;exact aA.o f v w M.o HR.o
end Go.Proofs.YthapcchcahnfaaaGreatDoor
