/- Part of the proof that laws.FnSkip returns true for every argument. No conditions. -/
import Derived.Test.YthapcchcahnfaaaGreatDoorS33
import Derived.Test.YthapcchcahnfaaaGreatDoorS23
import Derived.Test.YthapcchcahnfaaaGreatDoorS32
import Derived.Test.YthapcchcahnfaaaGreatDoorS26
import Derived.Test.YthapcchcahnfaaaGreatDoorS34
import Derived.Test.YthapcchcahnfaaaGreatDoorS18
set_option linter.all false
set_option maxHeartbeats 8000000
set_option maxRecDepth 100000
namespace Go.Proofs.YthapcchcahnfaaaGreatDoor
open Go Go.RowKit Go.Proofs.Tryz
theorem ZH (a b c:Bs) (w:World):(binOp .neq 68 (.agg #[aB a,aB b,aB c]) (.agg #[aB a,aB b,aB c])).run prog w=.ok (.bool false) w:=by
 have e:∀ (d:Nat) (x:Bs) (w:World),(Op.equalIn (d+1) 9 (aB x) (aB x)).run prog w=.ok true w:=fun d x w=>by
  rw [run_equalIn_string w d _ _ _ underlying9];simp
 have f:=underlying9;rw [run_neq_struct,show (10000:Nat)=9999+1 from rfl,run_equalIn_agg w 9999 _ _ _ (by kernel_rfl) (by kernel_rfl)];simp only [Program.fieldsOf,underlying68];go_simp
abbrev Bi (p:bS) (a:Option Addr) (c b:Nat):Value:=.agg #[.int .i64 p.kind,aB p.space,aB p.loc,.slice a c b,aB p.text,.int .i64 p.at']
def ZI (w1:World) (b:Nat) (n:Nat) (k:Nat) (a:Act) (w:World):Prop:=
 ∃ f i,a=fr 59 f [(2,.pointer (some ⟨b,0,none⟩)),(3,.pointer (some ⟨b+1,0,none⟩)),(43,.int .i64 (n:Nat)),(44,.int .i64 (i:Nat))]∧(∃ j,w=w1.drewN j)∧k=n-i∧i≤n
theorem jR {w:World} {d:Nat} {e:TypeId} {k:Option Addr} {l r:Nat} {b:List cO} (h:w.ownsRow d e 3 (.slice k l r) b.length (aN b)) {i:Nat} {a:cO} (j:b[i]?=some a) :
  ∃ g,k=some ⟨g,0,none⟩∧l=b.length∧w.cell? ⟨g,i*3,none⟩=some (aB a.1)∧w.cell? ⟨g,i*3+1,none⟩=some (aB a.2.1)∧w.cell? ⟨g,i*3+2,none⟩=some (aB a.2.2):=by
 have t:=(A9.1 j).1;rcases h.2 with ⟨_,s⟩|⟨g,cap,cur,f,_,m,_,_,_,n⟩
 ·omega
 ·simp only [Value.slice.injEq] at f;obtain ⟨rfl,rfl,rfl⟩:=f;obtain ⟨o,p,q⟩:=s8 n j;have c:aL w g cur e:=m;exact ⟨g,rfl,rfl,(c.cell _).trans o,(c.cell _).trans p,(c.cell _).trans q⟩
theorem tE {w:World} {a:Nat} {e:TypeId} {d:Option Addr} {c f n:Nat} {j:List Value} {i:Nat} (h:w.ownsRow a e i (.slice d c f) n j):c=n:=by
 rcases h.2 with ⟨b,k⟩|⟨g,cap,cur,b,_⟩
 ·simp only [Value.slice.injEq] at b;omega
 ·simp only [Value.slice.injEq] at b;exact b.2.1
theorem TH (w0:World) (p:bS) (C:Nat) (h:p.attrs.length≤1000000000) (b1 z:Nat) (x:Option Addr) (U l:Nat) (e:Option Addr) (y d:Nat) (n:w0.ownsRow b1 68 3 (.slice x U l) p.attrs.length (aN p.attrs)) (H:w0.ownsRow z 68 3 (.slice e y d) p.attrs.length (aN p.attrs)) :
  Calls prog 22 #[Bi p x U l,Bi { p with at':=C } e y d] w0 fun en w'=>en=.returned (.bool true)∧Below w0.heap.size w0 w':=by
 have e1:=tE n;have e2:=tE H;subst e1 e2;obtain ⟨w1,c⟩:=cK ((w0.alloc (.cells #[.int .i64 p.kind,aB p.space,aB p.loc,.slice x p.attrs.length l,aB p.text,.int .i64 p.at'] 35)).alloc (.cells #[.int .i64 p.kind,aB p.space,aB p.loc,.slice e p.attrs.length d,aB p.text,.int .i64 C] 35));have g:Below w0.heap.size w0 w1:=by rw [c];exact ((Below.refl _ w0).alloc (dF _) _).alloc (by simp) _
 have q:aL w1 w0.heap.size #[.int .i64 p.kind,aB p.space,aB p.loc,.slice x p.attrs.length l,aB p.text,.int .i64 p.at'] 35:=by rw [c];exact (aL.new w0 _ _).alloc _
 have r:aL w1 (w0.heap.size+1) #[.int .i64 p.kind,aB p.space,aB p.loc,.slice e p.attrs.length d,aB p.text,.int .i64 C] 35:=by
  have:=aL.new (w0.alloc (.cells #[.int .i64 p.kind,aB p.space,aB p.loc,.slice x p.attrs.length l,aB p.text,.int .i64 p.at'] 35)) #[.int .i64 p.kind,aB p.space,aB p.loc,.slice e p.attrs.length d,aB p.text,.int .i64 C] 35;rw [c];simpa using this
 have V:=Lh (aE (S:=fun _=>False) n (aH g _) (fun _ _=>id));have W:=Lh (aE (S:=fun _=>False) H (aH g _) (fun _ _=>id));have ⟨D,X,Y,m⟩:=kS g q r h;clear n H g q r h;refine eL 59 func22 [_,_] fun f=>?_;simp only [aF];refine vT 1 ?_;rw [←c];clear c;have s:=X.o.cell;have t:=Y.o.cell;refine vg ?_;intro K hK;refine cG [2,3,43,44] fun f=>?_;have ⟨E,F⟩:=cB s t;clear s t;refine wp_loop_ghost_k (ZI w1 w0.heap.size p.attrs.length) p.attrs.length ⟨f,0,rfl,⟨0,rfl⟩,by simp,jU _⟩ ?_;rintro k _ w ⟨f,i,rfl,⟨j,u⟩,T,hi⟩ J K2 P o;have b:=Lh u;clear u;have ⟨Z,G,HK⟩:=kV P o T;clear P o T;by_cases v:i<p.attrs.length
 ·have n:(i:Int)<(p.attrs.length:Int):=by omega
  have h0:(0:Int)≤(i:Int):=by omega
  have c:IntKind.i64.wrap ((i:Int)+1)=((i+1:Nat):Int):=by rw [IntKind.wrap_i64];have:=m.o;omega
  obtain ⟨a,I⟩:∃ a,p.attrs[i]?=some a:=⟨p.attrs[i],by simp [v]⟩;obtain ⟨A,rfl,_,M,N,O⟩:=jR V.o I;obtain ⟨B,rfl,_,b0,b1,z⟩:=jR W.o I;have aA:w.cell? ⟨A,i*3,none⟩=some (aB a.1):=by rw [b.o];exact M
  have aC:w.cell? ⟨A,i*3+1,none⟩=some (aB a.2.1):=by rw [b.o];exact N
  have a3:w.cell? ⟨A,i*3+2,none⟩=some (aB a.2.2):=by rw [b.o];exact O
  have a4:w.cell? ⟨B,i*3,none⟩=some (aB a.1):=by rw [b.o];exact b0
  have a5:w.cell? ⟨B,i*3+1,none⟩=some (aB a.2.1):=by rw [b.o];exact b1
  have a6:w.cell? ⟨B,i*3+2,none⟩=some (aB a.2.2):=by rw [b.o];exact z
  have Q:w.cell? ⟨w0.heap.size,3,none⟩=some (.slice (some ⟨A,0,none⟩) p.attrs.length l):=by rw [b.o];exact E.o 3
  have R:w.cell? ⟨w0.heap.size+1,3,none⟩=some (.slice (some ⟨B,0,none⟩) p.attrs.length d):=by rw [b.o];exact F.o 3
  have a7:=fun w=>ZH a.1 a.2.1 a.2.2 w;clear I M N O b0 b1 z;revert K;refine vg ?_;intro K hK K hK K hK;refine cG [2,3,5,43,44] fun f=>?_;go_quiet (fail);(repeat revert K);refine vg ?_;intro K hK;refine Kk [2,3,43,44] fun f=>?_;exact G.o _ _ ⟨p.attrs.length-(i+1),by rw [HK.o];omega,Z.o _ _ _ ⟨f,i+1,rfl,⟨j+nq,by rw [b.o,World.drewN_drewN]⟩,rfl,v⟩⟩
 ·have L:i=p.attrs.length:=by omega
  subst L;have n:¬ ((p.attrs.length:Int)<(p.attrs.length:Int)):=by omega
  revert K;refine vg ?_;refine cM ?_;exact ⟨rfl,by rw [b.o];exact bM D.o j⟩
theorem nF.col' {x:Cx} {v:DV} {rest:Bs} (c:x.Ok) (h:nF x v rest):-1000000000000≤v.off-v.lstart∧v.off-v.lstart≤1000000000000:=by
 by_cases a:v.nb=10
 ·obtain ⟨pre,e,f,_,_,b⟩:=h;have d:=b a;omega
 ·exact h.col c a
theorem lY.lt {x:Cx} {w:World} {v:Value} {b:Bs} (h:lY x w v b) {g c n:Nat} (a:v=.slice (some ⟨g,0,none⟩) n c):g<w.heap.size:=by
 rcases h with ⟨d,_⟩|⟨g',cap',arr,d,e,_⟩
 ·rw [d] at a;cases a
 ·rw [d] at a;simp only [Value.slice.injEq,jW,Addr.mk.injEq] at a;obtain ⟨⟨rfl,_⟩,_⟩:=a;exact e.lt
theorem PD (x:Cx) (M:x.Ok) (c:DC) (w:World) (v:DV) (rest:Bs) (e:Option EK) (C:Bs) (l:cA x c w v rest e C) (pre:Bs) (t:x.T=pre++rest) (B:Nat) (A:Value) (z:aP) (o:iB w v.bufv B A z) (E:∀ nm k,z=.start nm k→k.length≤1000000000) :
  Calls prog 20 #[A,bT x] w (x5 w (z.itok pre) v.line (v.off-v.lstart+1)):=by
 obtain ⟨b1,I⟩:=l.pos.col' M;have G:v.off=(pre.length:Int):=by
  obtain ⟨p,J,G,_⟩:=l.pos;have:p=pre:=List.append_cancel_right (by rw [←J,←t]);rw [←this];exact G
 refine SN x c w v l.dec b1 I A _ (fun f w' a q L m=>?_);have j:aL w' (w.heap.size+1) #[.int .i64 0,.string ⟨#[]⟩,.string ⟨#[]⟩,.slice none 0 0,.string ⟨#[]⟩,.int .i64 (pre.length:Nat),.int .i64 v.line,.int .i64 (v.off-v.lstart+1)] 38:=by
  rw [←G];exact L
 cases z with
 | text d=>
  obtain ⟨y,rfl,⟨g,b,n,rfl,h,i,_⟩⟩:=o;exact WH w w' pre.length _ _ a q j d g b (i.below a) (l.bf.lt h) f
 | comment d=>
  obtain ⟨y,rfl,⟨g,b,n,rfl,h,i,_⟩⟩:=o;exact Y6 w w' pre.length _ _ a q j d g b (i.below a) (l.bf.lt h) f
 | dir d=>
  obtain ⟨y,rfl,⟨g,b,n,rfl,h,i,_⟩⟩:=o;exact Y7 w w' pre.length _ _ a q j d g b (i.below a) (l.bf.lt h) f
 | proc tg d=>
  obtain ⟨y,rfl,⟨g,b,n,rfl,h,i,_⟩⟩:=o;exact Y8 w w' pre.length _ _ a m q j tg d g b (i.below a) (l.bf.lt h) f
 | fin nm=>
  rw [show A=KW nm from o];exact Y9 w w' pre.length _ _ a m q j nm f
 | start nm k=>
  obtain ⟨y,rfl,F,u⟩:=o;rcases u.2 with H|⟨g,b,cur,rfl,_,D,_,_,_,r⟩
  ·exact absurd (H.2▸H.1) F
  ·have s:aL w g cur 103:=D;exact S7 w w' pre.length _ _ a m q j nm k (E nm k rfl) g b cur s.lt (aL.mod (S:=fun _=>False) s (aH a _) id) r f
theorem WS (x:Cx) (z:x.Ok) (u:∃ cs t,aL x.W0 x.eofA.block cs t) (G:x.W0.cell? ⟨1,0,none⟩=some (D6 59)) (n:1<x.B) {k:EK} {e:Value} {w:World} (B:Below x.B x.W0 w) (m:wZ x e (some k)) (I:kL w e k) :
  Calls prog 19 #[e] w fun M w'=>M=.returned (.int .i64 (EK.code k))∧Below w.heap.size w w':=by
 obtain ⟨q,o⟩:=cK (w.alloc (.cells #[.pointer none] 113));have h:Below w.heap.size w q:=by rw [o];exact (Below.refl _ w).alloc (dF _) _
 have F:x.B≤w.heap.size:=B.size;have c:Below x.B x.W0 q:=B.trans (h.mono F);have y:kL q e k:=fun C=>by
  obtain ⟨a,cs,t,N,O⟩:=I C;exact ⟨a,cs,t,N,aL.mod (S:=fun _=>False) O (aH h _) id⟩
 have j:=JF z u c m y;have i:q.cell? ⟨0,0,none⟩=some x.eofV:=by rw [←z.eof];exact c.cell z.gB
 have v:aL q w.heap.size #[.pointer none] 113:=by rw [o];exact aL.new w _ _
 have D:=Lh (show q.cell? ⟨1,0,none⟩=some (D6 59) from by rw [c.cell (p:=⟨_,0,none⟩) n];exact G);have r:=Lh (show 1<q.heap.size from pL n c.size);have ⟨b,g⟩:=cB h v;clear B I c y z u G n v h F;subst o;cases k with
 | eof=>
  rw [show e=x.eofV from m] at j ⊢;simp only [decide_true] at j;clear m;refine eL 21 func19 [_] fun f=>?_;simp only [aF];refine vg ?_;intro K hK;refine cM ?_;exact ⟨rfl,b.o⟩
 | own=>
  rw [show e=y6 from m] at j ⊢;rw [decide_eq_false (by decide)] at j;have d:=Lh (fun w=>LF w);clear m;refine eL 21 func19 [_] fun f=>?_;simp only [aF];refine vg ?_;intro K hK K hK K hK;refine (d.o _).mono ?_;rintro E w1 ⟨rfl,rfl⟩;(repeat revert K);refine vS ?_;intro K hK;refine cM ?_;exact ⟨rfl,b.o⟩
 | syn=>
  obtain ⟨a,rfl⟩:=m;rw [decide_eq_false (by decide)] at j;have d:=Lh (fun w=>LD (.pointer (some a)) w);have l:=Lh (WM a ⟨w.heap.size,0,none⟩ (.pointer none) _ D.o r.o (g.o.cell 0) (g.o.frozen 0));refine eL 21 func19 [_] fun f=>?_;simp only [aF];refine vg ?_;intro K hK K hK K hK;refine (d.o _).mono ?_;rintro E w1 ⟨rfl,rfl⟩;(repeat revert K);refine vS ?_;intro K hK K hK K hK;refine l.o.mono ?_;rintro L P ⟨rfl,H⟩;have J:=Lh H;clear H i j;(repeat revert K);refine vS ?_;intro K hK;refine cM ?_;refine ⟨rfl,?_⟩;exact aJ.below b.o b.o.size J.o (fun k C=>by rw [C];exact dF _)
 | other=>
  obtain ⟨a,rfl,_⟩:=m;rw [decide_eq_false (by decide)] at j;have d:=Lh (fun w=>LE (.pointer (some a)) w);have l:=Lh (WN (.pointer (some a)) ⟨w.heap.size,0,none⟩ (.pointer none) _ D.o r.o (g.o.cell 0) (g.o.frozen 0));refine eL 21 func19 [_] fun f=>?_;simp only [aF];refine vg ?_;intro K hK K hK K hK;refine (d.o _).mono ?_;rintro E w1 ⟨rfl,rfl⟩;(repeat revert K);refine vS ?_;intro K hK K hK K hK;refine l.o.mono ?_;rintro L P ⟨rfl,s⟩;have A:=Lh s;clear s i j;(repeat revert K);refine vS ?_;refine cM ?_;exact ⟨rfl,b.o.trans (A.o.mono b.o.size)⟩
inductive cH {α:Type} (P:α→List Value→Prop):List α→List Value→Prop
 | nil:cH P [] []
 | snoc {l a xs ys}:cH P l xs→P a ys→cH P (l++[a]) (xs++ys)
theorem cH.mono {α:Type} {P b:α→List Value→Prop} (e:∀ a d,P a d→b a d) {l:List α} {c:List Value} (h:cH P l c):cH b l c:=by
 induction h with
 | nil=>exact .nil
 | snoc _ f ih=>exact .snoc ih (e _ _ f)
theorem cH.len {α:Type} {P:α→List Value→Prop} {n:Nat} (d:∀ a c,P a c→c.length=n) {l:List α} {b:List Value} (h:cH P l b):b.length=l.length*n:=by
 induction h with
 | nil=>simp
 | snoc _ e ih=>rw [fP,ih,d _ _ e,fP];simp [Nat.add_mul]
theorem cH.get {α:Type} {P:α→List Value→Prop} {n:Nat} (s:∀ a c,P a c→c.length=n) {l:List α} {p:List Value} (h:cH P l p) {i:Nat} {a:α} (b:l[i]?=some a):∃ c,P a c∧∀ j,j<n→p[i*n+j]?=c[j]?:=by
 induction h with
 | nil=>simp at b
 | snoc u t ih=>
  rename_i g v k m;have f:=u.len s;rcases Nat.lt_or_ge i g.length with d|d
  ·rw [List.getElem?_append_left d] at b;obtain ⟨c,q,r⟩:=ih b;refine ⟨c,q,fun j o=>?_⟩;have:i*n+j<k.length:=by
    rw [f];have:(i+1)*n≤g.length*n:=Nat.mul_le_mul_right n d;rw [Nat.add_mul] at this;omega
   rw [List.getElem?_append_left this];exact r j o
  ·have e:i=g.length:=by
    have:=(A9.1 b).1;simp at this;omega
   subst e;rw [CQ (dF _)] at b;simp at b;subst b;refine ⟨m,t,fun j o=>?_⟩;rw [CQ (by rw [f];omega),f]
   congr 1;omega
def tF (w:World) (b:Nat) (G:Nat→Prop) (T:Bs) (a:aP×St) (h:List Value):Prop:=
 ∃ c e d f g,h=lN (a.1.itok (T.take (T.length-a.2.rest.length))).kind (a.1.itok (T.take (T.length-a.2.rest.length))).space (a.1.itok (T.take (T.length-a.2.rest.length))).loc (.slice c e d) (a.1.itok (T.take (T.length-a.2.rest.length))).text (a.1.itok (T.take (T.length-a.2.rest.length))).at' f g ∧
  w.ownsRow b 67 3 (.slice c e d) (a.1.itok (T.take (T.length-a.2.rest.length))).attrs.length (aN (a.1.itok (T.take (T.length-a.2.rest.length))).attrs)∧(∀ k,(Value.slice c e d).ownBlock=some k→G k)∧f=((a.1.itok (T.take (T.length-a.2.rest.length))).line:Nat)∧g=((a.1.itok (T.take (T.length-a.2.rest.length))).col:Nat)
theorem tF.len {w:World} {a:Nat} {G:Nat→Prop} {T:Bs} {c:aP×St} {b:List Value} (h:tF w a G T c b):b.length=8:=by
 obtain ⟨_,_,_,_,_,rfl,_⟩:=h;rfl
theorem tF.mod {w w':World} {a:Nat} {G G':Nat→Prop} {T:Bs} {f:aP×St} {g:List Value} {S:Nat→Prop} (h:tF w a G T f g) (j:aJ S w w') (d:∀ k,G k→k<w.heap.size→¬ S k∧G' k):tF w' a G' T f g:=by
 obtain ⟨n,p,o,l,m,rfl,c,e,i⟩:=h;refine ⟨n,p,o,l,m,rfl,aE c j (fun k b=>(d k (e k b) (aS c b).1).1),fun k b=>(d k (e k b) (aS c b).1).2,i⟩
structure EB (w:World):Prop extends Env w where
 af:kK w
 afB:3<w.heap.size
 et:w.cell? ⟨1,0,none⟩=some (D6 59)
 etB:1<w.heap.size
 eofB:∀ a:Addr,w.cell? ⟨0,0,none⟩=some (m9 a)→∃ cs t,aL w a.block cs t
theorem EB.below {w w':World} (h:EB w) (b:Below w.heap.size w w'):EB w':=by
 refine ⟨h.toEnv.below b,h.af.below b,pL h.afB b.size,by rw [b.cell (p:=⟨_,0,none⟩) h.etB];exact h.et,pL h.etB b.size,fun a d=>?_⟩;rw [b.cell (p:=⟨_,0,none⟩) h.gB] at d;obtain ⟨cs,t,c⟩:=h.eofB a d;exact ⟨cs,t,aL.mod (S:=fun _=>False) c (aH b _) id⟩
theorem kU.of {w:World} {m:Nat} (h:w.heap[m]?=some (.map #[] 0)):kU w m 0 (fun _=>none):=by
 have l:m<w.heap.size:=by
  rcases Nat.lt_or_ge m w.heap.size with h'|h'
  ·exact h'
  ·rw [Array.getElem?_eq_none h'] at h;cases h
 obtain ⟨w0,b⟩:∃ w0:World,w0.heap.size=m:=⟨{ w with heap:=w.heap.extract 0 m },by simp;omega⟩;have a:=kU.made w0;rw [b] at a;obtain ⟨D,⟨f,e,c,F,k,i⟩,g⟩:=a;have j:(w0.alloc (.map #[] 0)).heap[m]?=some (.map #[] 0):=by
  show (w0.heap.push _)[m]?=_;rw [←b];simp
 rw [j] at c;exact ⟨D,⟨f,e,h.trans c,F,k,i⟩,g⟩
theorem lA.lt {x:Cx} {w:World} {v:DV} {c:DC} {s:St} {own:List Nat} (h:lA x w v c s own) {g:Nat} (a:dM c.nextTok g):g<w.heap.size:=by
 unfold lA at h;cases b:s.next with
 | none=>rw [b] at h;rw [show c.nextTok=.nilIface from h] at a;exact a.elim
 | some tk=>rw [b] at h;obtain ⟨_,_,_,d,_⟩:=h;exact (d.lt a).2
theorem TS.mod {x:Cx} {c:DC} {w w':World} {v:DV} {s:St} {m:Nat} {o i:List Nat} {n:Nat} {S:Nat→Prop} (h:TS x c w v s m o i n) (l:aJ S w w') (d:∀ k,S k→¬ x.S1 v k∧k∉m::(o++i)∧x.B≤k∧¬ dM c.nextTok k):TS x c w' v s m o i n:=by
 obtain ⟨e,b,r,p,q⟩:=h.rd.rd;exact ⟨h.cfg,⟨⟨e,b,r.mod l (fun k f a=>(d k a).1 f) (fun k f=>(d k f).2.2.1),p,q⟩,h.rd.nc,h.rd.tc,h.rd.nb⟩,h.own.mod l (fun b j a=>(d b a).2.1 j) h.own.s1,h.sok,h.nok,h.tcl,h.bnd,h.nxt.step l (fun k f a=>(d k a).1 (aU f)) (fun g t a=>(d g a).2.2.2 t) rfl rfl rfl (fun b j=>aG j)⟩
structure CO (x:Cx) (v:DV) (b:Value) (m:Nat) (c a:List Nat) (w:World) (k:Nat):Prop where
 lt:k<w.heap.size
 s1:¬ x.S1 v k
 own:k∉m::(c++a)
 pend:¬ dM b k
theorem CO.step {x:Cx} {v v':DV} {j e:Value} {m:Nat} {l i f c:List Nat} {w w':World} {k:Nat} (h:CO x v j m l i w k) (q:w.heap.size≤w'.heap.size) (n:∀ b∈m::(f++c),b∈m::(l++i)∨w.heap.size≤b) (o:∀ b,x.S1 v' b→x.S1 v b∨w.heap.size≤b) (p:∀ g,dM e g→dM j g∨w.heap.size≤g):CO x v' e m f c w' k:=by
 refine ⟨pL h.lt q,fun d=>?_,fun d=>?_,fun d=>?_⟩
 ·rcases o k d with a|a
  ·exact h.s1 a
  ·have:=h.lt;omega
 ·rcases n k d with a|a
  ·exact h.own a
  ·have:=h.lt;omega
 ·rcases p k d with a|a
  ·exact h.pend a
  ·have:=h.lt;omega
theorem CO.same {x:Cx} {v:DV} {b:Value} {m:Nat} {c a:List Nat} {w w':World} {k:Nat} (h:CO x v b m c a w k) (d:w.heap.size≤w'.heap.size):CO x v b m c a w' k:=⟨pL h.lt d,h.s1,h.own,h.pend⟩
theorem TS.new {x:Cx} {c:DC} {w w':World} {v:DV} {s:St} {m:Nat} {f d:List Nat} {n:Nat} (h:TS x c w v s m f d n) {k:Nat} (j:w.heap.size≤k) (g:k<w'.heap.size):CO x v c.nextTok m f d w' k:=by
 obtain ⟨e,b,i,_,_⟩:=h.rd.rd;exact ⟨g,fun a=>by have:=i.s1lt k a;omega,fun a=>by have:=h.own.lt k a;omega,fun a=>by have:=h.nxt.lt a;omega⟩
theorem vJ (m:World) (g:Nat) (r:g≤m.heap.size) (v:Value) (n:Nat) (E:n≤1000000000) (q:List Value) (h:m.ownsRow g 38 8 v n q) (e:Int) (d k:Bs) (b:Value) (x:b.oneCell'=true) (f:Bs) (a l c:Int) :
  ∃ v' p,(Builtin.append_ #[26,26] 26 #[v,.slice (some ⟨m.heap.size,0,none⟩) 1 1]).run prog (m.alloc (.cells #[.int .i64 e,aB d,aB k,b,aB f,.int .i64 a,.int .i64 l,.int .i64 c] 38))=.ok v' p ∧
   p.ownsRow g 38 8 v' (n+1) (q++lN e d k b f a l c)∧(m.alloc (.cells #[.int .i64 e,aB d,aB k,b,aB f,.int .i64 a,.int .i64 l,.int .i64 c] 38)).grownBy p v.ownBlock∧(v'.ownBlock=v.ownBlock∨v'.ownBlock=some (m.heap.size+1)):=by
 obtain ⟨i,z,D,t,w⟩:=info_parts R5
 obtain ⟨v',p,C,B,y,_,o⟩:=run_append_own_at (P:=prog) (m.alloc (.cells #[.int .i64 e,aB d,aB k,b,aB f,.int .i64 a,.int .i64 l,.int .i64 c] 38)) g 26 26 38 i _ 8 104 underlying26 z D t w rfl (by omega) v n q (h.alloc _) ⟨m.heap.size,0,none⟩ 1 1 (lN e d k b f a l c) rfl
  (by
   intro j u A;have r:=aL.new m #[.int .i64 e,aB d,aB k,b,aB f,.int .i64 a,.int .i64 l,.int .i64 c] 38;rw [show ((⟨m.heap.size,0,none⟩:Addr).add j)=⟨m.heap.size,j,none⟩ by cases j<;>simp [Addr.add],r.cell];simpa [lN] using A)
  (by
   intro u s;simp only [lN,mF,y5,or_false] at s;rcases s with rfl|rfl|rfl|rfl|rfl|rfl|rfl|rfl<;>first|rfl|exact x)
  (by unfold maxLen;omega) (by omega) (by simp;omega)
 exact ⟨v',p,C,B,y,by simpa using o⟩
theorem tG {T rest:Bs} (h:rest <:+ T):T=T.take (T.length-rest.length)++rest:=by
 obtain ⟨p,rfl⟩:=h;have:(p++rest).length-rest.length=p.length:=by rw [fP];omega
 rw [this,List.take_left' rfl]
theorem cA.line_col {x:Cx} {c:DC} {w:World} {v:DV} {rest:Bs} {e:Option EK} {b:Bs} (g:cA x c w v rest e b) (d:v.nb≠10) (f:aP) {pre:Bs} (a:x.T=pre++rest) :
  v.line=((f.itok pre).line:Nat)∧v.off-v.lstart+1=((f.itok pre).col:Nat):=by
 obtain ⟨p,h,m,i,k,_⟩:=g.pos;have j:p=pre:=List.append_cancel_right (by rw [←h,←a]);subst j;have l:=k d;cases f<;>exact ⟨i,by show _=((uT p:Nat):Int);omega⟩
noncomputable def PE (n:Nat):Code:=((Tryz.f11.body).bind (Code.partAt n)).getD .skip
theorem CA:(prog.info? 68).map (fun i=>(i.zero,i.size,i.bytes))=some (some (.agg #[.string ⟨#[]⟩,.string ⟨#[]⟩,.string ⟨#[]⟩]),3,48):=by kernel_rfl
theorem GQ (c:World) (b:Nat) (f:b≤c.heap.size) (v:Value) (acc:List cO) (w:acc.length≤1000000000) (h:c.ownsRow b 68 3 v acc.length (aN acc)) (a:cO) :
  ∃ v' e,(Builtin.append_ #[33,33] 33 #[v,.slice (some ⟨c.heap.size,0,none⟩) 1 1]).run prog (c.alloc (.cells #[aB a.1,aB a.2.1,aB a.2.2] 68))=.ok v' e ∧
   e.ownsRow b 68 3 v' (acc++[a]).length (aN (acc++[a]))∧(c.alloc (.cells #[aB a.1,aB a.2.1,aB a.2.2] 68)).grownBy e v.ownBlock∧(v'.ownBlock=v.ownBlock∨v'.ownBlock=some (c.heap.size+1)):=by
 obtain ⟨i,p,t,m,n⟩:=info_parts CA
 obtain ⟨v',e,s,r,o,g,d⟩:=run_append_own_at (P:=prog) (c.alloc (.cells #[aB a.1,aB a.2.1,aB a.2.2] 68)) b 33 33 68 i _ 3 48 underlying33 p t m n rfl (by omega) v acc.length (aN acc) (h.alloc _) ⟨c.heap.size,0,none⟩ 1 1 [aB a.1,aB a.2.1,aB a.2.2] rfl
  (by
   intro j u q;have f:=aL.new c #[aB a.1,aB a.2.1,aB a.2.2] 68;rw [show ((⟨c.heap.size,0,none⟩:Addr).add j)=⟨c.heap.size,j,none⟩ by cases j<;>simp [Addr.add],f.cell];simpa using q)
  (by
   intro u k;simp only [mF,y5,or_false] at k;rcases k with rfl|rfl|rfl<;>rfl)
  (by unfold maxLen;omega) (by omega) (by simp;omega)
 refine ⟨v',e,s,?_,o,by simpa using d⟩;have l:aN (acc++[a])=aN acc++[aB a.1,aB a.2.1,aB a.2.2]:=by simp [aN]
 rw [l,fP];exact r
def ZJ (w1:World) (g h l c d:Value) (i:Value) (b:List cO) (k:Nat) (a:Act) (w:World):Prop:=
 ∃ f j e,a=fr 50 f [(3,g),(5,h),(6,e),(9,l),(10,c),(11,d),(16,i),(17,.int .i64 b.length),(18,.int .i64 (j:Nat))]∧Below w1.heap.size w1 w∧w.ownsRow w1.heap.size 68 3 e (b.take j).length (aN (b.take j))∧k=b.length-j∧j≤b.length
theorem Ax (w1:World) (o3 p5 v9 z A:Value) (T:Option Addr) (V U:Nat) (b:List cO) (s:b.length≤1000000000) (x:w1.ownsRow 0 67 3 (.slice T V U) b.length (aN b)) (Q:Exit→Act→World→Prop)
  (hQ:∀ f w' p,Below w1.heap.size w1 w'→w'.ownsRow w1.heap.size 68 3 p b.length (aN b)→Q .normal (fr 50 f [(3,o3),(5,p5),(6,p),(9,v9),(10,z),(11,A)]) w') (f:Nat→Value) (c1:Code) (aC:c1=.loop (PE 7)) :
  c1.wp prog (Exit.inBlock 2 Q) (fr 50 f [(3,o3),(5,p5),(6,.slice none 0 0),(9,v9),(10,z),(11,A),(16,.slice T V U),(17,.int .i64 b.length),(18,.int .i64 0)]) w1:=by
 subst aC;have ⟨HQ,o,F⟩:=kV hQ s x;refine wp_loop_ghost_k (ZJ w1 o3 p5 v9 z A (.slice T V U) b) b.length ⟨f,0,.slice none 0 0,rfl,Below.refl _ w1,⟨rfl,aG ⟨rfl,rfl⟩⟩,by simp,jU _⟩ ?_;clear hQ s x;rintro k _ w ⟨f,j,p,rfl,hb,u,C,hj⟩ J K2 hJ G;have ⟨HJ,X,D,d,HK⟩:=pM hJ G hb u C;clear hJ G hb u C;unfold PE;conv=>arg 2;whnf
 by_cases O:j<b.length
 ·have h1:(j:Int)<(b.length:Int):=by omega
  have h0:(0:Int)≤(j:Int):=by omega
  have a6:IntKind.i64.wrap ((j:Int)+1)=((j+1:Nat):Int):=by rw [IntKind.wrap_i64];have:=o.o;omega
  obtain ⟨a,ha⟩:∃ a,b[j]?=some a:=⟨b[j],by simp [O]⟩;obtain ⟨g,h,c,P,M,r⟩:∃ g h c,Value.slice T V U=.slice (some ⟨g,0,none⟩) b.length h∧aL w1 g c 67∧c.toList.take (b.length*3)=aN b:=by
   rcases F.o.2 with ⟨_,h9⟩|⟨g,h,c,h3,_,h4,_,_,_,h5⟩
   ·omega
   ·exact ⟨g,h,c,h3,h4,h5⟩
  simp only [Value.slice.injEq] at P;obtain ⟨rfl,rfl,rfl⟩:=P;have m:aL w g c 67:=aL.mod (S:=fun _=>False) M (aH D.o _) id;obtain ⟨k1,k2,k3⟩:=s8 r ha;have H:w.cell? ⟨g,j*3,none⟩=some (aB a.1):=(m.cell _).trans k1;have I:w.cell? ⟨g,j*3+1,none⟩=some (aB a.2.1):=(m.cell _).trans k2;have L:w.cell? ⟨g,j*3+2,none⟩=some (aB a.2.2):=(m.cell _).trans k3;have e:b.take (j+1)=b.take j++[a]:=by rw [List.take_succ,ha];rfl
  have a3:(b.take j).length=j:=by simp;omega
  obtain ⟨B,n⟩:=cK (w.alloc (.cells #[aB a.1,aB a.2.1,aB a.2.2] 67));have l:Below w.heap.size w B:=by rw [n];exact (Below.refl _ w).alloc (dF _) _
  have y:aL B w.heap.size #[aB a.1,aB a.2.1,aB a.2.2] 67:=by rw [n];exact aL.new w _ _
  have R:=D.o.size;obtain ⟨Z,w4,v,t,N,a2⟩:=GQ B w1.heap.size (fQ R l.size) p (b.take j) (by have:=o.o;omega) (aE (S:=fun _=>False) d.o (aH l _) (fun _ _=>id)) a;have a4:=y.cell;have a5:=y.frozen;have ⟨E,HO,W,Y⟩:=kS N t l e;clear k1 k2 k3 ha N t a2 l y e a3 R m M r;(repeat ((fail_if_success with_reducible refine s7 9 ?_);(first|(with_reducible first|refine zA fun K hK=>?_|refine zB ?_|refine zC ?_)|((with_reducible first|refine zD rfl fun K hK=>?_|refine zE fun K hK=>?_);go_simp)|(with_reducible first|((repeat ((fail_if_success refine hK _ _ ?_);clear hK K));refine hK _ _ ?_;clear hK K)|refine zt ?_|refine zf ?_|refine zG ?_|refine zR ?_|refine zK ?_|refine zL ?_|refine zN ?_|refine zS ?_)|simp only [Exit.then,Exit.inBlock,Exit.noGoto,↓reduceIte,Nat.reduceEqDiff]|simp only [undef,reduceCtorEq,↓reduceIte])));rw [show w.alloc (.cells #[.string ⟨List.toArray a.1⟩,.string ⟨List.toArray a.2.1⟩,.string ⟨List.toArray a.2.2⟩] 67)=B from n.symm];clear n H I L;revert K;refine vB ?_;intro K hK;refine eP rfl (.tmp 22) (.tmp 30) _ _ rfl _ _ _ (by rw [bU (by decide)];(try simp only [aK,aO,aR,aW,Nat.reduceEqDiff,↓reduceIte]);(try rfl)) (by rw [bU (by decide)];(try simp only [aK,aO,aR,aW,Nat.reduceEqDiff,↓reduceIte]);(try rfl)) v ?_;clear v;rw [fG (by decide)];revert K;refine vg ?_;refine Kk [3,5,6,9,10,11,16,17,18] fun f=>?_;have a1:aJ (fun k=>p.ownBlock=some k) B w4:=(aH ((Below.refl _ B).alloc (dF _) _) _).trans (S':=fun k=>p.ownBlock=some k) ⟨E.o.os,E.o.tape,E.o.output,E.o.size,fun k C hn=>E.o.block k C (fun he=>hn he.symm)⟩ (fun i _ hi=>hi);have aA:∀ k,p.ownBlock=some k→w1.heap.size≤k:=fun k C=>(aS d.o C).2;have q:Below w1.heap.size w1 B:=D.o.trans (W.o.mono D.o.size);refine X.o _ _ ⟨b.length-(j+1),by rw [HK.o];omega,HJ.o _ _ _ ⟨f,j+1,Z,rfl,aJ.below q q.size a1 aA,?_,rfl,O⟩⟩;rw [Y.o];exact HO.o
 ·have a0:j=b.length:=by omega
  subst a0;have h1:¬ ((b.length:Int)<(b.length:Int)):=by omega
  refine vg ?_;intro K hK;refine Qk [3,5,6,9,10,11] fun f=>?_;have h2:=d.o;rw [List.take_length] at h2;exact HQ.o f w p D.o h2
theorem tH:(prog.info? 35).map (fun i=>(i.zero,i.size,i.bytes))=some (some (.agg #[.int .i64 0,.string ⟨#[]⟩,.string ⟨#[]⟩,.slice none 0 0,.string ⟨#[]⟩,.int .i64 0]),6,88):=by kernel_rfl
def eK (p:bS) (a:Value):List Value:=[.int .i64 p.kind,aB p.space,aB p.loc,a,aB p.text,.int .i64 p.at']
theorem GR (b:World) (a:Nat) (l:a≤b.heap.size) (v:Value) (n:Nat) (z:n≤1000000000) (k:List Value) (h:b.ownsRow a 35 6 v n k) (p:bS) (c:Option Addr) (e d:Nat) :
  ∃ v' g,(Builtin.append_ #[23,23] 23 #[v,.slice (some ⟨b.heap.size,0,none⟩) 1 1]).run prog (b.alloc (.cells #[.int .i64 p.kind,aB p.space,aB p.loc,.slice c e d,aB p.text,.int .i64 p.at'] 35))=.ok v' g ∧
   g.ownsRow a 35 6 v' (n+1) (k++eK p (.slice c e d))∧(b.alloc (.cells #[.int .i64 p.kind,aB p.space,aB p.loc,.slice c e d,aB p.text,.int .i64 p.at'] 35)).grownBy g v.ownBlock∧(v'.ownBlock=v.ownBlock∨v'.ownBlock=some (b.heap.size+1)):=by
 obtain ⟨i,s,y,o,q⟩:=info_parts tH
 obtain ⟨v',g,x,w,r,_,f⟩:=run_append_own_at (P:=prog) (b.alloc (.cells #[.int .i64 p.kind,aB p.space,aB p.loc,.slice c e d,aB p.text,.int .i64 p.at'] 35)) a 23 23 35 i _ 6 88 underlying23 s y o q rfl (by omega) v n k (h.alloc _) ⟨b.heap.size,0,none⟩ 1 1 (eK p (.slice c e d)) rfl
  (by
   intro j u t;have l:=aL.new b #[.int .i64 p.kind,aB p.space,aB p.loc,.slice c e d,aB p.text,.int .i64 p.at'] 35;rw [show ((⟨b.heap.size,0,none⟩:Addr).add j)=⟨b.heap.size,j,none⟩ by cases j<;>simp [Addr.add],l.cell];simpa [eK] using t)
  (by
   intro u m;simp only [eK,mF,y5,or_false] at m;rcases m with rfl|rfl|rfl|rfl|rfl|rfl<;>rfl)
  (by unfold maxLen;omega) (by omega) (by simp;omega)
 exact ⟨v',g,x,w,r,by simpa using f⟩
def lW (w:World) (a:Nat) (G:Nat→Prop) (p:bS) (e:List Value):Prop:=
 ∃ b d c,e=eK p (.slice b d c)∧w.ownsRow a 68 3 (.slice b d c) p.attrs.length (aN p.attrs)∧∀ k,(Value.slice b d c).ownBlock=some k→G k
theorem lW.mod {w w':World} {a:Nat} {G G':Nat→Prop} {p:bS} {f:List Value} {S:Nat→Prop} (h:lW w a G p f) (g:aJ S w w') (d:∀ k,G k→k<w.heap.size→¬ S k∧G' k):lW w' a G' p f:=by
 obtain ⟨i,l,j,rfl,c,e⟩:=h;exact ⟨i,l,j,rfl,aE c g (fun k b=>(d k (e k b) (aS c b).1).1),fun k b=>(d k (e k b) (aS c b).1).2⟩
structure PF (w:World) (g o:Nat) (p:bS):Prop where
 ex:∃ a c b d e,w.cell? ⟨g,o,none⟩=some (.int .i64 p.kind)∧w.cell? ⟨g,o+1,none⟩=some (aB p.space)∧w.cell? ⟨g,o+2,none⟩=some (aB p.loc)∧w.cell? ⟨g,o+3,none⟩=some (.slice a c b)∧w.cell? ⟨g,o+4,none⟩=some (aB p.text)∧w.cell? ⟨g,o+5,none⟩=some (.int .i64 p.at') ∧
  w.cell? ⟨g,o+6,none⟩=some (.int .i64 d)∧w.cell? ⟨g,o+7,none⟩=some (.int .i64 e)∧w.ownsRow 0 67 3 (.slice a c b) p.attrs.length (aN p.attrs)
 len:p.attrs.length≤1000000000
def Bm (w0:World) (c:Value) (l:List bS) (k:Nat) (a:Act) (w:World):Prop:=
 ∃ f i out b,a=fr 50 f [(3,out),(9,c),(10,.int .i64 l.length),(11,.int .i64 (i:Nat))]∧Below w0.heap.size w0 w∧w.ownsRow w0.heap.size 35 6 out i b∧cH (lW w w0.heap.size (fun k=>out.ownBlock≠some k)) (l.take i) b∧k=l.length-i∧i≤l.length
theorem TI (w0:World) (l:List bS) (N:l.length≤1000000000) (g ro E:Nat) (hg:g<w0.heap.size) (U:∀ i p,l[i]?=some p→PF w0 g (ro+i*8) p) :
  Calls prog 11 #[.slice (some ⟨g,ro,none⟩) l.length E] w0 fun en w'=>∃ out xs,en=.returned out∧Below w0.heap.size w0 w'∧w'.ownsRow w0.heap.size 35 6 out l.length xs∧cH (lW w' w0.heap.size (fun _=>True)) l xs:=by
 have ⟨H,L,bA⟩:=kV N U hg;clear N U hg;refine eL 50 func11 [_] fun f=>?_;simp only [aF];refine vg ?_;intro K hK;refine cG [3,9,10,11] fun f=>?_;refine wp_loop_ghost_k (Bm w0 (.slice (some ⟨g,ro,none⟩) l.length E) l) l.length ⟨f,0,.slice none 0 0,[],rfl,Below.refl _ w0,⟨rfl,aG ⟨rfl,rfl⟩⟩,.nil,by simp,jU _⟩ ?_;rintro k _ w ⟨f,i,out,xs,rfl,hb,R,y,b,hi⟩ J K2 hJ a0;have ⟨HJ,bC,W,m,s,HK⟩:=gT hJ a0 hb R y b;clear hJ a0 hb R y b;by_cases a5:i<l.length
 ·have h1:(i:Int)<(l.length:Int):=by omega
  have h0:(0:Int)≤(i:Int):=by omega
  have d2:IntKind.i64.wrap ((i:Int)+1)=((i+1:Nat):Int):=by rw [IntKind.wrap_i64];have:=H.o;omega
  obtain ⟨p,hp⟩:∃ p,l[i]?=some p:=⟨l[i],by simp [a5]⟩;obtain ⟨sa,sl,sc,i6,i7,c0,c1,c2,c3,c4,c5,c6,c7,X⟩:=(L.o i p hp).ex;have a9:=(L.o i p hp).len;have a3:∀ j,w.cell? ⟨g,j,none⟩=w0.cell? ⟨g,j,none⟩:=fun j=>W.o.cell (p:=⟨g,j,none⟩) bA.o;rw [←a3] at c0 c1 c2 c3 c4 c5 c6 c7;obtain ⟨w1,n⟩:=cK (w.alloc (.cells #[.int .i64 p.kind,aB p.space,aB p.loc,.slice sa sl sc,aB p.text,.int .i64 p.at',.int .i64 i6,.int .i64 i7] 38));have Y:Below w.heap.size w w1:=by rw [n];exact (Below.refl _ w).alloc (dF _) _
  have F:aL w1 w.heap.size #[.int .i64 p.kind,aB p.space,aB p.loc,.slice sa sl sc,aB p.text,.int .i64 p.at',.int .i64 i6,.int .i64 i7] 38:=by rw [n];exact aL.new w _ _
  have M:w1.ownsRow 0 67 3 (.slice sa sl sc) p.attrs.length (aN p.attrs):=aE (S:=fun _=>False) (aE (S:=fun _=>False) X (aH (W.o) _) (fun _ _=>id)) (aH Y _) (fun _ _=>id);have b6:sl=p.attrs.length:=by
   rcases X.2 with ⟨t,h8⟩|⟨g9,cap9,cur9,t,_⟩
   ·simp only [Value.slice.injEq] at t;rw [t.2.1,h8]
   ·simp only [Value.slice.injEq] at t;exact t.2.1
  subst b6;have z:l.take (i+1)=l.take i++[p]:=by rw [List.take_succ,hp];rfl
  have aC:=Lh (fun o3 p5 v9 c8 c9 Q hQ f c1 e=>Ax w1 o3 p5 v9 c8 c9 sa p.attrs.length sc p.attrs a9 M Q hQ f c1 e);have ⟨D,aA,b1⟩:=kV Y F z;clear X M a9 a3 hp z;revert K;refine vT 5 ?_;intro K hK K hK;rw [show w.alloc (.cells #[.int .i64 p.kind,.string ⟨List.toArray p.space⟩,.string ⟨List.toArray p.loc⟩,.slice sa p.attrs.length sc,.string ⟨List.toArray p.text⟩,.int .i64 p.at',.int .i64 i6,.int .i64 i7] 38)=w1 from n.symm];clear n c0 c1 c2 c3 c4 c5 c6 c7 Y;have b3:=F.cell;have b4:=F.frozen;clear F;(repeat revert K);refine vg ?_;intro K hK K hK K hK;refine cG [3,5,6,9,10,11,16,17,18] fun f=>?_;refine aC.o _ _ _ _ _ _ ?_ f _ (by kernel_rfl);intro f r av u d;obtain ⟨A,C,B,rfl⟩:=nT d;have b7:=W.o.size;have b9:=D.o.size;have cT:=u.size;have x:aJ (fun _=>False) w r:=(aH D.o _).trans (aH u _) (fun _ _ h=>h);obtain ⟨V,w4,T,P,a4,q⟩:=GR r w0.heap.size (by omega) out i (by have:=H.o;omega) xs (aE m.o x (fun _ _=>id)) p A C B;have v:aL r w.heap.size _ _:=aL.mod (S:=fun _=>False) aA.o (aH u _) id;have dI:=v.cell;have dT:=v.frozen;have ⟨d0,c,Z,HO,b0,I⟩:=gT u d a4 P q x;clear u d a4 P q x v aC b3 b4 b7 b9 cT;(repeat revert K);refine vB ?_;intro K hK K hK;refine eP rfl (.tmp 33) (.tmp 46) _ _ rfl _ _ _ (by rw [bU (by decide)];(try simp only [aK,aO,aR,aW,Nat.reduceEqDiff,↓reduceIte]);(try rfl)) (by rw [bU (by decide)];(try simp only [aK,aO,aR,aW,Nat.reduceEqDiff,↓reduceIte]);(try rfl)) T ?_;clear T;rw [fG (by decide)];(repeat revert K);refine vg ?_;intro K hK;refine Kk [3,9,10,11] fun f=>?_;have a6:aJ (fun k=>out.ownBlock=some k) r w4:=(aH ((Below.refl _ r).alloc (dF _) _) _).trans (S':=fun k=>out.ownBlock=some k) ⟨Z.o.os,Z.o.tape,Z.o.output,Z.o.size,fun k b hn=>Z.o.block k b (fun G=>hn G.symm)⟩ (fun i _ hi=>hi);have O:aJ (fun k=>out.ownBlock=some k) w w4:=(I.o.mono (fun _ _ h=>h.elim)).trans a6 (fun _ _ h=>h);have b2:∀ k,out.ownBlock=some k→w0.heap.size≤k:=fun k b=>(aS m.o b).2;have d1:r.heap.size+1≤w4.heap.size:=by have t:=Z.o.size;rw [show ∀ o:Obj,(r.alloc o).heap.size=r.heap.size+1 from fun o=>Array.size_push _] at t;exact t
  have a7:∀ k,k<r.heap.size→out.ownBlock≠some k→V.ownBlock≠some k:=fun k b hn G=>by
   rcases b0.o with q|q
   ·exact hn (q▸G)
   ·rw [q] at G;have:r.heap.size+1=k:=by simpa using G
    omega
  refine bC.o _ _ ⟨l.length-(i+1),by rw [HK.o];omega,HJ.o _ _ _ ⟨f,i+1,V,_,rfl,aJ.below W.o W.o.size O b2,HO.o,?_,rfl,a5⟩⟩;rw [b1.o];refine .snoc (s.o.mono (fun a ys hr=>hr.mod O (fun k b hl=>⟨b,a7 k (pL hl I.o.size) b⟩))) ?_;have a2:∀ k,(Value.slice A C B).ownBlock=some k→k<r.heap.size∧w1.heap.size≤k:=fun k b=>aS c.o b;have a8:∀ k,(Value.slice A C B).ownBlock=some k→out.ownBlock≠some k:=fun k b G=>by
   have h8:=(a2 k b).2;have t:=(aS m.o G).1;have h7:=aA.o.lt;have h6:=D.o.size;omega
  have a1:r.ownsRow w0.heap.size 68 3 (.slice A C B) p.attrs.length (aN p.attrs):=by
   refine ⟨c.o.1,?_⟩;rcases c.o.2 with t|⟨g,E,cur,e1,e2,e3⟩
   ·exact aG t
   ·exact aU ⟨g,E,cur,e1,fQ (fQ W.o.size D.o.size) e2,e3⟩
  exact ⟨A,C,B,rfl,aE a1 a6 (fun k b G=>a8 k b G),fun k b=>a7 k (a2 k b).1 (a8 k b)⟩
 ·have b5:i=l.length:=by omega
  subst b5;have h1:¬ ((l.length:Int)<(l.length:Int)):=by omega
  revert K;refine vg ?_;refine cM ?_;have h2:=s.o;rw [List.take_length] at h2;exact ⟨out,xs,rfl,W.o,m.o,h2.mono (fun a ys hr=>hr.mod (aJ.refl (fun _=>False) w) (fun _ _ _=>⟨id,trivial⟩))⟩
theorem LR (w:World):Calls prog 11 #[.slice none 0 0] w fun b w'=>b=.returned (.slice none 0 0)∧w'=w:=by
 have e:¬ (0:Int)<0:=by omega
 refine eL 50 func11 [_] fun f=>?_;simp only [aF];refine vg ?_;intro K hK;refine cG [3,10,11] fun f=>?_;refine wp_loop_ghost_k (fun _ a w'=>(∃ f,a=fr 50 f [(3,.slice none 0 0),(10,.int .i64 0),(11,.int .i64 0)])∧w'=w) 0 ⟨⟨f,rfl⟩,rfl⟩ ?_;rintro k _ _ ⟨⟨f,rfl⟩,rfl⟩ J d g c;revert K;refine vg ?_;refine cM ?_;exact ⟨rfl,rfl⟩
theorem gL {w:World} {b:Nat} {e:TypeId} {r:Nat} {v:Value} {n:Nat} {j:List Value} (h:w.ownsRow b e r v n j) (t:0<n):∃ g a,v=.slice (some ⟨g,0,none⟩) n a∧b≤g∧g<w.heap.size∧n≤a∧a≤maxLen∧∀ k u,j[k]?=some u→w.cell? ⟨g,k,none⟩=some u:=by
 rcases h.2 with ⟨_,f⟩|⟨g,a,cur,l,m,o,p,q,s,f⟩
 ·omega
 ·have i:aL w g cur e:=o;refine ⟨g,a,l,m,i.lt,p,q,fun k u c=>?_⟩;rw [i.cell];rw [←f] at c;have d:=(A9.1 c).1;rw [List.getElem?_take,aY (by simp at d;omega),Array.getElem?_toList] at c;exact c
theorem TJ {w:World} {e g:Nat} {T:Bs} {l:List (aP×St)} {s:List Value} {G:Nat→Prop} (d:cH (tF w e G T) l s) (c:∀ k u,s[k]?=some u→w.cell? ⟨g,k,none⟩=some u) {i:Nat} {a:aP×St} (v:l[i]?=some a) (f:(a.1.itok (T.take (T.length-a.2.rest.length))).attrs.length≤1000000000) :
  PF w g (i*8) (a.1.itok (T.take (T.length-a.2.rest.length))):=by
 obtain ⟨C,⟨p,r,q,A,B,rfl,o,_⟩,z⟩:=d.get (n:=8) (fun _ _ h=>h.len) v;have b:∀ j u,j<8→(lN _ _ _ _ _ _ _ _)[j]?=some u→w.cell? ⟨g,i*8+j,none⟩=some u:=fun j u x y=>c _ _ ((z j x).trans y);have m:w.ownsRow 0 67 3 (.slice p r q) (a.1.itok (T.take (T.length-a.2.rest.length))).attrs.length (aN (a.1.itok (T.take (T.length-a.2.rest.length))).attrs):=by
  refine ⟨o.1,?_⟩;rcases o.2 with t|⟨g9,cap,cur,e1,e2,e3⟩
  ·exact aG t
  ·exact aU ⟨g9,cap,cur,e1,jU _,e3⟩
 exact ⟨⟨p,r,q,A,B,b 0 _ (by omega) rfl,b 1 _ (by omega) rfl,b 2 _ (by omega) rfl,b 3 _ (by omega) rfl,b 4 _ (by omega) rfl,b 5 _ (by omega) rfl,b 6 _ (by omega) rfl,b 7 _ (by omega) rfl,m⟩,f⟩
theorem nL {e t:TypeId} {z:Value} {c d:Nat} (o:(prog.info? e).map (fun i=>(i.zero,i.size,i.bytes))=some (some z,c,d)) (N:prog.underlying t=some (.slice e)) (y:z.cells.size=c) (x:0<c) (p:d≤100)
  (W:World) (f:Nat) (G:f≤W.heap.size) (v:Value) (n:Nat) (B:n≤1000000000) (A:List Value) (h:W.ownsRow f e c v n A) (b:Nat) (a:List Value) (Q:a.length=c) (m:∀ j u,a[j]?=some u→W.cell? ⟨b,j,none⟩=some u) (D:∀ u∈a,u.oneCell'=true) :
  ∃ v' s,(Builtin.append_ #[t,t] t #[v,.slice (some ⟨b,0,none⟩) 1 1]).run prog W=.ok v' s∧s.ownsRow f e c v' (n+1) (A++a)∧aJ (fun k=>v.ownBlock=some k) W s∧(v'.ownBlock=v.ownBlock∨v'.ownBlock=some W.heap.size)∧∃ g l,v'=.slice (some ⟨g,0,none⟩) (n+1) l:=by
 obtain ⟨i,I,O,E,F⟩:=info_parts o
 obtain ⟨v',s,M,C,q,_,r⟩:=run_append_own_at (P:=prog) W f t t e i z c d N I O E F y x v n A h ⟨b,0,none⟩ 1 1 a (by omega)
  (fun j u J=>by rw [show ((⟨b,0,none⟩:Addr).add j)=⟨b,j,none⟩ by cases j<;>simp [Addr.add]];exact m j u J) D (by unfold maxLen;omega)
  (by
   have w:(n+1)*d≤(n+1)*100:=Nat.mul_le_mul_left _ p;omega) G
 refine ⟨v',s,M,C,⟨q.os,q.tape,q.output,q.size,fun k L B=>q.block k L (fun H=>B H.symm)⟩,r,?_⟩;rcases C.2 with ⟨_,w⟩|⟨g,l,cur,w,_⟩
 ·omega
 ·exact ⟨g,l,w⟩
def fS (x:PX) (c:PC) (k:Nat):Prop:=k=x.p∨c.out.ownBlock=some k∨c.op.ownBlock=some k∨c.bd.ownBlock=some k
def cJ (l:aM):List Value:=l.flatMap fun p=>[aB p.1,aB p.2]
def EC (w:World) (a:Nat) (G:Nat→Prop) (l:aM) (e:List Value):Prop:=
 ∃ b d c,e=[.slice b d c]∧w.ownsRow a 177 2 (.slice b d c) l.length (cJ l)∧(∀ k,(Value.slice b d c).ownBlock=some k→G k)∧l.length≤1000000000
structure dK (x:PX) (base:Nat) (w:World) (c:PC) (opens:List Bs) (bound:List aM) (out:List bS):Prop where
 blk:aV x w c
 pb:base≤x.p
 out:∃ a,w.ownsRow base 35 6 c.out out.length a∧cH (lW w base (fun k=>¬ fS x c k)) out a
 op:∃ a,w.ownsRow base 9 1 c.op opens.length a∧cH (fun b d=>d=[aB b]) opens.reverse a
 bd:∃ a,w.ownsRow base 47 1 c.bd bound.length a∧cH (EC w base (fun k=>¬ fS x c k)) bound.reverse a
 s1:c.out.ownBlock≠some x.p∧c.op.ownBlock≠some x.p∧c.bd.ownBlock≠some x.p
 s2:∀ k,c.out.ownBlock=some k→c.op.ownBlock≠some k∧c.bd.ownBlock≠some k
 s3:∀ k,c.op.ownBlock=some k→c.bd.ownBlock≠some k
theorem dK.size {x:PX} {a:Nat} {w:World} {c:PC} {opens:List Bs} {bound:List aM} {out:List bS} (h:dK x a w c opens bound out):a≤w.heap.size:=by
 have b:=h.pb;have d:=aL.lt h.blk;omega
theorem dK.busy {x:PX} {b:Nat} {w:World} {c:PC} {opens:List Bs} {bound:List aM} {out:List bS} (h:dK x b w c opens bound out) {k:Nat} (a:fS x c k):b≤k∧k<w.heap.size:=by
 obtain ⟨_,e,_⟩:=h.out;obtain ⟨_,f,_⟩:=h.op;obtain ⟨_,d,_⟩:=h.bd;rcases a with rfl|a|a|a
 ·exact ⟨h.pb,aL.lt h.blk⟩
 ·exact ⟨(aS e a).2,(aS e a).1⟩
 ·exact ⟨(aS f a).2,(aS f a).1⟩
 ·exact ⟨(aS d a).2,(aS d a).1⟩
theorem EC.mod {w w':World} {a:Nat} {G G':Nat→Prop} {l:aM} {f:List Value} {S:Nat→Prop} (h:EC w a G l f) (i:aJ S w w') (d:∀ k,G k→k<w.heap.size→¬ S k∧G' k):EC w' a G' l f:=by
 obtain ⟨j,n,m,rfl,c,e,g⟩:=h;exact ⟨j,n,m,rfl,aE c i (fun k b=>(d k (e k b) (aS c b).1).1),fun k b=>(d k (e k b) (aS c b).1).2,g⟩
theorem dK.own2 {x:PX} {e:Nat} {w w':World} {c f:PC} {opens d:List Bs} {bound a:List aM} {out:List bS} (h:dK x e w c opens bound out) (E:aV x w' f) (q:aJ (fun k=>k=x.p) w w') (s:f.out=c.out) (m:f.op.ownBlock=c.op.ownBlock) (n:f.bd.ownBlock=c.bd.ownBlock)
  (j:∃ l,w.ownsRow e 9 1 f.op d.length l∧cH (fun b y=>y=[aB b]) d.reverse l) (t:∃ l,w.ownsRow e 47 1 f.bd a.length l∧cH (EC w e (fun k=>¬ fS x c k)) a.reverse l):dK x e w' f d a out:=by
 have B:∀ k,fS x f k↔fS x c k:=fun k=>by unfold fS;rw [s,m,n]
 have z:∀ k,¬ fS x c k→k<w.heap.size→¬ k=x.p∧¬ fS x f k:=fun k A _=>⟨fun i=>A (aG i),fun p=>A ((B k).1 p)⟩;obtain ⟨l,D,v⟩:=h.out;obtain ⟨y,j,r⟩:=j;obtain ⟨F,C,u⟩:=t;refine ⟨E,h.pb,⟨l,?_,v.mono (fun _ _ p=>p.mod q z)⟩,⟨y,?_,r⟩,⟨F,?_,u.mono (fun _ _ p=>p.mod q z)⟩,?_,?_,?_⟩
 ·rw [s];exact aE D q (fun g o i=>h.s1.1 (by rw [←i];exact o))
 ·exact aE j q (fun g o i=>h.s1.2.1 (by rw [←i,←m];exact o))
 ·exact aE C q (fun g o i=>h.s1.2.2 (by rw [←i,←n];exact o))
 ·rw [s,m,n];exact h.s1
 ·rw [s,m,n];exact h.s2
 ·rw [m,n];exact h.s3
theorem dK.own {x:PX} {a:Nat} {w w':World} {c b:PC} {opens:List Bs} {bound:List aM} {out:List bS} (h:dK x a w c opens bound out) (i:aV x w' b) (g:aJ (fun k=>k=x.p) w w') (f:b.out=c.out) (d:b.op=c.op) (e:b.bd=c.bd):dK x a w' b opens bound out:=
 h.own2 i g f (by rw [d]) (by rw [e]) (by rw [d];exact h.op) (by rw [e];exact h.bd)
theorem dK.fresh {x:PX} {a:Nat} {w w':World} {c:PC} {opens:List Bs} {bound:List aM} {out:List bS} (h:dK x a w c opens bound out) (b:aJ (fun _=>False) w w'):dK x a w' c opens bound out:=
 h.own (h.blk.mod b id) (b.mono (fun _ _ h=>h.elim)) rfl rfl rfl
theorem dK.addOut {x:PX} {b:Nat} {w n:World} {c:PC} {opens:List Bs} {bound:List aM} {out:List bS} (h:dK x b w c opens bound out) (p:bS) (y:Option Addr) (A z:Nat) (l:w.ownsRow b 68 3 (.slice y A z) p.attrs.length (aN p.attrs)) (o:∀ k,(Value.slice y A z).ownBlock=some k→¬ fS x c k)
  {v':Value} {E:List Value} (L:w.ownsRow b 35 6 c.out out.length E) (D:cH (lW w b (fun k=>¬ fS x c k)) out E) (H:n.ownsRow b 35 6 v' (out.length+1) (E++eK p (.slice y A z))) (G:aJ (fun k=>c.out.ownBlock=some k) w n) (u:v'.ownBlock=c.out.ownBlock∨v'.ownBlock=some w.heap.size) :
  dK x b (n.setCell ⟨x.p,5,none⟩ v') { c with out:=v' } opens bound (out++[p]):=by
 have m:∀ k,v'.ownBlock=some k→c.out.ownBlock=some k∨w.heap.size≤k:=fun k d=>by
  rcases u with u|u
  ·exact aG (u▸d)
  ·rw [u] at d;right;simp at d;omega
 have f:aJ (fun k=>k=x.p∨c.out.ownBlock=some k) w (n.setCell ⟨x.p,5,none⟩ v'):=aJ.setCell (S:=fun k=>k=x.p∨c.out.ownBlock=some k) (G.mono (fun _ _ h=>aU h)) (p:=⟨x.p,5,none⟩) (aG (aG rfl)) v';have q:aJ (fun k=>k=x.p) n (n.setCell ⟨x.p,5,none⟩ v'):=aJ.setCell (S:=fun k=>k=x.p) (aJ.refl _ _) (p:=⟨x.p,5,none⟩) (aG rfl) v';have J:=aL.lt h.blk;have v:∀ k,¬ fS x c k→k<w.heap.size→¬ (k=x.p∨c.out.ownBlock=some k)∧¬ fS x { c with out:=v' } k:=fun k d I=>by
  refine ⟨fun a=>d (a.elim aG (fun h=>aU (aG h))),fun e=>?_⟩;rcases e with e|e|e|e
  ·exact d (aG e)
  ·rcases m k e with j|j
   ·exact d (aU (aG j))
   ·omega
  ·exact d (aU (aU (aG e)))
  ·exact d (aU (aU (aU e)))
 obtain ⟨M,s,t⟩:=h.op;obtain ⟨N,F,C⟩:=h.bd;have r:v'.ownBlock≠some x.p:=fun a=>by
  rcases m _ a with j|j
  ·exact h.s1.1 j
  ·omega
 refine ⟨?_,h.pb,⟨_,?_,.snoc (D.mono (fun _ _ e=>e.mod f v)) ⟨y,A,z,rfl,?_,?_⟩⟩,⟨M,?_,t⟩,⟨N,?_,C.mono (fun _ _ e=>e.mod f v)⟩,⟨r,h.s1.2⟩,?_,h.s3⟩
 ·have B:aV x n c:=h.blk.mod G h.s1.1;have:=B.set 5 v';simpa [fN] using this
 ·rw [fP];exact aE H q (fun g i a=>r (by rw [←a];exact i))
 ·exact aE l f (fun g i=>(v g (o g i) (aS l i).1).1)
 ·exact fun k d=>(v k (o k d) (aS l d).1).2
 ·refine aE s f (fun g i a=>?_);rcases a with a|a
  ·exact h.s1.2.1 (by rw [←a];exact i)
  ·exact (h.s2 g a).1 i
 ·refine aE F f (fun g i a=>?_);rcases a with a|a
  ·exact h.s1.2.2 (by rw [←a];exact i)
  ·exact (h.s2 g a).2 i
 ·intro k d;rcases m k d with j|j
  ·exact h.s2 k j
  ·exact ⟨fun a=>by have:=(aS s a).1;omega,fun a=>by have:=(aS F a).1;omega⟩
abbrev PG (p:bS) (a:Option Addr) (c b:Nat) (i:Int):Value:=.agg #[.int .i64 p.kind,aB p.space,aB p.loc,.slice a c b,aB p.text,.int .i64 i]
theorem GS (x:PX) (a:Nat) (w:World) (c:PC) (opens:List Bs) (bound:List aM) (out:List bS) (h:dK x a w c opens bound out) (y:out.length≤1000000000) (p:bS) (d:Option Addr) (l g:Nat) (i0:Int) (N:w.ownsRow a 68 3 (.slice d l g) p.attrs.length (aN p.attrs)) (Q:∀ k,(Value.slice d l g).ownBlock=some k→¬ fS x c k) :
  Calls prog 48 #[iU x,PG p d l g i0] w fun e w'=>e=.returned (.bool true)∧Below a w w'∧∃ v',dK x a w' { c with out:=v' } opens bound (out++[{ p with at':=c.at' }]):=by
 obtain ⟨xs,W,t⟩:=h.out;obtain ⟨wa,r⟩:=cK (w.alloc (.cells #[.int .i64 p.kind,aB p.space,aB p.loc,.slice d l g,aB p.text,.int .i64 i0] 35));have E:aJ (fun _=>False) w wa:=by rw [r];exact (aJ.refl _ w).alloc _
 have o:aL wa w.heap.size #[.int .i64 p.kind,aB p.space,aB p.loc,.slice d l g,aB p.text,.int .i64 i0] 35:=by rw [r];exact aL.new w _ _
 have G:=h.blk.mod E id;have X:=G.cell;have hf:=G.frozen;have a1:=o.cell;have a2:=o.frozen;have ⟨H,M,a0,Y,aA,J⟩:=gT h W t N Q E;have ⟨Z,I⟩:=cB o y;clear h W t N Q E o G y;refine eL 20 func48 [_,_] fun f=>?_;simp only [aF];refine vT 1 ?_;rw [←r];clear r;refine vg ?_;intro K hK;obtain ⟨v,n⟩:=cK (wa.setCell ⟨w.heap.size,5,none⟩ (.int .i64 c.at'));rw [←n];have U:aV x v c:=by rw [n];exact aL.set_ne (H.o.blk.mod J.o id) (fun he=>by have:=aL.lt H.o.blk;simp at he;omega) _
 have O:aL v w.heap.size #[.int .i64 p.kind,aB p.space,aB p.loc,.slice d l g,aB p.text,.int .i64 c.at'] 35:=by
  have:=Z.o.set 5 (.int .i64 c.at');rw [n];simpa using this
 have T:aJ (fun _=>False) w v:=by rw [n];exact aJ.setCell (S:=fun _=>False) J.o (p:=⟨w.heap.size,5,none⟩) (aU (dF _)) _
 have ⟨D,B,aC⟩:=kV U O T;clear n U O T X hf a1 a2;refine sW [0,0,0,0,1,1,3,2,0,0,2] (.one 0 (.one 1 (.one 2 (.one 3 (.one 4 (.one 5 (.one 6 (.one 7 (.one 8 (.one 9 (.one 10 .nil))))))))))) (fun w'=>aV x w' c∧aL w' w.heap.size #[.int .i64 p.kind,aB p.space,aB p.loc,.slice d l g,aB p.text,.int .i64 c.at'] 35) (by kernel_rfl) (by kernel_rfl) ?_;(repeat (first|(with_reducible refine lL ?_)|((with_reducible refine jQ rfl rfl (fun K hK=>?_));go_simp;refine hK _ ?_;clear hK K)|((with_reducible refine kH rfl rfl (fun K hK=>?_));go_simp;refine hK.out _ _ ?_;clear hK K)));refine o5 rfl rfl ⟨D.o,B.o⟩ rfl (some 14) rfl c.out (fun w' m=>?_) ?_
 ·have X:=m.1.cell;clear m;go_simp
 rw [fG (by decide)];refine o5 rfl rfl ⟨D.o,B.o⟩ rfl (some 15) rfl (PG p d l g c.at') (fun w' m=>?_) ?_
 ·have X:=m.2.cell;clear m;go_simp
 rw [fG (by decide)];refine kY rfl rfl (fun K hK=>?_);go_simp;refine hK.out _ _ ?_ ?_
 ·exact ⟨aL.alloc (w:=v.drew) D.o _,aL.alloc (w:=v.drew) B.o _⟩
 clear hK K;obtain ⟨wd,s⟩:=cK ((v.alloc (.cells #[.int .i64 p.kind,aB p.space,aB p.loc,.slice d l g,aB p.text,.int .i64 c.at'] 35)).drew);rw [←s];have q:aJ (fun _=>False) w wd:=by rw [s];exact (aC.o.alloc _).drew
 have P:aL wd v.heap.size #[.int .i64 p.kind,aB p.space,aB p.loc,.slice d l g,aB p.text,.int .i64 c.at'] 35:=by rw [s];exact (aL.new v _ _).drew
 have V:=H.o.size
 obtain ⟨v',w4,A,z,R,hv,gv,cv,a3⟩:=nL tH underlying23 rfl (by decide) (by decide) wd a (fQ V q.size) c.out out.length I.o xs (aE (S:=fun _=>False) M.o q (fun _ _=>id)) v.heap.size (eK { p with at':=c.at' } (.slice d l g)) rfl
  (fun j u hj=>by rw [P.cell];simpa [eK] using hj)
  (fun u hu=>by
   simp only [eK,mF,y5,or_false] at hu;rcases hu with rfl|rfl|rfl|rfl|rfl|rfl<;>rfl)
 have ⟨L,C,HV,b⟩:=kS z R hv q;clear s P z R hv q V;refine NW rfl rfl rfl (some 17) rfl (.tmp 14) (.tmp 16) _ _ rfl _ _ v' (by rw [bU (by decide)];(try simp only [aK,aO,aR,aW,Nat.reduceEqDiff,↓reduceIte]);(try rfl)) (by rw [bU (by decide)];(try simp only [aK,aO,aR,aW,Nat.reduceEqDiff,↓reduceIte]);(try rfl)) A ?_;rw [fG (by decide)];clear A;subst a3;have F:aV x w4 c:=(H.o.blk.mod b.o id).mod C.o H.o.s1.1;have X:=F.cell;have hf:=F.frozen;clear F;(repeat (first|(with_reducible refine lL ?_)|((with_reducible refine jQ rfl rfl (fun K hK=>?_));go_simp;refine hK _ ?_;clear hK K)|((with_reducible refine kH rfl rfl (fun K hK=>?_));go_simp;refine hK.out _ _ ?_;clear hK K)));revert K;refine vg ?_;refine cM ?_;have hd:=H.o.fresh b.o;have t:=a0.o.mono (fun _ _ hh=>lW.mod (G':=fun k=>¬ fS x c k) hh b.o (fun k hk _=>⟨id,hk⟩));have hR:=hd.addOut { p with at':=c.at' } d l g (aE (S:=fun _=>False) Y.o b.o (fun _ _=>id)) aA.o (aE (S:=fun _=>False) M.o b.o (fun _ _=>id)) t L.o C.o HV.o;refine ⟨rfl,?_,_,hR⟩;refine aJ.below (Below.refl _ w) H.o.size (aJ.setCell (S:=fun k=>fS x c k) ((b.o.mono (S':=fun k=>fS x c k) (fun _ _ h=>h.elim)).trans (C.o.mono (S':=fun k=>fS x c k) (fun _ _ h=>aU (aG h))) (fun _ _ h=>h)) (p:=⟨x.p,5,none⟩) (aG (aG rfl)) _) (fun i hi=>(H.o.busy hi).1)
end Go.Proofs.YthapcchcahnfaaaGreatDoor
