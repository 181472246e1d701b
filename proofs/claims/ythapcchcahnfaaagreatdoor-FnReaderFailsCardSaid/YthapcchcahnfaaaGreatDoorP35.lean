/- Part of the proof that laws.FnStrictIsLoose, laws.FnUnclosed, laws.FnReaderFails, laws.FnWithin, laws.FnSkip returns true for every argument. No conditions. -/
import Derived.Test.YthapcchcahnfaaaGreatDoorP34
import Derived.Test.YthapcchcahnfaaaGreatDoorP33
import Derived.Test.YthapcchcahnfaaaGreatDoorP11
import Derived.Laws.OwnMore
set_option linter.all false
set_option maxHeartbeats 8000000
set_option maxRecDepth 100000
namespace Go.Proofs.YthapcchcahnfaaaGreatDoor
open Go Go.RowKit Go.Proofs.Tryz
theorem oH {e t:TypeId} {z:Value} {c d:Nat} (o:(prog.info? e).map (fun i=>(i.zero,i.size,i.bytes))=some (some z,c,d)) (N:prog.underlying t=some (.slice e)) (y:z.cells.size=c) (x:0<c) (p:d≤100)
  (W:World) (f:Nat) (G:f≤W.heap.size) (v:Value) (n:Nat) (B:n≤1000000000) (A:List Value) (h:W.ownsRow f e c v n A) (b:Nat) (a:List Value) (Q:a.length=c) (m:∀ j u,a[j]?=some u→W.cell? ⟨b,j,none⟩=some u) (D:∀ u∈a,u.oneCell'=true) :
  ∃ v' s,(Builtin.append_ #[t,t] t #[v,.slice (some ⟨b,0,none⟩) 1 1]).run prog W=.ok v' s∧s.ownsRow f e c v' (n+1) (A++a)∧aM (fun k=>v.ownBlock=some k) W s∧(v'.ownBlock=v.ownBlock∨v'.ownBlock=some W.heap.size)∧∃ g l,v'=.slice (some ⟨g,0,none⟩) (n+1) l:=by
 obtain ⟨i,I,O,E,F⟩:=info_parts o
 obtain ⟨v',s,M,C,q,_,r⟩:=run_append_own_at (P:=prog) W f t t e i z c d N I O E F y x v n A h ⟨b,0,none⟩ 1 1 a (by omega)
  (fun j u J=>by rw [show ((⟨b,0,none⟩:Addr).add j)=⟨b,j,none⟩ by cases j<;>simp [Addr.add]];exact m j u J) D (by unfold maxLen;omega)
  (by
   have w:(n+1)*d≤(n+1)*100:=Nat.mul_le_mul_left _ p;omega) G
 refine ⟨v',s,M,C,⟨q.os,q.tape,q.output,q.size,fun k L B=>q.block k L (fun H=>B H.symm)⟩,r,?_⟩;rcases C.2 with ⟨_,w⟩|⟨g,l,cur,w,_⟩
 ·omega
 ·exact ⟨g,l,w⟩
def gE (x:PX) (c:PC) (k:Nat):Prop:=k=x.p∨c.out.ownBlock=some k∨c.op.ownBlock=some k∨c.bd.ownBlock=some k
def cW (l:aP):List Value:=l.flatMap fun p=>[aB p.1,aB p.2]
def GG (w:World) (a:Nat) (G:Nat→Prop) (l:aP) (e:List Value):Prop:=
 ∃ b d c,e=[.slice b d c]∧w.ownsRow a 177 2 (.slice b d c) l.length (cW l)∧(∀ k,(Value.slice b d c).ownBlock=some k→G k)∧l.length≤1000000000
structure dZ (x:PX) (base:Nat) (w:World) (c:PC) (opens:List Bs) (bound:List aP) (out:List cD):Prop where
 blk:aY x w c
 pb:base≤x.p
 out:∃ a,w.ownsRow base 35 6 c.out out.length a∧cI (kC w base (fun k=>¬ gE x c k)) out a
 op:∃ a,w.ownsRow base 9 1 c.op opens.length a∧cI (fun b d=>d=[aB b]) opens.reverse a
 bd:∃ a,w.ownsRow base 47 1 c.bd bound.length a∧cI (GG w base (fun k=>¬ gE x c k)) bound.reverse a
 s1:c.out.ownBlock≠some x.p∧c.op.ownBlock≠some x.p∧c.bd.ownBlock≠some x.p
 s2:∀ k,c.out.ownBlock=some k→c.op.ownBlock≠some k∧c.bd.ownBlock≠some k
 s3:∀ k,c.op.ownBlock=some k→c.bd.ownBlock≠some k
theorem dZ.size {x:PX} {a:Nat} {w:World} {c:PC} {opens:List Bs} {bound:List aP} {out:List cD} (h:dZ x a w c opens bound out):a≤w.heap.size:=by
 have b:=h.pb;have d:=aJ.lt h.blk;omega
theorem dZ.busy {x:PX} {b:Nat} {w:World} {c:PC} {opens:List Bs} {bound:List aP} {out:List cD} (h:dZ x b w c opens bound out) {k:Nat} (a:gE x c k):b≤k∧k<w.heap.size:=by
 obtain ⟨_,e,_⟩:=h.out;obtain ⟨_,f,_⟩:=h.op;obtain ⟨_,d,_⟩:=h.bd;rcases a with rfl|a|a|a
 ·exact ⟨h.pb,aJ.lt h.blk⟩
 ·exact ⟨(aU e a).2,(aU e a).1⟩
 ·exact ⟨(aU f a).2,(aU f a).1⟩
 ·exact ⟨(aU d a).2,(aU d a).1⟩
theorem GG.mod {w w':World} {a:Nat} {G G':Nat→Prop} {l:aP} {f:List Value} {S:Nat→Prop} (h:GG w a G l f) (i:aM S w w') (d:∀ k,G k→k<w.heap.size→¬ S k∧G' k):GG w' a G' l f:=by
 obtain ⟨j,n,m,rfl,c,e,g⟩:=h;exact ⟨j,n,m,rfl,aE c i (fun k b=>(d k (e k b) (aU c b).1).1),fun k b=>(d k (e k b) (aU c b).1).2,g⟩
theorem dZ.own2 {x:PX} {e:Nat} {w w':World} {c f:PC} {opens d:List Bs} {bound a:List aP} {out:List cD} (h:dZ x e w c opens bound out) (E:aY x w' f) (q:aM (fun k=>k=x.p) w w') (s:f.out=c.out) (m:f.op.ownBlock=c.op.ownBlock) (n:f.bd.ownBlock=c.bd.ownBlock)
  (j:∃ l,w.ownsRow e 9 1 f.op d.length l∧cI (fun b y=>y=[aB b]) d.reverse l) (t:∃ l,w.ownsRow e 47 1 f.bd a.length l∧cI (GG w e (fun k=>¬ gE x c k)) a.reverse l):dZ x e w' f d a out:=by
 have B:∀ k,gE x f k↔gE x c k:=fun k=>by unfold gE;rw [s,m,n]
 have z:∀ k,¬ gE x c k→k<w.heap.size→¬ k=x.p∧¬ gE x f k:=fun k A _=>⟨fun i=>A (aH i),fun p=>A ((B k).1 p)⟩;obtain ⟨l,D,v⟩:=h.out;obtain ⟨y,j,r⟩:=j;obtain ⟨F,C,u⟩:=t;refine ⟨E,h.pb,⟨l,?_,v.mono (fun _ _ p=>p.mod q z)⟩,⟨y,?_,r⟩,⟨F,?_,u.mono (fun _ _ p=>p.mod q z)⟩,?_,?_,?_⟩
 ·rw [s];exact aE D q (fun g o i=>h.s1.1 (by rw [←i];exact o))
 ·exact aE j q (fun g o i=>h.s1.2.1 (by rw [←i,←m];exact o))
 ·exact aE C q (fun g o i=>h.s1.2.2 (by rw [←i,←n];exact o))
 ·rw [s,m,n];exact h.s1
 ·rw [s,m,n];exact h.s2
 ·rw [m,n];exact h.s3
theorem dZ.own {x:PX} {a:Nat} {w w':World} {c b:PC} {opens:List Bs} {bound:List aP} {out:List cD} (h:dZ x a w c opens bound out) (i:aY x w' b) (g:aM (fun k=>k=x.p) w w') (f:b.out=c.out) (d:b.op=c.op) (e:b.bd=c.bd):dZ x a w' b opens bound out:=
 h.own2 i g f (by rw [d]) (by rw [e]) (by rw [d];exact h.op) (by rw [e];exact h.bd)
theorem dZ.fresh {x:PX} {a:Nat} {w w':World} {c:PC} {opens:List Bs} {bound:List aP} {out:List cD} (h:dZ x a w c opens bound out) (b:aM (fun _=>False) w w'):dZ x a w' c opens bound out:=
 h.own (h.blk.mod b id) (b.mono (fun _ _ h=>h.elim)) rfl rfl rfl
theorem dZ.addOut {x:PX} {b:Nat} {w n:World} {c:PC} {opens:List Bs} {bound:List aP} {out:List cD} (h:dZ x b w c opens bound out) (p:cD) (y:Option Addr) (A z:Nat) (l:w.ownsRow b 68 3 (.slice y A z) p.attrs.length (aR p.attrs)) (o:∀ k,(Value.slice y A z).ownBlock=some k→¬ gE x c k)
  {v':Value} {E:List Value} (L:w.ownsRow b 35 6 c.out out.length E) (D:cI (kC w b (fun k=>¬ gE x c k)) out E) (H:n.ownsRow b 35 6 v' (out.length+1) (E++fF p (.slice y A z))) (G:aM (fun k=>c.out.ownBlock=some k) w n) (u:v'.ownBlock=c.out.ownBlock∨v'.ownBlock=some w.heap.size) :
  dZ x b (n.setCell ⟨x.p,5,none⟩ v') { c with out:=v' } opens bound (out++[p]):=by
 have m:∀ k,v'.ownBlock=some k→c.out.ownBlock=some k∨w.heap.size≤k:=fun k d=>by
  rcases u with u|u
  ·exact aH (u▸d)
  ·rw [u] at d;right;simp at d;omega
 have f:aM (fun k=>k=x.p∨c.out.ownBlock=some k) w (n.setCell ⟨x.p,5,none⟩ v'):=aM.setCell (S:=fun k=>k=x.p∨c.out.ownBlock=some k) (G.mono (fun _ _ h=>aW h)) (p:=⟨x.p,5,none⟩) (aH (aH rfl)) v';have q:aM (fun k=>k=x.p) n (n.setCell ⟨x.p,5,none⟩ v'):=aM.setCell (S:=fun k=>k=x.p) (aM.refl _ _) (p:=⟨x.p,5,none⟩) (aH rfl) v';have J:=aJ.lt h.blk;have v:∀ k,¬ gE x c k→k<w.heap.size→¬ (k=x.p∨c.out.ownBlock=some k)∧¬ gE x { c with out:=v' } k:=fun k d I=>by
  refine ⟨fun a=>d (a.elim aH (fun h=>aW (aH h))),fun e=>?_⟩;rcases e with e|e|e|e
  ·exact d (aH e)
  ·rcases m k e with j|j
   ·exact d (aW (aH j))
   ·omega
  ·exact d (aW (aW (aH e)))
  ·exact d (aW (aW (aW e)))
 obtain ⟨M,s,t⟩:=h.op;obtain ⟨N,F,C⟩:=h.bd;have r:v'.ownBlock≠some x.p:=fun a=>by
  rcases m _ a with j|j
  ·exact h.s1.1 j
  ·omega
 refine ⟨?_,h.pb,⟨_,?_,.snoc (D.mono (fun _ _ e=>e.mod f v)) ⟨y,A,z,rfl,?_,?_⟩⟩,⟨M,?_,t⟩,⟨N,?_,C.mono (fun _ _ e=>e.mod f v)⟩,⟨r,h.s1.2⟩,?_,h.s3⟩
 ·have B:aY x n c:=h.blk.mod G h.s1.1;have:=B.set 5 v';simpa [gA] using this
 ·rw [fY];exact aE H q (fun g i a=>r (by rw [←a];exact i))
 ·exact aE l f (fun g i=>(v g (o g i) (aU l i).1).1)
 ·exact fun k d=>(v k (o k d) (aU l d).1).2
 ·refine aE s f (fun g i a=>?_);rcases a with a|a
  ·exact h.s1.2.1 (by rw [←a];exact i)
  ·exact (h.s2 g a).1 i
 ·refine aE F f (fun g i a=>?_);rcases a with a|a
  ·exact h.s1.2.2 (by rw [←a];exact i)
  ·exact (h.s2 g a).2 i
 ·intro k d;rcases m k d with j|j
  ·exact h.s2 k j
  ·exact ⟨fun a=>by have:=(aU s a).1;omega,fun a=>by have:=(aU F a).1;omega⟩
abbrev SA (p:cD) (a:Option Addr) (c b:Nat) (i:Int):Value:=.agg #[.int .i64 p.kind,aB p.space,aB p.loc,.slice a c b,aB p.text,.int .i64 i]
theorem JR (x:PX) (a:Nat) (w:World) (c:PC) (opens:List Bs) (bound:List aP) (out:List cD) (h:dZ x a w c opens bound out) (y:out.length≤1000000000) (p:cD) (d:Option Addr) (l g:Nat) (i0:Int) (N:w.ownsRow a 68 3 (.slice d l g) p.attrs.length (aR p.attrs)) (Q:∀ k,(Value.slice d l g).ownBlock=some k→¬ gE x c k) :
  Calls prog 48 #[jP x,SA p d l g i0] w fun e w'=>e=.returned (.bool true)∧Below a w w'∧∃ v',dZ x a w' { c with out:=v' } opens bound (out++[{ p with at':=c.at' }]):=by
 obtain ⟨xs,W,t⟩:=h.out;obtain ⟨wa,r⟩:=cY (w.alloc (.cells #[.int .i64 p.kind,aB p.space,aB p.loc,.slice d l g,aB p.text,.int .i64 i0] 35));have E:aM (fun _=>False) w wa:=by rw [r];exact (aM.refl _ w).alloc _
 have o:aJ wa w.heap.size #[.int .i64 p.kind,aB p.space,aB p.loc,.slice d l g,aB p.text,.int .i64 i0] 35:=by rw [r];exact aJ.new w _ _
 have G:=h.blk.mod E id;have X:=G.cell;have hf:=G.frozen;have a0:=o.cell;have a1:=o.frozen;have ⟨H,M,aL,Y,aA,J⟩:=iH h W t N Q E;have ⟨Z,I⟩:=cN o y;clear h W t N Q E o G y;refine eI 20 func48 [_,_] fun f=>?_;simp only [aF];refine vT 1 ?_;rw [←r];clear r;refine vg ?_;intro K hK;obtain ⟨v,n⟩:=cY (wa.setCell ⟨w.heap.size,5,none⟩ (.int .i64 c.at'));rw [←n];have U:aY x v c:=by rw [n];exact aJ.set_ne (H.o.blk.mod J.o id) (fun he=>by have:=aJ.lt H.o.blk;simp at he;omega) _
 have O:aJ v w.heap.size #[.int .i64 p.kind,aB p.space,aB p.loc,.slice d l g,aB p.text,.int .i64 c.at'] 35:=by
  have:=Z.o.set 5 (.int .i64 c.at');rw [n];simpa using this
 have T:aM (fun _=>False) w v:=by rw [n];exact aM.setCell (S:=fun _=>False) J.o (p:=⟨w.heap.size,5,none⟩) (aW (dD _)) _
 have ⟨D,B,aC⟩:=mJ U O T;clear n U O T X hf a0 a1;refine uH [0,0,0,0,1,1,3,2,0,0,2] (.one 0 (.one 1 (.one 2 (.one 3 (.one 4 (.one 5 (.one 6 (.one 7 (.one 8 (.one 9 (.one 10 .nil))))))))))) (fun w'=>aY x w' c∧aJ w' w.heap.size #[.int .i64 p.kind,aB p.space,aB p.loc,.slice d l g,aB p.text,.int .i64 c.at'] 35) (by kernel_rfl) (by kernel_rfl) ?_;(repeat (first|(with_reducible refine l9 ?_)|((with_reducible refine kH rfl rfl (fun K hK=>?_));go_simp;refine hK _ ?_;clear hK K)|((with_reducible refine lB rfl rfl (fun K hK=>?_));go_simp;refine hK.out _ _ ?_;clear hK K)));refine pV rfl rfl ⟨D.o,B.o⟩ rfl (some 14) rfl c.out (fun w' m=>?_) ?_
 ·have X:=m.1.cell;clear m;go_simp
 rw [fR (by decide)];refine pV rfl rfl ⟨D.o,B.o⟩ rfl (some 15) rfl (SA p d l g c.at') (fun w' m=>?_) ?_
 ·have X:=m.2.cell;clear m;go_simp
 rw [fR (by decide)];refine lP rfl rfl (fun K hK=>?_);go_simp;refine hK.out _ _ ?_ ?_
 ·exact ⟨aJ.alloc (w:=v.drew) D.o _,aJ.alloc (w:=v.drew) B.o _⟩
 clear hK K;obtain ⟨wd,s⟩:=cY ((v.alloc (.cells #[.int .i64 p.kind,aB p.space,aB p.loc,.slice d l g,aB p.text,.int .i64 c.at'] 35)).drew);rw [←s];have q:aM (fun _=>False) w wd:=by rw [s];exact (aC.o.alloc _).drew
 have P:aJ wd v.heap.size #[.int .i64 p.kind,aB p.space,aB p.loc,.slice d l g,aB p.text,.int .i64 c.at'] 35:=by rw [s];exact (aJ.new v _ _).drew
 have V:=H.o.size
 obtain ⟨v',w4,A,z,R,hv,gv,cv,a2⟩:=oH uY underlying23 rfl (by decide) (by decide) wd a (fX V q.size) c.out out.length I.o xs (aE (S:=fun _=>False) M.o q (fun _ _=>id)) v.heap.size (fF { p with at':=c.at' } (.slice d l g)) rfl
  (fun j u hj=>by rw [P.cell];simpa [fF] using hj)
  (fun u hu=>by
   simp only [fF,mH,xZ,or_false] at hu;rcases hu with rfl|rfl|rfl|rfl|rfl|rfl<;>rfl)
 have ⟨L,C,HV,b⟩:=kV z R hv q;clear s P z R hv q V;refine PU rfl rfl rfl (some 17) rfl (.tmp 14) (.tmp 16) _ _ rfl _ _ v' (by rw [cC (by decide)];(try simp only [aK,aQ,aS,aX,Nat.reduceEqDiff,↓reduceIte]);(try rfl)) (by rw [cC (by decide)];(try simp only [aK,aQ,aS,aX,Nat.reduceEqDiff,↓reduceIte]);(try rfl)) A ?_;rw [fR (by decide)];clear A;subst a2;have F:aY x w4 c:=(H.o.blk.mod b.o id).mod C.o H.o.s1.1;have X:=F.cell;have hf:=F.frozen;clear F;(repeat (first|(with_reducible refine l9 ?_)|((with_reducible refine kH rfl rfl (fun K hK=>?_));go_simp;refine hK _ ?_;clear hK K)|((with_reducible refine lB rfl rfl (fun K hK=>?_));go_simp;refine hK.out _ _ ?_;clear hK K)));revert K;refine vg ?_;refine cO ?_;have hd:=H.o.fresh b.o;have t:=aL.o.mono (fun _ _ hh=>kC.mod (G':=fun k=>¬ gE x c k) hh b.o (fun k hk _=>⟨id,hk⟩));have hR:=hd.addOut { p with at':=c.at' } d l g (aE (S:=fun _=>False) Y.o b.o (fun _ _=>id)) aA.o (aE (S:=fun _=>False) M.o b.o (fun _ _=>id)) t L.o C.o HV.o;refine ⟨rfl,?_,_,hR⟩;refine aM.below (Below.refl _ w) H.o.size (aM.setCell (S:=fun k=>gE x c k) ((b.o.mono (S':=fun k=>gE x c k) (fun _ _ h=>h.elim)).trans (C.o.mono (S':=fun k=>gE x c k) (fun _ _ h=>aW (aH h))) (fun _ _ h=>h)) (p:=⟨x.p,5,none⟩) (aH (aH rfl)) _) (fun i hi=>(H.o.busy hi).1)
theorem jA (x:PX) (f:x.T.length≤1000000000) (w:World) (c:PC) (h:aY x w c) (g:c.at'≤x.T.length) (s:Bs) (i:s.length≤1000000000) (b:s.isPrefixOf (x.T.drop c.at')=true):Calls prog 26 #[jP x,aB s] w fun e w'=>e=.returned (.bool true)∧aY x w' { c with at':=c.at'+s.length }∧aM (fun k=>k=x.p) w w':=by
 refine (wB x f w c h g s i).mono ?_;rintro e w' ⟨rfl,a,d⟩;rw [b,aV rfl] at a;rw [b];exact ⟨rfl,a,d⟩
theorem iM (x:PX) (f:x.T.length≤1000000000) (w:World) (c:PC) (h:aY x w c) (g:c.at'≤x.T.length) (s:Bs) (i:s.length≤1000000000) (b:s.isPrefixOf (x.T.drop c.at')=false):Calls prog 26 #[jP x,aB s] w fun e w'=>e=.returned (.bool false)∧aY x w' c∧aM (fun k=>k=x.p) w w':=by
 refine (wB x f w c h g s i).mono ?_;rintro e w' ⟨rfl,a,d⟩;rw [b,aN (by simp)] at a;rw [b];exact ⟨rfl,a,d⟩
theorem oR (x:PX) (w:World) (c:PC) (h:aY x w c) (b:x.T.length≤c.at'):Calls prog 14 #[jP x] w fun e w'=>e=.returned (.bool true)∧∃ k,w'=w.drewN k:=by
 refine (uL x w c h).mono ?_;rintro e w' ⟨rfl,a⟩;exact ⟨by rw [decide_eq_true (by omega)],a⟩
theorem oS (x:PX) (w:World) (c:PC) (h:aY x w c) (b:c.at'<x.T.length):Calls prog 14 #[jP x] w fun e w'=>e=.returned (.bool false)∧∃ k,w'=w.drewN k:=by
 refine (uL x w c h).mono ?_;rintro e w' ⟨rfl,a⟩;exact ⟨by rw [decide_eq_false (by omega)],a⟩
theorem oU {s T:Bs} {a:Nat} (h:s.isPrefixOf (T.drop a)=true) (b:a≤T.length):a+s.length≤T.length:=by
 have:=DN h;rw [eY] at this;omega
def gG (x:PX) (a:Nat) (out:List cD) (w:World) (r:Except SV (List aO×hZ)) (e:Ending) (w':World):Prop:=
 Below a w w'∧match r with
  | .ok q=>e=.returned (.bool true)∧∃ b,dZ x a w' b q.2.opens q.2.bound (out++q.1.map fun t=>{ t.itok [] with at':=b.at' })∧b.at'≤x.T.length∧q.2.rest=x.T.drop b.at'
  | .error k=>e=.returned (.bool false)∧∃ b d c,dZ x a w' b d c out∧b.verd=k.num
theorem gG.err {x:PX} {b:Nat} {out:List cD} {w w1 w':World} {c:PC} {opens:List Bs} {bound:List aP} {r:Except SV (List aO×hZ)} {k:SV} {a:Nat} (h:dZ x b w c opens bound out) (f:aY x w' { c with at':=a,verd:=k.num }) (d:aM (fun k=>k=x.p) w w') (g:r=.error k):gG x b out w r (.returned (.bool false)) w':=by
 subst g;exact ⟨aM.below (Below.refl _ w) h.size d (fun i e=>by rw [e];exact h.pb),rfl,_,opens,bound,h.own f d rfl rfl rfl,rfl⟩
theorem sK (x:PX) (b:Nat) (w w1:World) (c:PC) (opens:List Bs) (bound:List aP) (out:List cD) (h:dZ x b w c opens bound out) (f:out.length≤1000000000) (a:Nat) (l:a≤x.T.length) (p:aY x w1 { c with at':=a }) (g:aM (fun k=>k=x.p) w w1) (t:aO) (d:(t.itok []).attrs=[]) (r:Except SV (List aO×hZ)) (q:r=.ok ([t],⟨x.T.drop a,opens,bound⟩)) :
  Calls prog 48 #[jP x,SA (t.itok []) none 0 0 0] w1 fun e w'=>e=.returned (.bool true)∧gG x b out w r (.returned (.bool true)) w':=by
 have j:dZ x b w1 { c with at':=a } opens bound out:=h.own p g rfl rfl rfl;refine (JR x b w1 { c with at':=a } opens bound out j f (t.itok []) none 0 0 0 ⟨by rw [d];rfl,aH ⟨rfl,by rw [d];rfl⟩⟩ (fun k o=>by cases o)).mono ?_;rintro e w' ⟨rfl,m,v',s⟩;refine ⟨rfl,(aM.below (Below.refl _ w) h.size g (fun i n=>by rw [n];exact h.pb)).trans m,?_⟩;subst q;exact ⟨rfl,_,s,l,rfl⟩
def SB (l:Bs):Int:=match l with
 | []=>1
 | b::_=>if b=45∨b=91 then 1 else 2
theorem SC (x:PX) (w:World) (c:PC) (h:aY x w c):Calls prog 33 #[jP x,aB [45,45],aB [91,67,68,65,84,65,91]] w fun e w'=>e=.returned (.int .i64 (SB (x.T.drop c.at')))∧∃ k,w'=w.drewN k:=by
 have j:=Lh h;refine eI 37 func33 [_,_,_] fun f=>?_;simp only [aF];have A:∀ h,(⟨#[45,45]⟩:ByteArray)[0]'h=45:=fun _=>rfl;have B:∀ h,(⟨#[91,67,68,65,84,65,91]⟩:ByteArray)[0]'h=91:=fun _=>rfl;by_cases i:c.at'<x.T.length
 ·have l:=Lh (fun q=>oS x (w.drewN q) c h i);clear h;obtain ⟨b,o⟩:=cY (x.T.getD c.at' 0);have z:∀ h,(⟨x.T.toArray⟩:ByteArray)[c.at']'h=b:=by rw [o];exact jE x.T c.at' i
  have m:=Lh (show SB (x.T.drop c.at')=if b=45∨b=91 then 1 else 2 by rw [cF x.T c.at' i,o];rfl);have C:(0:Int)≤(c.at':Int):=by omega
  have D:(c.at':Int)<(x.T.length:Int):=by omega
  clear o;by_cases d:b=45
  ·have a:=Lh (m.o.trans (aV (aH d)));subst d;refine vg ?_;intro K hK K hK;(refine lX [0,2,0,0,0,0,1,0,0,0,1,0,0,0,0,0,0,0,0,0,1,0,0,0,1,0,0,0,0,0] [0,1,2,3,4,5,6,7,8,9,10,11,12,13,14,15,16,17,18,19,20,21,22,23,24,25,26,27,28,29] ?_;refine vP ?_;repeat with_reducible intro nq)
   refine bK rfl rfl (fun nq K hK=>?_);go_simp;refine (l.o _).mono ?_;rintro n r ⟨rfl,p,rfl⟩;have s:=j.o.cell;have t:=j.o.frozen;go_simp;refine hK.out _ _ ?_;clear hK K;(refine vP ?_;repeat with_reducible intro nq)
   (repeat revert K);refine vg ?_;intro K hK;refine cO ?_;exact ⟨by rw [a.o],_,rfl⟩
  have u:((b.toNat:Int)==45)=false:=oG d;by_cases g:b=91
  ·have a:=Lh (m.o.trans (aV (aW g)));subst g;refine vg ?_;intro K hK K hK;(refine lX [0,2,0,0,0,0,1,0,0,0,1,0,0,0,0,0,0,0,0,0,1,0,0,0,1,0,0,0,0,0] [0,1,2,3,4,5,6,7,8,9,10,11,12,13,14,15,16,17,18,19,20,21,22,23,24,25,26,27,28,29] ?_;refine vP ?_;repeat with_reducible intro nq)
   refine bK rfl rfl (fun nq K hK=>?_);go_simp;refine (l.o _).mono ?_;rintro n r ⟨rfl,p,rfl⟩;have s:=j.o.cell;have t:=j.o.frozen;go_simp;refine hK.out _ _ ?_;clear hK K;(refine vP ?_;repeat with_reducible intro nq)
   (repeat revert K);refine vg ?_;intro K hK;refine cO ?_;exact ⟨by rw [a.o],_,rfl⟩
  have v:((b.toNat:Int)==91)=false:=oG g;have a:=Lh (m.o.trans (aN (fun y=>y.elim d g)));clear d g;refine vg ?_;intro K hK K hK;(refine lX [0,2,0,0,0,0,1,0,0,0,1,0,0,0,0,0,0,0,0,0,1,0,0,0,1,0,0,0,0,0] [0,1,2,3,4,5,6,7,8,9,10,11,12,13,14,15,16,17,18,19,20,21,22,23,24,25,26,27,28,29] ?_;refine vP ?_;repeat with_reducible intro nq)
  refine bK rfl rfl (fun nq K hK=>?_);go_simp;refine (l.o _).mono ?_;rintro n r ⟨rfl,p,rfl⟩;have s:=j.o.cell;have t:=j.o.frozen;go_simp;refine hK.out _ _ ?_;clear hK K;(refine vP ?_;repeat with_reducible intro nq)
  (repeat revert K);refine vg ?_;refine cO ?_;exact ⟨by rw [a.o],_,rfl⟩
 ·have l:=Lh (fun q=>oR x (w.drewN q) c h (by omega));have m:=Lh (show SB (x.T.drop c.at')=1 by rw [vN (by omega)];rfl);clear h;refine vg ?_;intro K hK K hK;(refine lX [0,2,0,0,0,0,1,0,0,0,1,0,0,0,0,0,0,0,0,0,1,0,0,0,1,0,0,0,0,0] [0,1,2,3,4,5,6,7,8,9,10,11,12,13,14,15,16,17,18,19,20,21,22,23,24,25,26,27,28,29] ?_;refine vP ?_;repeat with_reducible intro nq)
  refine bK rfl rfl (fun nq K hK=>?_);go_simp;refine (l.o _).mono ?_;rintro n r ⟨rfl,p,rfl⟩;go_simp;refine hK.out _ _ ?_;clear hK K;(refine vP ?_;repeat with_reducible intro nq)
  (repeat revert K);refine vg ?_;intro K hK;refine cO ?_;exact ⟨by rw [m.o],_,rfl⟩
def Dj (l:Bs) (w0:World) (k:Nat) (a:Act) (w:World):Prop:=
 ∃ f i,a=fr 16 f [(0,aB l),(5,.int .i64 (l.length:Nat)),(6,.int .i64 (i:Nat))]∧w0=w∧k=l.length-i∧i≤l.length∧(l.take i).contains 13=false
theorem JS (l:Bs) (s:l.length≤1000000000) (w:World):Calls prog 55 #[aB l] w fun e w'=>e=.returned (.bool (l7 l))∧w'=w:=by
 have B:=Lh s;have p:=Lh (V9 l s w);clear s;refine eI 16 func55 [_] fun f=>?_;simp only [aF];refine vg ?_;intro K hK;refine cP [0,5,6] fun f=>?_;refine wp_loop_ghost_k (Dj l w) l.length ⟨f,0,rfl,rfl,rfl,iW _,rfl⟩ ?_;rintro k _ _ ⟨f,i,rfl,rfl,x,H,v⟩ J E u j;have ⟨z,o,A,t⟩:=kV u j x v;clear u j x v;by_cases c:i<l.length
 ·have L:(0:Int)≤(i:Int):=by omega
  have D:(i:Int)<(l.length:Int):=by omega
  have M:IntKind.i64.wrap ((i:Int)+1)=((i+1:Nat):Int):=by rw [IntKind.wrap_i64];have F:=B.o;omega
  have d:=Lh (AM l i c 13);obtain ⟨b,m⟩:=cY (l.getD i 0);have I:∀ h,(⟨l.toArray⟩:ByteArray)[i]'h=b:=by rw [m];exact jE l i c
  rw [←m] at d;have g:=Lh m;clear m;by_cases a:b=13
  ·have y:l7 l=false:=by
    have C:l.contains 13=true:=by
     rw [List.contains_iff_mem];have:l[i]=13:=by rw [←a,g.o];simp [sR,c]
     rw [←this];exact List.getElem_mem c
    unfold l7;rw [C];rfl
   have q:=Lh y;clear y g d;subst a;revert K;refine vg ?_;intro K hK K hK;refine cO ?_;exact ⟨by rw [q.o],rfl⟩
  ·have G:((b.toNat:Int)==13)=false:=oG a;have n:=Lh (show (l.take (i+1)).contains 13=false by rw [d.o,t.o,Bool.false_or,lV];exact fun h=>a h.symm);clear a g d;revert K;refine vg ?_;intro K hK;refine Kk [0,5,6] fun f=>?_;exact o.o _ _ ⟨l.length-(i+1),by rw [A.o];omega,z.o _ _ _ ⟨f,i+1,rfl,rfl,rfl,c,n.o⟩⟩
 ·have r:i=l.length:=by omega
  subst r;have D:¬ ((l.length:Int)<(l.length:Int)):=by omega
  have q:=Lh (show l7 l=bM l by
   have:=t.o;rw [List.take_length] at this;unfold l7;rw [this];rfl)
  revert K;refine vg ?_;intro K hK K hK;refine p.o.mono ?_;rintro e w' ⟨rfl,rfl⟩;(repeat revert K);refine vS ?_;refine cO ?_;exact ⟨by rw [q.o],rfl⟩
theorem dO (q:UInt8) (T:Bs) (a:Nat) (b:a<T.length):([q]:Bs).isPrefixOf (T.drop a)=(q==T.getD a 0):=by
 rw [cF T a b];show ((q==T.getD a 0)&&List.isPrefixOf [] (T.drop (a+1)))=_;cases (q==T.getD a 0)<;>rfl
theorem WF {p T:Bs} {a:Nat} (h:p.isPrefixOf (T.drop a)=true) (b:a<T.length):dY p (T.drop a)=some ([],T.drop (a+p.length)):=by
 rw [cF T a b] at h ⊢;unfold dY;rw [aV h,←cF T a b,List.drop_drop]
theorem SD {p T:Bs} {a:Nat} (h:p.isPrefixOf (T.drop a)=false) (b:a<T.length):dY p (T.drop a)=(dY p (T.drop (a+1))).map fun x=>(T.getD a 0::x.1,x.2):=by
 rw [cF T a b] at h ⊢;conv=>lhs;unfold dY
 rw [aN (by rw [h];simp)]
theorem WG {p T:Bs} {a:Nat} (b:T.length≤a):dY p (T.drop a)=none:=by rw [vN b];rfl
def mD (T p:Bs) (i a:Nat):Prop:=dY p (T.drop i)=(dY p (T.drop a)).map fun x=>((T.drop i).take (a-i)++x.1,x.2)
theorem mD.start (T p:Bs) (i:Nat):mD T p i i:=by
 unfold mD;cases dY p (T.drop i)<;>simp
theorem mD.next {T p:Bs} {i a:Nat} (h:mD T p i a) (b:i≤a) (d:p.isPrefixOf (T.drop a)=false) (c:a<T.length):mD T p i (a+1):=by
 unfold mD at h ⊢;rw [h,SD d c,wD T i a b c];cases dY p (T.drop (a+1))<;>simp
theorem mD.hit {T p:Bs} {i a:Nat} (h:mD T p i a) (c:p.isPrefixOf (T.drop a)=true) (b:a<T.length):dY p (T.drop i)=some ((T.drop i).take (a-i),T.drop (a+p.length)):=by
 unfold mD at h;rw [h,WF c b];simp
theorem mD.none {T p:Bs} {i a:Nat} (h:mD T p i a) (b:T.length≤a):dY p (T.drop i)=none:=by
 unfold mD at h;rw [h,WG b];rfl
theorem lI {p T:Bs} {a:Nat} (h:p.isPrefixOf (T.drop a)=true) (b:0<p.length):a<T.length:=by
 have:=DN h;rw [eY] at this;omega
def Dk (x:PX) (c:PC) (w0:World) (k:Nat) (b:Act) (w:World):Prop:=
 ∃ f a,b=fr 48 f [(0,jP x),(3,.int .i64 (c.at':Nat))]∧aY x w { c with at':=a }∧aM (fun k=>k=x.p) w0 w∧k=x.T.length-a∧a≤x.T.length∧c.at'≤a∧mD x.T [45,45] c.at' a
def nO (f:Bs→aO) (opens:List Bs) (bound:List aP) (r:Except SV (Bs×Bs)):Except SV (List aO×hZ):=match r with
 | .error e=>.error e
 | .ok (d,r)=>.ok ([f d],⟨r,opens,bound⟩)
theorem JT (x:PX) (hT:x.T.length≤1000000000) (B:Nat) (w:World) (c:PC) (opens:List Bs) (bound:List aP) (out:List cD) (h:dZ x B w c opens bound out) (I:out.length≤1000000000) (ha:c.at'≤x.T.length) :
  Calls prog 29 #[jP x] w (gG x B out w (nO .comment opens bound (dR (x.T.drop c.at')))):=by
 have hc:=h.blk.cell;have hf:=h.blk.frozen;have ⟨H,O,HA,W⟩:=kV h hT ha I;clear h hT ha I;refine eI 48 func29 [_] fun f=>?_;simp only [aF];refine vg ?_;intro K hK;refine cP [0,3] fun f=>?_;refine wp_loop_ghost_k (Dk x c w) (x.T.length-c.at') ⟨f,c.at',rfl,H.o.blk,aM.refl _ w,rfl,HA.o,dD _,mD.start _ _ _⟩ ?_;clear hc hf;rintro k _ w2 ⟨f,a,rfl,hp,hm,hk,aA,Y,hcut⟩ J K2 hJ X;have ⟨HJ,aC,HP,HM,HK,D⟩:=iH hJ X hp hm hk aA;have ⟨L,u⟩:=cN Y hcut;clear hJ X hp hm hk aA Y hcut;cases d:([45,45]:Bs).isPrefixOf (x.T.drop a) with
 | true=>
  have q:=Lh (jA x O.o w2 { c with at':=a } HP.o D.o [45,45] (by decide) d);have aL:=Lh (lI d (by decide));have o:=Lh (u.o.hit d aL.o);have M:=Lh (oU d D.o);clear d;revert K;refine vg ?_;intro K hK K hK K hK K hK;refine q.o.mono ?_;rintro e3 t ⟨rfl,e,i⟩;have g:=Lh (show aY x t { c with at':=a+2 } from e);have y:=Lh (HM.o.trans i (fun _ _ h=>h));clear e i q;go_simp;have hc:=g.o.cell;have hf:=g.o.frozen;have z1:(0:Int)≤(c.at':Int):=by omega
  have a1:IntKind.i64.wrap (a:Int)=(a:Int):=by rw [IntKind.wrap_i64];have h8:=M.o;have R:=O.o;simp at h8;omega
  have z2:(c.at':Int)≤(a:Int):=by have:=L.o;omega
  have z3:(a:Int)≤(x.T.length:Int):=by have:=D.o;omega
  (repeat revert K);refine vg ?_;intro K hK;(refine lX [0,0,0,1,0,0,0,0,1,0,0,0] [0,1,2,3,4,5,6,7,8,9,10,11] ?_;refine vP ?_;repeat with_reducible intro nq)
  rw [lD];obtain ⟨s,hs⟩:=cY ((x.T.drop c.at').take (a-c.at'));rw [←hs];rw [←hs] at o;have a0:=Lh (show s.length≤1000000000 by rw [hs,qQ,eY];have:=O.o;omega);clear hs hc hf;have HV:=Lh (fun w=>JS s a0.o w);have G:=Lh (show aY x (t.drewN nq) { c with at':=a+2 } from g.o);have F:=Lh (show aM (fun k=>k=x.p) w (t.drewN nq) from y.o.drewN _);have U:=Lh (show dR (x.T.drop c.at')=match x.T.drop (a+2) with
    | []=>.error .bad
    | b::r2=>if b=62 then (if l7 s then .ok (s,r2) else .error .opn) else .error .bad by unfold dR;rw [o.o];rfl)
  cases m:([62]:Bs).isPrefixOf (x.T.drop (a+2)) with
  | true=>
   have q:=Lh (jA x O.o (t.drewN nq) { c with at':=a+2 } G.o M.o [62] (by decide) m);have v:=Lh (lI m (by decide));have n:=Lh (show dR (x.T.drop c.at')=if l7 s then .ok (s,x.T.drop (a+3)) else .error .opn by
    have R:=dO 62 x.T (a+2) v.o;rw [m] at R;have P:x.T.getD (a+2) 0=62:=(beq_iff_eq.1 R.symm).symm;rw [U.o,cF x.T (a+2) v.o];rw [P];rfl)
   clear m;revert K;refine vg ?_;intro K hK K hK K hK;refine q.o.mono ?_;rintro e4 w4 ⟨rfl,r,C⟩;have N:=Lh (show aY x w4 { c with at':=a+3 } from r);have E:=Lh (F.o.trans C (fun _ _ h=>h));clear r C q;(repeat revert K);refine vS ?_;intro K hK K hK K hK;refine (HV.o _).mono ?_;rintro e5 w5 ⟨rfl,rfl⟩;go_simp;cases hv:l7 s with
   | true=>
    have T:=Lh (sK x B w w5 c opens bound out H.o W.o (a+3) (by have:=v.o;omega) N.o E.o (.comment s) rfl (nO .comment opens bound (dR (x.T.drop c.at'))) (by rw [n.o,aV hv];rfl));(repeat revert K);refine vg ?_;intro K hK K hK;refine T.o.mono ?_;rintro e6 w6 ⟨rfl,h6⟩;have H6:=Lh h6;clear h6;(repeat revert K);refine vS ?_;refine cO ?_;exact H6.o
   | false=>
    have V:=Lh (lZ x w5 { c with at':=a+3 } N.o 2);(repeat revert K);refine vg ?_;intro K hK K hK K hK;refine V.o.mono ?_;rintro e6 w6 ⟨rfl,l,j⟩;have ⟨A,z⟩:=cN l j;clear l j;(repeat revert K);refine vS ?_;intro K hK;refine cO ?_;exact gG.err (w1:=w) (k:=.opn) H.o A.o (E.o.trans z.o (fun _ _ h=>h)) (by rw [n.o,aN (by rw [hv];simp)];rfl)
  | false=>
   have q:=Lh (iM x O.o (t.drewN nq) { c with at':=a+2 } G.o M.o [62] (by decide) m);have n:=Lh (show dR (x.T.drop c.at')=.error .bad by
    rw [U.o];by_cases Z:a+2<x.T.length
    ·have P:¬ x.T.getD (a+2) 0=62:=by
      intro hh;have R:=dO 62 x.T (a+2) Z;rw [m,hh] at R;cases R
     rw [cF x.T (a+2) Z];simp only [aN P]
    ·rw [vN (by omega)])
   clear m;revert K;refine vg ?_;intro K hK K hK K hK;refine q.o.mono ?_;rintro e4 w4 ⟨rfl,r,C⟩;have N:=Lh r;have E:=Lh (F.o.trans C (fun _ _ h=>h));have V:=Lh (lZ x w4 { c with at':=a+2 } r 1);clear r C q;(repeat revert K);refine vS ?_;intro K hK K hK K hK;refine V.o.mono ?_;rintro e6 w6 ⟨rfl,l,j⟩;have ⟨A,z⟩:=cN l j;clear l j;(repeat revert K);refine vS ?_;intro K hK;refine cO ?_;exact gG.err (w1:=w) (k:=.bad) H.o A.o (E.o.trans z.o (fun _ _ h=>h)) (by rw [n.o];rfl)
 | false=>
  have q:=Lh (iM x O.o w2 { c with at':=a } HP.o D.o [45,45] (by decide) d);by_cases Q:a<x.T.length
  ·have o:=Lh (u.o.next L.o d Q);clear d;revert K;refine vg ?_;intro K hK K hK K hK K hK;refine q.o.mono ?_;rintro e3 t ⟨rfl,e,i⟩;have g:=Lh e;have y:=Lh (HM.o.trans i (fun _ _ h=>h));have HE:=Lh (oS x t { c with at':=a } e Q);clear e i q;(repeat revert K);refine vS ?_;intro K hK K hK K hK K hK;refine HE.o.mono ?_;rintro e4 w4 ⟨rfl,k4,rfl⟩;have hc:=(show aY x (t.drewN k4) { c with at':=a } from g.o).cell;have hf:=(show aY x (t.drewN k4) { c with at':=a } from g.o).frozen;have w1:IntKind.i64.wrap ((a:Int)+1)=((a+1:Nat):Int):=by rw [IntKind.wrap_i64];have:=O.o;omega
   (repeat revert K);refine vS ?_;intro K hK;refine Kk [0,3] fun f=>?_;refine aC.o _ _ ⟨x.T.length-(a+1),by rw [HK.o];omega,HJ.o _ _ _ ⟨f,a+1,rfl,?_,aM.setCell (S:=fun k=>k=x.p) (y.o.drewN _) (p:=⟨x.p,1,none⟩) (aH rfl) _,rfl,Q,by have:=L.o;omega,o.o⟩⟩;exact aJ.set (w:=t.drewN _) (cs:=gA x { c with at':=a }) g.o 1 _
  ·have o:=Lh (u.o.none (by omega));have HR:=Lh (show dR (x.T.drop c.at')=.error .bad by unfold dR;rw [o.o]);clear d;revert K;refine vg ?_;intro K hK K hK K hK K hK;refine q.o.mono ?_;rintro e3 t ⟨rfl,e,i⟩;have g:=Lh e;have y:=Lh (HM.o.trans i (fun _ _ h=>h));have HE:=Lh (oR x t { c with at':=a } e (by simp;omega));clear e i q;(repeat revert K);refine vS ?_;intro K hK K hK K hK K hK;refine HE.o.mono ?_;rintro e4 w4 ⟨rfl,k4,rfl⟩;have V:=Lh (lZ x (t.drewN k4) { c with at':=a } g.o 1);(repeat revert K);refine vS ?_;intro K hK K hK K hK K hK;refine V.o.mono ?_;rintro e6 w6 ⟨rfl,l,j⟩;have ⟨A,z⟩:=cN l j;clear l j;(repeat revert K);refine vS ?_;intro K hK K hK;refine cO ?_;exact gG.err (w1:=w) (k:=.bad) H.o A.o ((y.o.drewN _).trans z.o (fun _ _ h=>h)) (by rw [HR.o];rfl)
theorem gF (a b:Bs):(⟨a.toArray⟩:ByteArray)++⟨b.toArray⟩=⟨(a++b).toArray⟩:=by
 apply ByteArray.ext
 rw [ByteArray.data_append];simp
theorem yA (a:Bs):(⟨a.toArray⟩:ByteArray)++⟨#[10]⟩=⟨(a++[10]).toArray⟩:=gF a [10]
theorem sL (q r:UInt8) (T:Bs) (a:Nat) (b:a<T.length):([q,r]:Bs).isPrefixOf (T.drop a)=((q==T.getD a 0)&&([r]:Bs).isPrefixOf (T.drop (a+1))):=by
 rw [cF T a b];rfl
theorem GH {T:Bs} {a m:Nat} {out:Bs} (h:T.length≤a):fB (m+1) (T.drop a) out=.error .bad:=by
 rw [vN h];rfl
theorem u7 {T:Bs} {a m:Nat} {out:Bs} (h:oN.isPrefixOf (T.drop a)=true):fB (m+1) (T.drop a) out=.ok (out,T.drop (a+3)):=by
 have b:=lI h (by decide);have e:T.drop (a+3)=(T.drop (a+1)).drop 2:=by rw [List.drop_drop]
 rw [e];rw [cF T a b] at h ⊢;unfold fB;simp only [aV h]
theorem LP (T:Bs) (a:Nat) (e:a<T.length) (f:Bs→Except SV (Bs×Bs)):(match T.drop (a+1) with|[]=>f []|c::r2=>if c=10 then f r2 else f (c::r2))=if ([10]:Bs).isPrefixOf (T.drop (a+1)) then f (T.drop (a+2)) else f (T.drop (a+1)):=by
 by_cases h:a+1<T.length
 ·rw [dO 10 T (a+1) h,cF T (a+1) h];by_cases b:T.getD (a+1) 0=10
  ·show (if T.getD (a+1) 0=10 then _ else _)=_;rw [aV b,aV (by rw [b];rfl)]
  ·show (if T.getD (a+1) 0=10 then _ else _)=_;rw [aN b,aN (by rw [beq_iff_eq];exact fun d=>b d.symm)]
 ·rw [vN (by omega)];rfl
theorem yB {T:Bs} {a m:Nat} {out:Bs} (c:a<T.length) (h:oN.isPrefixOf (T.drop a)=false) (b:T.getD a 0=13):fB (m+1) (T.drop a) out=if ([10]:Bs).isPrefixOf (T.drop (a+1)) then fB m (T.drop (a+2)) (out++[10]) else fB m (T.drop (a+1)) (out++[10]):=by
 rw [←LP T a c (fun r=>fB m r (out++[10]))];rw [cF T a c] at h ⊢;conv=>lhs;unfold fB
 simp only [h,b];rfl
theorem yC {T:Bs} {a m:Nat} {out:Bs} (c:a<T.length) (h:oN.isPrefixOf (T.drop a)=false) (b:¬ T.getD a 0=13):fB (m+1) (T.drop a) out=if (aI (T.drop a)).2=0∨cG (aI (T.drop a)).1=false then .error .bad else fB m (T.drop (a+(aI (T.drop a)).2)) (out++(T.drop a).take (aI (T.drop a)).2):=by
 rw [←List.drop_drop];rw [cF T a c] at h ⊢;conv=>lhs;unfold fB
 simp only [h,b,sS,if_false]
def Dl (x:PX) (c:PC) (w0:World) (k:Nat) (b:Act) (w:World):Prop:=
 ∃ f a o m,b=fr 72 f [(0,jP x),(3,aB o)]∧aY x w { c with at':=a }∧aM (fun k=>k=x.p) w0 w∧k=x.T.length-a∧a≤x.T.length∧o.length≤a∧x.T.length-a<m∧fB (x.T.length+1) (x.T.drop c.at') []=fB m (x.T.drop a) o
theorem JU (x:PX) (hT:x.T.length≤1000000000) (P:Nat) (w:World) (c:PC) (opens:List Bs) (bound:List aP) (out:List cD) (h:dZ x P w c opens bound out) (aC:out.length≤1000000000) (ha:c.at'≤x.T.length) :
  Calls prog 30 #[jP x] w (gG x P out w (nO .text opens bound (fB (x.T.length+1) (x.T.drop c.at') []))):=by
 have ⟨H,U,HA,bC⟩:=kV h hT ha aC;clear h hT ha aC;refine eI 72 func30 [_] fun f=>?_;simp only [aF];refine vg ?_;intro K hK;refine cP [0,3] fun f=>?_;refine wp_loop_ghost_k (Dl x c w) (x.T.length-c.at') ⟨f,c.at',[],x.T.length+1,rfl,H.o.blk,aM.refl _ w,rfl,HA.o,iW _,by omega,rfl⟩ ?_;rintro k _ w2 ⟨f,a,o,m,rfl,hp,hm,hk,b1,b3,b2,b4⟩ J K2 hJ b0;obtain ⟨m',rfl⟩:∃ m',m=m'+1:=⟨m-1,by omega⟩;have ⟨HJ,a0,HP,HM,HK,i⟩:=iH hJ b0 hp hm hk b1;have ⟨W,a5,X⟩:=mJ b3 b2 b4;have a1:¬ 9223372036854775807<o.length+1:=by have:=U.o;omega
 clear hJ b0 hp hm hk b1 b3 b2 b4;cases b:oN.isPrefixOf (x.T.drop a) with
 | true=>
  have B:=Lh (jA x U.o w2 { c with at':=a } HP.o i.o [93,93,62] (by decide) b);have a3:=Lh (oU b i.o);have L:=Lh (X.o.trans (u7 b));clear b;revert K;refine vg ?_;intro K hK K hK K hK K hK;refine B.o.mono ?_;rintro e3 Y ⟨rfl,g,q⟩;have E:=Lh (show aY x Y { c with at':=a+3 } from g);have C:=Lh (HM.o.trans q (fun _ _ h=>h));have bA:=Lh (sK x P w Y c opens bound out H.o bC.o (a+3) a3.o E.o C.o (.text o) rfl (nO .text opens bound (fB (x.T.length+1) (x.T.drop c.at') [])) (by rw [L.o];rfl));clear g q B;(repeat revert K);refine vS ?_;intro K hK K hK;refine bA.o.mono ?_;rintro e6 w6 ⟨rfl,h6⟩;have H6:=Lh h6;clear h6;(repeat revert K);refine vS ?_;refine cO ?_;exact H6.o
 | false=>
  have aA:=Lh b;have B:=Lh (iM x U.o w2 { c with at':=a } HP.o i.o [93,93,62] (by decide) b);clear b;by_cases l:a<x.T.length
  ·revert K;refine vg ?_;intro K hK K hK K hK K hK;refine B.o.mono ?_;rintro e3 Y ⟨rfl,g,q⟩;have E:=Lh g;have C:=Lh (HM.o.trans q (fun _ _ h=>h));have HE:=Lh (oS x Y { c with at':=a } g l);clear g q B;(repeat revert K);refine vS ?_;intro K hK K hK K hK K hK;refine HE.o.mono ?_;rintro e4 w4 ⟨rfl,k4,rfl⟩;have O:=Lh (show aY x (Y.drewN k4) { c with at':=a } from E.o);have N:=Lh (C.o.drewN k4);obtain ⟨w4,a9⟩:=cY (Y.drewN k4);rw [←a9] at O N;go_simp;rw [←a9];clear a9 HE E C;by_cases e:x.T.getD a 0=13
   ·have L:=Lh (X.o.trans (yB l aA.o e));cases G:([10]:Bs).isPrefixOf (x.T.drop (a+1)) with
    | true=>
     have I:([13,10]:Bs).isPrefixOf (x.T.drop a)=true:=by rw [sL 13 10 x.T a l,e,G];rfl
     have B:=Lh (jA x U.o w4 { c with at':=a } O.o i.o [13,10] (by decide) I);have a3:=Lh (oU I i.o);have d:=Lh (L.o.trans (aV G));clear I G e;(repeat revert K);refine vg ?_;intro K hK K hK K hK K hK;refine B.o.mono ?_;rintro e5 w5 ⟨rfl,y,s⟩;have F:=Lh (show aY x w5 { c with at':=a+2 } from y);have D:=Lh (N.o.trans s (fun _ _ h=>h));clear y s B;(repeat revert K);refine vS ?_;intro K hK K hK;refine Kk [0,3] fun f=>?_;rw [yA];exact a0.o _ _ ⟨x.T.length-(a+2),by rw [HK.o];omega,HJ.o _ _ _ ⟨f,a+2,o++[10],m',rfl,F.o,D.o,rfl,by have:=a3.o;simpa using this,by have:=W.o;rw [fY];simp;omega,by have:=a5.o;omega,d.o⟩⟩
    | false=>
     have T:([13,10]:Bs).isPrefixOf (x.T.drop a)=false:=by rw [sL 13 10 x.T a l,e,G];rfl
     have I:([13]:Bs).isPrefixOf (x.T.drop a)=true:=by rw [dO 13 x.T a l,e];rfl
     have M:=Lh (iM x U.o w4 { c with at':=a } O.o i.o [13,10] (by decide) T);have B:=Lh (fun w h=>jA x U.o w { c with at':=a } h i.o [13] (by decide) I);have d:=Lh (L.o.trans (aN (by rw [G];simp)));clear I G e T;(repeat revert K);refine vg ?_;intro K hK K hK K hK K hK;refine M.o.mono ?_;rintro e5 w5 ⟨rfl,y,s⟩;have F:=Lh y;have D:=Lh (N.o.trans s (fun _ _ h=>h));clear y s M;(repeat revert K);refine vS ?_;intro K hK K hK K hK K hK;refine (B.o w5 F.o).mono ?_;rintro e6 w6 ⟨rfl,z,u⟩;have j:=Lh (show aY x w6 { c with at':=a+1 } from z);have A:=Lh (D.o.trans u (fun _ _ h=>h));clear z u B;(repeat revert K);refine vS ?_;intro K hK K hK;refine Kk [0,3] fun f=>?_;rw [yA];exact a0.o _ _ ⟨x.T.length-(a+1),by rw [HK.o];omega,HJ.o _ _ _ ⟨f,a+1,o++[10],m',rfl,j.o,A.o,rfl,l,by have:=W.o;rw [fY];simp;omega,by have:=a5.o;omega,d.o⟩⟩
   ·have T:([13,10]:Bs).isPrefixOf (x.T.drop a)=false:=by rw [sL 13 10 x.T a l,lV.2 (fun h=>e h.symm)];rfl
    have aL:([13]:Bs).isPrefixOf (x.T.drop a)=false:=by rw [dO 13 x.T a l,lV.2 (fun h=>e h.symm)]
    have L:=Lh (X.o.trans (yC l aA.o e));have M:=Lh (iM x U.o w4 { c with at':=a } O.o i.o [13,10] (by decide) T);have Z:=Lh (fun w h=>iM x U.o w { c with at':=a } h i.o [13] (by decide) aL);have a8:x.T.drop a≠[]:=fun hh=>by have:=congrArg List.length hh;simp at this;omega
    have HW:=Lh (mC (x.T.drop a) a8);have HD:=Lh (fun w=>mZ (x.T.drop a) a8 w);clear T aL e a8;(repeat revert K);refine vg ?_;intro K hK K hK K hK K hK;refine M.o.mono ?_;rintro e5 w5 ⟨rfl,y,s⟩;have F:=Lh y;have D:=Lh (N.o.trans s (fun _ _ h=>h));clear y s M;(repeat revert K);refine vS ?_;intro K hK K hK K hK K hK;refine (Z.o w5 F.o).mono ?_;rintro e6 w6 ⟨rfl,z,u⟩;have j:=Lh z;have A:=Lh (D.o.trans u (fun _ _ h=>h));clear z u Z F D O N;go_simp;have hc:=j.o.cell;have hf:=j.o.frozen;have z1:(0:Int)≤(a:Int):=by omega
    have z3:(a:Int)≤(x.T.length:Int):=by omega
    obtain ⟨r,hr⟩:=cY ((aI (x.T.drop a)).1);obtain ⟨n,hn⟩:=cY ((aI (x.T.drop a)).2);rw [←hr] at HD L;rw [←hn] at HD L HW;clear hr hn;(repeat revert K);refine vg ?_;intro K hK K hK;(refine lX [0,0,0,1,0,0,0,1,0,2,0,0,0,0,0] [0,1,2,3,4,5,6,7,8,9,10,11,12,13,14] ?_;refine vP ?_;repeat with_reducible intro nq)
    rw [jG];refine bK rfl rfl (fun nq K hK=>?_);go_simp;refine (HD.o _).mono ?_;rintro e7 w7 ⟨rfl,rfl⟩;go_simp;refine hK.out _ _ ?_;clear hK K;(refine vP ?_;repeat with_reducible intro nq)
    have HF:=Lh (fun (w':World) (V:aY x w' { c with at':=a }) (h2:aM (fun k=>k=x.p) w w') (v:Int)=>iL x w w' { c with at':=a } V h2 v);by_cases hn:n=0
    ·have d:=Lh (L.o.trans (aV (aH hn)));subst hn;(repeat revert K);refine vg ?_;intro K hK K hK K hK K hK;refine (HF.o _ (by exact j.o) (by exact eX A.o rfl rfl rfl rfl) _).mono ?_;rintro e8 w8 ⟨rfl,R,Q⟩;have ⟨a6,a4⟩:=cN R Q;clear R Q;(repeat revert K);refine vS ?_;intro K hK K hK;refine cO ?_;exact gG.err (w1:=w) (k:=.bad) H.o a6.o a4.o (by rw [d.o];rfl)
    have b6:((n:Int)==0)=false:=by rw [lV];omega
    have HN:=Lh hn;have b5:=Lh (fun w=>uZ r w);clear hn;(repeat revert K);refine vg ?_;intro K hK K hK K hK K hK;refine (b5.o _).mono ?_;rintro e8 w8 ⟨rfl,rfl⟩;go_simp;cases a7:cG r with
    | false=>
     have d:=Lh (L.o.trans (aV (aW a7)));(repeat revert K);refine vg ?_;intro K hK K hK K hK K hK;refine (HF.o _ (by exact j.o) (by exact eX A.o rfl rfl rfl rfl) _).mono ?_;rintro e8 w8 ⟨rfl,R,Q⟩;have ⟨a6,a4⟩:=cN R Q;clear R Q;(repeat revert K);refine vS ?_;intro K hK K hK;refine cO ?_;exact gG.err (w1:=w) (k:=.bad) H.o a6.o a4.o (by rw [d.o];rfl)
    | true=>
     have d:=Lh (L.o.trans (aN (fun hh=>hh.elim HN.o (fun h=>Bool.noConfusion (a7.symm.trans h)))));have wn:IntKind.i64.wrap ((a:Int)+(n:Int))=(a:Int)+(n:Int):=by rw [IntKind.wrap_i64];have V:=HW.o;have h2:=U.o;rw [eY] at V;omega
     have z4:(a:Int)≤(a:Int)+(n:Int):=by omega
     have z5:(a:Int)+(n:Int)≤(x.T.length:Int):=by have V:=HW.o;rw [eY] at V;omega
     have z6:(0:Int)≤(a:Int)+(n:Int):=by omega
     have zn:((a:Int)+(n:Int)).toNat=a+n:=by omega
     clear a7;(repeat revert K);refine vg ?_;intro K hK K hK;(refine lX [0,0,0,0,1,0,0,0,1,0,0,0,1,0,0,0,0,0] [0,1,2,3,4,5,6,7,8,9,10,11,12,13,14,15,16,17] ?_;refine vP ?_;repeat with_reducible intro nq)
     rw [lD,Nat.add_sub_cancel_left];obtain ⟨t,ht⟩:=cY ((x.T.drop a).take n);have bL:=Lh (show t.length=n by rw [ht,qQ];have V:=HW.o;omega);rw [←ht] at d ⊢;have a2:¬ 9223372036854775807<o.length+t.length:=by have V:=HW.o;have h2:=U.o;have h3:=W.o;have h4:=bL.o;rw [eY] at V;omega
     clear ht zn;(refine vP ?_;repeat with_reducible intro nq)
     rw [gF];(repeat revert K);refine vg ?_;intro K hK;refine Kk [0,3] fun f=>?_;refine a0.o _ _ ⟨x.T.length-(a+n),by rw [HK.o];have:=HN.o;omega,HJ.o _ _ _ ⟨f,a+n,o++t,m',rfl,?_,aM.setCell (S:=fun k=>k=x.p) (A.o.drewN _) (p:=⟨x.p,1,none⟩) (aH rfl) _,rfl,by have V:=HW.o;rw [eY] at V;omega,by have:=W.o;have:=bL.o;rw [fY];omega,by have:=a5.o;have:=HN.o;omega,d.o⟩⟩;exact aJ.set (w:=w6.drewN _) (cs:=gA x { c with at':=a }) j.o 1 _
  ·have L:=Lh (X.o.trans (GH (m:=m') (out:=o) (by omega)));revert K;refine vg ?_;intro K hK K hK K hK K hK;refine B.o.mono ?_;rintro e3 Y ⟨rfl,g,q⟩;have E:=Lh g;have C:=Lh (HM.o.trans q (fun _ _ h=>h));have HE:=Lh (oR x Y { c with at':=a } g (by simp;omega));clear g q B;(repeat revert K);refine vS ?_;intro K hK K hK K hK K hK;refine HE.o.mono ?_;rintro e4 w4 ⟨rfl,k4,rfl⟩;have HF:=Lh (lZ x (Y.drewN k4) { c with at':=a } E.o 1);(repeat revert K);refine vS ?_;intro K hK K hK K hK K hK;refine HF.o.mono ?_;rintro e6 w6 ⟨rfl,z,u⟩;have ⟨j,A⟩:=cN z u;clear z u;(repeat revert K);refine vS ?_;intro K hK K hK;refine cO ?_;exact gG.err (w1:=w) (k:=.bad) H.o j.o ((C.o.drewN _).trans A.o (fun _ _ h=>h)) (by rw [L.o];rfl)
theorem SE {b k:UInt8} (h:b≠k):((b.toNat:Int) != (k.toNat:Int))=true:=by
 rw [bne,oG h];rfl
theorem JV (w:World):Calls prog 59 #[.int .i64 (-1)] w fun e w'=>e=.returned (.bool false)∧w'=w:=by
 refine eI 37 func59 [_] fun f=>?_;simp only [aF];refine vg ?_;refine cO ?_;exact ⟨rfl,rfl⟩
theorem N4 (n:Int) (h:-1≤n) (w:World):Calls prog 59 #[.int .i64 n] w fun e w'=>e=.returned (.bool (jQ n))∧w'=w:=by
 by_cases a:0≤n
 ·obtain ⟨m,rfl⟩:∃ m:Nat,n=m:=⟨n.toNat,by omega⟩;refine (uZ m w).mono ?_;rintro e w' ⟨rfl,rfl⟩;exact ⟨by unfold jQ;simp,rfl⟩
 ·have:n=-1:=by omega
  subst this;refine (JV w).mono ?_;rintro e w' ⟨rfl,rfl⟩;exact ⟨rfl,rfl⟩
def qM (x:PX) (a:Nat) (ents:aP) (w:World):Prop:=
 ents.length≤2147483647∧((ents=[]∧x.ents=.slice none 0 0)∨∃ b o C,x.ents=.slice (some ⟨b,o,none⟩) ents.length C∧b<a∧b<w.heap.size∧∀ j u,(cW ents)[j]?=some u→w.cell? ⟨b,o+j,none⟩=some u)
theorem qM.below {x:PX} {a:Nat} {ents:aP} {w w':World} (h:qM x a ents w) (f:Below a w w'):qM x a ents w':=by
 obtain ⟨d,c|⟨b,o,C,c,e,g,i⟩⟩:=h
 ·exact ⟨d,aH c⟩
 ·exact ⟨d,aW ⟨b,o,C,c,e,oX g f.size,fun j u k=>(f.cell (p:=⟨b,o+j,none⟩) e).trans (i j u k)⟩⟩
theorem SF:(prog.info? 177).map (fun i=>(i.zero,i.size,i.bytes))=some (some (.agg #[.string ⟨#[]⟩,.string ⟨#[]⟩]),2,32):=by kernel_rfl
theorem xM (a b:aP):cW (a++b)=cW a++cW b:=by simp [cW]
theorem GI (a:aP):(cW a).length=a.length*2:=by
 induction a with
 | nil=>rfl
 | cons p l ih=>rw [cW,List.flatMap_cons,fY];rw [cW] at ih;rw [ih];simp;omega
theorem rU:∀ (l:aP) (i:Nat) (p:Bs×Bs),l[i]?=some p→(cW l)[i*2]?=some (aB p.1)∧(cW l)[i*2+1]?=some (aB p.2)
 | [],i,p,h=>by simp at h
 | q::l,0,p,h=>by
  simp at h;subst h;exact ⟨rfl,rfl⟩
 | q::l,i+1,p,h=>by
  have:=rU l i p (by simpa using h);have e:cW (q::l)=[aB q.1,aB q.2]++cW l:=rfl;rw [e];constructor
  ·rw [EG (by simp;omega)];simpa [Nat.add_mul] using this.1
  ·rw [EG (by simp;omega)];have a:(i+1)*2+1-[aB q.1,aB q.2].length=i*2+1:=by simp;omega
   rw [a];exact this.2
theorem WH (x:PX) (d:Nat) (ents:aP) (W:World) (r:qM x d ents W) (g:Nat) (c:aJ W g (cW o5).toArray 177) :
  ∃ v' e,(Builtin.append_ #[47,47] 47 #[.slice (some ⟨g,0,none⟩) 5 5,x.ents]).run prog W=.ok v' e∧e.ownsRow 0 177 2 v' (o5++ents).length (cW (o5++ents))∧aM (fun k=>k=g) W e:=by
 obtain ⟨i,l,A,n,q⟩:=info_parts SF;have a:W.ownsRow 0 177 2 (.slice (some ⟨g,0,none⟩) 5 5) 5 (cW o5):=⟨rfl,aW ⟨g,5,(cW o5).toArray,rfl,iW _,c,dD _,by decide,rfl,rfl⟩⟩;obtain ⟨m,h|⟨b,o,C,h,_,_,s⟩⟩:=r
 ·obtain ⟨rfl,h⟩:=h;rw [h];refine ⟨_,_,run_append_owned_none W 0 _ _ _ i 2 underlying47 l _ 5 (cW o5) a,?_,aM.refl _ _⟩;rw [List.append_nil];exact a
 ·rw [h]
  obtain ⟨v',e,z,y,c,_,_⟩:=run_append_own_at (P:=prog) W 0 47 47 177 i _ 2 32 underlying47 l A n q rfl (by omega) _ 5 (cW o5) a ⟨b,o,none⟩ ents.length C (cW ents) (GI ents)
   (fun j u v=>by rw [show ((⟨b,o,none⟩:Addr).add j)=⟨b,o+j,none⟩ by cases j<;>simp [Addr.add]];exact s j u v)
   (fun u f=>by
    obtain ⟨p,_,f⟩:=List.mem_flatMap.1 f;simp only [mH,xZ,or_false] at f;rcases f with rfl|rfl<;>rfl) (by unfold maxLen;omega) (by omega) (iW _)
  refine ⟨v',e,z,?_,⟨c.os,c.tape,c.output,c.size,fun k w m=>c.block k w (fun t=>m (by simpa [Value.ownBlock] using t))⟩⟩;rw [xM,fY];exact y
theorem ZY {T:Bs} {a:Nat} (b:a<T.length) (h:T.getD a 0=59):iV 59 (T.drop a)=some []:=by
 rw [cF T a b];unfold iV;rw [aV h]
theorem WI {T:Bs} {a:Nat} (b:a<T.length) (h:¬ T.getD a 0=59):iV 59 (T.drop a)=(iV 59 (T.drop (a+1))).map (T.getD a 0::·):=by
 rw [cF T a b];conv=>lhs;unfold iV
 rw [aN h]
theorem ZZ {T:Bs} {a:Nat} (b:T.length≤a):iV 59 (T.drop a)=none:=by rw [vN b];rfl
def tR (T:Bs) (i a:Nat):Prop:=iV 59 (T.drop i)=(iV 59 (T.drop a)).map ((T.drop i).take (a-i)++·)
theorem tR.start (T:Bs) (i:Nat):tR T i i:=by
 unfold tR;cases iV 59 (T.drop i)<;>simp
theorem tR.next {T:Bs} {i a:Nat} (h:tR T i a) (b:i≤a) (c:a<T.length) (d:¬ T.getD a 0=59):tR T i (a+1):=by
 unfold tR at h ⊢;rw [h,WI c d,wD T i a b c];cases iV 59 (T.drop (a+1))<;>simp
theorem tR.hit {T:Bs} {i a:Nat} (h:tR T i a) (b:a<T.length) (c:T.getD a 0=59):iV 59 (T.drop i)=some ((T.drop i).take (a-i)):=by
 unfold tR at h;rw [h,ZY b c];simp
theorem tR.none {T:Bs} {i a:Nat} (h:tR T i a) (b:T.length≤a):iV 59 (T.drop i)=none:=by
 unfold tR at h;rw [h,ZZ b];rfl
def Dm (x:PX) (c:PC) (w0:World) (k:Nat) (b:Act) (w:World):Prop:=
 ∃ f a,b=fr 118 f [(0,jP x),(4,.int .i64 (a:Nat))]∧w0=w∧k=x.T.length-a∧a≤x.T.length∧c.at'≤a∧tR x.T c.at' a
theorem AN {l:aP} {k:Bs} {i:Nat} {p:Bs×Bs} (h:l[i]?=some p):eS (l.drop i) k=if p.1=k then some p.2 else eS (l.drop (i+1)) k:=by
 obtain ⟨b,rfl⟩:=A1.1 h;rw [EF b];unfold eS;by_cases a:l[i].1=k
 ·rw [aV a,List.find?_cons_of_pos (by simpa using a)];rfl
 ·rw [aN a,List.find?_cons_of_neg (by simpa using a)]
def Dn (l:aP) (nm:Bs) (b:Value) (v:Value) (w0:World) (k:Nat) (a:Act) (w:World):Prop:=
 ∃ f i,a=fr 118 f [(0,b),(5,aB nm),(103,v),(104,.int .i64 (l.length:Nat)),(105,.int .i64 (i:Nat))]∧Below w0.heap.size w0 w∧k=l.length-i∧i≤l.length∧eS l nm=eS (l.drop i) nm
theorem Z0 (x:PX) (hT:x.T.length≤1000000000) (E:Nat) (b2:E≤x.p) (ents:aP) (w:World) (c:PC) (h:aY x w c) (ha:c.at'≤x.T.length) (hE:qM x E ents w) :
  Calls prog 87 #[jP x] w (fK x w c (fun s=>.returned (.tuple #[aB s,.bool true])) (.returned (.tuple #[aB [],.bool false])) (jZ ents (x.T.drop c.at'))):=by
 have hc:=h.cell;have hf:=h.frozen;have ⟨H,HT,HA,HE⟩:=kV h hT ha hE;clear h hT ha hE;refine eI 118 func87 [_] fun f=>?_;simp only [aF];refine vg ?_;intro K hK;refine cP [0,4] fun f=>?_;refine wp_loop_ghost_k (Dm x c w) (x.T.length-c.at') ⟨f,c.at',rfl,rfl,rfl,HA.o,dD _,tR.start _ _⟩ ?_;rintro k _ _ ⟨f,a,rfl,rfl,hk,d3,d0,d4⟩ J K2 hJ Q;have ⟨HJ,X,HK,cT,N,bL⟩:=iH hJ Q hk d3 d0 d4;clear hJ Q hk d3 d0 d4;have w1:IntKind.i64.wrap ((a:Int)+1)=((a+1:Nat):Int):=by rw [IntKind.wrap_i64];have:=HT.o;have:=cT.o;omega
 by_cases U:a<x.T.length
 rotate_left
 ·have e9:a=x.T.length:=by have:=cT.o;omega
  subst e9;have t1:¬ ((x.T.length:Int)<(x.T.length:Int)):=by omega
  have A:=Lh (show jZ ents (x.T.drop c.at')=.error .bad by unfold jZ;rw [bL.o.none (dD _)]);have HF:=Lh (lZ x w c H.o 1);revert K;refine vg ?_;intro K hK K hK K hK;refine HF.o.mono ?_;rintro e3 w3 ⟨rfl,e,d⟩;have ⟨o,j⟩:=cN e d;clear e d;(repeat revert K);refine vS ?_;intro K hK;refine kN ?_;exact fK.bad A.o o.o j.o
 have t0:(0:Int)≤(a:Int):=by omega
 have t1:(a:Int)<(x.T.length:Int):=by omega
 obtain ⟨b,hb⟩:=cY (x.T.getD a 0);have ix:∀ h,(⟨x.T.toArray⟩:ByteArray)[a]'h=b:=by rw [hb];exact jE x.T a U
 by_cases L:b=59
 rotate_left
 ·have he:((b.toNat:Int) != 59)=true:=SE L;have B:=Lh (bL.o.next N.o U (by rw [←hb];exact L));clear hb L;revert K;refine vg ?_;intro K hK;refine Kk [0,4] fun f=>?_;exact X.o _ _ ⟨x.T.length-(a+1),by rw [HK.o];omega,HJ.o _ _ _ ⟨f,a+1,rfl,rfl,rfl,U,by have:=N.o;omega,B.o⟩⟩
 have B:=Lh (bL.o.hit U (by rw [←hb];exact L));have he:((b.toNat:Int) != 59)=false:=by rw [L];rfl
 have f2:((a:Int)==(x.T.length:Int))=false:=by rw [lV];omega
 have z1:(0:Int)≤(c.at':Int):=by omega
 have z2:(c.at':Int)≤(a:Int):=by have:=N.o;omega
 have z3:(a:Int)≤(x.T.length:Int):=by omega
 clear hb L X HJ;revert K;refine vg ?_;intro K hK;(refine lX [0,0,0,1,0,0,0,1,0,0,0] [0,1,2,3,4,5,6,7,8,9,10] ?_;refine vP ?_;repeat with_reducible intro nq)
 rw [lD];obtain ⟨nm,q⟩:=cY ((x.T.drop c.at').take (a-c.at'));have a9:=Lh (show nm.length=a-c.at' by rw [q,qQ,eY];omega);have O:=Lh (show nm.length≤1000000000 by rw [a9.o];have:=HT.o;omega);rw [←q] at B ⊢;clear q ix he f2 hc hf;have hc:=(show aY x (w.drewN nq) c from H.o).cell;have hf:=(show aY x (w.drewN nq) c from H.o).frozen;revert K;refine vT 8 ?_;obtain ⟨w5,aA⟩:=cY ((w.drewN nq).setCell ⟨x.p,1,none⟩ (.int .i64 ((a:Int)+1)));have u:=Lh (show aY x w5 { c with at':=a+1 } by rw [aA];exact aJ.set (w:=w.drewN nq) (cs:=gA x c) H.o 1 _);have z:=Lh (show aM (fun k=>k=x.p) w w5 by rw [aA];exact aM.setCell (S:=fun k=>k=x.p) ((aM.refl _ w).drewN _) (p:=⟨x.p,1,none⟩) (aH rfl) _);rw [←aA];clear aA hc hf;have bC:=Lh (show (x.T.drop c.at').drop (nm.length+1)=x.T.drop (a+1) by rw [List.drop_drop,a9.o];congr 1;have:=N.o;omega);have b4:=Lh (show a+1≤x.T.length from U);have b5:=Lh (show c.at'≤a+1 by have:=N.o;omega);have I:=Lh (fun (w':World) (h1:aY x w' { c with at':=a+1 }) (h2:aM (fun k=>k=x.p) w w') (v:Int)=>iL x w w' { c with at':=a+1 } h1 h2 v);have a8:=Lh (fun w=>qH nm O.o w);cases nm with
 | nil=>
  have A:=Lh (show jZ ents (x.T.drop c.at')=.error .bad by unfold jZ;rw [B.o]);refine vg ?_;intro K hK K hK K hK;refine (a8.o _).mono ?_;rintro e6 W ⟨rfl,rfl⟩;rw [show bJ []=1 from rfl];(repeat revert K);refine vS ?_;intro K hK K hK K hK;refine (I.o _ (by exact u.o) (by exact eX z.o rfl rfl rfl rfl) _).mono ?_;rintro e3 w3 ⟨rfl,e,d⟩;have ⟨o,j⟩:=cN e d;clear e d;(repeat revert K);refine vS ?_;intro K hK;refine kN ?_;exact fK.bad A.o o.o j.o
 | cons c0 t=>
  have c3:=Lh (show t.length≤1000000000 by have:=O.o;simp at this;omega);obtain ⟨nm,q⟩:∃ nm:Bs,nm=c0::t:=⟨_,rfl⟩;have g0:∀ h,(⟨nm.toArray⟩:ByteArray)[0]'h=c0:=by rw [q];exact fun h=>rfl
  have f9:nm.isEmpty=false:=by rw [q];rfl
  have g2:(1:Int)≤(nm.length:Int):=by rw [q];simp;omega
  have g1:(0:Int)<(nm.length:Int):=by omega
  have g4:0<nm.length:=by omega
  have e0:=Lh q;have dI:nm.drop 1=t:=by rw [q];rfl
  have b6:=Lh dI;clear dI;by_cases P:c0=35
  ·have A := Lh (show jZ ents (x.T.drop c.at') = match iP t with
     | none=>.error .bad
     | some n=>if jQ n then .ok (gQ n.toNat,x.T.drop (a+1)) else .error .opn by
    have h9:=bC.o;rw [gN] at h9;unfold jZ;rw [B.o];simp only [aV P,h9];rfl)
   have c4:=Lh (fun w=>R8 t c3.o w);rw [←q];clear q;subst P;refine vg ?_;intro K hK K hK K hK;rw [jG,b6.o];refine (c4.o _).mono ?_;rintro e6 W ⟨Z,k6,rfl⟩;cases hn:iP t with
   | none=>
    rw [hn] at Z A;have V:e6=.returned (.tuple #[.int .i64 0,.bool false]):=Z;subst V;(repeat revert K);refine vS ?_;intro K hK K hK K hK K hK;refine (I.o _ (by exact u.o) (by exact eX z.o rfl rfl rfl rfl) _).mono ?_;rintro e3 w3 ⟨rfl,e,d⟩;have ⟨o,j⟩:=cN e d;clear e d;(repeat revert K);refine vS ?_;intro K hK K hK;refine kN ?_;exact fK.bad A.o o.o j.o
   | some n=>
    rw [hn] at Z A;obtain ⟨V,f1,gB⟩:e6=.returned (.tuple #[.int .i64 n,.bool true])∧-1≤n∧n≤1114111:=Z;subst V;have b9:=Lh (fun w=>N4 n f1 w);(repeat revert K);refine vS ?_;intro K hK K hK K hK K hK;refine (b9.o _).mono ?_;rintro e7 w7 ⟨rfl,rfl⟩;go_simp;cases C:jQ n with
    | false=>
     have r:=Lh (show jZ ents (x.T.drop c.at')=.error .opn by rw [A.o];simp only [C];rfl);(repeat revert K);refine vg ?_;intro K hK K hK K hK K hK;refine (I.o _ (by exact u.o) (by exact eX z.o rfl rfl rfl rfl) _).mono ?_;rintro e3 w3 ⟨rfl,e,d⟩;have ⟨o,j⟩:=cN e d;clear e d;(repeat revert K);refine vS ?_;intro K hK K hK;refine kN ?_;exact fK.bad r.o o.o j.o
    | true=>
     have r:=Lh (show jZ ents (x.T.drop c.at')=.ok (gQ n.toNat,x.T.drop (a+1)) by rw [A.o];simp only [C];rfl);obtain ⟨m,rfl⟩:∃ m:Nat,n=m:=⟨n.toNat,by unfold jQ at C;rw [G9,KF] at C;omega⟩;have b7:=Lh (fun w=>R9 m (by unfold jQ at C;rw [G9] at C;exact C.2) w);(repeat revert K);refine vg ?_;intro K hK K hK K hK;refine (b7.o _).mono ?_;rintro e8 w8 ⟨rfl,y⟩;have a7:=Lh y;clear y;(repeat revert K);refine vS ?_;intro K hK;refine kN ?_;exact fK.okk r.o b4.o b5.o (aJ.mod (S:=fun _=>False) (w:=w5.drewN _) u.o a7.o id) ((show aM (fun k=>k=x.p) w (w5.drewN _) from eX z.o rfl rfl rfl rfl).trans a7.o (fun _ _ h=>h.elim))
  ·have f4:((c0.toNat:Int)==35)=false:=oG P
   have A:=Lh (show jZ ents (x.T.drop c.at')=if bJ (c0::t)=2 then .error .opn else if bJ (c0::t)=1 then .error .bad
     else match eS (o5++ents) (c0::t) with
      | some s=>.ok (s,x.T.drop (a+1))
      | none=>.error .bad by
    have h9:=bC.o;rw [gN] at h9;unfold jZ;rw [B.o];simp only [aN P,h9];rfl)
   rw [←q] at A a8 ⊢;clear q P c3 bC a9 O B e0 b6;refine vg ?_;intro K hK K hK K hK;refine (a8.o _).mono ?_;rintro e6 W ⟨rfl,rfl⟩;go_simp;by_cases T:bJ nm=2
   ·have r:=Lh (A.o.trans (aV T));rw [T];(repeat revert K);refine vg ?_;intro K hK K hK K hK;refine (I.o _ (by exact u.o) (by exact eX z.o rfl rfl rfl rfl) _).mono ?_;rintro e3 w3 ⟨rfl,e,d⟩;have ⟨o,j⟩:=cN e d;clear e d;(repeat revert K);refine vS ?_;intro K hK;refine kN ?_;exact fK.bad r.o o.o j.o
   by_cases Y:bJ nm=1
   ·have r:=Lh ((A.o.trans (aN T)).trans (aV Y));rw [Y];(repeat revert K);refine vg ?_;intro K hK K hK K hK;refine (I.o _ (by exact u.o) (by exact eX z.o rfl rfl rfl rfl) _).mono ?_;rintro e3 w3 ⟨rfl,e,d⟩;have ⟨o,j⟩:=cN e d;clear e d;(repeat revert K);refine vS ?_;intro K hK;refine kN ?_;exact fK.bad r.o o.o j.o
   have e2:((bJ nm:Int)==2)=false:=by rw [lV];omega
   have e1:((bJ nm:Int)==1)=false:=by rw [lV];omega
   have r:=Lh ((A.o.trans (aN T)).trans (aN Y));clear Y T A;have b1:=aJ.alloc (w:=W) (b:=x.p) u.o (.cells #[.string ⟨#[108,116]⟩,.string ⟨#[60]⟩,.string ⟨#[103,116]⟩,.string ⟨#[62]⟩,.string ⟨#[97,109,112]⟩,.string ⟨#[38]⟩,.string ⟨#[97,112,111,115]⟩,.string ⟨#[39]⟩,.string ⟨#[113,117,111,116]⟩,.string ⟨#[34]⟩] 177);have hc:=b1.cell;have hf:=b1.frozen;have dT:aJ (W.alloc (.cells #[.string ⟨#[108,116]⟩,.string ⟨#[60]⟩,.string ⟨#[103,116]⟩,.string ⟨#[62]⟩,.string ⟨#[97,109,112]⟩,.string ⟨#[38]⟩,.string ⟨#[97,112,111,115]⟩,.string ⟨#[39]⟩,.string ⟨#[113,117,111,116]⟩,.string ⟨#[34]⟩] 177)) W.heap.size (cW o5).toArray 177:=aJ.new W _ _;have c7:Below E w W:=aM.below (Below.refl _ w) (fX b2 (Nat.le_of_lt (aJ.lt H.o))) z.o (fun i hi=>by rw [hi];exact b2);have c5:=HE.o.below (c7.trans ((Below.refl _ W).alloc (fX b2 (Nat.le_of_lt (aJ.lt u.o))) (.cells #[.string ⟨#[108,116]⟩,.string ⟨#[60]⟩,.string ⟨#[103,116]⟩,.string ⟨#[62]⟩,.string ⟨#[97,109,112]⟩,.string ⟨#[38]⟩,.string ⟨#[97,112,111,115]⟩,.string ⟨#[39]⟩,.string ⟨#[113,117,111,116]⟩,.string ⟨#[34]⟩] 177)));obtain ⟨v',w8,a4,F,y⟩:=WH x E ents (W.alloc (.cells #[.string ⟨#[108,116]⟩,.string ⟨#[60]⟩,.string ⟨#[103,116]⟩,.string ⟨#[62]⟩,.string ⟨#[97,109,112]⟩,.string ⟨#[38]⟩,.string ⟨#[97,112,111,115]⟩,.string ⟨#[39]⟩,.string ⟨#[113,117,111,116]⟩,.string ⟨#[34]⟩] 177)) c5 W.heap.size dT;have a1:aM (fun _=>False) W w8:=⟨y.os,y.tape,y.output,by have:=y.size;simp at this;omega,fun k hk _=>(y.block k (by simp;omega) (by omega)).trans (oM _ _ _ hk)⟩;obtain ⟨l,hl⟩:=cY (o5++ents);have d7:=Lh (show l.length≤3000000000 by rw [hl,fY];have:=HE.o.1;have:o5.length=5:=rfl;omega);have d6:=Lh (show 0<l.length by rw [hl,fY];have:o5.length=5:=rfl;omega);rw [←hl] at F r;obtain ⟨g,e5,rfl,_,d1,_,_,R⟩:=eW F d6.o;have ⟨M,b8,D,f3,a7⟩:=o4 R d1 a1 F y;clear b1 dT F y a1 hl R d1 c7 c5;(repeat revert K);refine vB ?_;intro K hK K hK;refine eV rfl (.tmp 98) (.tmp 102) _ _ rfl _ _ _ (by rw [cC (by decide)];(try simp only [aK,aQ,aS,aX,Nat.reduceEqDiff,↓reduceIte]);(try rfl)) (by rw [cC (by decide)];(try simp only [aK,aQ,aS,aX,Nat.reduceEqDiff,↓reduceIte]);(try rfl)) a4 ?_;clear a4;rw [fR (by decide)];(repeat revert K);refine vg ?_;intro K hK;refine cP [0,5,103,104,105] fun f=>?_;refine wp_loop_ghost_k (Dn l nm (jP x) (.slice (some ⟨g,0,none⟩) l.length e5) w8) l.length ⟨f,0,rfl,Below.refl _ w8,rfl,iW _,by simp⟩ ?_;rintro k9 _ w9 ⟨f,i,rfl,c6,d2,f7,aL⟩ J K2 hJ Q;have ⟨HJ,X,G,d5,c1⟩:=o4 hJ Q c6 d2 aL;clear hJ Q c6 d2 aL hc hf;by_cases a0:i<l.length
   ·have t0:(0:Int)≤(i:Int):=by omega
    have t1:(i:Int)<(l.length:Int):=by omega
    have wi:IntKind.i64.wrap ((i:Int)+1)=((i+1:Nat):Int):=by rw [IntKind.wrap_i64];have h2:=d7.o;omega
    obtain ⟨p,hp⟩:∃ p,l[i]?=some p:=⟨l[i],by simp [a0]⟩;obtain ⟨q1,q2⟩:=rU l i p hp;have c8:w9.cell? ⟨g,i*2,none⟩=some (aB p.1):=(G.o.cell (p:=⟨g,i*2,none⟩) b8.o).trans (M.o _ _ q1);have c9:w9.cell? ⟨g,i*2+1,none⟩=some (aB p.2):=(G.o.cell (p:=⟨g,i*2+1,none⟩) b8.o).trans (M.o _ _ q2);have c2:=Lh (c1.o.trans (AN hp));obtain ⟨wa,aC⟩:=cY (w9.alloc (.cells #[aB p.1,aB p.2] 177));have b0:aJ wa w9.heap.size #[aB p.1,aB p.2] 177:=by rw [aC];exact aJ.new w9 _ _
    have a5:=Lh (show Below w8.heap.size w8 wa by rw [aC];exact G.o.alloc G.o.size _);have f5:=b0.cell;have f6:=b0.frozen;clear q1 q2 hp b0;revert K;refine vT 23 ?_;intro K hK K hK;rw [←aC];clear aC c8 c9;cases b3:(p.1==nm) with
    | true=>
     have a6:=Lh (show eS l nm=some p.2 by rw [c2.o,aV (beq_iff_eq.1 b3)]);have bA:=Lh (show jZ ents (x.T.drop c.at')=.ok (p.2,x.T.drop (a+1)) by rw [r.o,a6.o]);(repeat revert K);refine vg ?_;intro K hK K hK;refine kN ?_;exact fK.okk bA.o b4.o b5.o ((aJ.mod (S:=fun _=>False) u.o D.o id).mod (aG a5.o (fun _=>False)) id) ((z.o.trans D.o (fun _ _ h=>h.elim)).trans (aG a5.o (fun _=>False)) (fun _ _ h=>h.elim))
    | false=>
     have d8:=Lh (show eS l nm=eS (l.drop (i+1)) nm by rw [c2.o,aN (fun h=>by rw [beq_iff_eq.2 h] at b3;cases b3)]);(repeat revert K);refine vg ?_;intro K hK;refine Kk [0,5,103,104,105] fun f=>?_;exact X.o _ _ ⟨l.length-(i+1),by rw [d5.o];omega,HJ.o _ _ _ ⟨f,i+1,rfl,a5.o,rfl,a0,d8.o⟩⟩
   ·have f0:i=l.length:=by omega
    subst f0;have t1:¬ ((l.length:Int)<(l.length:Int)):=by omega
    have a6:=Lh (show eS l nm=none by rw [c1.o,List.drop_length];rfl);have bA:=Lh (show jZ ents (x.T.drop c.at')=.error .bad by rw [r.o,a6.o]);have a2:=(z.o.trans D.o (fun _ _ h=>h.elim)).trans (aG G.o (fun _=>False)) (fun _ _ h=>h.elim);have a3:=(aJ.mod (S:=fun _=>False) u.o D.o id).mod (aG G.o (fun _=>False)) id;have ⟨d9,e4⟩:=cN a2 a3;clear a2 a3;revert K;refine vg ?_;intro K hK K hK;refine (I.o _ (by exact e4.o) (by exact d9.o) _).mono ?_;rintro e3 w3 ⟨rfl,e,d⟩;have ⟨o,j⟩:=cN e d;clear e d;(repeat revert K);refine vS ?_;refine kN ?_;exact fK.bad bA.o o.o j.o
end Go.Proofs.YthapcchcahnfaaaGreatDoor
