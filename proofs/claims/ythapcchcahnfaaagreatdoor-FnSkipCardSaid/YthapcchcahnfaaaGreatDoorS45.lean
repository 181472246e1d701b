/- Part of the proof that laws.FnSkip returns true for every argument. No conditions. -/
import Derived.Test.YthapcchcahnfaaaGreatDoorS35
import Derived.Test.YthapcchcahnfaaaGreatDoorS19
import Derived.Test.YthapcchcahnfaaaGreatDoorS36
set_option linter.all false
set_option maxHeartbeats 8000000
set_option maxRecDepth 100000
namespace Go.Proofs.YthapcchcahnfaaaGreatDoor
open Go Go.RowKit Go.Proofs.Tryz
noncomputable def U2 (n:Nat):Code:=((Tryz.f60.body).bind (Code.regionAt n)).getD .skip
theorem dK.push {x:PX} {d:Nat} {w r:World} {c:PC} {opens:List Bs} {bound:List aM} {out:List bS} (h:dK x d w c opens bound out) (o:Bs) (l:aM) {v:Option Addr} {z y:Nat} {j m:Value}
  (M:w.ownsRow d 177 2 (.slice v z y) l.length (cJ l)) (N:l.length≤1000000000) (u:∀ k,(Value.slice v z y).ownBlock=some k→¬ fS x c k)
  (V:∃ B,r.ownsRow d 9 1 j (opens.length+1) (B++[aB o])∧cH (fun b Z=>Z=[aB b]) opens.reverse B) (W:∃ C,r.ownsRow d 47 1 m (bound.length+1) (C++[.slice v z y])∧cH (EC w d (fun k=>¬ fS x c k)) bound.reverse C)
  (Q:aJ (fun k=>c.op.ownBlock=some k∨c.bd.ownBlock=some k) w r) (D:∀ k,j.ownBlock=some k→c.op.ownBlock=some k∨w.heap.size≤k) (F:∀ k,m.ownBlock=some k→c.bd.ownBlock=some k∨w.heap.size≤k) (E:∀ k,j.ownBlock=some k→m.ownBlock≠some k) :
  dK x d ((r.setCell ⟨x.p,6,none⟩ j).setCell ⟨x.p,7,none⟩ m) { c with op:=j,bd:=m } (o::opens) (l::bound) out:=by
 obtain ⟨P,R,O⟩:=h.out;obtain ⟨B,G,H⟩:=V;obtain ⟨C,I,J⟩:=W;have Y:=aL.lt h.blk;have t:=fun k f=>(aS R (g:=k) f).1;have T:j.ownBlock≠some x.p:=fun a=>by
  rcases D _ a with e|e
  ·exact h.s1.2.1 e
  ·omega
 have U:m.ownBlock≠some x.p:=fun a=>by
  rcases F _ a with e|e
  ·exact h.s1.2.2 e
  ·omega
 have q:aJ (fun k=>k=x.p∨c.op.ownBlock=some k∨c.bd.ownBlock=some k) w ((r.setCell ⟨x.p,6,none⟩ j).setCell ⟨x.p,7,none⟩ m):=
  aJ.setCell (S:=fun k=>k=x.p∨c.op.ownBlock=some k∨c.bd.ownBlock=some k) (aJ.setCell (S:=fun k=>k=x.p∨c.op.ownBlock=some k∨c.bd.ownBlock=some k) (Q.mono (fun _ _ h=>aU h)) (p:=⟨x.p,6,none⟩) (aG (aG rfl)) j) (p:=⟨x.p,7,none⟩) (aG (aG rfl)) m
 have s:aJ (fun k=>k=x.p) r ((r.setCell ⟨x.p,6,none⟩ j).setCell ⟨x.p,7,none⟩ m):=
  aJ.setCell (S:=fun k=>k=x.p) (aJ.setCell (S:=fun k=>k=x.p) (aJ.refl _ r) (p:=⟨x.p,6,none⟩) (aG rfl) j) (p:=⟨x.p,7,none⟩) (aG rfl) m
 have A:∀ k,¬ fS x c k→k<w.heap.size→¬ (k=x.p∨c.op.ownBlock=some k∨c.bd.ownBlock=some k)∧¬ fS x { c with op:=j,bd:=m } k:=fun k f X=>by
  refine ⟨fun a=>f (a.elim aG (fun h=>aU (aU h))),fun i=>?_⟩;rcases i with i|i|i|i
  ·exact f (aG i)
  ·exact f (aU (aG i))
  ·rcases D k i with e|e
   ·exact f (aU (aU (aG e)))
   ·omega
  ·rcases F k i with e|e
   ·exact f (aU (aU (aU e)))
   ·omega
 refine ⟨?_,h.pb,⟨P,?_,O.mono (fun _ _ i=>i.mod q A)⟩,⟨B++[aB o],?_,?_⟩,⟨C++[.slice v z y],?_,?_⟩,⟨h.s1.1,T,U⟩,?_,E⟩
 ·have L:aV x r c:=h.blk.mod Q (fun a=>a.elim h.s1.2.1 h.s1.2.2);have:=(L.set 6 j).set 7 m;simpa [fN] using this
 ·exact aE R q (fun g n a=>by
   rcases a with a|a|a
   ·exact h.s1.1 (by rw [←a];exact n)
   ·exact (h.s2 g n).1 a
   ·exact (h.s2 g n).2 a)
 ·rw [f5];exact aE G s (fun g n a=>T (by rw [←a];exact n))
 ·rw [List.reverse_cons];exact .snoc H rfl
 ·rw [f5];exact aE I s (fun g n a=>U (by rw [←a];exact n))
 ·rw [List.reverse_cons];refine .snoc (J.mono (fun _ _ i=>i.mod q A)) ⟨v,z,y,rfl,aE M q (fun g n=>(A g (u g n) (aS M n).1).1),fun k f=>(A k (u k f) (aS M f).1).2,N⟩
 ·intro k f;refine ⟨fun a=>?_,fun a=>?_⟩
  ·rcases D k a with e|e
   ·exact (h.s2 k f).1 e
   ·have:=t k f;omega
  ·rcases F k a with e|e
   ·exact (h.s2 k f).2 e
   ·have:=t k f;omega
theorem Bb (nm:Bs×Bs):Value.string ((⟨nm.1.toArray⟩:ByteArray)++⟨#[58]⟩++⟨nm.2.toArray⟩)=aB (dG nm):=by
 have a:(⟨nm.1.toArray⟩:ByteArray)++⟨#[58]⟩=⟨(nm.1++[58]).toArray⟩:=iF nm.1 [58];rw [a,iF];simp [dG]
theorem TV:(prog.info? 9).map (fun i=>(i.zero,i.size,i.bytes))=some (some (.string ⟨#[]⟩),1,16):=by kernel_rfl
theorem W9:(prog.info? 47).map (fun i=>(i.zero,i.size,i.bytes))=some (some (.slice none 0 0),1,24):=by kernel_rfl
theorem PY {x:PX} {a:Nat} {w:World} {c:PC} {opens:List Bs} {bound:List aM} {out:List bS} (H:dK x a w c opens bound out) (F:opens.length≤500000000) {z:List Value} (l:w.ownsRow a 9 1 c.op opens.length z) (o:Bs) {b:World} (q:aJ (fun _=>False) w b) (G:aV x b c) (b1:Nat) (s:aL b b1 #[aB o] 9) :
  ∃ i f g d,i=.slice (some ⟨g,0,none⟩) (opens.length+1) d∧(Builtin.append_ #[30,30] 30 #[c.op,.slice (some ⟨b1,0,none⟩) 1 1]).run prog b=.ok i f∧f.ownsRow a 9 1 i (opens.length+1) (z++[aB o])∧(∀ k,i.ownBlock=some k→c.op.ownBlock=some k∨w.heap.size≤k)∧aV x f c∧aJ (fun k=>c.op.ownBlock=some k) w f∧∀ p cs t,aL b p cs t→w.heap.size≤p→aL f p cs t:=by
 obtain ⟨i,f,n,m,e,I,g,d,y⟩:=nL TV underlying30 rfl (by decide) (by decide) b a (fQ H.size q.size) c.op opens.length (by omega) z (aE (S:=fun _=>False) l q (fun _ _=>id)) b1 [aB o] rfl
  (fun j u D=>by rw [s.cell];simpa using D)
  (fun u A=>by
   simp only [mF,y5,or_false] at A;rw [A];rfl)
 refine ⟨i,f,g,d,y,n,m,fun k v=>?_,G.mod e H.s1.2.1,(q.mono (S':=fun k=>c.op.ownBlock=some k) (fun _ _ h=>h.elim)).trans e (fun _ _ h=>h),fun p cs t B E=>B.mod e (fun C=>by have:=(aS l C).1;omega)⟩;rcases I with r|r
 ·exact aG (r▸v)
 ·rw [r] at v;right;have:=q.size;simp at v;omega
theorem PZ {x:PX} {a:Nat} {w:World} {c:PC} {opens:List Bs} {bound:List aM} {out:List bS} (H:dK x a w c opens bound out) (aC:opens.length≤500000000) (aA:bound.length=opens.length) (o:Bs) (l:aM) {M:Option Addr} {O N:Nat} (hl:w.ownsRow a 177 2 (.slice M O N) l.length (cJ l)) (T:l.length≤1000000000) (V:∀ k,(Value.slice M O N).ownBlock=some k→¬ fS x c k)
  {X P:List Value} (G:cH (fun b ys=>ys=[aB b]) opens.reverse X) (z:w.ownsRow a 47 1 c.bd bound.length P) (A:cH (EC w a (fun k=>¬ fS x c k)) bound.reverse P) {s:World} (f:aJ (fun k=>c.op.ownBlock=some k) w s) (Q:Nat) (R:aL s Q #[.slice M O N] 47) {n:Value} (F:s.ownsRow a 9 1 n (opens.length+1) (X++[aB o])) (L:∀ k,n.ownBlock=some k→c.op.ownBlock=some k∨w.heap.size≤k) :
  ∃ e m g q,e=.slice (some ⟨g,0,none⟩) (bound.length+1) q∧(Builtin.append_ #[49,49] 49 #[c.bd,.slice (some ⟨Q,0,none⟩) 1 1]).run prog s=.ok e m∧aV x m c∧Below a w ((m.setCell ⟨x.p,6,none⟩ n).setCell ⟨x.p,7,none⟩ e)∧aJ (fS x c) w ((m.setCell ⟨x.p,6,none⟩ n).setCell ⟨x.p,7,none⟩ e)∧dK x a ((m.setCell ⟨x.p,6,none⟩ n).setCell ⟨x.p,7,none⟩ e) { c with op:=n,bd:=e } (o::opens) (l::bound) out:=by
 obtain ⟨e,m,J,I,C,U,g,q,W⟩:=nL W9 underlying49 rfl (by decide) (by decide) s a (fQ H.size f.size) c.bd bound.length (by omega) P (aE z f (fun k d B=>H.s3 k B d)) Q [.slice M O N] rfl
  (fun j u hj=>by rw [R.cell];simpa using hj)
  (fun u Z=>by
   simp only [mF,y5,or_false] at Z;rw [Z];rfl)
 have r:aJ (fun k=>c.op.ownBlock=some k∨c.bd.ownBlock=some k) w m:=(f.mono (fun _ _ h=>aG h)).trans (C.mono (fun _ _ h=>aU h)) (fun _ _ h=>h);have y:∀ k,e.ownBlock=some k→c.bd.ownBlock=some k∨(w.heap.size≤k∧s.heap.size≤k):=fun k d=>by
  rcases U with v|v
  ·exact aG (v▸d)
  ·rw [v] at d;right;have:=f.size;simp at d;omega
 have E:∀ k,n.ownBlock=some k→c.bd.ownBlock≠some k:=fun k d t=>by
  rcases L k d with Y|Y
  ·exact H.s3 k Y t
  ·have:=(aS z t).1;omega
 have D:aJ (fS x c) w ((m.setCell ⟨x.p,6,none⟩ n).setCell ⟨x.p,7,none⟩ e):=aJ.setCell (S:=fS x c) (aJ.setCell (S:=fS x c) (r.mono (fun _ _ h=>h.elim (fun h=>aU (aU (aG h))) (fun h=>aU (aU (aU h))))) (p:=⟨x.p,6,none⟩) (aG (aG rfl)) _) (p:=⟨x.p,7,none⟩) (aG (aG rfl)) _;refine ⟨e,m,g,q,W,J,H.blk.mod r (fun B=>B.elim H.s1.2.1 H.s1.2.2),aJ.below (Below.refl _ w) H.size D (fun i hi=>(H.busy hi).1),D,?_⟩;refine H.push o l hl T V ⟨X,aE F C (fun k d B=>E k d B),G⟩ ⟨P,I,A⟩ r L (fun k d=>(y k d).imp id (fun h=>h.1)) (fun k d v=>?_);rcases y k v with t|t
 ·exact E k d t
 ·have:=(aS F d).1;omega
theorem Bc (x:PX) (N:Nat) (w:World) (c:PC) (opens:List Bs) (bound:List aM) (out:List bS) (h:dK x N w c opens bound out) (b4:opens.length≤500000000) (b0:bound.length=opens.length) (em:Bool) (bt:Nat) (nm:Bs×Bs) (l:aM) (v9:Value) (hl:w.ownsRow N 177 2 v9 l.length (cJ l)) (b3:l.length≤1000000000) (b6:∀ k,v9.ownBlock=some k→¬ fS x c k) (b7:nm.1.length≤1000000000) (b9:nm.2.length≤1000000000) (Q:Exit→Act→World→Prop)
  (hQ:∀ f w' v6 v7,Below N w w'→aJ (fS x c) w w'→dK x N w' { c with op:=v6,bd:=v7 } (dG nm::opens) (l::bound) out→Q .normal (fr 182 f [(0,iU x),(2,.bool em),(4,.pointer (some ⟨bt,0,none⟩)),(7,aB nm.1),(8,aB nm.2)]) w') (f:Nat→Value) :
  (U2 17).wp prog Q (fr 182 f [(0,iU x),(2,.bool em),(4,.pointer (some ⟨bt,0,none⟩)),(7,aB nm.1),(8,aB nm.2),(9,v9)]) w:=by
 obtain ⟨sa,sl,sc,rfl⟩:=nT hl;obtain ⟨xs,b5,a3⟩:=h.op;obtain ⟨zs,bC,a0⟩:=h.bd;have ⟨H,P,a6,HL,a7,bA⟩:=gT h b4 b0 hl b3 b6;have ⟨HQ,a9,X,a5,T⟩:=pM hQ b5 a3 bC a0;have a1:¬ 9223372036854775807<nm.1.length+1:=by omega
 have a2:¬ 9223372036854775807<nm.1.length+1+nm.2.length:=by omega
 clear h b4 b0 hl b3 b6 hQ b5 a3 bC a0 b7 b9;unfold U2;conv=>arg 2;whnf
 refine sW [0,0,0,0,0,1,0,0,0,0,3,3,0,0,0,1,0,3,3,0,0,2,0,0,2] (.one 0 (.one 1 (.one 2 (.one 3 (.one 4 (.one 5 (.one 6 (.one 7 (.one 8 (.one 9 (.one 12 (.one 13 (.one 14 (.one 15 (.one 16 (.two 10 17 (.two 11 17 (.one 17 (.one 18 (.one 19 (.one 20 (.one 21 (.one 22 (.one 23 (.one 24 .nil)))))))) (.one 11 (.one 18 (.one 19 (.one 20 (.one 21 (.one 22 (.one 23 (.one 24 .nil))))))))) (.one 10 (.one 11 (.one 18 (.one 19 (.one 20 (.one 21 (.one 22 (.one 23 (.one 24 .nil))))))))))))))))))))))))) (fun w'=>aV x w' c) (by kernel_rfl) (by kernel_rfl) ?_;(repeat (first|(with_reducible refine lL ?_)|((with_reducible refine jQ rfl rfl (fun K hK=>?_));go_simp;refine hK _ ?_;clear hK K)|((with_reducible refine kH rfl rfl (fun K hK=>?_));go_simp;refine hK.out _ _ ?_;clear hK K)));refine o5 rfl rfl H.o.blk rfl (some 100) rfl c.op (fun w' aA=>?_) ?_
 ·have hc:=aA.cell;clear aA;go_simp
 rw [fG (by decide)];(repeat (first|(with_reducible refine lL ?_)|((with_reducible refine jQ rfl rfl (fun K hK=>?_));go_simp;refine hK _ ?_;clear hK K)|((with_reducible refine kH rfl rfl (fun K hK=>?_));go_simp;refine hK.out _ _ ?_;clear hK K)));refine o5 rfl rfl H.o.blk rfl (some 110) rfl c.bd (fun w' aA=>?_) ?_
 ·have hc:=aA.cell;clear aA;go_simp
 rw [fG (by decide)];(repeat (first|(with_reducible refine lL ?_)|((with_reducible refine jQ rfl rfl (fun K hK=>?_));go_simp;refine hK _ ?_;clear hK K)|((with_reducible refine kH rfl rfl (fun K hK=>?_));go_simp;refine hK.out _ _ ?_;clear hK K)));rw [Bb nm];refine DE ?_ ?_
 ·refine kY rfl rfl (fun K hK=>?_);go_simp;refine hK.out _ _ ?_ ?_
  ·exact aL.alloc (w:=w) H.o.blk _
  clear hK K;obtain ⟨w1,r⟩:∃ wn,wn=(w.alloc (.cells #[aB (dG nm)] 9)).drew:=⟨_,rfl⟩;rw [←r];have a:aJ (fun _=>False) w w1:=by rw [r];exact ((aJ.refl _ w).alloc _).drew
  have q:=Lh (show aV x w1 c from aL.mod H.o.blk a id);obtain ⟨b1,I⟩:∃ b,b=w.heap.size:=⟨_,rfl⟩;rw [←I];have R:=Lh (show aL w1 b1 #[aB (dG nm)] 9 by rw [r,I];exact aL.new w _ _);have t:=Lh a;clear r a I;refine DE ?_ ?_
  ·obtain ⟨v6,O,g6,c6,D,e,d,C,A,y,J⟩:=PY H.o P.o a9.o (dG nm) t.o q.o b1 R.o;have ⟨a8,Y,o,p⟩:=kS d C A y;clear d y C A J;refine mJ rfl rfl rfl (some 106) rfl (.tmp 100) (.tmp 105) _ _ rfl _ _ v6 (by rw [bU (by decide)];(try simp only [aK,aO,aR,aW,Nat.reduceEqDiff,↓reduceIte]);(try rfl)) (by rw [bU (by decide)];(try simp only [aK,aO,aR,aW,Nat.reduceEqDiff,↓reduceIte]);(try rfl)) e o.o ?_;rw [fG (by decide)];clear e;refine kY rfl rfl (fun K hK=>?_);go_simp;refine hK.out _ _ ?_ ?_
   ·exact aL.alloc (w:=O) o.o _
   clear hK K;obtain ⟨w3,aC⟩:∃ wn,wn=(O.alloc (.cells #[.slice sa sl sc] 47)):=⟨_,rfl⟩;rw [←aC];have a:aJ (fun _=>False) O w3:=by rw [aC];exact ((aJ.refl _ O).alloc _)
   have M:=Lh (show aV x w3 c from aL.mod o.o a id);obtain ⟨Z,i⟩:∃ b,b=O.heap.size:=⟨_,rfl⟩;rw [←i];have m:=Lh (show aL w3 Z #[.slice sa sl sc] 47 by rw [aC,i];exact aL.new O _ _);have u:=Lh (p.o.trans (a.mono (fun _ _ h=>h.elim)) (fun _ _ h=>h));have n:=Lh (aE (S:=fun _=>False) a8.o a (fun _ _=>id));have L:=Lh (show w.heap.size≤Z by rw [i];exact p.o.size);clear aC a i;obtain ⟨v7,w4,g7,c7,E,g,j,v,z,B⟩:=PZ H.o P.o a6.o (dG nm) l HL.o a7.o bA.o X.o a5.o T.o u.o Z m.o n.o Y.o;have ⟨U,V,W⟩:=kV v z B;clear v z B;refine mJ rfl rfl rfl (some 113) rfl (.tmp 110) (.tmp 112) _ _ rfl _ _ v7 (by rw [bU (by decide)];(try simp only [aK,aO,aR,aW,Nat.reduceEqDiff,↓reduceIte]);(try rfl)) (by rw [bU (by decide)];(try simp only [aK,aO,aR,aW,Nat.reduceEqDiff,↓reduceIte]);(try rfl)) g j ?_;rw [fG (by decide)];have hf:=j.frozen;have hc:=j.cell;clear g j;(repeat (first|(with_reducible refine lL ?_)|((with_reducible refine jQ rfl rfl (fun K hK=>?_));go_simp;refine hK _ ?_;clear hK K)|((with_reducible refine kH rfl rfl (fun K hK=>?_));go_simp;refine hK.out _ _ ?_;clear hK K)));refine Qk [0,2,4,7,8] fun f=>?_;rw [←D,←E];exact HQ.o f _ v6 v7 U.o V.o W.o
  ·refine kY rfl rfl (fun K hK=>?_);go_simp;refine hK.out _ _ ?_ ?_
   ·exact aL.alloc (w:=w1) q.o _
   clear hK K;obtain ⟨O,s⟩:∃ wn,wn=(w1.alloc (.cells #[.slice sa sl sc] 47)):=⟨_,rfl⟩;rw [←s];have a:aJ (fun _=>False) w1 O:=by rw [s];exact ((aJ.refl _ w1).alloc _)
   have o:=Lh (show aV x O c from aL.mod q.o a id);obtain ⟨Z,i⟩:∃ b,b=w1.heap.size:=⟨_,rfl⟩;rw [←i];have G:=Lh (show aL O Z #[.slice sa sl sc] 47 by rw [s,i];exact aL.new w1 _ _);have p:=Lh (t.o.trans a (fun _ _ h=>h));have F:=Lh (R.o.mod a id);have L:=Lh (show w.heap.size≤Z by rw [i];exact t.o.size);clear s a i;obtain ⟨v6,w3,g6,c6,D,e,d,C,A,y,J⟩:=PY H.o P.o a9.o (dG nm) p.o o.o b1 F.o;have ⟨n,Y,M,u⟩:=kS d C A y;have m:=Lh (J _ _ _ G.o L.o);clear d y C A J;refine mJ rfl rfl rfl (some 106) rfl (.tmp 100) (.tmp 105) _ _ rfl _ _ v6 (by rw [bU (by decide)];(try simp only [aK,aO,aR,aW,Nat.reduceEqDiff,↓reduceIte]);(try rfl)) (by rw [bU (by decide)];(try simp only [aK,aO,aR,aW,Nat.reduceEqDiff,↓reduceIte]);(try rfl)) e M.o ?_;rw [fG (by decide)];clear e;obtain ⟨v7,w4,g7,c7,E,g,j,v,z,B⟩:=PZ H.o P.o a6.o (dG nm) l HL.o a7.o bA.o X.o a5.o T.o u.o Z m.o n.o Y.o;have ⟨U,V,W⟩:=kV v z B;clear v z B;refine mJ rfl rfl rfl (some 113) rfl (.tmp 110) (.tmp 112) _ _ rfl _ _ v7 (by rw [bU (by decide)];(try simp only [aK,aO,aR,aW,Nat.reduceEqDiff,↓reduceIte]);(try rfl)) (by rw [bU (by decide)];(try simp only [aK,aO,aR,aW,Nat.reduceEqDiff,↓reduceIte]);(try rfl)) g j ?_;rw [fG (by decide)];have hf:=j.frozen;have hc:=j.cell;clear g j;(repeat (first|(with_reducible refine lL ?_)|((with_reducible refine jQ rfl rfl (fun K hK=>?_));go_simp;refine hK _ ?_;clear hK K)|((with_reducible refine kH rfl rfl (fun K hK=>?_));go_simp;refine hK.out _ _ ?_;clear hK K)));refine Qk [0,2,4,7,8] fun f=>?_;rw [←D,←E];exact HQ.o f _ v6 v7 U.o V.o W.o
 ·refine kY rfl rfl (fun K hK=>?_);go_simp;refine hK.out _ _ ?_ ?_
  ·exact aL.alloc (w:=w) H.o.blk _
  clear hK K;obtain ⟨w1,r⟩:∃ wn,wn=(w.alloc (.cells #[.slice sa sl sc] 47)).drew:=⟨_,rfl⟩;rw [←r];have a:aJ (fun _=>False) w w1:=by rw [r];exact ((aJ.refl _ w).alloc _).drew
  have q:=Lh (show aV x w1 c from aL.mod H.o.blk a id);obtain ⟨Z,i⟩:∃ b,b=w.heap.size:=⟨_,rfl⟩;rw [←i];have a4:=Lh (show aL w1 Z #[.slice sa sl sc] 47 by rw [r,i];exact aL.new w _ _);have t:=Lh a;have L:=Lh (show w.heap.size≤Z by rw [i];exact dF _);clear r a i;refine kY rfl rfl (fun K hK=>?_);go_simp;refine hK.out _ _ ?_ ?_
  ·exact aL.alloc (w:=w1) q.o _
  clear hK K;obtain ⟨O,s⟩:∃ wn,wn=(w1.alloc (.cells #[aB (dG nm)] 9)):=⟨_,rfl⟩;rw [←s];have a:aJ (fun _=>False) w1 O:=by rw [s];exact ((aJ.refl _ w1).alloc _)
  have o:=Lh (show aV x O c from aL.mod q.o a id);obtain ⟨b1,I⟩:∃ b,b=w1.heap.size:=⟨_,rfl⟩;rw [←I];have F:=Lh (show aL O b1 #[aB (dG nm)] 9 by rw [s,I];exact aL.new w1 _ _);have p:=Lh (t.o.trans a (fun _ _ h=>h));have G:=Lh (a4.o.mod a id);clear s a I;obtain ⟨v6,w3,g6,c6,D,e,d,C,A,y,J⟩:=PY H.o P.o a9.o (dG nm) p.o o.o b1 F.o;have ⟨n,Y,M,u⟩:=kS d C A y;have m:=Lh (J _ _ _ G.o L.o);clear d y C A J;refine mJ rfl rfl rfl (some 106) rfl (.tmp 100) (.tmp 105) _ _ rfl _ _ v6 (by rw [bU (by decide)];(try simp only [aK,aO,aR,aW,Nat.reduceEqDiff,↓reduceIte]);(try rfl)) (by rw [bU (by decide)];(try simp only [aK,aO,aR,aW,Nat.reduceEqDiff,↓reduceIte]);(try rfl)) e M.o ?_;rw [fG (by decide)];clear e;obtain ⟨v7,w4,g7,c7,E,g,j,v,z,B⟩:=PZ H.o P.o a6.o (dG nm) l HL.o a7.o bA.o X.o a5.o T.o u.o Z m.o n.o Y.o;have ⟨U,V,W⟩:=kV v z B;clear v z B;refine mJ rfl rfl rfl (some 113) rfl (.tmp 110) (.tmp 112) _ _ rfl _ _ v7 (by rw [bU (by decide)];(try simp only [aK,aO,aR,aW,Nat.reduceEqDiff,↓reduceIte]);(try rfl)) (by rw [bU (by decide)];(try simp only [aK,aO,aR,aW,Nat.reduceEqDiff,↓reduceIte]);(try rfl)) g j ?_;rw [fG (by decide)];have hf:=j.frozen;have hc:=j.cell;clear g j;(repeat (first|(with_reducible refine lL ?_)|((with_reducible refine jQ rfl rfl (fun K hK=>?_));go_simp;refine hK _ ?_;clear hK K)|((with_reducible refine kH rfl rfl (fun K hK=>?_));go_simp;refine hK.out _ _ ?_;clear hK K)));refine Qk [0,2,4,7,8] fun f=>?_;rw [←D,←E];exact HQ.o f _ v6 v7 U.o V.o W.o
end Go.Proofs.YthapcchcahnfaaaGreatDoor
