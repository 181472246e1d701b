/- Part of the proof that laws.FnSkip returns true for every argument. No conditions. -/
import Derived.Test.YthapcchcahnfaaaGreatDoorS35
import Derived.Test.YthapcchcahnfaaaGreatDoorS36
set_option linter.all false
set_option maxHeartbeats 8000000
set_option maxRecDepth 100000
namespace Go.Proofs.YthapcchcahnfaaaGreatDoor
open Go Go.RowKit Go.Proofs.Tryz
def cQ (acc:List bS) (p:bS):List bS:=
 if p.kind=3∧p.text=[] then acc
 else match acc.getLast? with
  | some q=>if p.kind=3∧q.kind=3 then acc.dropLast++[{ q with text:=q.text++p.text,at':=p.at' }] else acc++[p]
  | none=>acc++[p]
def fO (l:List bS):List bS:=l.foldl cQ []
structure jS (w:World) (g o:Nat) (b:Nat) (p:bS):Prop where
 ex:∃ a d c,w.cell? ⟨g,o,none⟩=some (.int .i64 p.kind)∧w.cell? ⟨g,o+1,none⟩=some (aB p.space)∧w.cell? ⟨g,o+2,none⟩=some (aB p.loc)∧w.cell? ⟨g,o+3,none⟩=some (.slice a d c)∧w.cell? ⟨g,o+4,none⟩=some (aB p.text)∧w.cell? ⟨g,o+5,none⟩=some (.int .i64 p.at') ∧
  w.ownsRow 0 68 3 (.slice a d c) p.attrs.length (aN p.attrs)∧∀ k,(Value.slice a d c).ownBlock=some k→k<b
theorem lW.len {w:World} {a:Nat} {G:Nat→Prop} {p:bS} {b:List Value} (h:lW w a G p b):b.length=6:=by
 obtain ⟨_,_,_,rfl,_⟩:=h;rfl
theorem wB {w:World} {b:Nat} {e:TypeId} {a:Nat} {v:Value} {n:Nat} {i:List Value} (h:w.ownsRow b e a v n i):w.ownsRow 0 e a v n i:=by
 obtain ⟨f,j|⟨g,c,d,k,m,l⟩⟩:=h
 ·exact ⟨f,aG j⟩
 ·exact ⟨f,aU ⟨g,c,d,k,jU _,l⟩⟩
theorem tJ {w:World} {d g:Nat} {l:List bS} {f:List Value} {G:Nat→Prop} (b:cH (lW w d G) l f) (a:∀ k u,f[k]?=some u→w.cell? ⟨g,k,none⟩=some u) {i:Nat} {p:bS} (j:l[i]?=some p):jS w g (i*6) w.heap.size p:=by
 obtain ⟨s,⟨o,r,q,rfl,e,_⟩,c⟩:=b.get (n:=6) (fun _ _ h=>h.len) j;refine ⟨o,r,q,a _ _ ((c 0 (by omega)).trans rfl),a _ _ ((c 1 (by omega)).trans rfl),a _ _ ((c 2 (by omega)).trans rfl),a _ _ ((c 3 (by omega)).trans rfl),a _ _ ((c 4 (by omega)).trans rfl),a _ _ ((c 5 (by omega)).trans rfl),wB e,fun k m=>(aS e m).1⟩
theorem qO {w:World} {a g n c:Nat} {e:TypeId} {f:Nat} {i:List Value} (h:w.ownsRow a e f (.slice (some ⟨g,0,none⟩) n c) n i) (j:Nat) (v:j<n*f) (u:Value):(w.setCell ⟨g,j,none⟩ u).ownsRow a e f (.slice (some ⟨g,0,none⟩) n c) n (i.set j u):=by
 obtain ⟨k,l⟩:=h;refine ⟨by rw [List.length_set];exact k,?_⟩;rcases l with ⟨d,_⟩|⟨g',cap',cur,d,m,o,p,q,r,s⟩
 ·simp at d
 ·simp only [Value.slice.injEq,jW,Addr.mk.injEq] at d;obtain ⟨⟨rfl,_⟩,_,rfl⟩:=d;refine aU ⟨_,_,cur.setIfInBounds j u,rfl,m,aL.set (w:=w) (b:=g) (cs:=cur) (t:=e) o j u,p,q,by simpa using r,?_⟩;rw [Array.toList_setIfInBounds,List.take_set,s]
theorem cH.unsnoc {α:Type} {P:α→List Value→Prop} {l:List α} {a:α} {d:List Value} (h:cH P (l++[a]) d):∃ e f,d=e++f∧cH P l e∧P a f:=by
 generalize c:l++[a]=m at h;cases h with
 | nil=>simp at c
 | snoc g i=>
  obtain ⟨rfl,b⟩:=List.append_inj' c rfl;simp only [List.cons.injEq,and_true] at b;subst b;exact ⟨_,_,rfl,g,i⟩
def eF (l:List bS):Nat:=(l.map fun p=>p.text.length).sum
theorem CB {l:List bS} {i:Nat} {p:bS} (h:l[i]?=some p):eF (l.take (i+1))=eF (l.take i)+p.text.length:=by
 unfold eF;rw [List.take_add_one,h];simp
theorem GW (l:List bS) (i:Nat):eF (l.take i)≤eF l:=by
 unfold eF;conv=>rhs;rw [←List.take_append_drop i l,List.map_append,List.sum_append]
 omega
theorem EE {l:List bS} {i:Nat} {p:bS} (h:l[i]?=some p):fO (l.take (i+1))=cQ (fO (l.take i)) p:=by
 unfold fO;rw [List.take_add_one,h];simp
theorem LS {acc:List bS} {p:bS} (a:p.kind=3) (b:p.text=[]):cQ acc p=acc:=by
 unfold cQ;rw [aY ⟨a,b⟩]
theorem LT {acc:List bS} {p q:bS} (a:p.kind=3) (b:p.text≠[]) (c:q.kind=3):cQ (acc++[q]) p=acc++[{ q with text:=q.text++p.text,at':=p.at' }]:=by
 unfold cQ;rw [aQ (fun h=>b h.2)];simp only [List.getLast?_append,List.getLast?_singleton,Option.some_or];rw [aY ⟨a,c⟩];simp
theorem x9 {acc:List bS} {p q:bS} (a:¬ (p.kind=3∧p.text=[])) (b:¬ (p.kind=3∧q.kind=3)):cQ (acc++[q]) p=acc++[q]++[p]:=by
 unfold cQ;rw [aQ a];simp only [List.getLast?_append,List.getLast?_singleton,Option.some_or];rw [aQ b]
theorem yA {p:bS} (a:¬ (p.kind=3∧p.text=[])):cQ [] p=[]++[p]:=by
 unfold cQ;rw [aQ a];rfl
theorem mZ {w:World} {a g n d:Nat} {e:TypeId} {i:Nat} {k:List Value} (h:w.ownsRow a e i (.slice (some ⟨g,0,none⟩) n d) n k) (j:Nat):w.frozen? ⟨g,j,none⟩=false:=by
 rcases h.2 with ⟨c,_⟩|⟨g8,cap8,cur8,c,_,f,_⟩
 ·simp at c
 ·simp only [Value.slice.injEq,jW,Addr.mk.injEq] at c;obtain ⟨⟨rfl,_⟩,_⟩:=c;exact aL.frozen (w:=w) (b:=g) (cs:=cur8) (t:=e) f j
theorem zP {w:World} {a n:Nat} {e:TypeId} {b:Nat} {v:Value} {c:List Value} (h:w.ownsRow a e b v n c) (k:Nat):(w.drewN k).ownsRow a e b v n c:=h
def vK (w0:World) (a:Value) (l:List bS) (k:Nat) (c:Act) (w:World):Prop:=
 ∃ f i out b,c=fr 65 f [(3,out),(7,a),(8,.int .i64 (l.length:Nat)),(9,.int .i64 (i:Nat))]∧Below w0.heap.size w0 w∧w.ownsRow w0.heap.size 35 6 out (fO (l.take i)).length b∧cH (lW w 0 (fun k=>k<w0.heap.size)) (fO (l.take i)) b∧(∀ q∈fO (l.take i),q.text.length≤eF (l.take i))∧(fO (l.take i)).length≤i∧k=l.length-i∧i≤l.length
theorem vK.same {w0:World} {b:Value} {l:List bS} {k:Nat} {e:Act} {w w':World} (h:vK w0 b l k e w) (s:w'.os=w.os) (t:w'.tape=w.tape) (u:w'.output=w.output) (v:w'.heap=w.heap):vK w0 b l k e w':=by
 obtain ⟨r,A,a,d,g,f,j,m,n,o,p,q⟩:=h;have c:aJ (fun _=>False) w w':=eE (aJ.refl _ w) s t u v;exact ⟨r,A,a,d,g,aJ.below f f.size c (fun i y=>y.elim),aE j c (fun _ _=>id),m.mono (fun _ _ x=>lW.mod (G':=fun k=>k<w0.heap.size) x c (fun k z _=>⟨id,z⟩)),n,o,p,q⟩
theorem EF (w0:World) (l:List bS) (b9:l.length≤1000000000) (a4:eF l≤4611686018427387904) (A:Option Addr) (C:Nat) (d8:0<l.length→∃ g ro,A=some ⟨g,ro,none⟩∧g<w0.heap.size∧∀ i p,l[i]?=some p→jS w0 g (ro+i*6) w0.heap.size p) :
  Calls prog 21 #[.slice A l.length C] w0 fun e w'=>∃ out xs,e=.returned out∧Below w0.heap.size w0 w'∧w'.ownsRow w0.heap.size 35 6 out (fO l).length xs∧cH (lW w' 0 (fun k=>k<w0.heap.size)) (fO l) xs∧(fO l).length≤l.length:=by
 have ⟨O,c7,f3⟩:=kV b9 a4 d8;clear b9 a4 d8;refine eL 65 func21 [_] fun f=>?_;simp only [aF];refine vg ?_;intro K hK;refine cG [3,7,8,9] fun f=>?_;refine wp_loop_ghost_k (vK w0 (.slice A l.length C) l) l.length ⟨f,0,.slice none 0 0,[],rfl,Below.refl _ w0,⟨rfl,aG ⟨rfl,rfl⟩⟩,.nil,by simp [fO],by simp [fO],by simp,jU _⟩ ?_;rintro k _ w ⟨f,i,out,xs,rfl,hb,cT,a6,f1,e5,y,hi⟩ J K2 hJ d7;have ⟨HJ,a2,HB,X,Q,R⟩:=gT hJ d7 hb cT a6 f1;have ⟨I,HK⟩:=cB e5 y;clear hJ d7 hb cT a6 f1 e5 y;by_cases aA:i<l.length
 rotate_left
 ·have hD:i=l.length:=by omega
  subst hD;have t1:¬ ((l.length:Int)<(l.length:Int)):=by omega
  revert K;refine vg ?_;refine cM ?_;have h2:=X.o;have h3:=Q.o;have h4:=I.o;rw [List.take_length] at h2 h3 h4;exact ⟨out,xs,rfl,HB.o,h2,h3,h4⟩
 have t0:(0:Int)≤(i:Int):=by omega
 have t1:(i:Int)<(l.length:Int):=by omega
 have wi:IntKind.i64.wrap ((i:Int)+1)=((i+1:Nat):Int):=by rw [IntKind.wrap_i64];have:=O.o;omega
 obtain ⟨p,hp⟩:∃ p,l[i]?=some p:=⟨l[i],by simp [aA]⟩;obtain ⟨g,ro,rfl,e0,c6⟩:=f3.o (by omega);obtain ⟨U,W,V,c0,c1,c2,c3,c4,c5,d1,e8⟩:=(c6 i p hp).ex;have tr:∀ j v,w0.cell? ⟨g,j,none⟩=some v→w.cell? ⟨g,j,none⟩=some v:=fun j v h=>(HB.o.cell (p:=⟨g,j,none⟩) e0).trans h;replace c0:=tr _ _ c0;replace c1:=tr _ _ c1;replace c2:=tr _ _ c2;replace c3:=tr _ _ c3;replace c4:=tr _ _ c4;replace c5:=tr _ _ c5;have ⟨hP,Y⟩:=cB d1 e8;have m:=Lh (EE hp);have Z:=Lh (CB hp);have d6:=Lh (fQ (GW l (i+1)) c7.o);obtain ⟨o,b4⟩:=cK (w.alloc (.cells #[.int .i64 p.kind,aB p.space,aB p.loc,.slice U W V,aB p.text,.int .i64 p.at'] 35));have dI:aL o w.heap.size #[.int .i64 p.kind,aB p.space,aB p.loc,.slice U W V,aB p.text,.int .i64 p.at'] 35:=by rw [b4];exact aL.new w _ _
 have aC:aJ (fun _=>False) w o:=by rw [b4];exact (aJ.refl _ w).alloc _
 have ⟨f4,f7⟩:=cB dI aC;have F:=Lh (show Below w0.heap.size w0 o from aJ.below HB.o HB.o.size aC (fun i hi=>hi.elim));have b:=Lh (aE (S:=fun _=>False) X.o aC (fun _ _=>id));have r:=Lh (Q.o.mono (fun _ _ hh=>lW.mod (G':=fun k=>k<w0.heap.size) hh aC (fun k y _=>⟨id,y⟩)));have a3:=Lh (show o.ownsRow 0 68 3 (.slice U W V) p.attrs.length (aN p.attrs) from aE (S:=fun k=>False) (aE (S:=fun _=>False) d1 (aH HB.o _) (fun _ _=>id)) aC (fun _ _=>id));have hR:=dI.cell;clear hp c6 tr d1 e8 dI aC e0;revert K;refine vT 5 ?_;intro K hK K hK;rw [←b4];clear b4 c0 c1 c2 c3 c4 c5;have f6:=Lh (fun g9 dT=>(aS X.o (g:=g9) dT).1);obtain ⟨acc,b7⟩:=cK (fO (l.take i));rw [←b7] at b r R I m;clear b7 X Q HB f7;obtain ⟨oA,oC,e7⟩:∃ oA oC,out=.slice oA acc.length oC:=by
  rcases b.o.2 with ⟨d,h8⟩|⟨g,g5,cur,d,_⟩
  ·exact ⟨none,0,by rw [d,h8]⟩
  ·exact ⟨_,_,d⟩
 subst e7;by_cases a:p.kind=3∧p.text=[]
 ·have e4:((p.kind:Int)==3)=true:=by rw [a.1];rfl
  have hI:p.text.isEmpty=true:=by rw [a.2];rfl
  have c:=Lh (LS (acc:=acc) a.1 a.2);clear a;(repeat revert K);refine vg ?_;intro K hK;refine Kk [3,7,8,9] fun f=>?_;refine a2.o _ _ ⟨l.length-(i+1),by rw [HK.o];omega,HJ.o _ _ _ ⟨f,i+1,_,xs,rfl,F.o,by rw [m.o,c.o];exact b.o,by rw [m.o,c.o];exact r.o,?_,?_,rfl,aA⟩⟩
  ·rw [m.o,c.o,Z.o];intro z T;have:=R.o z T;omega
  ·rw [m.o,c.o];have:=I.o;omega
 by_cases y:p.kind=3
 rotate_left
 ·have e4:((p.kind:Int)==3)=false:=by rw [lQ];omega
  have c:=Lh (show cQ acc p=acc++[p] from by
   rcases List.eq_nil_or_concat acc with d|⟨a0,q,d⟩
   ·rw [d];exact yA a
   ·rw [d];simp only [List.concat_eq_append];exact x9 a (fun h=>y h.1))
  obtain ⟨w8,t⟩:=cK (o.alloc (.cells #[.int .i64 p.kind,aB p.space,aB p.loc,.slice U W V,aB p.text,.int .i64 p.at'] 35));have P:aL w8 o.heap.size #[.int .i64 p.kind,aB p.space,aB p.loc,.slice U W V,aB p.text,.int .i64 p.at'] 35:=by rw [t];exact aL.new o _ _
  have s:aJ (fun _=>False) o w8:=by rw [t];exact (aJ.refl _ o).alloc _
  obtain ⟨v',w9,E,D,G,hv,gv,cv,bA⟩:=nL tH underlying23 rfl (by decide) (by decide) w8 w0.heap.size (fQ F.o.size s.size) (.slice oA acc.length oC) acc.length (by have:=I.o;have:=O.o;omega) xs (aE (S:=fun _=>False) b.o s (fun _ _=>id)) o.heap.size (eK p (.slice U W V)) rfl
   (fun j u hj=>by rw [P.cell];simpa [eK] using hj)
   (fun u hu=>by
    simp only [eK,mF,y5,or_false] at hu;rcases hu with rfl|rfl|rfl|rfl|rfl|rfl<;>rfl)
  subst bA;have B:=Lh D;have H:=Lh (show aJ (fun k=>w0.heap.size≤k) o w9 from (s.mono (fun _ _ h=>h.elim)).trans (G.mono (fun k _ y=>(aS b.o y).2)) (fun _ _ h=>h));clear P s D G hv;(repeat revert K);refine vB ?_;intro K hK K hK;rw [←t];clear t;refine eP rfl (.tmp 15) (.tmp 17) _ _ rfl _ _ _ (by rw [bU (by decide)];(try simp only [aK,aO,aR,aW,Nat.reduceEqDiff,↓reduceIte]);(try rfl)) (by rw [bU (by decide)];(try simp only [aK,aO,aR,aW,Nat.reduceEqDiff,↓reduceIte]);(try rfl)) E ?_;clear E;rw [fG (by decide)];(repeat revert K);refine vg ?_;intro K hK;refine Kk [3,7,8,9] fun f=>?_;refine a2.o _ _ ⟨l.length-(i+1),by rw [HK.o];omega,HJ.o _ _ _ ⟨f,i+1,_,_,rfl,aJ.below F.o F.o.size H.o (fun _ h=>h),by rw [m.o,c.o];first|(rw [fP];exact B.o)|(have d:=B.o;simp only [fP,List.length_singleton,List.length_nil] at d ⊢;exact d),by rw [m.o,c.o];exact .snoc (r.o.mono (fun _ _ hh=>lW.mod (G':=fun k=>k<w0.heap.size) hh H.o (fun k y _=>⟨by omega,y⟩))) ⟨U,W,V,rfl,aE a3.o H.o (fun g hg he=>by have:=Y.o g hg;omega),Y.o⟩,?_,?_,rfl,aA⟩⟩
  ·rw [m.o,c.o,Z.o];intro z T;rcases List.mem_append.1 T with d|d
   ·have:=R.o z d;omega
   ·simp only [List.mem_singleton] at d;rw [d];omega
  ·rw [m.o,c.o,fP];have:=I.o;simp<;>omega
 have e4:((p.kind:Int)==3)=true:=by rw [y];rfl
 have a7:p.text≠[]:=fun h=>a ⟨y,h⟩;have hI:p.text.isEmpty=false:=by cases d:p.text with
  | nil=>exact absurd d a7
  | cons=>rfl
 rcases List.eq_nil_or_concat acc with d|⟨a0,q,d⟩
 ·subst d;have c9:=Lh a;clear a7 a y;have c:=Lh (show cQ ([]:List bS) p=([]:List bS)++[p] from yA c9.o);obtain ⟨w8,t⟩:=cK (o.alloc (.cells #[.int .i64 p.kind,aB p.space,aB p.loc,.slice U W V,aB p.text,.int .i64 p.at'] 35));have P:aL w8 o.heap.size #[.int .i64 p.kind,aB p.space,aB p.loc,.slice U W V,aB p.text,.int .i64 p.at'] 35:=by rw [t];exact aL.new o _ _
  have s:aJ (fun _=>False) o w8:=by rw [t];exact (aJ.refl _ o).alloc _
  obtain ⟨v',w9,E,D,G,hv,gv,cv,bA⟩:=nL tH underlying23 rfl (by decide) (by decide) w8 w0.heap.size (fQ F.o.size s.size) (.slice oA ([]:List bS).length oC) ([]:List bS).length (by have:=I.o;have:=O.o;omega) xs (aE (S:=fun _=>False) b.o s (fun _ _=>id)) o.heap.size (eK p (.slice U W V)) rfl
   (fun j u hj=>by rw [P.cell];simpa [eK] using hj)
   (fun u hu=>by
    simp only [eK,mF,y5,or_false] at hu;rcases hu with rfl|rfl|rfl|rfl|rfl|rfl<;>rfl)
  subst bA;have B:=Lh D;have H:=Lh (show aJ (fun k=>w0.heap.size≤k) o w9 from (s.mono (fun _ _ h=>h.elim)).trans (G.mono (fun k _ y=>(aS b.o y).2)) (fun _ _ h=>h));clear P s D G hv;(repeat revert K);refine vB ?_;intro K hK K hK;rw [←t];clear t;refine eP rfl (.tmp 15) (.tmp 17) _ _ rfl _ _ _ (by rw [bU (by decide)];(try simp only [aK,aO,aR,aW,Nat.reduceEqDiff,↓reduceIte]);(try rfl)) (by rw [bU (by decide)];(try simp only [aK,aO,aR,aW,Nat.reduceEqDiff,↓reduceIte]);(try rfl)) E ?_;clear E;rw [fG (by decide)];(repeat revert K);refine vg ?_;intro K hK;refine Kk [3,7,8,9] fun f=>?_;refine a2.o _ _ ⟨l.length-(i+1),by rw [HK.o];omega,HJ.o _ _ _ ⟨f,i+1,_,_,rfl,aJ.below F.o F.o.size H.o (fun _ h=>h),by rw [m.o,c.o];first|(rw [fP];exact B.o)|(have d:=B.o;simp only [fP,List.length_singleton,List.length_nil] at d ⊢;exact d),by rw [m.o,c.o];exact .snoc (r.o.mono (fun _ _ hh=>lW.mod (G':=fun k=>k<w0.heap.size) hh H.o (fun k y _=>⟨by omega,y⟩))) ⟨U,W,V,rfl,aE a3.o H.o (fun g hg he=>by have:=Y.o g hg;omega),Y.o⟩,?_,?_,rfl,aA⟩⟩
  ·rw [m.o,c.o,Z.o];intro z T;rcases List.mem_append.1 T with d|d
   ·have:=R.o z d;omega
   ·simp only [List.mem_singleton] at d;rw [d];omega
  ·rw [m.o,c.o,fP];have:=I.o;simp<;>omega
 ·rw [List.concat_eq_append] at d;subst d;obtain ⟨L,g5,e1,g8,hN,hA,hB,M⟩:=gL b.o (by simp);simp only [Value.slice.injEq] at e1;obtain ⟨rfl,_,rfl⟩:=e1;obtain ⟨ys,zs,bC,b5,hL⟩:=r.o.unsnoc;obtain ⟨qa,ql,qc,b0,d3,d2⟩:=hL;have N:ys.length=a0.length*6:=b5.len (fun _ _ h=>lW.len h);have T:∀ j v,(eK q (.slice qa ql qc))[j]?=some v→o.cell? ⟨L,a0.length*6+j,none⟩=some v:=fun j v hj=>by
   refine M _ _ ?_;rw [bC,CQ (by rw [N];omega),N,Nat.add_sub_cancel_left,b0];exact hj
  have z0:o.cell? ⟨L,a0.length*6,none⟩=some (.int .i64 q.kind):=T 0 _ rfl;have z4:o.cell? ⟨L,a0.length*6+4,none⟩=some (aB q.text):=T 4 _ rfl;have z5:o.cell? ⟨L,a0.length*6+5,none⟩=some (.int .i64 q.at'):=T 5 _ rfl;obtain ⟨n,hn⟩:=cK ((a0++[q]).length);have e6:n=a0.length+1:=by rw [hn];simp
  have wn:IntKind.i64.wrap ((n:Int)-1)=(a0.length:Int):=by rw [IntKind.wrap_i64];have h1:=I.o;rw [fP] at h1;have h2:=O.o;omega
  have u0:(0:Int)≤(a0.length:Int):=by omega
  have u1:(0:Int)<(n:Int):=by omega
  have u2:(a0.length:Int)<(n:Int):=by omega
  have u3:0<n:=by omega
  have u4:a0.length<n:=by omega
  rw [←hn];have ⟨d4,hO⟩:=cB hn e6;clear hn e6;by_cases a5:q.kind=3
  rotate_left
  ·have hG:((q.kind:Int)==3)=false:=by rw [lQ];omega
   have ⟨c9,gB⟩:=cB a a5;clear a7 a y a5 T b0 d3 d2 b5 bC M;have c:=Lh (show cQ (a0++[q]) p=(a0++[q])++[p] from x9 c9.o (fun h=>gB.o h.2));obtain ⟨w8,t⟩:=cK (o.alloc (.cells #[.int .i64 p.kind,aB p.space,aB p.loc,.slice U W V,aB p.text,.int .i64 p.at'] 35));have P:aL w8 o.heap.size #[.int .i64 p.kind,aB p.space,aB p.loc,.slice U W V,aB p.text,.int .i64 p.at'] 35:=by rw [t];exact aL.new o _ _
   have s:aJ (fun _=>False) o w8:=by rw [t];exact (aJ.refl _ o).alloc _
   obtain ⟨v',w9,E,D,G,hv,gv,cv,bA⟩:=nL tH underlying23 rfl (by decide) (by decide) w8 w0.heap.size (fQ F.o.size s.size) (.slice (some ⟨L,0,none⟩) (a0++[q]).length oC) (a0++[q]).length (by have:=I.o;have:=O.o;omega) xs (aE (S:=fun _=>False) b.o s (fun _ _=>id)) o.heap.size (eK p (.slice U W V)) rfl
    (fun j u hj=>by rw [P.cell];simpa [eK] using hj)
    (fun u hu=>by
     simp only [eK,mF,y5,or_false] at hu;rcases hu with rfl|rfl|rfl|rfl|rfl|rfl<;>rfl)
   subst bA;have B:=Lh D;have H:=Lh (show aJ (fun k=>w0.heap.size≤k) o w9 from (s.mono (fun _ _ h=>h.elim)).trans (G.mono (fun k _ y=>(aS b.o y).2)) (fun _ _ h=>h));clear P s D G hv;(repeat revert K);refine vB ?_;intro K hK K hK;rw [←t];clear t;have d0:=d4.o;subst d0;refine eP rfl (.tmp 15) (.tmp 17) _ _ rfl _ _ _ (by rw [bU (by decide)];(try simp only [aK,aO,aR,aW,Nat.reduceEqDiff,↓reduceIte]);(try rfl)) (by rw [bU (by decide)];(try simp only [aK,aO,aR,aW,Nat.reduceEqDiff,↓reduceIte]);(try rfl)) E ?_;clear E;rw [fG (by decide)];(repeat revert K);refine vg ?_;intro K hK;refine Kk [3,7,8,9] fun f=>?_;refine a2.o _ _ ⟨l.length-(i+1),by rw [HK.o];omega,HJ.o _ _ _ ⟨f,i+1,_,_,rfl,aJ.below F.o F.o.size H.o (fun _ h=>h),by rw [m.o,c.o];first|(rw [fP];exact B.o)|(have d:=B.o;simp only [fP,List.length_singleton,List.length_nil] at d ⊢;exact d),by rw [m.o,c.o];exact .snoc (r.o.mono (fun _ _ hh=>lW.mod (G':=fun k=>k<w0.heap.size) hh H.o (fun k y _=>⟨by omega,y⟩))) ⟨U,W,V,rfl,aE a3.o H.o (fun g hg he=>by have:=Y.o g hg;omega),Y.o⟩,?_,?_,rfl,aA⟩⟩
   ·rw [m.o,c.o,Z.o];intro z T;rcases List.mem_append.1 T with d|d
    ·have:=R.o z d;omega
    ·simp only [List.mem_singleton] at d;rw [d];omega
   ·rw [m.o,c.o,fP];have:=I.o;simp<;>omega
  have hG:((q.kind:Int)==3)=true:=by rw [a5];rfl
  have c:=Lh (LT (acc:=a0) y a7 a5);have hU:q.text.length≤eF (l.take i):=R.o q (by simp);have a9:¬ 9223372036854775807<q.text.length+p.text.length:=by have h1:=Z.o;have h2:=d6.o;omega
  have hC:L≠w.heap.size:=by have:=f6.o L rfl;omega
  obtain ⟨x,a8⟩:=cK (q.text++p.text);have hM:(⟨q.text.toArray⟩:ByteArray)++⟨p.text.toArray⟩=⟨x.toArray⟩:=by rw [a8];exact iF _ _
  have e2:a0.length*6+4<(a0++[q]).length*6:=by simp;omega
  have e3:a0.length*6+5<(a0++[q]).length*6:=by simp;omega
  have b1:∀ k,((o.drewN k).setCell ⟨L,a0.length*6+4,none⟩ (aB x)).ownsRow w0.heap.size 35 6 (.slice (some ⟨L,0,none⟩) (a0++[q]).length oC) (a0++[q]).length (xs.set (a0.length*6+4) (aB x)):=fun k=>qO (zP b.o k) _ e2 _;have g1:=Lh (fun (k:Nat)=>qO (b1 k) (a0.length*6+5) e3 (.int .i64 p.at'));have hV:∀ k,((o.drewN k).setCell ⟨L,a0.length*6+4,none⟩ (aB x)).cell? ⟨L,a0.length*6+5,none⟩=some (.int .i64 q.at'):=fun k=>by
   obtain ⟨_,_,f2,_,_,_,_,g7⟩:=gL (b1 k) (by simp);simp only [Value.slice.injEq,jW,Addr.mk.injEq] at f2;obtain ⟨⟨rfl,_⟩,_⟩:=f2;refine g7 _ _ ?_;rw [List.getElem?_set_ne (by omega),bC,CQ (by rw [N];omega),N,Nat.add_sub_cancel_left,b0];rfl
  have hT:=fun k=>mZ (b1 k) (a0.length*6+5);have hS:=mZ b.o (a0.length*6+4);have g2:=Lh (fun (k:Nat)=>(show aL ((o.drewN k).setCell ⟨L,a0.length*6+4,none⟩ (aB x)) w.heap.size _ _ from aL.set_ne (w:=o.drewN k) f4.o (fun he=>hC he.symm) _));have hQ:=fun k=>(g2.o k).cell;have g3:=Lh (show (xs.set (a0.length*6+4) (aB x)).set (a0.length*6+5) (.int .i64 p.at')=ys++eK { q with text:=x,at':=p.at' } (.slice qa ql qc) by
   rw [bC,List.set_append_right _ _ (by rw [N];omega),N,Nat.add_sub_cancel_left,List.set_append_right _ _ (by rw [N];omega),N,Nat.add_sub_cancel_left,b0];rfl)
  have ⟨b6,g4,g0,d5,c8⟩:=pM a8 b5 d3 d2 g8;clear a y a5 a7 T b0 d3 d2 b5 bC M b1 a8 e2 e3 N hA hB;(repeat revert K);refine vg ?_;intro K hK K hK K hK;(refine lD [0,0,0,0,0,1,0,1,0,0,0,2] [0,1,2,3,4,5,6,7,8,9,10,11] ?_;refine vP ?_;repeat with_reducible intro nq)
  (repeat revert K);refine vg ?_;intro K hK;refine Kk [3,7,8,9] fun f=>?_;have d0:=d4.o;subst d0;obtain ⟨w9,a1⟩:=cK (((o.drewN 0).setCell ⟨L,a0.length*6+4,none⟩ (aB x)).setCell ⟨L,a0.length*6+5,none⟩ (.int .i64 p.at'));have G:aJ (fun k=>k=L) o w9:=by
   rw [a1];exact aJ.setCell (S:=fun k=>k=L) (aJ.setCell (S:=fun k=>k=L) ((aJ.refl _ o).drewN _) (p:=⟨L,a0.length*6+4,none⟩) (aG rfl) _) (p:=⟨L,a0.length*6+5,none⟩) (aG rfl) _
  have e9:=g1.o 0;rw [←a1] at e9;have b3:fO (l.take (i+1))=a0++[{ q with text:=x,at':=p.at' }]:=by rw [m.o,c.o,b6.o]
  have b2:cH (lW w9 0 (fun k=>k<w0.heap.size)) (a0++[{ q with text:=x,at':=p.at' }]) (ys++eK { q with text:=x,at':=p.at' } (.slice qa ql qc)):=
   .snoc (g4.o.mono (fun _ _ hh=>lW.mod (G':=fun k=>k<w0.heap.size) hh G (fun k y _=>⟨fun he=>by have:=c8.o;omega,y⟩))) ⟨qa,ql,qc,rfl,aE g0.o G (fun g9 dT he=>by have h7:g9<w0.heap.size:=d5.o g9 dT;have:=c8.o;omega),d5.o⟩
  have g6:Below w0.heap.size w0 w9:=aJ.below F.o F.o.size G (fun k y=>by rw [y];exact c8.o);have d9:vK w0 (.slice (some ⟨g,ro,none⟩) l.length C) l (l.length-(i+1)) (fr 65 f [(3,.slice (some ⟨L,0,none⟩) (a0++[q]).length oC),(7,.slice (some ⟨g,ro,none⟩) l.length C),(8,.int .i64 (l.length:Nat)),(9,.int .i64 ((i+1:Nat):Int))]) w9:=by
   refine ⟨f,i+1,_,ys++eK { q with text:=x,at':=p.at' } (.slice qa ql qc),rfl,g6,?_,by rw [b3];exact b2,?_,?_,rfl,aA⟩
   ·have hE:(fO (l.take (i+1))).length=(a0++[q]).length:=by rw [b3];simp only [fP,List.length_singleton]
    rw [hE,←g3.o];exact e9
   ·rw [b3,Z.o];intro z T;rcases List.mem_append.1 T with d|d
    ·have:=R.o z (List.mem_append_left _ d);omega
    ·simp only [List.mem_singleton] at d;rw [d];show x.length≤_;rw [b6.o,fP];omega
   ·rw [b3];have:=I.o;simp only [fP,List.length_singleton] at this ⊢;omega
  have h8:vK w0 (.slice (some ⟨g,ro,none⟩) l.length C) l (l.length-(i+1)) (fr 65 f [(3,.slice (some ⟨L,0,none⟩) (a0++[q]).length oC),(7,.slice (some ⟨g,ro,none⟩) l.length C),(8,.int .i64 (l.length:Nat)),(9,.int .i64 ((i+1:Nat):Int))]) _:=vK.same (w':=((((o.drewN nq).drewN nq).setCell ⟨L,a0.length*6+4,none⟩ (aB x)).drewN nq).setCell ⟨L,a0.length*6+5,none⟩ (.int .i64 p.at')) d9 (by rw [a1];rfl) (by rw [a1];rfl) (by rw [a1];rfl) (by rw [a1];rfl);exact a2.o _ _ ⟨l.length-(i+1),by rw [HK.o];omega,HJ.o _ _ _ (vK.same h8 rfl rfl rfl rfl)⟩
def ZN (w1:World) (c d:Value) (b:Bool) (n:Nat) (k:Nat) (a:Act) (w:World):Prop:=
 ∃ f i,a=fr 49 f [(0,c),(1,d),(2,.bool b),(18,.int .i64 (n:Nat)),(19,.int .i64 (i:Nat))]∧Below w1.heap.size w1 w∧k=n-i∧i≤n
theorem AQ {p:bS}:∀ {l acc:List bS},(∀ q∈acc,q.attrs.length≤1000000000)→(∀ q∈l,q.attrs.length≤1000000000)→p∈l.foldl cQ acc→p.attrs.length≤1000000000
 | [],acc,d,_,h=>d p h
 | a::l,acc,d,e,h=>by
  refine AQ (l:=l) (acc:=cQ acc a) ?_ (fun q c=>e q (by simp [c])) h;intro q c;unfold cQ at c;split at c
  ·exact d q c
  ·split at c
   ·rename_i g f;split at c
    ·rcases List.mem_append.1 c with b|b
     ·exact d q (List.dropLast_subset _ b)
     ·simp only [List.mem_singleton] at b;rw [b];exact d g (List.mem_of_getLast? f)
    ·rcases List.mem_append.1 c with b|b
     ·exact d q b
     ·simp only [List.mem_singleton] at b;rw [b];exact e a (by simp)
   ·rcases List.mem_append.1 c with b|b
    ·exact d q b
    ·simp only [List.mem_singleton] at b;rw [b];exact e a (by simp)
def jH (p:bS):bS:={ p with at':=0,line:=0,col:=0 }
theorem CC {p q:bS} (h:jH p=jH q):p.kind=q.kind∧p.space=q.space∧p.loc=q.loc∧p.attrs=q.attrs∧p.text=q.text:=by
 simp only [jH,bS.mk.injEq] at h;exact ⟨h.1,h.2.1,h.2.2.1,h.2.2.2.1,h.2.2.2.2.1⟩
theorem TM {p q:bS} (a:p.kind=q.kind) (b:p.space=q.space) (c:p.loc=q.loc) (d:p.attrs=q.attrs) (e:p.text=q.text):jH p=jH q:=by
 simp only [jH,bS.mk.injEq];exact ⟨a,b,c,d,e,trivial,trivial,trivial⟩
theorem LU {acc a:List bS} {p i:bS} (h:a.map jH=acc.map jH) (f:jH i=jH p):(cQ a i).map jH=(cQ acc p).map jH:=by
 obtain ⟨r,t,u,v,s⟩:=CC f;unfold cQ;rw [r,s];by_cases d:p.kind=3∧p.text=[]
 ·rw [aY d,aY d];exact h
 ·rw [aQ d,aQ d];have c:a.getLast?.map jH=acc.getLast?.map jH:=by rw [←List.getLast?_map,←List.getLast?_map,h]
  cases g:acc.getLast? with
  | none=>
   rw [g] at c;cases b:a.getLast? with
   | none=>simp only [List.map_append,List.map_cons,List.map_nil,h,f]
   | some q'=>rw [b] at c;cases c
  | some q=>
   rw [g] at c;cases b:a.getLast? with
   | none=>rw [b] at c;cases c
   | some q'=>
    rw [b] at c;simp only [Option.map_some,jW] at c;obtain ⟨k,l,m,n,o⟩:=CC c;simp only [k];by_cases e:p.kind=3∧q.kind=3
    ·rw [aY e,aY e];have j:a.dropLast.map jH=acc.dropLast.map jH:=by rw [List.map_dropLast,List.map_dropLast,h]
     simp only [List.map_append,List.map_cons,List.map_nil,j]
     congr 2
     exact TM rfl l m n (by show q'.text++p.text=q.text++p.text;rw [o])
    ·rw [aQ e,aQ e];simp only [List.map_append,List.map_cons,List.map_nil,h,f]
theorem vL:∀ {l l' acc a:List bS},l'.map jH=l.map jH→a.map jH=acc.map jH→(l'.foldl cQ a).map jH=(l.foldl cQ acc).map jH
 | [],[],_,_,_,h=>h
 | [],_::_,_,_,h,_=>by simp at h
 | _::_,[],_,_,h,_=>by simp at h
 | p::l,p'::l',acc,a,h,b=>by
  simp only [List.map_cons,List.cons.injEq] at h;exact vL (l:=l) (l':=l') h.2 (LU b h.1)
theorem CD {l l':List bS} (h:l'.map jH=l.map jH):eF l'=eF l:=by
 have e:∀ k:List bS,k.map (fun p=>p.text.length)=(k.map jH).map fun p=>p.text.length:=fun k=>by rw [List.map_map];rfl
 unfold eF;rw [e l',h,←e l]
theorem WT (w0:World) (l l':List bS) (pl:Bool) (Z:l'.map jH=l.map jH) (d9:pl=true→l'=l) (y:l.length≤1000000000) (c:eF l≤4611686018427387904) (d0:∀ q∈l,q.attrs.length≤1000000000) (A A':Option Addr) (C C':Nat)
  (d2:0<l.length→∃ g ro,A=some ⟨g,ro,none⟩∧g<w0.heap.size∧∀ i p,l[i]?=some p→jS w0 g (ro+i*6) w0.heap.size p)
  (N:0<l.length→∃ g ro,A'=some ⟨g,ro,none⟩∧g<w0.heap.size∧∀ i p,l'[i]?=some p→jS w0 g (ro+i*6) w0.heap.size p) :
  Calls prog 10 #[.slice A l.length C,.slice A' l.length C',.bool pl] w0 fun e w'=>e=.returned (.bool true)∧Below w0.heap.size w0 w':=by
 have d5:l'.length=l.length:=by have:=congrArg List.length Z;simpa using this
 have b7:=Lh (EF w0 l y c A C d2);have ⟨L,R,cT,f6,M,Q⟩:=gT N d5 Z d9 y c;have a7:=Lh (fun p (G:p∈fO l)=>AQ (p:=p) (l:=l) (acc:=[]) (by simp) d0 G);clear y c d2 N d0 d5 Z d9;refine eL 49 func10 [_,_,_] fun f=>?_;simp only [aF];refine vg ?_;intro K hK K hK;refine b7.o.mono ?_;rintro e1 w1 ⟨va,xs,rfl,s,d8,e3,P⟩;have ⟨a8,D,U,b9⟩:=kS s d8 e3 P;have T:=Lh (EF w1 l' (by rw [R.o];exact M.o) (by rw [CD cT.o];exact Q.o) A' C' (fun h=>by
  obtain ⟨g,ro,h1,h2,h3⟩:=L.o (by rw [←R.o];exact h);refine ⟨g,ro,h1,pL h2 s.size,fun i p G=>?_⟩;obtain ⟨sa,sl,sc,c0,c1,c2,c3,c4,c5,c6,c7⟩:=(h3 i p G).ex;have tr:∀ j v,w0.cell? ⟨g,j,none⟩=some v→w1.cell? ⟨g,j,none⟩=some v:=fun j v h=>(s.cell (p:=⟨g,j,none⟩) h2).trans h;exact ⟨sa,sl,sc,tr _ _ c0,tr _ _ c1,tr _ _ c2,tr _ _ c3,tr _ _ c4,tr _ _ c5,aE (S:=fun _=>False) c6 (aH s _) (fun _ _=>id),fun k hk=>pL (c7 k hk) s.size⟩))
 rw [R.o] at T;clear s d8 e3 P b7 L;(repeat revert K);refine vS ?_;intro K hK K hK;refine T.o.mono ?_;rintro e2 H ⟨vb,ys,rfl,V,F,a6,d6⟩;obtain ⟨m,hm⟩:=cK (fO l);obtain ⟨m',E⟩:∃ m',m'=fO l':=⟨_,rfl⟩;have Y:m'.map jH=m.map jH:=by rw [hm,E];exact vL cT.o rfl
 have d7:pl=true→m'=m:=fun h=>by rw [hm,E,f6.o h]
 have O:m'.length=m.length:=by have:=congrArg List.length Y;simpa using this
 rw [←E] at F a6;rw [O] at F;rw [←hm] at D U b9 a7;have ⟨f3,f4⟩:=cB Y d7;have a9:=Lh (a8.o.trans (V.mono a8.o.size));have z:aJ (fun _=>False) w1 H:=aH V _;have c8:=Lh (aE (S:=fun _=>False) D.o z (fun _ _=>id));have dI:=Lh (U.o.mono (fun _ _ hh=>lW.mod (G':=fun k=>k<w0.heap.size) hh z (fun k hk _=>⟨id,hk⟩)));have ⟨c9,gB⟩:=cB F a6;obtain ⟨aA,aC,rfl⟩:∃ aA aC,va=.slice aA m.length aC:=by
  rcases D.o.2 with ⟨r,h8⟩|⟨g,cap,cur,r,_⟩
  ·exact ⟨none,0,by rw [r,h8]⟩
  ·exact ⟨_,_,r⟩
 obtain ⟨bA,bC,rfl⟩:∃ bA bC,vb=.slice bA m.length bC:=by
  rcases c9.o.2 with ⟨r,h8⟩|⟨g,cap,cur,r,_⟩
  ·exact ⟨none,0,by rw [r,h8]⟩
  ·exact ⟨_,_,r⟩
 clear V F a6 d6 hm E Y d7 O z T D U;(repeat revert K);refine vS ?_;intro K hK;refine cG [0,1,2,18,19] fun f=>?_;refine wp_loop_ghost_k (ZN H (.slice aA m.length aC) (.slice bA m.length bC) pl m.length) m.length ⟨f,0,rfl,Below.refl _ H,rfl,jU _⟩ ?_;rintro k _ w ⟨f,i,rfl,hb,hk,hi⟩ J K2 hJ dT;have ⟨HJ,b6,t,HK⟩:=kS hJ dT hb hk;clear hJ dT hb hk;by_cases X:i<m.length
 rotate_left
 ·have g0:i=m.length:=by omega
  subst g0;have t1:¬ ((m.length:Int)<(m.length:Int)):=by omega
  revert K;refine vg ?_;refine cM ?_;exact ⟨rfl,a9.o.trans (t.o.mono a9.o.size)⟩
 have t0:(0:Int)≤(i:Int):=by omega
 have t1:(i:Int)<(m.length:Int):=by omega
 have wi:IntKind.i64.wrap ((i:Int)+1)=((i+1:Nat):Int):=by rw [IntKind.wrap_i64];have:=M.o;have:=b9.o;omega
 obtain ⟨p,G⟩:∃ p,m[i]?=some p:=⟨m[i],by simp [X]⟩;have e8:=Lh (a7.o p (List.mem_of_getElem? G));obtain ⟨p',B,e0⟩:∃ p',m'[i]?=some p'∧jH p'=jH p:=by
  have r:=congrArg (fun k:List bS=>k[i]?) f3.o;simp only [List.getElem?_map,G,Option.map_some] at r;cases h8:m'[i]? with
  | none=>rw [h8] at r;cases r
  | some p'=>rw [h8] at r;exact ⟨p',rfl,by simpa using r⟩
 have f7:=Lh (show pl=true→p'.at'=p.at' from fun h=>by
  rw [f4.o h,G] at B;simp only [jW] at B;rw [B])
 obtain ⟨n1,n2,n3,n4,n5⟩:=CC e0;obtain ⟨ga,ca,e4,_,u,_,_,d3⟩:=gL c8.o (by omega);obtain ⟨gb,cb,e6,_,x,_,_,d4⟩:=gL c9.o (by omega);simp only [Value.slice.injEq] at e4 e6;obtain ⟨rfl,_,rfl⟩:=e4;obtain ⟨rfl,_,rfl⟩:=e6;obtain ⟨sa,sl,sc,a0,a1,a2,a3,a4,a5,d1,_⟩:=(tJ dI.o d3 G).ex;obtain ⟨g1,g3,g2,b0,b1,b2,b3,b4,b5,W,_⟩:=(tJ gB.o d4 B).ex;rw [n1] at b0;rw [n2] at b1;rw [n3] at b2;rw [n4] at W;rw [n5] at b4;have d:∀ j v,H.cell? ⟨ga,j,none⟩=some v→w.cell? ⟨ga,j,none⟩=some v:=fun j v h=>(t.o.cell (p:=⟨ga,j,none⟩) u).trans h;have n:∀ j v,H.cell? ⟨gb,j,none⟩=some v→w.cell? ⟨gb,j,none⟩=some v:=fun j v h=>(t.o.cell (p:=⟨gb,j,none⟩) x).trans h;replace a0:=d _ _ a0;replace a1:=d _ _ a1;replace a2:=d _ _ a2;replace a3:=d _ _ a3;replace a4:=d _ _ a4;replace a5:=d _ _ a5;replace b0:=n _ _ b0;replace b1:=n _ _ b1;replace b2:=n _ _ b2;replace b3:=n _ _ b3;replace b4:=n _ _ b4;replace b5:=n _ _ b5;have ⟨f1,f2,e7,e9⟩:=kS u x a5 b5;have I:=Lh (fun (k:Nat)=>TH (w.drewN k) p p'.at' e8.o 0 0 sa sl sc g1 g3 g2 (aE (S:=fun _=>False) d1 (eE (aH t.o (fun _=>False)) rfl rfl rfl rfl) (fun _ _=>id)) (aE (S:=fun _=>False) W (eE (aH t.o (fun _=>False)) rfl rfl rfl rfl) (fun _ _=>id)));clear d3 d4 d1 W d n u x G B e0 n1 n2 n3 n4 n5;cases pl with
 | false=>
  revert K;refine vg ?_;intro K hK K hK K hK;(refine lD [0,0,0,1,0,0,0,1,2,0,0,0,0,0,0,0,0,1,0,0,0,0,1,0,0,0] [0,1,2,3,4,5,6,7,8,9,10,11,12,13,14,15,16,17,18,19,20,21,22,23,24,25] ?_;refine vP ?_;repeat with_reducible intro nq)
  refine bI rfl rfl (fun nq K hK=>?_);go_simp;refine (I.o _).mono ?_;rintro e5 w5 ⟨rfl,b⟩;have a:=Lh (show Below H.heap.size H w5 from t.o.trans ((show Below w.heap.size w w5 from ⟨b.os,b.tape,b.output,b.size,b.block⟩).mono t.o.size));clear b;go_simp;refine hK.out _ _ ?_;clear hK K;(refine vP ?_;repeat with_reducible intro nq)
  (repeat revert K);refine vg ?_;intro K hK;refine Kk [0,1,2,18,19] fun f=>?_;exact b6.o _ _ ⟨m.length-(i+1),by rw [HK.o];omega,HJ.o _ _ _ ⟨f,i+1,rfl,⟨a.o.os,a.o.tape,a.o.output,a.o.size,a.o.block⟩,rfl,X⟩⟩
 | true=>
  revert K;refine vg ?_;intro K hK K hK K hK;(refine lD [0,0,0,1,0,0,0,1,2,0,0,0,0,0,0,0,0,1,0,0,0,0,1,0,0,0] [0,1,2,3,4,5,6,7,8,9,10,11,12,13,14,15,16,17,18,19,20,21,22,23,24,25] ?_;refine vP ?_;repeat with_reducible intro nq)
  refine bI rfl rfl (fun nq K hK=>?_);go_simp;refine (I.o _).mono ?_;rintro e5 w5 ⟨rfl,b⟩;have o:Below w.heap.size w w5:=⟨b.os,b.tape,b.output,b.size,b.block⟩;have a:=Lh (show Below H.heap.size H w5 from t.o.trans (o.mono t.o.size));have g4:w5.cell? ⟨ga,i*6+5,none⟩=some (.int .i64 p.at'):=(o.cell (p:=⟨ga,i*6+5,none⟩) (pL f1.o t.o.size)).trans e7.o;have g5:w5.cell? ⟨gb,i*6+5,none⟩=some (.int .i64 p.at'):=by
   rw [←f7.o rfl];exact (o.cell (p:=⟨gb,i*6+5,none⟩) (pL f2.o t.o.size)).trans e9.o
  clear b o a0 a1 a2 a3 a4 a5 b0 b1 b2 b3 b4 b5;go_simp;refine hK.out _ _ ?_;clear hK K;(refine vP ?_;repeat with_reducible intro nq)
  (repeat revert K);refine vg ?_;intro K hK;refine Kk [0,1,2,18,19] fun f=>?_;exact b6.o _ _ ⟨m.length-(i+1),by rw [HK.o];omega,HJ.o _ _ _ ⟨f,i+1,rfl,⟨a.o.os,a.o.tape,a.o.output,a.o.size,a.o.block⟩,rfl,X⟩⟩
theorem WU (w0:World) (l:List bS) (c:l.length≤1000000000) (a:eF l≤4611686018427387904) (h:∀ q∈l,q.attrs.length≤1000000000) (A f:Option Addr) (C k:Nat)
  (j:0<l.length→∃ g d,A=some ⟨g,d,none⟩∧g<w0.heap.size∧∀ i p,l[i]?=some p→jS w0 g (d+i*6) w0.heap.size p)
  (b:0<l.length→∃ g d,f=some ⟨g,d,none⟩∧g<w0.heap.size∧∀ i p,l[i]?=some p→jS w0 g (d+i*6) w0.heap.size p) (m:Bool) :
  Calls prog 10 #[.slice A l.length C,.slice f l.length k,.bool m] w0 fun e w'=>e=.returned (.bool true)∧Below w0.heap.size w0 w':=
 WT w0 l l m rfl (fun _=>rfl) c a h A f C k j b
end Go.Proofs.YthapcchcahnfaaaGreatDoor
