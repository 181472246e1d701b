/- Part of the proof that laws.FnWithin returns true for every argument. No conditions. -/
import Derived.Test.YthapcchcahnfaaaGreatDoorQ37
import Derived.Test.YthapcchcahnfaaaGreatDoorQ38
set_option linter.all false
set_option maxHeartbeats 8000000
set_option maxRecDepth 100000
namespace Go.Proofs.YthapcchcahnfaaaGreatDoor
open Go Go.RowKit
def cZ (acc:List cA) (p:cA):List cA:=
 if p.kind=3∧p.text=[] then acc
 else match acc.getLast? with
  | some q=>if p.kind=3∧q.kind=3 then acc.dropLast++[{ q with text:=q.text++p.text,at':=p.at' }] else acc++[p]
  | none=>acc++[p]
def fS (l:List cA):List cA:=l.foldl cZ []
structure qR (w:World) (g o:Nat) (b:Nat) (p:cA):Prop where
 ex:∃ a d c,w.cell? ⟨g,o,none⟩=some (.int .i64 p.kind)∧w.cell? ⟨g,o+1,none⟩=some (aB p.space)∧w.cell? ⟨g,o+2,none⟩=some (aB p.loc)∧w.cell? ⟨g,o+3,none⟩=some (.slice a d c)∧w.cell? ⟨g,o+4,none⟩=some (aB p.text)∧w.cell? ⟨g,o+5,none⟩=some (.int .i64 p.at') ∧
  w.ownsRow 0 68 3 (.slice a d c) p.attrs.length (aO p.attrs)∧∀ k,(Value.slice a d c).ownBlock=some k→k<b
theorem mD.len {w:World} {a:Nat} {G:Nat→Prop} {p:cA} {b:List Value} (h:mD w a G p b):b.length=6:=by
 obtain ⟨_,_,_,rfl,_⟩:=h;rfl
theorem wJ {w:World} {b:Nat} {e:TypeId} {a:Nat} {v:Value} {n:Nat} {i:List Value} (h:w.ownsRow b e a v n i):w.ownsRow 0 e a v n i:=by
 obtain ⟨f,j|⟨g,c,d,k,m,l⟩⟩:=h
 ·exact ⟨f,aG j⟩
 ·exact ⟨f,aX ⟨g,c,d,k,kW _,l⟩⟩
theorem wV {w:World} {d g:Nat} {l:List cA} {f:List Value} {G:Nat→Prop} (b:cF (mD w d G) l f) (a:∀ k u,f[k]?=some u→w.cell? ⟨g,k,none⟩=some u) {i:Nat} {p:cA} (j:l[i]?=some p):qR w g (i*6) w.heap.size p:=by
 obtain ⟨s,⟨o,r,q,rfl,e,_⟩,c⟩:=b.get (n:=6) (fun _ _ h=>h.len) j;refine ⟨o,r,q,a _ _ ((c 0 (by omega)).trans rfl),a _ _ ((c 1 (by omega)).trans rfl),a _ _ ((c 2 (by omega)).trans rfl),a _ _ ((c 3 (by omega)).trans rfl),a _ _ ((c 4 (by omega)).trans rfl),a _ _ ((c 5 (by omega)).trans rfl),wJ e,fun k m=>(aS e m).1⟩
theorem qS {w:World} {a g n c:Nat} {e:TypeId} {f:Nat} {i:List Value} (h:w.ownsRow a e f (.slice (some ⟨g,0,none⟩) n c) n i) (j:Nat) (v:j<n*f) (u:Value):(w.setCell ⟨g,j,none⟩ u).ownsRow a e f (.slice (some ⟨g,0,none⟩) n c) n (i.set j u):=by
 obtain ⟨k,l⟩:=h;refine ⟨by rw [List.length_set];exact k,?_⟩;rcases l with ⟨d,_⟩|⟨g',cap',cur,d,m,o,p,q,r,s⟩
 ·simp at d
 ·simp only [Value.slice.injEq,kQ,Addr.mk.injEq] at d;obtain ⟨⟨rfl,_⟩,_,rfl⟩:=d;refine aX ⟨_,_,cur.setIfInBounds j u,rfl,m,aJ.set (w:=w) (b:=g) (cs:=cur) (t:=e) o j u,p,q,by simpa using r,?_⟩;rw [Array.toList_setIfInBounds,List.take_set,s]
theorem cF.unsnoc {α:Type} {P:α→List Value→Prop} {l:List α} {a:α} {d:List Value} (h:cF P (l++[a]) d):∃ e f,d=e++f∧cF P l e∧P a f:=by
 generalize c:l++[a]=m at h;cases h with
 | nil=>simp at c
 | snoc g i=>
  obtain ⟨rfl,b⟩:=List.append_inj' c rfl;simp only [List.cons.injEq,and_true] at b;subst b;exact ⟨_,_,rfl,g,i⟩
def fG (l:List cA):Nat:=(l.map fun p=>p.text.length).sum
theorem CO {l:List cA} {i:Nat} {p:cA} (h:l[i]?=some p):fG (l.take (i+1))=fG (l.take i)+p.text.length:=by
 unfold fG;rw [List.take_add_one,h];simp
theorem IA (l:List cA) (i:Nat):fG (l.take i)≤fG l:=by
 unfold fG;conv=>rhs;rw [←List.take_append_drop i l,List.map_append,List.sum_append]
 omega
theorem EY {l:List cA} {i:Nat} {p:cA} (h:l[i]?=some p):fS (l.take (i+1))=cZ (fS (l.take i)) p:=by
 unfold fS;rw [List.take_add_one,h];simp
theorem L4 {acc:List cA} {p:cA} (a:p.kind=3) (b:p.text=[]):cZ acc p=acc:=by
 unfold cZ;rw [aT ⟨a,b⟩]
theorem L5 {acc:List cA} {p q:cA} (a:p.kind=3) (b:p.text≠[]) (c:q.kind=3):cZ (acc++[q]) p=acc++[{ q with text:=q.text++p.text,at':=p.at' }]:=by
 unfold cZ;rw [aM (fun h=>b h.2)];simp only [List.getLast?_append,List.getLast?_singleton,Option.some_or];rw [aT ⟨a,c⟩];simp
theorem yR {acc:List cA} {p q:cA} (a:¬ (p.kind=3∧p.text=[])) (b:¬ (p.kind=3∧q.kind=3)):cZ (acc++[q]) p=acc++[q]++[p]:=by
 unfold cZ;rw [aM a];simp only [List.getLast?_append,List.getLast?_singleton,Option.some_or];rw [aM b]
theorem yS {p:cA} (a:¬ (p.kind=3∧p.text=[])):cZ [] p=[]++[p]:=by
 unfold cZ;rw [aM a];rfl
theorem mZ {w:World} {a g n d:Nat} {e:TypeId} {i:Nat} {k:List Value} (h:w.ownsRow a e i (.slice (some ⟨g,0,none⟩) n d) n k) (j:Nat):w.frozen? ⟨g,j,none⟩=false:=by
 rcases h.2 with ⟨c,_⟩|⟨g8,cap8,cur8,c,_,f,_⟩
 ·simp at c
 ·simp only [Value.slice.injEq,kQ,Addr.mk.injEq] at c;obtain ⟨⟨rfl,_⟩,_⟩:=c;exact aJ.frozen (w:=w) (b:=g) (cs:=cur8) (t:=e) f j
theorem zW {w:World} {a n:Nat} {e:TypeId} {b:Nat} {v:Value} {c:List Value} (h:w.ownsRow a e b v n c) (k:Nat):(w.drewN k).ownsRow a e b v n c:=h
def vZ (w0:World) (a:Value) (l:List cA) (k:Nat) (c:Act) (w:World):Prop:=
 ∃ f i out b,c=fr 65 f [(3,out),(7,a),(8,.int .i64 (l.length:Nat)),(9,.int .i64 (i:Nat))]∧Below w0.heap.size w0 w∧w.ownsRow w0.heap.size 35 6 out (fS (l.take i)).length b∧cF (mD w 0 (fun k=>k<w0.heap.size)) (fS (l.take i)) b∧(∀ q∈fS (l.take i),q.text.length≤fG (l.take i))∧(fS (l.take i)).length≤i∧k=l.length-i∧i≤l.length
theorem vZ.same {w0:World} {b:Value} {l:List cA} {k:Nat} {e:Act} {w w':World} (h:vZ w0 b l k e w) (s:w'.os=w.os) (t:w'.tape=w.tape) (u:w'.output=w.output) (v:w'.heap=w.heap):vZ w0 b l k e w':=by
 obtain ⟨r,A,a,d,g,f,j,m,n,o,p,q⟩:=h;have c:aK (fun _=>False) w w':=eM (aK.refl _ w) s t u v;exact ⟨r,A,a,d,g,aK.below f f.size c (fun i y=>y.elim),aE j c (fun _ _=>id),m.mono (fun _ _ x=>mD.mod (G':=fun k=>k<w0.heap.size) x c (fun k z _=>⟨id,z⟩)),n,o,p,q⟩
theorem EZ (w0:World) (l:List cA) (b8:l.length≤1000000000) (a4:fG l≤4611686018427387904) (A:Option Addr) (C:Nat) (d7:0<l.length→∃ g ro,A=some ⟨g,ro,none⟩∧g<w0.heap.size∧∀ i p,l[i]?=some p→qR w0 g (ro+i*6) w0.heap.size p) :
  Calls Tryz.prog 21 #[.slice A l.length C] w0 fun e w'=>∃ out xs,e=.returned out∧Below w0.heap.size w0 w'∧w'.ownsRow w0.heap.size 35 6 out (fS l).length xs∧cF (mD w' 0 (fun k=>k<w0.heap.size)) (fS l) xs∧(fS l).length≤l.length:=by
 have ⟨O,c6,f1⟩:=lQ b8 a4 d7;clear b8 a4 d7;refine eT 65 Tryz.func21 [_] fun f=>?_;simp only [aF];refine vg ?_;intro K hK;refine cM [3,7,8,9] fun f=>?_;refine wp_loop_ghost_k (vZ w0 (.slice A l.length C) l) l.length ⟨f,0,.slice none 0 0,[],rfl,Below.refl _ w0,⟨rfl,aG ⟨rfl,rfl⟩⟩,.nil,by simp [fS],by simp [fS],by simp,kW _⟩ ?_;rintro k _ w ⟨f,i,out,xs,rfl,hb,b9,a6,e9,e4,y,hi⟩ J K2 hJ d6;have ⟨HJ,a2,HB,X,Q,R⟩:=iD hJ d6 hb b9 a6 e9;have ⟨I,HK⟩:=cH e4 y;clear hJ d6 hb b9 a6 e9 e4 y;by_cases aA:i<l.length
 rotate_left
 ·have hA:i=l.length:=by omega
  subst hA;have t1:¬ ((l.length:Int)<(l.length:Int)):=by omega
  revert K;refine vg ?_;refine cX ?_;have h2:=X.o;have h3:=Q.o;have h4:=I.o;rw [List.take_length] at h2 h3 h4;exact ⟨out,xs,rfl,HB.o,h2,h3,h4⟩
 have t0:(0:Int)≤(i:Int):=by omega
 have t1:(i:Int)<(l.length:Int):=by omega
 have wi:IntKind.i64.wrap ((i:Int)+1)=((i+1:Nat):Int):=by rw [IntKind.wrap_i64];have:=O.o;omega
 obtain ⟨p,hp⟩:∃ p,l[i]?=some p:=⟨l[i],by simp [aA]⟩;obtain ⟨g,ro,rfl,d9,cT⟩:=f1.o (by omega);obtain ⟨U,W,V,c0,c1,c2,c3,c4,c5,d0,e7⟩:=(cT i p hp).ex;have tr:∀ j v,w0.cell? ⟨g,j,none⟩=some v→w.cell? ⟨g,j,none⟩=some v:=fun j v h=>(HB.o.cell (p:=⟨g,j,none⟩) d9).trans h;replace c0:=tr _ _ c0;replace c1:=tr _ _ c1;replace c2:=tr _ _ c2;replace c3:=tr _ _ c3;replace c4:=tr _ _ c4;replace c5:=tr _ _ c5;have ⟨hM,Y⟩:=cH d0 e7;have m:=Lh (EY hp);have Z:=Lh (CO hp);have d5:=Lh (gA (IA l (i+1)) c6.o);obtain ⟨o,b4⟩:=cR (w.alloc (.cells #[.int .i64 p.kind,aB p.space,aB p.loc,.slice U W V,aB p.text,.int .i64 p.at'] 35));have c9:aJ o w.heap.size #[.int .i64 p.kind,aB p.space,aB p.loc,.slice U W V,aB p.text,.int .i64 p.at'] 35:=by rw [b4];exact aJ.new w _ _
 have aC:aK (fun _=>False) w o:=by rw [b4];exact (aK.refl _ w).alloc _
 have ⟨f2,f4⟩:=cH c9 aC;have F:=Lh (show Below w0.heap.size w0 o from aK.below HB.o HB.o.size aC (fun i hi=>hi.elim));have b:=Lh (aE (S:=fun _=>False) X.o aC (fun _ _=>id));have r:=Lh (Q.o.mono (fun _ _ hh=>mD.mod (G':=fun k=>k<w0.heap.size) hh aC (fun k y _=>⟨id,y⟩)));have a3:=Lh (show o.ownsRow 0 68 3 (.slice U W V) p.attrs.length (aO p.attrs) from aE (S:=fun k=>False) (aE (S:=fun _=>False) d0 (aH HB.o _) (fun _ _=>id)) aC (fun _ _=>id));have hO:=c9.cell;clear hp cT tr d0 e7 c9 aC d9;revert K;refine vT 5 ?_;intro K hK K hK;rw [←b4];clear b4 c0 c1 c2 c3 c4 c5;have f3:=Lh (fun g9 dI=>(aS X.o (g:=g9) dI).1);obtain ⟨acc,b7⟩:=cR (fS (l.take i));rw [←b7] at b r R I m;clear b7 X Q HB f4;obtain ⟨oA,oC,e6⟩:∃ oA oC,out=.slice oA acc.length oC:=by
  rcases b.o.2 with ⟨d,h8⟩|⟨g,g2,cur,d,_⟩
  ·exact ⟨none,0,by rw [d,h8]⟩
  ·exact ⟨_,_,d⟩
 subst e6;by_cases a:p.kind=3∧p.text=[]
 ·have e3:((p.kind:Int)==3)=true:=by rw [a.1];rfl
  have hD:p.text.isEmpty=true:=by rw [a.2];rfl
  have c:=Lh (L4 (acc:=acc) a.1 a.2);clear a;(repeat revert K);refine vg ?_;intro K hK;refine Kk [3,7,8,9] fun f=>?_;refine a2.o _ _ ⟨l.length-(i+1),by rw [HK.o];omega,HJ.o _ _ _ ⟨f,i+1,_,xs,rfl,F.o,by rw [m.o,c.o];exact b.o,by rw [m.o,c.o];exact r.o,?_,?_,rfl,aA⟩⟩
  ·rw [m.o,c.o,Z.o];intro z T;have:=R.o z T;omega
  ·rw [m.o,c.o];have:=I.o;omega
 by_cases y:p.kind=3
 rotate_left
 ·have e3:((p.kind:Int)==3)=false:=by rw [m6];omega
  have c:=Lh (show cZ acc p=acc++[p] from by
   rcases List.eq_nil_or_concat acc with d|⟨a0,q,d⟩
   ·rw [d];exact yS a
   ·rw [d];simp only [List.concat_eq_append];exact yR a (fun h=>y h.1))
  obtain ⟨w8,t⟩:=cR (o.alloc (.cells #[.int .i64 p.kind,aB p.space,aB p.loc,.slice U W V,aB p.text,.int .i64 p.at'] 35));have P:aJ w8 o.heap.size #[.int .i64 p.kind,aB p.space,aB p.loc,.slice U W V,aB p.text,.int .i64 p.at'] 35:=by rw [t];exact aJ.new o _ _
  have s:aK (fun _=>False) o w8:=by rw [t];exact (aK.refl _ o).alloc _
  obtain ⟨v',w9,E,D,G,hv,gv,cv,bA⟩:=nN tM Tryz.underlying23 rfl (by decide) (by decide) w8 w0.heap.size (gA F.o.size s.size) (.slice oA acc.length oC) acc.length (by have:=I.o;have:=O.o;omega) xs (aE (S:=fun _=>False) b.o s (fun _ _=>id)) o.heap.size (eS p (.slice U W V)) rfl
   (fun j u hj=>by rw [P.cell];simpa [eS] using hj)
   (fun u hu=>by
    simp only [eS,l6,zF,or_false] at hu;rcases hu with rfl|rfl|rfl|rfl|rfl|rfl<;>rfl)
  subst bA;have B:=Lh D;have H:=Lh (show aK (fun k=>w0.heap.size≤k) o w9 from (s.mono (fun _ _ h=>h.elim)).trans (G.mono (fun k _ y=>(aS b.o y).2)) (fun _ _ h=>h));clear P s D G hv;(repeat revert K);refine vB ?_;intro K hK K hK;rw [←t];clear t;refine fI rfl (.tmp 15) (.tmp 17) _ _ rfl _ _ _ (by rw [cB (by decide)];(try simp only [aL,aP,aR,aZ,Nat.reduceEqDiff,↓reduceIte]);(try rfl)) (by rw [cB (by decide)];(try simp only [aL,aP,aR,aZ,Nat.reduceEqDiff,↓reduceIte]);(try rfl)) E ?_;clear E;rw [fO (by decide)];(repeat revert K);refine vg ?_;intro K hK;refine Kk [3,7,8,9] fun f=>?_;refine a2.o _ _ ⟨l.length-(i+1),by rw [HK.o];omega,HJ.o _ _ _ ⟨f,i+1,_,_,rfl,aK.below F.o F.o.size H.o (fun _ h=>h),by rw [m.o,c.o];first|(rw [fU];exact B.o)|(have d:=B.o;simp only [fU,List.length_singleton,List.length_nil] at d ⊢;exact d),by rw [m.o,c.o];exact .snoc (r.o.mono (fun _ _ hh=>mD.mod (G':=fun k=>k<w0.heap.size) hh H.o (fun k y _=>⟨by omega,y⟩))) ⟨U,W,V,rfl,aE a3.o H.o (fun g hg he=>by have:=Y.o g hg;omega),Y.o⟩,?_,?_,rfl,aA⟩⟩
  ·rw [m.o,c.o,Z.o];intro z T;rcases List.mem_append.1 T with d|d
   ·have:=R.o z d;omega
   ·simp only [List.mem_singleton] at d;rw [d];omega
  ·rw [m.o,c.o,fU];have:=I.o;simp<;>omega
 have e3:((p.kind:Int)==3)=true:=by rw [y];rfl
 have a7:p.text≠[]:=fun h=>a ⟨y,h⟩;have hD:p.text.isEmpty=false:=by cases d:p.text with
  | nil=>exact absurd d a7
  | cons=>rfl
 rcases List.eq_nil_or_concat acc with d|⟨a0,q,d⟩
 ·subst d;have c8:=Lh a;clear a7 a y;have c:=Lh (show cZ ([]:List cA) p=([]:List cA)++[p] from yS c8.o);obtain ⟨w8,t⟩:=cR (o.alloc (.cells #[.int .i64 p.kind,aB p.space,aB p.loc,.slice U W V,aB p.text,.int .i64 p.at'] 35));have P:aJ w8 o.heap.size #[.int .i64 p.kind,aB p.space,aB p.loc,.slice U W V,aB p.text,.int .i64 p.at'] 35:=by rw [t];exact aJ.new o _ _
  have s:aK (fun _=>False) o w8:=by rw [t];exact (aK.refl _ o).alloc _
  obtain ⟨v',w9,E,D,G,hv,gv,cv,bA⟩:=nN tM Tryz.underlying23 rfl (by decide) (by decide) w8 w0.heap.size (gA F.o.size s.size) (.slice oA ([]:List cA).length oC) ([]:List cA).length (by have:=I.o;have:=O.o;omega) xs (aE (S:=fun _=>False) b.o s (fun _ _=>id)) o.heap.size (eS p (.slice U W V)) rfl
   (fun j u hj=>by rw [P.cell];simpa [eS] using hj)
   (fun u hu=>by
    simp only [eS,l6,zF,or_false] at hu;rcases hu with rfl|rfl|rfl|rfl|rfl|rfl<;>rfl)
  subst bA;have B:=Lh D;have H:=Lh (show aK (fun k=>w0.heap.size≤k) o w9 from (s.mono (fun _ _ h=>h.elim)).trans (G.mono (fun k _ y=>(aS b.o y).2)) (fun _ _ h=>h));clear P s D G hv;(repeat revert K);refine vB ?_;intro K hK K hK;rw [←t];clear t;refine fI rfl (.tmp 15) (.tmp 17) _ _ rfl _ _ _ (by rw [cB (by decide)];(try simp only [aL,aP,aR,aZ,Nat.reduceEqDiff,↓reduceIte]);(try rfl)) (by rw [cB (by decide)];(try simp only [aL,aP,aR,aZ,Nat.reduceEqDiff,↓reduceIte]);(try rfl)) E ?_;clear E;rw [fO (by decide)];(repeat revert K);refine vg ?_;intro K hK;refine Kk [3,7,8,9] fun f=>?_;refine a2.o _ _ ⟨l.length-(i+1),by rw [HK.o];omega,HJ.o _ _ _ ⟨f,i+1,_,_,rfl,aK.below F.o F.o.size H.o (fun _ h=>h),by rw [m.o,c.o];first|(rw [fU];exact B.o)|(have d:=B.o;simp only [fU,List.length_singleton,List.length_nil] at d ⊢;exact d),by rw [m.o,c.o];exact .snoc (r.o.mono (fun _ _ hh=>mD.mod (G':=fun k=>k<w0.heap.size) hh H.o (fun k y _=>⟨by omega,y⟩))) ⟨U,W,V,rfl,aE a3.o H.o (fun g hg he=>by have:=Y.o g hg;omega),Y.o⟩,?_,?_,rfl,aA⟩⟩
  ·rw [m.o,c.o,Z.o];intro z T;rcases List.mem_append.1 T with d|d
   ·have:=R.o z d;omega
   ·simp only [List.mem_singleton] at d;rw [d];omega
  ·rw [m.o,c.o,fU];have:=I.o;simp<;>omega
 ·rw [List.concat_eq_append] at d;subst d;obtain ⟨L,g2,e0,g5,hI,g6,g7,M⟩:=gY b.o (by simp);simp only [Value.slice.injEq] at e0;obtain ⟨rfl,_,rfl⟩:=e0;obtain ⟨ys,zs,bC,b5,hE⟩:=r.o.unsnoc;obtain ⟨qa,ql,qc,b0,d2,d1⟩:=hE;have N:ys.length=a0.length*6:=b5.len (fun _ _ h=>mD.len h);have T:∀ j v,(eS q (.slice qa ql qc))[j]?=some v→o.cell? ⟨L,a0.length*6+j,none⟩=some v:=fun j v hj=>by
   refine M _ _ ?_;rw [bC,C0 (by rw [N];omega),N,Nat.add_sub_cancel_left,b0];exact hj
  have z0:o.cell? ⟨L,a0.length*6,none⟩=some (.int .i64 q.kind):=T 0 _ rfl;have z4:o.cell? ⟨L,a0.length*6+4,none⟩=some (aB q.text):=T 4 _ rfl;have z5:o.cell? ⟨L,a0.length*6+5,none⟩=some (.int .i64 q.at'):=T 5 _ rfl;obtain ⟨n,hn⟩:=cR ((a0++[q]).length);have e5:n=a0.length+1:=by rw [hn];simp
  have wn:IntKind.i64.wrap ((n:Int)-1)=(a0.length:Int):=by rw [IntKind.wrap_i64];have h1:=I.o;rw [fU] at h1;have h2:=O.o;omega
  have u0:(0:Int)≤(a0.length:Int):=by omega
  have u1:(0:Int)<(n:Int):=by omega
  have u2:(a0.length:Int)<(n:Int):=by omega
  have u3:0<n:=by omega
  have u4:a0.length<n:=by omega
  rw [←hn];have ⟨d3,hL⟩:=cH hn e5;clear hn e5;by_cases a5:q.kind=3
  rotate_left
  ·have hC:((q.kind:Int)==3)=false:=by rw [m6];omega
   have ⟨c8,f6⟩:=cH a a5;clear a7 a y a5 T b0 d2 d1 b5 bC M;have c:=Lh (show cZ (a0++[q]) p=(a0++[q])++[p] from yR c8.o (fun h=>f6.o h.2));obtain ⟨w8,t⟩:=cR (o.alloc (.cells #[.int .i64 p.kind,aB p.space,aB p.loc,.slice U W V,aB p.text,.int .i64 p.at'] 35));have P:aJ w8 o.heap.size #[.int .i64 p.kind,aB p.space,aB p.loc,.slice U W V,aB p.text,.int .i64 p.at'] 35:=by rw [t];exact aJ.new o _ _
   have s:aK (fun _=>False) o w8:=by rw [t];exact (aK.refl _ o).alloc _
   obtain ⟨v',w9,E,D,G,hv,gv,cv,bA⟩:=nN tM Tryz.underlying23 rfl (by decide) (by decide) w8 w0.heap.size (gA F.o.size s.size) (.slice (some ⟨L,0,none⟩) (a0++[q]).length oC) (a0++[q]).length (by have:=I.o;have:=O.o;omega) xs (aE (S:=fun _=>False) b.o s (fun _ _=>id)) o.heap.size (eS p (.slice U W V)) rfl
    (fun j u hj=>by rw [P.cell];simpa [eS] using hj)
    (fun u hu=>by
     simp only [eS,l6,zF,or_false] at hu;rcases hu with rfl|rfl|rfl|rfl|rfl|rfl<;>rfl)
   subst bA;have B:=Lh D;have H:=Lh (show aK (fun k=>w0.heap.size≤k) o w9 from (s.mono (fun _ _ h=>h.elim)).trans (G.mono (fun k _ y=>(aS b.o y).2)) (fun _ _ h=>h));clear P s D G hv;(repeat revert K);refine vB ?_;intro K hK K hK;rw [←t];clear t;have dT:=d3.o;subst dT;refine fI rfl (.tmp 15) (.tmp 17) _ _ rfl _ _ _ (by rw [cB (by decide)];(try simp only [aL,aP,aR,aZ,Nat.reduceEqDiff,↓reduceIte]);(try rfl)) (by rw [cB (by decide)];(try simp only [aL,aP,aR,aZ,Nat.reduceEqDiff,↓reduceIte]);(try rfl)) E ?_;clear E;rw [fO (by decide)];(repeat revert K);refine vg ?_;intro K hK;refine Kk [3,7,8,9] fun f=>?_;refine a2.o _ _ ⟨l.length-(i+1),by rw [HK.o];omega,HJ.o _ _ _ ⟨f,i+1,_,_,rfl,aK.below F.o F.o.size H.o (fun _ h=>h),by rw [m.o,c.o];first|(rw [fU];exact B.o)|(have d:=B.o;simp only [fU,List.length_singleton,List.length_nil] at d ⊢;exact d),by rw [m.o,c.o];exact .snoc (r.o.mono (fun _ _ hh=>mD.mod (G':=fun k=>k<w0.heap.size) hh H.o (fun k y _=>⟨by omega,y⟩))) ⟨U,W,V,rfl,aE a3.o H.o (fun g hg he=>by have:=Y.o g hg;omega),Y.o⟩,?_,?_,rfl,aA⟩⟩
   ·rw [m.o,c.o,Z.o];intro z T;rcases List.mem_append.1 T with d|d
    ·have:=R.o z d;omega
    ·simp only [List.mem_singleton] at d;rw [d];omega
   ·rw [m.o,c.o,fU];have:=I.o;simp<;>omega
  have hC:((q.kind:Int)==3)=true:=by rw [a5];rfl
  have c:=Lh (L5 (acc:=a0) y a7 a5);have hR:q.text.length≤fG (l.take i):=R.o q (by simp);have a9:¬ 9223372036854775807<q.text.length+p.text.length:=by have h1:=Z.o;have h2:=d5.o;omega
  have g8:L≠w.heap.size:=by have:=f3.o L rfl;omega
  obtain ⟨x,a8⟩:=cR (q.text++p.text);have hG:(⟨q.text.toArray⟩:ByteArray)++⟨p.text.toArray⟩=⟨x.toArray⟩:=by rw [a8];exact gU _ _
  have e1:a0.length*6+4<(a0++[q]).length*6:=by simp;omega
  have e2:a0.length*6+5<(a0++[q]).length*6:=by simp;omega
  have b1:∀ k,((o.drewN k).setCell ⟨L,a0.length*6+4,none⟩ (aB x)).ownsRow w0.heap.size 35 6 (.slice (some ⟨L,0,none⟩) (a0++[q]).length oC) (a0++[q]).length (xs.set (a0.length*6+4) (aB x)):=fun k=>qS (zW b.o k) _ e1 _;have f9:=Lh (fun (k:Nat)=>qS (b1 k) (a0.length*6+5) e2 (.int .i64 p.at'));have hS:∀ k,((o.drewN k).setCell ⟨L,a0.length*6+4,none⟩ (aB x)).cell? ⟨L,a0.length*6+5,none⟩=some (.int .i64 q.at'):=fun k=>by
   obtain ⟨_,_,f0,_,_,_,_,g4⟩:=gY (b1 k) (by simp);simp only [Value.slice.injEq,kQ,Addr.mk.injEq] at f0;obtain ⟨⟨rfl,_⟩,_⟩:=f0;refine g4 _ _ ?_;rw [List.getElem?_set_ne (by omega),bC,C0 (by rw [N];omega),N,Nat.add_sub_cancel_left,b0];rfl
  have hQ:=fun k=>mZ (b1 k) (a0.length*6+5);have hP:=mZ b.o (a0.length*6+4);have gB:=Lh (fun (k:Nat)=>(show aJ ((o.drewN k).setCell ⟨L,a0.length*6+4,none⟩ (aB x)) w.heap.size _ _ from aJ.set_ne (w:=o.drewN k) f2.o (fun he=>g8 he.symm) _));have hN:=fun k=>(gB.o k).cell;have g0:=Lh (show (xs.set (a0.length*6+4) (aB x)).set (a0.length*6+5) (.int .i64 p.at')=ys++eS { q with text:=x,at':=p.at' } (.slice qa ql qc) by
   rw [bC,List.set_append_right _ _ (by rw [N];omega),N,Nat.add_sub_cancel_left,List.set_append_right _ _ (by rw [N];omega),N,Nat.add_sub_cancel_left,b0];rfl)
  have ⟨b6,g1,f7,d4,c7⟩:=pI a8 b5 d2 d1 g5;clear a y a5 a7 T b0 d2 d1 b5 bC M b1 a8 e1 e2 N g6 g7;(repeat revert K);refine vg ?_;intro K hK K hK K hK;(refine lI [0,0,0,0,0,1,0,1,0,0,0,2] [0,1,2,3,4,5,6,7,8,9,10,11] ?_;refine vP ?_;repeat with_reducible intro nq)
  (repeat revert K);refine vg ?_;intro K hK;refine Kk [3,7,8,9] fun f=>?_;have dT:=d3.o;subst dT;obtain ⟨w9,a1⟩:=cR (((o.drewN 0).setCell ⟨L,a0.length*6+4,none⟩ (aB x)).setCell ⟨L,a0.length*6+5,none⟩ (.int .i64 p.at'));have G:aK (fun k=>k=L) o w9:=by
   rw [a1];exact aK.setCell (S:=fun k=>k=L) (aK.setCell (S:=fun k=>k=L) ((aK.refl _ o).drewN _) (p:=⟨L,a0.length*6+4,none⟩) (aG rfl) _) (p:=⟨L,a0.length*6+5,none⟩) (aG rfl) _
  have e8:=f9.o 0;rw [←a1] at e8;have b3:fS (l.take (i+1))=a0++[{ q with text:=x,at':=p.at' }]:=by rw [m.o,c.o,b6.o]
  have b2:cF (mD w9 0 (fun k=>k<w0.heap.size)) (a0++[{ q with text:=x,at':=p.at' }]) (ys++eS { q with text:=x,at':=p.at' } (.slice qa ql qc)):=
   .snoc (g1.o.mono (fun _ _ hh=>mD.mod (G':=fun k=>k<w0.heap.size) hh G (fun k y _=>⟨fun he=>by have:=c7.o;omega,y⟩))) ⟨qa,ql,qc,rfl,aE f7.o G (fun g9 dI he=>by have h7:g9<w0.heap.size:=d4.o g9 dI;have:=c7.o;omega),d4.o⟩
  have g3:Below w0.heap.size w0 w9:=aK.below F.o F.o.size G (fun k y=>by rw [y];exact c7.o);have d8:vZ w0 (.slice (some ⟨g,ro,none⟩) l.length C) l (l.length-(i+1)) (fr 65 f [(3,.slice (some ⟨L,0,none⟩) (a0++[q]).length oC),(7,.slice (some ⟨g,ro,none⟩) l.length C),(8,.int .i64 (l.length:Nat)),(9,.int .i64 ((i+1:Nat):Int))]) w9:=by
   refine ⟨f,i+1,_,ys++eS { q with text:=x,at':=p.at' } (.slice qa ql qc),rfl,g3,?_,by rw [b3];exact b2,?_,?_,rfl,aA⟩
   ·have hB:(fS (l.take (i+1))).length=(a0++[q]).length:=by rw [b3];simp only [fU,List.length_singleton]
    rw [hB,←g0.o];exact e8
   ·rw [b3,Z.o];intro z T;rcases List.mem_append.1 T with d|d
    ·have:=R.o z (List.mem_append_left _ d);omega
    ·simp only [List.mem_singleton] at d;rw [d];show x.length≤_;rw [b6.o,fU];omega
   ·rw [b3];have:=I.o;simp only [fU,List.length_singleton] at this ⊢;omega
  have h8:vZ w0 (.slice (some ⟨g,ro,none⟩) l.length C) l (l.length-(i+1)) (fr 65 f [(3,.slice (some ⟨L,0,none⟩) (a0++[q]).length oC),(7,.slice (some ⟨g,ro,none⟩) l.length C),(8,.int .i64 (l.length:Nat)),(9,.int .i64 ((i+1:Nat):Int))]) _:=vZ.same (w':=((((o.drewN nq).drewN nq).setCell ⟨L,a0.length*6+4,none⟩ (aB x)).drewN nq).setCell ⟨L,a0.length*6+5,none⟩ (.int .i64 p.at')) d8 (by rw [a1];rfl) (by rw [a1];rfl) (by rw [a1];rfl) (by rw [a1];rfl);exact a2.o _ _ ⟨l.length-(i+1),by rw [HK.o];omega,HJ.o _ _ _ (vZ.same h8 rfl rfl rfl rfl)⟩
end Go.Proofs.YthapcchcahnfaaaGreatDoor
