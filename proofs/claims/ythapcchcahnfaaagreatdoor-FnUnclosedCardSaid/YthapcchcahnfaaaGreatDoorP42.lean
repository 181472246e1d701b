/- Part of the proof that laws.FnStrictIsLoose, laws.FnUnclosed, laws.FnReaderFails, laws.FnWithin, laws.FnSkip returns true for every argument. No conditions. -/
import Derived.Test.YthapcchcahnfaaaGreatDoorP35
import Derived.Test.YthapcchcahnfaaaGreatDoorP20
set_option linter.all false
set_option maxHeartbeats 8000000
set_option maxRecDepth 100000
namespace Go.Proofs.YthapcchcahnfaaaGreatDoor
open Go Go.RowKit Go.Proofs.Tryz
def dG (acc:List cD) (p:cD):List cD:=
 if p.kind=3∧p.text=[] then acc
 else match acc.getLast? with
  | some q=>if p.kind=3∧q.kind=3 then acc.dropLast++[{ q with text:=q.text++p.text,at':=p.at' }] else acc++[p]
  | none=>acc++[p]
def gC (l:List cD):List cD:=l.foldl dG []
structure iS (w:World) (g o:Nat) (b:Nat) (p:cD):Prop where
 ex:∃ a d c,w.cell? ⟨g,o,none⟩=some (.int .i64 p.kind)∧w.cell? ⟨g,o+1,none⟩=some (aB p.space)∧w.cell? ⟨g,o+2,none⟩=some (aB p.loc)∧w.cell? ⟨g,o+3,none⟩=some (.slice a d c)∧w.cell? ⟨g,o+4,none⟩=some (aB p.text)∧w.cell? ⟨g,o+5,none⟩=some (.int .i64 p.at') ∧
  w.ownsRow 0 68 3 (.slice a d c) p.attrs.length (aR p.attrs)∧∀ k,(Value.slice a d c).ownBlock=some k→k<b
theorem kC.len {w:World} {a:Nat} {G:Nat→Prop} {p:cD} {b:List Value} (h:kC w a G p b):b.length=6:=by
 obtain ⟨_,_,_,rfl,_⟩:=h;rfl
theorem xY {w:World} {b:Nat} {e:TypeId} {a:Nat} {v:Value} {n:Nat} {i:List Value} (h:w.ownsRow b e a v n i):w.ownsRow 0 e a v n i:=by
 obtain ⟨f,j|⟨g,c,d,k,m,l⟩⟩:=h
 ·exact ⟨f,aH j⟩
 ·exact ⟨f,aW ⟨g,c,d,k,iW _,l⟩⟩
theorem oJ {w:World} {d g:Nat} {l:List cD} {f:List Value} {G:Nat→Prop} (b:cI (kC w d G) l f) (a:∀ k u,f[k]?=some u→w.cell? ⟨g,k,none⟩=some u) {i:Nat} {p:cD} (j:l[i]?=some p):iS w g (i*6) w.heap.size p:=by
 obtain ⟨s,⟨o,r,q,rfl,e,_⟩,c⟩:=b.get (n:=6) (fun _ _ h=>h.len) j;refine ⟨o,r,q,a _ _ ((c 0 (by omega)).trans rfl),a _ _ ((c 1 (by omega)).trans rfl),a _ _ ((c 2 (by omega)).trans rfl),a _ _ ((c 3 (by omega)).trans rfl),a _ _ ((c 4 (by omega)).trans rfl),a _ _ ((c 5 (by omega)).trans rfl),xY e,fun k m=>(aU e m).1⟩
theorem rV {w:World} {a g n c:Nat} {e:TypeId} {f:Nat} {i:List Value} (h:w.ownsRow a e f (.slice (some ⟨g,0,none⟩) n c) n i) (j:Nat) (v:j<n*f) (u:Value):(w.setCell ⟨g,j,none⟩ u).ownsRow a e f (.slice (some ⟨g,0,none⟩) n c) n (i.set j u):=by
 obtain ⟨k,l⟩:=h;refine ⟨by rw [List.length_set];exact k,?_⟩;rcases l with ⟨d,_⟩|⟨g',cap',cur,d,m,o,p,q,r,s⟩
 ·simp at d
 ·simp only [Value.slice.injEq,kD,Addr.mk.injEq] at d;obtain ⟨⟨rfl,_⟩,_,rfl⟩:=d;refine aW ⟨_,_,cur.setIfInBounds j u,rfl,m,aJ.set (w:=w) (b:=g) (cs:=cur) (t:=e) o j u,p,q,by simpa using r,?_⟩;rw [Array.toList_setIfInBounds,List.take_set,s]
theorem cI.unsnoc {α:Type} {P:α→List Value→Prop} {l:List α} {a:α} {d:List Value} (h:cI P (l++[a]) d):∃ e f,d=e++f∧cI P l e∧P a f:=by
 generalize c:l++[a]=m at h;cases h with
 | nil=>simp at c
 | snoc g i=>
  obtain ⟨rfl,b⟩:=List.append_inj' c rfl;simp only [List.cons.injEq,and_true] at b;subst b;exact ⟨_,_,rfl,g,i⟩
def dP (l:List cD):Nat:=(l.map fun p=>p.text.length).sum
theorem D7 {l:List cD} {i:Nat} {p:cD} (h:l[i]?=some p):dP (l.take (i+1))=dP (l.take i)+p.text.length:=by
 unfold dP;rw [List.take_add_one,h];simp
theorem J2 (l:List cD) (i:Nat):dP (l.take i)≤dP l:=by
 unfold dP;conv=>rhs;rw [←List.take_append_drop i l,List.map_append,List.sum_append]
 omega
theorem GV {l:List cD} {i:Nat} {p:cD} (h:l[i]?=some p):gC (l.take (i+1))=dG (gC (l.take i)) p:=by
 unfold gC;rw [List.take_add_one,h];simp
theorem OB {acc:List cD} {p:cD} (a:p.kind=3) (b:p.text=[]):dG acc p=acc:=by
 unfold dG;rw [aV ⟨a,b⟩]
theorem OC {acc:List cD} {p q:cD} (a:p.kind=3) (b:p.text≠[]) (c:q.kind=3):dG (acc++[q]) p=acc++[{ q with text:=q.text++p.text,at':=p.at' }]:=by
 unfold dG;rw [aN (fun h=>b h.2)];simp only [List.getLast?_append,List.getLast?_singleton,Option.some_or];rw [aV ⟨a,c⟩];simp
theorem AT {acc:List cD} {p q:cD} (a:¬ (p.kind=3∧p.text=[])) (b:¬ (p.kind=3∧q.kind=3)):dG (acc++[q]) p=acc++[q]++[p]:=by
 unfold dG;rw [aN a];simp only [List.getLast?_append,List.getLast?_singleton,Option.some_or];rw [aN b]
theorem AU {p:cD} (a:¬ (p.kind=3∧p.text=[])):dG [] p=[]++[p]:=by
 unfold dG;rw [aN a];rfl
theorem nQ {w:World} {a g n d:Nat} {e:TypeId} {i:Nat} {k:List Value} (h:w.ownsRow a e i (.slice (some ⟨g,0,none⟩) n d) n k) (j:Nat):w.frozen? ⟨g,j,none⟩=false:=by
 rcases h.2 with ⟨c,_⟩|⟨g8,cap8,cur8,c,_,f,_⟩
 ·simp at c
 ·simp only [Value.slice.injEq,kD,Addr.mk.injEq] at c;obtain ⟨⟨rfl,_⟩,_⟩:=c;exact aJ.frozen (w:=w) (b:=g) (cs:=cur8) (t:=e) f j
theorem BE {w:World} {a n:Nat} {e:TypeId} {b:Nat} {v:Value} {c:List Value} (h:w.ownsRow a e b v n c) (k:Nat):(w.drewN k).ownsRow a e b v n c:=h
def xN (w0:World) (a:Value) (l:List cD) (k:Nat) (c:Act) (w:World):Prop:=
 ∃ f i out b,c=fr 65 f [(3,out),(7,a),(8,.int .i64 (l.length:Nat)),(9,.int .i64 (i:Nat))]∧Below w0.heap.size w0 w∧w.ownsRow w0.heap.size 35 6 out (gC (l.take i)).length b∧cI (kC w 0 (fun k=>k<w0.heap.size)) (gC (l.take i)) b∧(∀ q∈gC (l.take i),q.text.length≤dP (l.take i))∧(gC (l.take i)).length≤i∧k=l.length-i∧i≤l.length
theorem xN.same {w0:World} {b:Value} {l:List cD} {k:Nat} {e:Act} {w w':World} (h:xN w0 b l k e w) (s:w'.os=w.os) (t:w'.tape=w.tape) (u:w'.output=w.output) (v:w'.heap=w.heap):xN w0 b l k e w':=by
 obtain ⟨r,A,a,d,g,f,j,m,n,o,p,q⟩:=h;have c:aM (fun _=>False) w w':=eX (aM.refl _ w) s t u v;exact ⟨r,A,a,d,g,aM.below f f.size c (fun i y=>y.elim),aE j c (fun _ _=>id),m.mono (fun _ _ x=>kC.mod (G':=fun k=>k<w0.heap.size) x c (fun k z _=>⟨id,z⟩)),n,o,p,q⟩
theorem GW (w0:World) (l:List cD) (b6:l.length≤1000000000) (a3:dP l≤4611686018427387904) (A:Option Addr) (C:Nat) (d5:0<l.length→∃ g ro,A=some ⟨g,ro,none⟩∧g<w0.heap.size∧∀ i p,l[i]?=some p→iS w0 g (ro+i*6) w0.heap.size p) :
  Calls prog 21 #[.slice A l.length C] w0 fun e w'=>∃ out xs,e=.returned out∧Below w0.heap.size w0 w'∧w'.ownsRow w0.heap.size 35 6 out (gC l).length xs∧cI (kC w' 0 (fun k=>k<w0.heap.size)) (gC l) xs∧(gC l).length≤l.length:=by
 have ⟨O,b9,e9⟩:=mJ b6 a3 d5;clear b6 a3 d5;refine eI 65 func21 [_] fun f=>?_;simp only [aF];refine vg ?_;intro K hK;refine cP [3,7,8,9] fun f=>?_;refine wp_loop_ghost_k (xN w0 (.slice A l.length C) l) l.length ⟨f,0,.slice none 0 0,[],rfl,Below.refl _ w0,⟨rfl,aH ⟨rfl,rfl⟩⟩,.nil,by simp [gC],by simp [gC],by simp,iW _⟩ ?_;rintro k _ w ⟨f,i,out,xs,rfl,hb,b7,a5,e7,e2,y,hi⟩ J K2 hJ d4;have ⟨HJ,a1,HB,X,Q,R⟩:=iH hJ d4 hb b7 a5 e7;have ⟨I,HK⟩:=cN e2 y;clear hJ d4 hb b7 a5 e7 e2 y;by_cases aA:i<l.length
 rotate_left
 ·have g6:i=l.length:=by omega
  subst g6;have t1:¬ ((l.length:Int)<(l.length:Int)):=by omega
  revert K;refine vg ?_;refine cO ?_;have h2:=X.o;have h3:=Q.o;have h4:=I.o;rw [List.take_length] at h2 h3 h4;exact ⟨out,xs,rfl,HB.o,h2,h3,h4⟩
 have t0:(0:Int)≤(i:Int):=by omega
 have t1:(i:Int)<(l.length:Int):=by omega
 have wi:IntKind.i64.wrap ((i:Int)+1)=((i+1:Nat):Int):=by rw [IntKind.wrap_i64];have:=O.o;omega
 obtain ⟨p,hp⟩:∃ p,l[i]?=some p:=⟨l[i],by simp [aA]⟩;obtain ⟨g,ro,rfl,d7,b8⟩:=e9.o (by omega);obtain ⟨U,W,V,c0,c1,c2,c3,c4,c5,dI,e5⟩:=(b8 i p hp).ex;have tr:∀ j v,w0.cell? ⟨g,j,none⟩=some v→w.cell? ⟨g,j,none⟩=some v:=fun j v h=>(HB.o.cell (p:=⟨g,j,none⟩) d7).trans h;replace c0:=tr _ _ c0;replace c1:=tr _ _ c1;replace c2:=tr _ _ c2;replace c3:=tr _ _ c3;replace c4:=tr _ _ c4;replace c5:=tr _ _ c5;have ⟨hG,Y⟩:=cN dI e5;have m:=Lh (GV hp);have Z:=Lh (D7 hp);have d3:=Lh (fX (J2 l (i+1)) b9.o);obtain ⟨o,b2⟩:=cY (w.alloc (.cells #[.int .i64 p.kind,aB p.space,aB p.loc,.slice U W V,aB p.text,.int .i64 p.at'] 35));have c7:aJ o w.heap.size #[.int .i64 p.kind,aB p.space,aB p.loc,.slice U W V,aB p.text,.int .i64 p.at'] 35:=by rw [b2];exact aJ.new w _ _
 have aC:aM (fun _=>False) w o:=by rw [b2];exact (aM.refl _ w).alloc _
 have ⟨f0,f2⟩:=cN c7 aC;have F:=Lh (show Below w0.heap.size w0 o from aM.below HB.o HB.o.size aC (fun i hi=>hi.elim));have b:=Lh (aE (S:=fun _=>False) X.o aC (fun _ _=>id));have r:=Lh (Q.o.mono (fun _ _ hh=>kC.mod (G':=fun k=>k<w0.heap.size) hh aC (fun k y _=>⟨id,y⟩)));have a2:=Lh (show o.ownsRow 0 68 3 (.slice U W V) p.attrs.length (aR p.attrs) from aE (S:=fun k=>False) (aE (S:=fun _=>False) dI (aG HB.o _) (fun _ _=>id)) aC (fun _ _=>id));have hL:=c7.cell;clear hp b8 tr dI e5 c7 aC d7;revert K;refine vT 5 ?_;intro K hK K hK;rw [←b2];clear b2 c0 c1 c2 c3 c4 c5;have f1:=Lh (fun g9 c8=>(aU X.o (g:=g9) c8).1);obtain ⟨acc,b5⟩:=cY (gC (l.take i));rw [←b5] at b r R I m;clear b5 X Q HB f2;obtain ⟨oA,oC,e4⟩:∃ oA oC,out=.slice oA acc.length oC:=by
  rcases b.o.2 with ⟨d,h8⟩|⟨g,gB,cur,d,_⟩
  ·exact ⟨none,0,by rw [d,h8]⟩
  ·exact ⟨_,_,d⟩
 subst e4;by_cases a:p.kind=3∧p.text=[]
 ·have e1:((p.kind:Int)==3)=true:=by rw [a.1];rfl
  have hA:p.text.isEmpty=true:=by rw [a.2];rfl
  have c:=Lh (OB (acc:=acc) a.1 a.2);clear a;(repeat revert K);refine vg ?_;intro K hK;refine Kk [3,7,8,9] fun f=>?_;refine a1.o _ _ ⟨l.length-(i+1),by rw [HK.o];omega,HJ.o _ _ _ ⟨f,i+1,_,xs,rfl,F.o,by rw [m.o,c.o];exact b.o,by rw [m.o,c.o];exact r.o,?_,?_,rfl,aA⟩⟩
  ·rw [m.o,c.o,Z.o];intro z T;have:=R.o z T;omega
  ·rw [m.o,c.o];have:=I.o;omega
 by_cases y:p.kind=3
 rotate_left
 ·have e1:((p.kind:Int)==3)=false:=by rw [lV];omega
  have c:=Lh (show dG acc p=acc++[p] from by
   rcases List.eq_nil_or_concat acc with d|⟨a0,q,d⟩
   ·rw [d];exact AU a
   ·rw [d];simp only [List.concat_eq_append];exact AT a (fun h=>y h.1))
  obtain ⟨w8,t⟩:=cY (o.alloc (.cells #[.int .i64 p.kind,aB p.space,aB p.loc,.slice U W V,aB p.text,.int .i64 p.at'] 35));have P:aJ w8 o.heap.size #[.int .i64 p.kind,aB p.space,aB p.loc,.slice U W V,aB p.text,.int .i64 p.at'] 35:=by rw [t];exact aJ.new o _ _
  have s:aM (fun _=>False) o w8:=by rw [t];exact (aM.refl _ o).alloc _
  obtain ⟨v',w9,E,D,G,hv,gv,cv,a8⟩:=oH uY underlying23 rfl (by decide) (by decide) w8 w0.heap.size (fX F.o.size s.size) (.slice oA acc.length oC) acc.length (by have:=I.o;have:=O.o;omega) xs (aE (S:=fun _=>False) b.o s (fun _ _=>id)) o.heap.size (fF p (.slice U W V)) rfl
   (fun j u hj=>by rw [P.cell];simpa [fF] using hj)
   (fun u hu=>by
    simp only [fF,mH,xZ,or_false] at hu;rcases hu with rfl|rfl|rfl|rfl|rfl|rfl<;>rfl)
  subst a8;have B:=Lh D;have H:=Lh (show aM (fun k=>w0.heap.size≤k) o w9 from (s.mono (fun _ _ h=>h.elim)).trans (G.mono (fun k _ y=>(aU b.o y).2)) (fun _ _ h=>h));clear P s D G hv;(repeat revert K);refine vB ?_;intro K hK K hK;rw [←t];clear t;refine eV rfl (.tmp 15) (.tmp 17) _ _ rfl _ _ _ (by rw [cC (by decide)];(try simp only [aK,aQ,aS,aX,Nat.reduceEqDiff,↓reduceIte]);(try rfl)) (by rw [cC (by decide)];(try simp only [aK,aQ,aS,aX,Nat.reduceEqDiff,↓reduceIte]);(try rfl)) E ?_;clear E;rw [fR (by decide)];(repeat revert K);refine vg ?_;intro K hK;refine Kk [3,7,8,9] fun f=>?_;refine a1.o _ _ ⟨l.length-(i+1),by rw [HK.o];omega,HJ.o _ _ _ ⟨f,i+1,_,_,rfl,aM.below F.o F.o.size H.o (fun _ h=>h),by rw [m.o,c.o];first|(rw [fY];exact B.o)|(have d:=B.o;simp only [fY,List.length_singleton,List.length_nil] at d ⊢;exact d),by rw [m.o,c.o];exact .snoc (r.o.mono (fun _ _ hh=>kC.mod (G':=fun k=>k<w0.heap.size) hh H.o (fun k y _=>⟨by omega,y⟩))) ⟨U,W,V,rfl,aE a2.o H.o (fun g hg he=>by have:=Y.o g hg;omega),Y.o⟩,?_,?_,rfl,aA⟩⟩
  ·rw [m.o,c.o,Z.o];intro z T;rcases List.mem_append.1 T with d|d
   ·have:=R.o z d;omega
   ·simp only [List.mem_singleton] at d;rw [d];omega
  ·rw [m.o,c.o,fY];have:=I.o;simp<;>omega
 have e1:((p.kind:Int)==3)=true:=by rw [y];rfl
 have a6:p.text≠[]:=fun h=>a ⟨y,h⟩;have hA:p.text.isEmpty=false:=by cases d:p.text with
  | nil=>exact absurd d a6
  | cons=>rfl
 rcases List.eq_nil_or_concat acc with d|⟨a0,q,d⟩
 ·subst d;have c6:=Lh a;clear a6 a y;have c:=Lh (show dG ([]:List cD) p=([]:List cD)++[p] from AU c6.o);obtain ⟨w8,t⟩:=cY (o.alloc (.cells #[.int .i64 p.kind,aB p.space,aB p.loc,.slice U W V,aB p.text,.int .i64 p.at'] 35));have P:aJ w8 o.heap.size #[.int .i64 p.kind,aB p.space,aB p.loc,.slice U W V,aB p.text,.int .i64 p.at'] 35:=by rw [t];exact aJ.new o _ _
  have s:aM (fun _=>False) o w8:=by rw [t];exact (aM.refl _ o).alloc _
  obtain ⟨v',w9,E,D,G,hv,gv,cv,a8⟩:=oH uY underlying23 rfl (by decide) (by decide) w8 w0.heap.size (fX F.o.size s.size) (.slice oA ([]:List cD).length oC) ([]:List cD).length (by have:=I.o;have:=O.o;omega) xs (aE (S:=fun _=>False) b.o s (fun _ _=>id)) o.heap.size (fF p (.slice U W V)) rfl
   (fun j u hj=>by rw [P.cell];simpa [fF] using hj)
   (fun u hu=>by
    simp only [fF,mH,xZ,or_false] at hu;rcases hu with rfl|rfl|rfl|rfl|rfl|rfl<;>rfl)
  subst a8;have B:=Lh D;have H:=Lh (show aM (fun k=>w0.heap.size≤k) o w9 from (s.mono (fun _ _ h=>h.elim)).trans (G.mono (fun k _ y=>(aU b.o y).2)) (fun _ _ h=>h));clear P s D G hv;(repeat revert K);refine vB ?_;intro K hK K hK;rw [←t];clear t;refine eV rfl (.tmp 15) (.tmp 17) _ _ rfl _ _ _ (by rw [cC (by decide)];(try simp only [aK,aQ,aS,aX,Nat.reduceEqDiff,↓reduceIte]);(try rfl)) (by rw [cC (by decide)];(try simp only [aK,aQ,aS,aX,Nat.reduceEqDiff,↓reduceIte]);(try rfl)) E ?_;clear E;rw [fR (by decide)];(repeat revert K);refine vg ?_;intro K hK;refine Kk [3,7,8,9] fun f=>?_;refine a1.o _ _ ⟨l.length-(i+1),by rw [HK.o];omega,HJ.o _ _ _ ⟨f,i+1,_,_,rfl,aM.below F.o F.o.size H.o (fun _ h=>h),by rw [m.o,c.o];first|(rw [fY];exact B.o)|(have d:=B.o;simp only [fY,List.length_singleton,List.length_nil] at d ⊢;exact d),by rw [m.o,c.o];exact .snoc (r.o.mono (fun _ _ hh=>kC.mod (G':=fun k=>k<w0.heap.size) hh H.o (fun k y _=>⟨by omega,y⟩))) ⟨U,W,V,rfl,aE a2.o H.o (fun g hg he=>by have:=Y.o g hg;omega),Y.o⟩,?_,?_,rfl,aA⟩⟩
  ·rw [m.o,c.o,Z.o];intro z T;rcases List.mem_append.1 T with d|d
   ·have:=R.o z d;omega
   ·simp only [List.mem_singleton] at d;rw [d];omega
  ·rw [m.o,c.o,fY];have:=I.o;simp<;>omega
 ·rw [List.concat_eq_append] at d;subst d;obtain ⟨L,gB,d8,g2,hD,g3,g4,M⟩:=eW b.o (by simp);simp only [Value.slice.injEq] at d8;obtain ⟨rfl,_,rfl⟩:=d8;obtain ⟨ys,zs,bA,b3,hB⟩:=r.o.unsnoc;obtain ⟨qa,ql,qc,bC,d0,dT⟩:=hB;have N:ys.length=a0.length*6:=b3.len (fun _ _ h=>kC.len h);have T:∀ j v,(fF q (.slice qa ql qc))[j]?=some v→o.cell? ⟨L,a0.length*6+j,none⟩=some v:=fun j v hj=>by
   refine M _ _ ?_;rw [bA,EG (by rw [N];omega),N,Nat.add_sub_cancel_left,bC];exact hj
  have z0:o.cell? ⟨L,a0.length*6,none⟩=some (.int .i64 q.kind):=T 0 _ rfl;have z4:o.cell? ⟨L,a0.length*6+4,none⟩=some (aB q.text):=T 4 _ rfl;have z5:o.cell? ⟨L,a0.length*6+5,none⟩=some (.int .i64 q.at'):=T 5 _ rfl;obtain ⟨n,hn⟩:=cY ((a0++[q]).length);have e3:n=a0.length+1:=by rw [hn];simp
  have wn:IntKind.i64.wrap ((n:Int)-1)=(a0.length:Int):=by rw [IntKind.wrap_i64];have h1:=I.o;rw [fY] at h1;have h2:=O.o;omega
  have u0:(0:Int)≤(a0.length:Int):=by omega
  have u1:(0:Int)<(n:Int):=by omega
  have u2:(a0.length:Int)<(n:Int):=by omega
  have u3:0<n:=by omega
  have u4:a0.length<n:=by omega
  rw [←hn];have ⟨d1,hE⟩:=cN hn e3;clear hn e3;by_cases a4:q.kind=3
  rotate_left
  ·have g8:((q.kind:Int)==3)=false:=by rw [lV];omega
   have ⟨c6,f3⟩:=cN a a4;clear a6 a y a4 T bC d0 dT b3 bA M;have c:=Lh (show dG (a0++[q]) p=(a0++[q])++[p] from AT c6.o (fun h=>f3.o h.2));obtain ⟨w8,t⟩:=cY (o.alloc (.cells #[.int .i64 p.kind,aB p.space,aB p.loc,.slice U W V,aB p.text,.int .i64 p.at'] 35));have P:aJ w8 o.heap.size #[.int .i64 p.kind,aB p.space,aB p.loc,.slice U W V,aB p.text,.int .i64 p.at'] 35:=by rw [t];exact aJ.new o _ _
   have s:aM (fun _=>False) o w8:=by rw [t];exact (aM.refl _ o).alloc _
   obtain ⟨v',w9,E,D,G,hv,gv,cv,a8⟩:=oH uY underlying23 rfl (by decide) (by decide) w8 w0.heap.size (fX F.o.size s.size) (.slice (some ⟨L,0,none⟩) (a0++[q]).length oC) (a0++[q]).length (by have:=I.o;have:=O.o;omega) xs (aE (S:=fun _=>False) b.o s (fun _ _=>id)) o.heap.size (fF p (.slice U W V)) rfl
    (fun j u hj=>by rw [P.cell];simpa [fF] using hj)
    (fun u hu=>by
     simp only [fF,mH,xZ,or_false] at hu;rcases hu with rfl|rfl|rfl|rfl|rfl|rfl<;>rfl)
   subst a8;have B:=Lh D;have H:=Lh (show aM (fun k=>w0.heap.size≤k) o w9 from (s.mono (fun _ _ h=>h.elim)).trans (G.mono (fun k _ y=>(aU b.o y).2)) (fun _ _ h=>h));clear P s D G hv;(repeat revert K);refine vB ?_;intro K hK K hK;rw [←t];clear t;have c9:=d1.o;subst c9;refine eV rfl (.tmp 15) (.tmp 17) _ _ rfl _ _ _ (by rw [cC (by decide)];(try simp only [aK,aQ,aS,aX,Nat.reduceEqDiff,↓reduceIte]);(try rfl)) (by rw [cC (by decide)];(try simp only [aK,aQ,aS,aX,Nat.reduceEqDiff,↓reduceIte]);(try rfl)) E ?_;clear E;rw [fR (by decide)];(repeat revert K);refine vg ?_;intro K hK;refine Kk [3,7,8,9] fun f=>?_;refine a1.o _ _ ⟨l.length-(i+1),by rw [HK.o];omega,HJ.o _ _ _ ⟨f,i+1,_,_,rfl,aM.below F.o F.o.size H.o (fun _ h=>h),by rw [m.o,c.o];first|(rw [fY];exact B.o)|(have d:=B.o;simp only [fY,List.length_singleton,List.length_nil] at d ⊢;exact d),by rw [m.o,c.o];exact .snoc (r.o.mono (fun _ _ hh=>kC.mod (G':=fun k=>k<w0.heap.size) hh H.o (fun k y _=>⟨by omega,y⟩))) ⟨U,W,V,rfl,aE a2.o H.o (fun g hg he=>by have:=Y.o g hg;omega),Y.o⟩,?_,?_,rfl,aA⟩⟩
   ·rw [m.o,c.o,Z.o];intro z T;rcases List.mem_append.1 T with d|d
    ·have:=R.o z d;omega
    ·simp only [List.mem_singleton] at d;rw [d];omega
   ·rw [m.o,c.o,fY];have:=I.o;simp<;>omega
  have g8:((q.kind:Int)==3)=true:=by rw [a4];rfl
  have c:=Lh (OC (acc:=a0) y a6 a4);have hO:q.text.length≤dP (l.take i):=R.o q (by simp);have a9:¬ 9223372036854775807<q.text.length+p.text.length:=by have h1:=Z.o;have h2:=d3.o;omega
  have g5:L≠w.heap.size:=by have:=f1.o L rfl;omega
  obtain ⟨x,a7⟩:=cY (q.text++p.text);have hC:(⟨q.text.toArray⟩:ByteArray)++⟨p.text.toArray⟩=⟨x.toArray⟩:=by rw [a7];exact gF _ _
  have d9:a0.length*6+4<(a0++[q]).length*6:=by simp;omega
  have e0:a0.length*6+5<(a0++[q]).length*6:=by simp;omega
  have bL:∀ k,((o.drewN k).setCell ⟨L,a0.length*6+4,none⟩ (aB x)).ownsRow w0.heap.size 35 6 (.slice (some ⟨L,0,none⟩) (a0++[q]).length oC) (a0++[q]).length (xs.set (a0.length*6+4) (aB x)):=fun k=>rV (BE b.o k) _ d9 _;have f5:=Lh (fun (k:Nat)=>rV (bL k) (a0.length*6+5) e0 (.int .i64 p.at'));have hP:∀ k,((o.drewN k).setCell ⟨L,a0.length*6+4,none⟩ (aB x)).cell? ⟨L,a0.length*6+5,none⟩=some (.int .i64 q.at'):=fun k=>by
   obtain ⟨_,_,e8,_,_,_,_,g1⟩:=eW (bL k) (by simp);simp only [Value.slice.injEq,kD,Addr.mk.injEq] at e8;obtain ⟨⟨rfl,_⟩,_⟩:=e8;refine g1 _ _ ?_;rw [List.getElem?_set_ne (by omega),bA,EG (by rw [N];omega),N,Nat.add_sub_cancel_left,bC];rfl
  have hN:=fun k=>nQ (bL k) (a0.length*6+5);have hM:=nQ b.o (a0.length*6+4);have f6:=Lh (fun (k:Nat)=>(show aJ ((o.drewN k).setCell ⟨L,a0.length*6+4,none⟩ (aB x)) w.heap.size _ _ from aJ.set_ne (w:=o.drewN k) f0.o (fun he=>g5 he.symm) _));have hI:=fun k=>(f6.o k).cell;have f7:=Lh (show (xs.set (a0.length*6+4) (aB x)).set (a0.length*6+5) (.int .i64 p.at')=ys++fF { q with text:=x,at':=p.at' } (.slice qa ql qc) by
   rw [bA,List.set_append_right _ _ (by rw [N];omega),N,Nat.add_sub_cancel_left,List.set_append_right _ _ (by rw [N];omega),N,Nat.add_sub_cancel_left,bC];rfl)
  have ⟨b4,f9,f4,d2,cT⟩:=o4 a7 b3 d0 dT g2;clear a y a4 a6 T bC d0 dT b3 bA M bL a7 d9 e0 N g3 g4;(repeat revert K);refine vg ?_;intro K hK K hK K hK;(refine lX [0,0,0,0,0,1,0,1,0,0,0,2] [0,1,2,3,4,5,6,7,8,9,10,11] ?_;refine vP ?_;repeat with_reducible intro nq)
  (repeat revert K);refine vg ?_;intro K hK;refine Kk [3,7,8,9] fun f=>?_;have c9:=d1.o;subst c9;obtain ⟨w9,aL⟩:=cY (((o.drewN 0).setCell ⟨L,a0.length*6+4,none⟩ (aB x)).setCell ⟨L,a0.length*6+5,none⟩ (.int .i64 p.at'));have G:aM (fun k=>k=L) o w9:=by
   rw [aL];exact aM.setCell (S:=fun k=>k=L) (aM.setCell (S:=fun k=>k=L) ((aM.refl _ o).drewN _) (p:=⟨L,a0.length*6+4,none⟩) (aH rfl) _) (p:=⟨L,a0.length*6+5,none⟩) (aH rfl) _
  have e6:=f5.o 0;rw [←aL] at e6;have b1:gC (l.take (i+1))=a0++[{ q with text:=x,at':=p.at' }]:=by rw [m.o,c.o,b4.o]
  have b0:cI (kC w9 0 (fun k=>k<w0.heap.size)) (a0++[{ q with text:=x,at':=p.at' }]) (ys++fF { q with text:=x,at':=p.at' } (.slice qa ql qc)):=
   .snoc (f9.o.mono (fun _ _ hh=>kC.mod (G':=fun k=>k<w0.heap.size) hh G (fun k y _=>⟨fun he=>by have:=cT.o;omega,y⟩))) ⟨qa,ql,qc,rfl,aE f4.o G (fun g9 c8 he=>by have h7:g9<w0.heap.size:=d2.o g9 c8;have:=cT.o;omega),d2.o⟩
  have g0:Below w0.heap.size w0 w9:=aM.below F.o F.o.size G (fun k y=>by rw [y];exact cT.o);have d6:xN w0 (.slice (some ⟨g,ro,none⟩) l.length C) l (l.length-(i+1)) (fr 65 f [(3,.slice (some ⟨L,0,none⟩) (a0++[q]).length oC),(7,.slice (some ⟨g,ro,none⟩) l.length C),(8,.int .i64 (l.length:Nat)),(9,.int .i64 ((i+1:Nat):Int))]) w9:=by
   refine ⟨f,i+1,_,ys++fF { q with text:=x,at':=p.at' } (.slice qa ql qc),rfl,g0,?_,by rw [b1];exact b0,?_,?_,rfl,aA⟩
   ·have g7:(gC (l.take (i+1))).length=(a0++[q]).length:=by rw [b1];simp only [fY,List.length_singleton]
    rw [g7,←f7.o];exact e6
   ·rw [b1,Z.o];intro z T;rcases List.mem_append.1 T with d|d
    ·have:=R.o z (List.mem_append_left _ d);omega
    ·simp only [List.mem_singleton] at d;rw [d];show x.length≤_;rw [b4.o,fY];omega
   ·rw [b1];have:=I.o;simp only [fY,List.length_singleton] at this ⊢;omega
  have h8:xN w0 (.slice (some ⟨g,ro,none⟩) l.length C) l (l.length-(i+1)) (fr 65 f [(3,.slice (some ⟨L,0,none⟩) (a0++[q]).length oC),(7,.slice (some ⟨g,ro,none⟩) l.length C),(8,.int .i64 (l.length:Nat)),(9,.int .i64 ((i+1:Nat):Int))]) _:=xN.same (w':=((((o.drewN nq).drewN nq).setCell ⟨L,a0.length*6+4,none⟩ (aB x)).drewN nq).setCell ⟨L,a0.length*6+5,none⟩ (.int .i64 p.at')) d6 (by rw [aL];rfl) (by rw [aL];rfl) (by rw [aL];rfl) (by rw [aL];rfl);exact a1.o _ _ ⟨l.length-(i+1),by rw [HK.o];omega,HJ.o _ _ _ (xN.same h8 rfl rfl rfl rfl)⟩
noncomputable def X9 (n:Nat):Code:=((Tryz.f60.body).bind (Code.regionAt n)).getD .skip
theorem dZ.push {x:PX} {d:Nat} {w r:World} {c:PC} {opens:List Bs} {bound:List aP} {out:List cD} (h:dZ x d w c opens bound out) (o:Bs) (l:aP) {v:Option Addr} {z y:Nat} {j m:Value}
  (M:w.ownsRow d 177 2 (.slice v z y) l.length (cW l)) (N:l.length≤1000000000) (u:∀ k,(Value.slice v z y).ownBlock=some k→¬ gE x c k)
  (V:∃ B,r.ownsRow d 9 1 j (opens.length+1) (B++[aB o])∧cI (fun b Z=>Z=[aB b]) opens.reverse B) (W:∃ C,r.ownsRow d 47 1 m (bound.length+1) (C++[.slice v z y])∧cI (GG w d (fun k=>¬ gE x c k)) bound.reverse C)
  (Q:aM (fun k=>c.op.ownBlock=some k∨c.bd.ownBlock=some k) w r) (D:∀ k,j.ownBlock=some k→c.op.ownBlock=some k∨w.heap.size≤k) (F:∀ k,m.ownBlock=some k→c.bd.ownBlock=some k∨w.heap.size≤k) (E:∀ k,j.ownBlock=some k→m.ownBlock≠some k) :
  dZ x d ((r.setCell ⟨x.p,6,none⟩ j).setCell ⟨x.p,7,none⟩ m) { c with op:=j,bd:=m } (o::opens) (l::bound) out:=by
 obtain ⟨P,R,O⟩:=h.out;obtain ⟨B,G,H⟩:=V;obtain ⟨C,I,J⟩:=W;have Y:=aJ.lt h.blk;have t:=fun k f=>(aU R (g:=k) f).1;have T:j.ownBlock≠some x.p:=fun a=>by
  rcases D _ a with e|e
  ·exact h.s1.2.1 e
  ·omega
 have U:m.ownBlock≠some x.p:=fun a=>by
  rcases F _ a with e|e
  ·exact h.s1.2.2 e
  ·omega
 have q:aM (fun k=>k=x.p∨c.op.ownBlock=some k∨c.bd.ownBlock=some k) w ((r.setCell ⟨x.p,6,none⟩ j).setCell ⟨x.p,7,none⟩ m):=
  aM.setCell (S:=fun k=>k=x.p∨c.op.ownBlock=some k∨c.bd.ownBlock=some k) (aM.setCell (S:=fun k=>k=x.p∨c.op.ownBlock=some k∨c.bd.ownBlock=some k) (Q.mono (fun _ _ h=>aW h)) (p:=⟨x.p,6,none⟩) (aH (aH rfl)) j) (p:=⟨x.p,7,none⟩) (aH (aH rfl)) m
 have s:aM (fun k=>k=x.p) r ((r.setCell ⟨x.p,6,none⟩ j).setCell ⟨x.p,7,none⟩ m):=
  aM.setCell (S:=fun k=>k=x.p) (aM.setCell (S:=fun k=>k=x.p) (aM.refl _ r) (p:=⟨x.p,6,none⟩) (aH rfl) j) (p:=⟨x.p,7,none⟩) (aH rfl) m
 have A:∀ k,¬ gE x c k→k<w.heap.size→¬ (k=x.p∨c.op.ownBlock=some k∨c.bd.ownBlock=some k)∧¬ gE x { c with op:=j,bd:=m } k:=fun k f X=>by
  refine ⟨fun a=>f (a.elim aH (fun h=>aW (aW h))),fun i=>?_⟩;rcases i with i|i|i|i
  ·exact f (aH i)
  ·exact f (aW (aH i))
  ·rcases D k i with e|e
   ·exact f (aW (aW (aH e)))
   ·omega
  ·rcases F k i with e|e
   ·exact f (aW (aW (aW e)))
   ·omega
 refine ⟨?_,h.pb,⟨P,?_,O.mono (fun _ _ i=>i.mod q A)⟩,⟨B++[aB o],?_,?_⟩,⟨C++[.slice v z y],?_,?_⟩,⟨h.s1.1,T,U⟩,?_,E⟩
 ·have L:aY x r c:=h.blk.mod Q (fun a=>a.elim h.s1.2.1 h.s1.2.2);have:=(L.set 6 j).set 7 m;simpa [gA] using this
 ·exact aE R q (fun g n a=>by
   rcases a with a|a|a
   ·exact h.s1.1 (by rw [←a];exact n)
   ·exact (h.s2 g n).1 a
   ·exact (h.s2 g n).2 a)
 ·rw [gN];exact aE G s (fun g n a=>T (by rw [←a];exact n))
 ·rw [List.reverse_cons];exact .snoc H rfl
 ·rw [gN];exact aE I s (fun g n a=>U (by rw [←a];exact n))
 ·rw [List.reverse_cons];refine .snoc (J.mono (fun _ _ i=>i.mod q A)) ⟨v,z,y,rfl,aE M q (fun g n=>(A g (u g n) (aU M n).1).1),fun k f=>(A k (u k f) (aU M f).1).2,N⟩
 ·intro k f;refine ⟨fun a=>?_,fun a=>?_⟩
  ·rcases D k a with e|e
   ·exact (h.s2 k f).1 e
   ·have:=t k f;omega
  ·rcases F k a with e|e
   ·exact (h.s2 k f).2 e
   ·have:=t k f;omega
theorem Fx (nm:Bs×Bs):Value.string ((⟨nm.1.toArray⟩:ByteArray)++⟨#[58]⟩++⟨nm.2.toArray⟩)=aB (dV nm):=by
 have a:(⟨nm.1.toArray⟩:ByteArray)++⟨#[58]⟩=⟨(nm.1++[58]).toArray⟩:=gF nm.1 [58];rw [a,gF];simp [dV]
theorem WU:(prog.info? 9).map (fun i=>(i.zero,i.size,i.bytes))=some (some (.string ⟨#[]⟩),1,16):=by kernel_rfl
theorem Ad:(prog.info? 47).map (fun i=>(i.zero,i.size,i.bytes))=some (some (.slice none 0 0),1,24):=by kernel_rfl
theorem SW {x:PX} {a:Nat} {w:World} {c:PC} {opens:List Bs} {bound:List aP} {out:List cD} (H:dZ x a w c opens bound out) (F:opens.length≤500000000) {z:List Value} (l:w.ownsRow a 9 1 c.op opens.length z) (o:Bs) {b:World} (q:aM (fun _=>False) w b) (G:aY x b c) (b1:Nat) (s:aJ b b1 #[aB o] 9) :
  ∃ i f g d,i=.slice (some ⟨g,0,none⟩) (opens.length+1) d∧(Builtin.append_ #[30,30] 30 #[c.op,.slice (some ⟨b1,0,none⟩) 1 1]).run prog b=.ok i f∧f.ownsRow a 9 1 i (opens.length+1) (z++[aB o])∧(∀ k,i.ownBlock=some k→c.op.ownBlock=some k∨w.heap.size≤k)∧aY x f c∧aM (fun k=>c.op.ownBlock=some k) w f∧∀ p cs t,aJ b p cs t→w.heap.size≤p→aJ f p cs t:=by
 obtain ⟨i,f,n,m,e,I,g,d,y⟩:=oH WU underlying30 rfl (by decide) (by decide) b a (fX H.size q.size) c.op opens.length (by omega) z (aE (S:=fun _=>False) l q (fun _ _=>id)) b1 [aB o] rfl
  (fun j u D=>by rw [s.cell];simpa using D)
  (fun u A=>by
   simp only [mH,xZ,or_false] at A;rw [A];rfl)
 refine ⟨i,f,g,d,y,n,m,fun k v=>?_,G.mod e H.s1.2.1,(q.mono (S':=fun k=>c.op.ownBlock=some k) (fun _ _ h=>h.elim)).trans e (fun _ _ h=>h),fun p cs t B E=>B.mod e (fun C=>by have:=(aU l C).1;omega)⟩;rcases I with r|r
 ·exact aH (r▸v)
 ·rw [r] at v;right;have:=q.size;simp at v;omega
theorem SX {x:PX} {a:Nat} {w:World} {c:PC} {opens:List Bs} {bound:List aP} {out:List cD} (H:dZ x a w c opens bound out) (aC:opens.length≤500000000) (aA:bound.length=opens.length) (o:Bs) (l:aP) {M:Option Addr} {O N:Nat} (hl:w.ownsRow a 177 2 (.slice M O N) l.length (cW l)) (T:l.length≤1000000000) (V:∀ k,(Value.slice M O N).ownBlock=some k→¬ gE x c k)
  {X P:List Value} (G:cI (fun b ys=>ys=[aB b]) opens.reverse X) (z:w.ownsRow a 47 1 c.bd bound.length P) (A:cI (GG w a (fun k=>¬ gE x c k)) bound.reverse P) {s:World} (f:aM (fun k=>c.op.ownBlock=some k) w s) (Q:Nat) (R:aJ s Q #[.slice M O N] 47) {n:Value} (F:s.ownsRow a 9 1 n (opens.length+1) (X++[aB o])) (L:∀ k,n.ownBlock=some k→c.op.ownBlock=some k∨w.heap.size≤k) :
  ∃ e m g q,e=.slice (some ⟨g,0,none⟩) (bound.length+1) q∧(Builtin.append_ #[49,49] 49 #[c.bd,.slice (some ⟨Q,0,none⟩) 1 1]).run prog s=.ok e m∧aY x m c∧Below a w ((m.setCell ⟨x.p,6,none⟩ n).setCell ⟨x.p,7,none⟩ e)∧aM (gE x c) w ((m.setCell ⟨x.p,6,none⟩ n).setCell ⟨x.p,7,none⟩ e)∧dZ x a ((m.setCell ⟨x.p,6,none⟩ n).setCell ⟨x.p,7,none⟩ e) { c with op:=n,bd:=e } (o::opens) (l::bound) out:=by
 obtain ⟨e,m,J,I,C,U,g,q,W⟩:=oH Ad underlying49 rfl (by decide) (by decide) s a (fX H.size f.size) c.bd bound.length (by omega) P (aE z f (fun k d B=>H.s3 k B d)) Q [.slice M O N] rfl
  (fun j u hj=>by rw [R.cell];simpa using hj)
  (fun u Z=>by
   simp only [mH,xZ,or_false] at Z;rw [Z];rfl)
 have r:aM (fun k=>c.op.ownBlock=some k∨c.bd.ownBlock=some k) w m:=(f.mono (fun _ _ h=>aH h)).trans (C.mono (fun _ _ h=>aW h)) (fun _ _ h=>h);have y:∀ k,e.ownBlock=some k→c.bd.ownBlock=some k∨(w.heap.size≤k∧s.heap.size≤k):=fun k d=>by
  rcases U with v|v
  ·exact aH (v▸d)
  ·rw [v] at d;right;have:=f.size;simp at d;omega
 have E:∀ k,n.ownBlock=some k→c.bd.ownBlock≠some k:=fun k d t=>by
  rcases L k d with Y|Y
  ·exact H.s3 k Y t
  ·have:=(aU z t).1;omega
 have D:aM (gE x c) w ((m.setCell ⟨x.p,6,none⟩ n).setCell ⟨x.p,7,none⟩ e):=aM.setCell (S:=gE x c) (aM.setCell (S:=gE x c) (r.mono (fun _ _ h=>h.elim (fun h=>aW (aW (aH h))) (fun h=>aW (aW (aW h))))) (p:=⟨x.p,6,none⟩) (aH (aH rfl)) _) (p:=⟨x.p,7,none⟩) (aH (aH rfl)) _;refine ⟨e,m,g,q,W,J,H.blk.mod r (fun B=>B.elim H.s1.2.1 H.s1.2.2),aM.below (Below.refl _ w) H.size D (fun i hi=>(H.busy hi).1),D,?_⟩;refine H.push o l hl T V ⟨X,aE F C (fun k d B=>E k d B),G⟩ ⟨P,I,A⟩ r L (fun k d=>(y k d).imp id (fun h=>h.1)) (fun k d v=>?_);rcases y k v with t|t
 ·exact E k d t
 ·have:=(aU F d).1;omega
theorem Fy (x:PX) (N:Nat) (w:World) (c:PC) (opens:List Bs) (bound:List aP) (out:List cD) (h:dZ x N w c opens bound out) (b0:opens.length≤500000000) (bC:bound.length=opens.length) (em:Bool) (bt:Nat) (nm:Bs×Bs) (l:aP) (v9:Value) (hl:w.ownsRow N 177 2 v9 l.length (cW l)) (bL:l.length≤1000000000) (b4:∀ k,v9.ownBlock=some k→¬ gE x c k) (b5:nm.1.length≤1000000000) (b6:nm.2.length≤1000000000) (Q:Exit→Act→World→Prop)
  (hQ:∀ f w' v6 v7,Below N w w'→aM (gE x c) w w'→dZ x N w' { c with op:=v6,bd:=v7 } (dV nm::opens) (l::bound) out→Q .normal (fr 182 f [(0,jP x),(2,.bool em),(4,.pointer (some ⟨bt,0,none⟩)),(7,aB nm.1),(8,aB nm.2)]) w') (f:Nat→Value) :
  (X9 17).wp prog Q (fr 182 f [(0,jP x),(2,.bool em),(4,.pointer (some ⟨bt,0,none⟩)),(7,aB nm.1),(8,aB nm.2),(9,v9)]) w:=by
 obtain ⟨sa,sl,sc,rfl⟩:=iG hl;obtain ⟨xs,b3,a0⟩:=h.op;obtain ⟨zs,bA,aL⟩:=h.bd;have ⟨H,P,a5,HL,a6,a9⟩:=iH h b0 bC hl bL b4;have ⟨HQ,a8,X,a4,T⟩:=o4 hQ b3 a0 bA aL;have a1:¬ 9223372036854775807<nm.1.length+1:=by omega
 have a2:¬ 9223372036854775807<nm.1.length+1+nm.2.length:=by omega
 clear h b0 bC hl bL b4 hQ b3 a0 bA aL b5 b6;unfold X9;conv=>arg 2;whnf
 refine uH [0,0,0,0,0,1,0,0,0,0,3,3,0,0,0,1,0,3,3,0,0,2,0,0,2] (.one 0 (.one 1 (.one 2 (.one 3 (.one 4 (.one 5 (.one 6 (.one 7 (.one 8 (.one 9 (.one 12 (.one 13 (.one 14 (.one 15 (.one 16 (.two 10 17 (.two 11 17 (.one 17 (.one 18 (.one 19 (.one 20 (.one 21 (.one 22 (.one 23 (.one 24 .nil)))))))) (.one 11 (.one 18 (.one 19 (.one 20 (.one 21 (.one 22 (.one 23 (.one 24 .nil))))))))) (.one 10 (.one 11 (.one 18 (.one 19 (.one 20 (.one 21 (.one 22 (.one 23 (.one 24 .nil))))))))))))))))))))))))) (fun w'=>aY x w' c) (by kernel_rfl) (by kernel_rfl) ?_;(repeat (first|(with_reducible refine l9 ?_)|((with_reducible refine kH rfl rfl (fun K hK=>?_));go_simp;refine hK _ ?_;clear hK K)|((with_reducible refine lB rfl rfl (fun K hK=>?_));go_simp;refine hK.out _ _ ?_;clear hK K)));refine pV rfl rfl H.o.blk rfl (some 100) rfl c.op (fun w' aA=>?_) ?_
 ·have hc:=aA.cell;clear aA;go_simp
 rw [fR (by decide)];(repeat (first|(with_reducible refine l9 ?_)|((with_reducible refine kH rfl rfl (fun K hK=>?_));go_simp;refine hK _ ?_;clear hK K)|((with_reducible refine lB rfl rfl (fun K hK=>?_));go_simp;refine hK.out _ _ ?_;clear hK K)));refine pV rfl rfl H.o.blk rfl (some 110) rfl c.bd (fun w' aA=>?_) ?_
 ·have hc:=aA.cell;clear aA;go_simp
 rw [fR (by decide)];(repeat (first|(with_reducible refine l9 ?_)|((with_reducible refine kH rfl rfl (fun K hK=>?_));go_simp;refine hK _ ?_;clear hK K)|((with_reducible refine lB rfl rfl (fun K hK=>?_));go_simp;refine hK.out _ _ ?_;clear hK K)));rw [Fx nm];refine E1 ?_ ?_
 ·refine lP rfl rfl (fun K hK=>?_);go_simp;refine hK.out _ _ ?_ ?_
  ·exact aJ.alloc (w:=w) H.o.blk _
  clear hK K;obtain ⟨w1,r⟩:∃ wn,wn=(w.alloc (.cells #[aB (dV nm)] 9)).drew:=⟨_,rfl⟩;rw [←r];have a:aM (fun _=>False) w w1:=by rw [r];exact ((aM.refl _ w).alloc _).drew
  have q:=Lh (show aY x w1 c from aJ.mod H.o.blk a id);obtain ⟨b1,I⟩:∃ b,b=w.heap.size:=⟨_,rfl⟩;rw [←I];have R:=Lh (show aJ w1 b1 #[aB (dV nm)] 9 by rw [r,I];exact aJ.new w _ _);have t:=Lh a;clear r a I;refine E1 ?_ ?_
  ·obtain ⟨v6,O,g6,c6,D,e,d,C,A,y,J⟩:=SW H.o P.o a8.o (dV nm) t.o q.o b1 R.o;have ⟨a7,Y,o,p⟩:=kV d C A y;clear d y C A J;refine m7 rfl rfl rfl (some 106) rfl (.tmp 100) (.tmp 105) _ _ rfl _ _ v6 (by rw [cC (by decide)];(try simp only [aK,aQ,aS,aX,Nat.reduceEqDiff,↓reduceIte]);(try rfl)) (by rw [cC (by decide)];(try simp only [aK,aQ,aS,aX,Nat.reduceEqDiff,↓reduceIte]);(try rfl)) e o.o ?_;rw [fR (by decide)];clear e;refine lP rfl rfl (fun K hK=>?_);go_simp;refine hK.out _ _ ?_ ?_
   ·exact aJ.alloc (w:=O) o.o _
   clear hK K;obtain ⟨w3,aC⟩:∃ wn,wn=(O.alloc (.cells #[.slice sa sl sc] 47)):=⟨_,rfl⟩;rw [←aC];have a:aM (fun _=>False) O w3:=by rw [aC];exact ((aM.refl _ O).alloc _)
   have M:=Lh (show aY x w3 c from aJ.mod o.o a id);obtain ⟨Z,i⟩:∃ b,b=O.heap.size:=⟨_,rfl⟩;rw [←i];have m:=Lh (show aJ w3 Z #[.slice sa sl sc] 47 by rw [aC,i];exact aJ.new O _ _);have u:=Lh (p.o.trans (a.mono (fun _ _ h=>h.elim)) (fun _ _ h=>h));have n:=Lh (aE (S:=fun _=>False) a7.o a (fun _ _=>id));have L:=Lh (show w.heap.size≤Z by rw [i];exact p.o.size);clear aC a i;obtain ⟨v7,w4,g7,c7,E,g,j,v,z,B⟩:=SX H.o P.o a5.o (dV nm) l HL.o a6.o a9.o X.o a4.o T.o u.o Z m.o n.o Y.o;have ⟨U,V,W⟩:=mJ v z B;clear v z B;refine m7 rfl rfl rfl (some 113) rfl (.tmp 110) (.tmp 112) _ _ rfl _ _ v7 (by rw [cC (by decide)];(try simp only [aK,aQ,aS,aX,Nat.reduceEqDiff,↓reduceIte]);(try rfl)) (by rw [cC (by decide)];(try simp only [aK,aQ,aS,aX,Nat.reduceEqDiff,↓reduceIte]);(try rfl)) g j ?_;rw [fR (by decide)];have hf:=j.frozen;have hc:=j.cell;clear g j;(repeat (first|(with_reducible refine l9 ?_)|((with_reducible refine kH rfl rfl (fun K hK=>?_));go_simp;refine hK _ ?_;clear hK K)|((with_reducible refine lB rfl rfl (fun K hK=>?_));go_simp;refine hK.out _ _ ?_;clear hK K)));refine Qk [0,2,4,7,8] fun f=>?_;rw [←D,←E];exact HQ.o f _ v6 v7 U.o V.o W.o
  ·refine lP rfl rfl (fun K hK=>?_);go_simp;refine hK.out _ _ ?_ ?_
   ·exact aJ.alloc (w:=w1) q.o _
   clear hK K;obtain ⟨O,s⟩:∃ wn,wn=(w1.alloc (.cells #[.slice sa sl sc] 47)):=⟨_,rfl⟩;rw [←s];have a:aM (fun _=>False) w1 O:=by rw [s];exact ((aM.refl _ w1).alloc _)
   have o:=Lh (show aY x O c from aJ.mod q.o a id);obtain ⟨Z,i⟩:∃ b,b=w1.heap.size:=⟨_,rfl⟩;rw [←i];have G:=Lh (show aJ O Z #[.slice sa sl sc] 47 by rw [s,i];exact aJ.new w1 _ _);have p:=Lh (t.o.trans a (fun _ _ h=>h));have F:=Lh (R.o.mod a id);have L:=Lh (show w.heap.size≤Z by rw [i];exact t.o.size);clear s a i;obtain ⟨v6,w3,g6,c6,D,e,d,C,A,y,J⟩:=SW H.o P.o a8.o (dV nm) p.o o.o b1 F.o;have ⟨n,Y,M,u⟩:=kV d C A y;have m:=Lh (J _ _ _ G.o L.o);clear d y C A J;refine m7 rfl rfl rfl (some 106) rfl (.tmp 100) (.tmp 105) _ _ rfl _ _ v6 (by rw [cC (by decide)];(try simp only [aK,aQ,aS,aX,Nat.reduceEqDiff,↓reduceIte]);(try rfl)) (by rw [cC (by decide)];(try simp only [aK,aQ,aS,aX,Nat.reduceEqDiff,↓reduceIte]);(try rfl)) e M.o ?_;rw [fR (by decide)];clear e;obtain ⟨v7,w4,g7,c7,E,g,j,v,z,B⟩:=SX H.o P.o a5.o (dV nm) l HL.o a6.o a9.o X.o a4.o T.o u.o Z m.o n.o Y.o;have ⟨U,V,W⟩:=mJ v z B;clear v z B;refine m7 rfl rfl rfl (some 113) rfl (.tmp 110) (.tmp 112) _ _ rfl _ _ v7 (by rw [cC (by decide)];(try simp only [aK,aQ,aS,aX,Nat.reduceEqDiff,↓reduceIte]);(try rfl)) (by rw [cC (by decide)];(try simp only [aK,aQ,aS,aX,Nat.reduceEqDiff,↓reduceIte]);(try rfl)) g j ?_;rw [fR (by decide)];have hf:=j.frozen;have hc:=j.cell;clear g j;(repeat (first|(with_reducible refine l9 ?_)|((with_reducible refine kH rfl rfl (fun K hK=>?_));go_simp;refine hK _ ?_;clear hK K)|((with_reducible refine lB rfl rfl (fun K hK=>?_));go_simp;refine hK.out _ _ ?_;clear hK K)));refine Qk [0,2,4,7,8] fun f=>?_;rw [←D,←E];exact HQ.o f _ v6 v7 U.o V.o W.o
 ·refine lP rfl rfl (fun K hK=>?_);go_simp;refine hK.out _ _ ?_ ?_
  ·exact aJ.alloc (w:=w) H.o.blk _
  clear hK K;obtain ⟨w1,r⟩:∃ wn,wn=(w.alloc (.cells #[.slice sa sl sc] 47)).drew:=⟨_,rfl⟩;rw [←r];have a:aM (fun _=>False) w w1:=by rw [r];exact ((aM.refl _ w).alloc _).drew
  have q:=Lh (show aY x w1 c from aJ.mod H.o.blk a id);obtain ⟨Z,i⟩:∃ b,b=w.heap.size:=⟨_,rfl⟩;rw [←i];have a3:=Lh (show aJ w1 Z #[.slice sa sl sc] 47 by rw [r,i];exact aJ.new w _ _);have t:=Lh a;have L:=Lh (show w.heap.size≤Z by rw [i];exact dD _);clear r a i;refine lP rfl rfl (fun K hK=>?_);go_simp;refine hK.out _ _ ?_ ?_
  ·exact aJ.alloc (w:=w1) q.o _
  clear hK K;obtain ⟨O,s⟩:∃ wn,wn=(w1.alloc (.cells #[aB (dV nm)] 9)):=⟨_,rfl⟩;rw [←s];have a:aM (fun _=>False) w1 O:=by rw [s];exact ((aM.refl _ w1).alloc _)
  have o:=Lh (show aY x O c from aJ.mod q.o a id);obtain ⟨b1,I⟩:∃ b,b=w1.heap.size:=⟨_,rfl⟩;rw [←I];have F:=Lh (show aJ O b1 #[aB (dV nm)] 9 by rw [s,I];exact aJ.new w1 _ _);have p:=Lh (t.o.trans a (fun _ _ h=>h));have G:=Lh (a3.o.mod a id);clear s a I;obtain ⟨v6,w3,g6,c6,D,e,d,C,A,y,J⟩:=SW H.o P.o a8.o (dV nm) p.o o.o b1 F.o;have ⟨n,Y,M,u⟩:=kV d C A y;have m:=Lh (J _ _ _ G.o L.o);clear d y C A J;refine m7 rfl rfl rfl (some 106) rfl (.tmp 100) (.tmp 105) _ _ rfl _ _ v6 (by rw [cC (by decide)];(try simp only [aK,aQ,aS,aX,Nat.reduceEqDiff,↓reduceIte]);(try rfl)) (by rw [cC (by decide)];(try simp only [aK,aQ,aS,aX,Nat.reduceEqDiff,↓reduceIte]);(try rfl)) e M.o ?_;rw [fR (by decide)];clear e;obtain ⟨v7,w4,g7,c7,E,g,j,v,z,B⟩:=SX H.o P.o a5.o (dV nm) l HL.o a6.o a9.o X.o a4.o T.o u.o Z m.o n.o Y.o;have ⟨U,V,W⟩:=mJ v z B;clear v z B;refine m7 rfl rfl rfl (some 113) rfl (.tmp 110) (.tmp 112) _ _ rfl _ _ v7 (by rw [cC (by decide)];(try simp only [aK,aQ,aS,aX,Nat.reduceEqDiff,↓reduceIte]);(try rfl)) (by rw [cC (by decide)];(try simp only [aK,aQ,aS,aX,Nat.reduceEqDiff,↓reduceIte]);(try rfl)) g j ?_;rw [fR (by decide)];have hf:=j.frozen;have hc:=j.cell;clear g j;(repeat (first|(with_reducible refine l9 ?_)|((with_reducible refine kH rfl rfl (fun K hK=>?_));go_simp;refine hK _ ?_;clear hK K)|((with_reducible refine lB rfl rfl (fun K hK=>?_));go_simp;refine hK.out _ _ ?_;clear hK K)));refine Qk [0,2,4,7,8] fun f=>?_;rw [←D,←E];exact HQ.o f _ v6 v7 U.o V.o W.o
end Go.Proofs.YthapcchcahnfaaaGreatDoor
