/- Part of the proof that laws.FnRawTokens returns true for every argument. No conditions. -/
import Derived.Test.YtdjdjbpnbjdaaaaGreatDoorP28
import Derived.Test.YtdjdjbpnbjdaaaaGreatDoorP29
import Derived.Test.YtdjdjbpnbjdaaaaGreatDoorP24
set_option linter.all false
set_option maxHeartbeats 8000000
set_option maxRecDepth 100000
namespace Go.Proofs.YtdjdjbpnbjdaaaaGreatDoor
open Go Go.RowKit Tryz
def eD (acc:List cH) (p:cH):List cH:=
 if p.kind=3∧p.text=[] then acc
 else match acc.getLast? with
  | some q=>if p.kind=3∧q.kind=3 then acc.dropLast++[{ q with text:=q.text++p.text,at':=p.at' }] else acc++[p]
  | none=>acc++[p]
def gJ (l:List cH):List cH:=l.foldl eD []
structure yL (w:World) (g o:Nat) (b:Nat) (p:cH):Prop where
 ex:∃ sa sl sc,w.cell? ⟨g,o,none⟩=some (.int .i64 p.kind)∧w.cell? ⟨g,o+1,none⟩=some (aB p.space)∧w.cell? ⟨g,o+2,none⟩=some (aB p.loc)∧w.cell? ⟨g,o+3,none⟩=some (.slice sa sl sc)∧w.cell? ⟨g,o+4,none⟩=some (aB p.text)∧w.cell? ⟨g,o+5,none⟩=some (.int .i64 p.at') ∧
  w.ownsRow 0 64 3 (.slice sa sl sc) p.attrs.length (aN p.attrs)∧∀ k,(Value.slice sa sl sc).ownBlock=some k→k<b
theorem lB.len {w:World} {base:Nat} {G:Nat→Prop} {p:cH} {ys:List Value} (h:lB w base G p ys):ys.length=6:=by
 obtain ⟨_,_,_,rfl,_⟩:=h;rfl
theorem BY {w:World} {b:Nat} {e:TypeId} {size:Nat} {v:Value} {n:Nat} {xs:List Value} (h:w.ownsRow b e size v n xs):w.ownsRow 0 e size v n xs:=by
 obtain ⟨h1,h2|⟨g,cap,cur,h3,h4,h5⟩⟩:=h
 ·exact ⟨h1,Or.inl h2⟩
 ·exact ⟨h1,Or.inr ⟨g,cap,cur,h3,Nat.zero_le _,h5⟩⟩
theorem CG {w:World} {base g:Nat} {l:List cH} {xs:List Value} {G:Nat→Prop} (kW:cS (lB w base G) l xs) (gR:∀ k u,xs[k]?=some u→w.cell? ⟨g,k,none⟩=some u) {i:Nat} {p:cH} (hi:l[i]?=some p):yL w g (i*6) w.heap.size p:=by
 obtain ⟨ys,⟨sa,sl,sc,rfl,hr,_⟩,hy⟩:=kW.get (n:=6) (fun _ _ h=>h.len) hi
 refine ⟨sa,sl,sc,gR _ _ ((hy 0 (by omega)).trans rfl),gR _ _ ((hy 1 (by omega)).trans rfl),gR _ _ ((hy 2 (by omega)).trans rfl),gR _ _ ((hy 3 (by omega)).trans rfl),gR _ _ ((hy 4 (by omega)).trans rfl),gR _ _ ((hy 5 (by omega)).trans rfl),BY hr,fun k hk=>(aV hr hk).1⟩
theorem BH {w:World} {base g n cap:Nat} {e:TypeId} {sz:Nat} {xs:List Value} (h:w.ownsRow base e sz (.slice (some ⟨g,0,none⟩) n cap) n xs) (j:Nat) (hj:j<n*sz) (u:Value):(w.setCell ⟨g,j,none⟩ u).ownsRow base e sz (.slice (some ⟨g,0,none⟩) n cap) n (xs.set j u):=by
 obtain ⟨h1,h2⟩:=h
 refine ⟨by rw [List.length_set];exact h1,?_⟩
 rcases h2 with ⟨h3,_⟩|⟨g',cap',cur,h3,h4,h5,h6,h7,h8,h9⟩
 ·simp at h3
 ·simp only [Value.slice.injEq,oY,Addr.mk.injEq] at h3
  obtain ⟨⟨rfl,_⟩,_,rfl⟩:=h3
  refine Or.inr ⟨_,_,cur.setIfInBounds j u,rfl,h4,aJ.set (w:=w) (b:=g) (cs:=cur) (t:=e) h5 j u,h6,h7,by simpa using h8,?_⟩
  rw [Array.toList_setIfInBounds,List.take_set,h9]
theorem cS.unsnoc {α:Type} {P:α→List Value→Prop} {l:List α} {a:α} {xs:List Value} (h:cS P (l++[a]) xs):∃ ys zs,xs=ys++zs∧cS P l ys∧P a zs:=by
 generalize hm:l++[a]=m at h
 cases h with
 | nil=>simp at hm
 | snoc h1 h2=>
  obtain ⟨rfl,h3⟩:=List.append_inj' hm rfl
  simp only [List.cons.injEq,and_true] at h3
  subst h3
  exact ⟨_,_,rfl,h1,h2⟩
def iF (l:List cH):Nat:=(l.map fun p=>p.text.length).sum
theorem KA {l:List cH} {i:Nat} {p:cH} (h:l[i]?=some p):iF (l.take (i+1))=iF (l.take i)+p.text.length:=by
 unfold iF
 rw [List.take_add_one,h]
 simp
theorem Q5 (l:List cH) (i:Nat):iF (l.take i)≤iF l:=by
 unfold iF
 conv=>rhs;rw [←List.take_append_drop i l,List.map_append,List.sum_append]
 omega
theorem NM {l:List cH} {i:Nat} {p:cH} (h:l[i]?=some p):gJ (l.take (i+1))=eD (gJ (l.take i)) p:=by
 unfold gJ
 rw [List.take_add_one,h]
 simp
theorem V6 {acc:List cH} {p:cH} (h1:p.kind=3) (h2:p.text=[]):eD acc p=acc:=by
 unfold eD;rw [if_pos ⟨h1,h2⟩]
theorem V7 {acc:List cH} {p q:cH} (h1:p.kind=3) (h2:p.text≠[]) (h3:q.kind=3):eD (acc++[q]) p=acc++[{ q with text:=q.text++p.text,at':=p.at' }]:=by
 unfold eD;rw [if_neg (fun h=>h2 h.2)]
 simp only [List.getLast?_append,List.getLast?_singleton,Option.some_or]
 rw [if_pos ⟨h1,h3⟩]
 simp
theorem D7 {acc:List cH} {p q:cH} (h2:¬ (p.kind=3∧p.text=[])) (h3:¬ (p.kind=3∧q.kind=3)):eD (acc++[q]) p=acc++[q]++[p]:=by
 unfold eD;rw [if_neg h2]
 simp only [List.getLast?_append,List.getLast?_singleton,Option.some_or]
 rw [if_neg h3]
theorem D8 {p:cH} (h2:¬ (p.kind=3∧p.text=[])):eD [] p=[]++[p]:=by
 unfold eD;rw [if_neg h2];rfl
theorem uT {w:World} {base g n cap:Nat} {e:TypeId} {sz:Nat} {xs:List Value} (h:w.ownsRow base e sz (.slice (some ⟨g,0,none⟩) n cap) n xs) (j:Nat):w.frozen? ⟨g,j,none⟩=false:=by
 rcases h.2 with ⟨h8,_⟩|⟨g8,cap8,cur8,h8,_,h7,_⟩
 ·simp at h8
 ·simp only [Value.slice.injEq,oY,Addr.mk.injEq] at h8
  obtain ⟨⟨rfl,_⟩,_⟩:=h8
  exact aJ.frozen (w:=w) (b:=g) (cs:=cur8) (t:=e) h7 j
theorem FY {w:World} {base n:Nat} {e:TypeId} {sz:Nat} {v:Value} {xs:List Value} (h:w.ownsRow base e sz v n xs) (k:Nat):(w.drewN k).ownsRow base e sz v n xs:=h
def BI (w0:World) (src:Value) (l:List cH) (k:Nat) (ac:Act) (w:World):Prop:=
 ∃ f i out xs,ac=fr 65 f [(3,out),(7,src),(8,.int .i64 (l.length:Nat)),(9,.int .i64 (i:Nat))]∧Below w0.heap.size w0 w∧w.ownsRow w0.heap.size 61 6 out (gJ (l.take i)).length xs∧cS (lB w 0 (fun k=>k<w0.heap.size)) (gJ (l.take i)) xs∧(∀ q∈gJ (l.take i),q.text.length≤iF (l.take i))∧(gJ (l.take i)).length≤i∧k=l.length-i∧i≤l.length
theorem BI.same {w0:World} {src:Value} {l:List cH} {k:Nat} {ac:Act} {w w':World} (h:BI w0 src l k ac w) (h1:w'.os=w.os) (h2:w'.tape=w.tape) (h3:w'.output=w.output) (h4:w'.heap=w.heap):BI w0 src l k ac w':=by
 obtain ⟨f1,i1,out1,xs1,e1,e2,e3,e4,e5,e6,e7,e8⟩:=h
 have hm:aK (fun _=>False) w w':=eF (aK.refl _ w) h1 h2 h3 h4
 exact ⟨f1,i1,out1,xs1,e1,aK.below e2 e2.size hm (fun i hi=>hi.elim),aG e3 hm (fun _ _=>id),e4.mono (fun _ _ hh=>lB.mod (G':=fun k=>k<w0.heap.size) hh hm (fun k hk _=>⟨id,hk⟩)),e5,e6,e7,e8⟩
theorem NN (w0:World) (l:List cH) (bF:l.length≤1000000000) (GZ:iF l≤4611686018427387904) (A:Option Addr) (C:Nat) (qG:0<l.length→∃ g ro,A=some ⟨g,ro,none⟩∧g<w0.heap.size∧∀ i p,l[i]?=some p→yL w0 g (ro+i*6) w0.heap.size p) :
  Calls prog 16 #[.slice A l.length C] w0 fun e w'=>∃ out xs,e=.returned out∧Below w0.heap.size w0 w'∧w'.ownsRow w0.heap.size 61 6 out (gJ l).length xs∧cS (lB w' 0 (fun k=>k<w0.heap.size)) (gJ l) xs∧(gJ l).length≤l.length:=by
 have cL:=Lh bF
 have Cn:=Lh GZ
 have SS:=Lh qG
 clear bF GZ qG
 refine eJ 65 func16 [_] fun f=>?_
 simp only [aE]
 (refine vg ?_;intro K hK)
 (refine cJ [3,7,8,9] fun f=>?_)
 refine wp_loop_ghost_k (BI w0 (.slice A l.length C) l) l.length ⟨f,0,.slice none 0 0,[],rfl,Below.refl _ w0,⟨rfl,Or.inl ⟨rfl,rfl⟩⟩,.nil,by simp [gJ],by simp [gJ],by simp,Nat.zero_le _⟩ ?_
 rintro k _ w ⟨f,i,out,xs,rfl,hb,l7,kW,MD,hml,hk,hi⟩ J K2 hJ cY
 have HJ:=Lh hJ
 have dN:=Lh cY
 have HB:=Lh hb
 have qY:=Lh l7
 have BD:=Lh kW
 have P6:=Lh MD
 have TB:=Lh hml
 have HK:=Lh hk
 clear hJ cY hb l7 kW MD hml hk
 by_cases bB:i<l.length
 rotate_left
 ·have sX:i=l.length:=by omega
  subst sX
  have t1:¬ ((l.length:Int)<(l.length:Int)):=by omega
  (revert K;refine vg ?_)
  (refine cW ?_)
  have h2:=qY.out
  have h3:=BD.out
  have h4:=TB.out
  rw [List.take_length] at h2 h3 h4
  exact ⟨out,xs,rfl,HB.out,h2,h3,h4⟩
 have t0:(0:Int)≤(i:Int):=by omega
 have t1:(i:Int)<(l.length:Int):=by omega
 have wi:IntKind.i64.wrap ((i:Int)+1)=((i+1:Nat):Int):=by rw [IntKind.wrap_i64];have:=cL.out;omega
 obtain ⟨p,hp⟩:∃ p,l[i]?=some p:=⟨l[i],by simp [bB]⟩
 obtain ⟨g,ro,rfl,FA,NI⟩:=SS.out (by omega)
 obtain ⟨sa,sl,sc,c0,c1,c2,c3,c4,c5,hpr,IT⟩:=(NI i p hp).ex
 have tr:∀ j v,w0.cell? ⟨g,j,none⟩=some v→w.cell? ⟨g,j,none⟩=some v:=fun j v h=>(HB.out.cell (p:=⟨g,j,none⟩) FA).trans h
 replace c0:=tr _ _ c0
 replace c1:=tr _ _ c1
 replace c2:=tr _ _ c2
 replace c3:=tr _ _ c3
 replace c4:=tr _ _ c4
 replace c5:=tr _ _ c5
 have Yg:=Lh hpr
 have Q0:=Lh IT
 have sO:=Lh (NM hp)
 have Fn:=Lh (KA hp)
 have a4l:=Lh (Nat.le_trans (Q5 l (i+1)) Cn.out)
 obtain ⟨wq,TC⟩:∃ wq,wq=w.alloc (.cells #[.int .i64 p.kind,aB p.space,aB p.loc,.slice sa sl sc,aB p.text,.int .i64 p.at'] 61):=⟨_,rfl⟩
 have KB:aJ wq w.heap.size #[.int .i64 p.kind,aB p.space,aB p.loc,.slice sa sl sc,aB p.text,.int .i64 p.at'] 61:=by rw [TC];exact aJ.new w _ _
 have M5:aK (fun _=>False) w wq:=by rw [TC];exact (aK.refl _ w).alloc _
 have QP:=Lh KB
 have Vi:=Lh M5
 have tW:=Lh (show Below w0.heap.size w0 wq from aK.below HB.out HB.out.size M5 (fun i hi=>hi.elim))
 have sR:=Lh (aG (S:=fun _=>False) qY.out M5 (fun _ _=>id))
 have AE:=Lh (BD.out.mono (fun _ _ hh=>lB.mod (G':=fun k=>k<w0.heap.size) hh M5 (fun k hk _=>⟨id,hk⟩)))
 have Vj:=Lh (show wq.ownsRow 0 64 3 (.slice sa sl sc) p.attrs.length (aN p.attrs) from aG (S:=fun k=>False) (aG (S:=fun _=>False) hpr (aH HB.out _) (fun _ _=>id)) M5 (fun _ _=>id))
 have nU:=KB.cell
 clear hp NI tr hpr IT KB M5 FA
 (revert K;refine vT 5 ?_;(repeat with_reducible intro K hK))
 rw [←TC]
 clear TC c0 c1 c2 c3 c4 c5
 have Pd:=Lh (fun g9 Nd=>(aV qY.out (g:=g9) Nd).1)
 obtain ⟨acc,IN⟩:∃ acc,acc=gJ (l.take i):=⟨_,rfl⟩
 rw [←IN] at sR AE P6 TB sO
 clear IN qY BD HB Vi
 obtain ⟨oA,oC,a4m⟩:∃ oA oC,out=.slice oA acc.length oC:=by
  rcases sR.out.2 with ⟨h9,h8⟩|⟨g,cap,cur,h9,_⟩
  ·exact ⟨none,0,by rw [h9,h8]⟩
  ·exact ⟨_,_,h9⟩
 subst a4m
 by_cases rA:p.kind=3∧p.text=[]
 ·have hk3:((p.kind:Int)==3)=true:=by rw [rA.1];rfl
  have hte:p.text.isEmpty=true:=by rw [rA.2];rfl
  have gC:=Lh (V6 (acc:=acc) rA.1 rA.2)
  clear rA
  ((repeat revert K);refine vg ?_;intro K hK)
  (refine Kk [3,7,8,9] fun f=>?_)
  refine dN.out _ _ ⟨l.length-(i+1),by rw [HK.out];omega,HJ.out _ _ _ ⟨f,i+1,_,xs,rfl,tW.out,by rw [sO.out,gC.out];exact sR.out,by rw [sO.out,gC.out];exact AE.out,?_,?_,rfl,bB⟩⟩
  ·rw [sO.out,gC.out,Fn.out]
   intro z hz
   have:=P6.out z hz;omega
  ·rw [sO.out,gC.out];have:=TB.out;omega
 by_cases hk:p.kind=3
 rotate_left
 ·have hk3:((p.kind:Int)==3)=false:=by rw [beq_eq_false_iff_ne];omega
  have gC:=Lh (show eD acc p=acc++[p] from by
   rcases List.eq_nil_or_concat acc with h9|⟨a0,q,h9⟩
   ·rw [h9];exact D8 rA
   ·rw [h9];simp only [List.concat_eq_append];exact D7 rA (fun h=>hk h.1))
  obtain ⟨w8,G0⟩:∃ w8,w8=wq.alloc (.cells #[.int .i64 p.kind,aB p.space,aB p.loc,.slice sa sl sc,aB p.text,.int .i64 p.at'] 61):=⟨_,rfl⟩
  have E3:aJ w8 wq.heap.size #[.int .i64 p.kind,aB p.space,aB p.loc,.slice sa sl sc,aB p.text,.int .i64 p.at'] 61:=by rw [G0];exact aJ.new wq _ _
  have kZ:aK (fun _=>False) wq w8:=by rw [G0];exact (aK.refl _ wq).alloc _
  obtain ⟨v',w9,gA,eC,tR,hv,gv,cv,Fj⟩:=yJ yH underlying23 rfl (by decide) (by decide) w8 w0.heap.size (Nat.le_trans tW.out.size kZ.size) (.slice oA acc.length oC) acc.length (by have:=TB.out;have:=cL.out;omega) xs (aG (S:=fun _=>False) sR.out kZ (fun _ _=>id)) wq.heap.size (eL p (.slice sa sl sc)) rfl
   (fun j u hj=>by rw [E3.cell];simpa [eL] using hj)
   (fun u hu=>by
    simp only [eL,List.mem_cons,List.not_mem_nil,or_false] at hu
    rcases hu with rfl|rfl|rfl|rfl|rfl|rfl<;>rfl)
  subst Fj
  have xC:=Lh eC
  have tG:=Lh (show aK (fun k=>w0.heap.size≤k) wq w9 from (kZ.mono (fun _ _ h=>h.elim)).trans (tR.mono (fun k _ hk=>(aV sR.out hk).2)) (fun _ _ h=>h))
  clear E3 kZ eC tR hv
  ((repeat revert K);refine vB ?_;(repeat with_reducible intro K hK))
  rw [←G0]
  clear G0
  refine gQ rfl (.tmp 15) (.tmp 17) _ _ rfl _ _ _ (by rw [dZ (by decide)];(try simp only [aL,aQ,aS,bD,Nat.reduceEqDiff,↓reduceIte]);(try rfl)) (by rw [dZ (by decide)];(try simp only [aL,aQ,aS,bD,Nat.reduceEqDiff,↓reduceIte]);(try rfl)) gA ?_
  clear gA
  rw [mC (by decide)]
  ((repeat revert K);refine vg ?_;intro K hK)
  (refine Kk [3,7,8,9] fun f=>?_)
  refine dN.out _ _ ⟨l.length-(i+1),by rw [HK.out];omega,HJ.out _ _ _ ⟨f,i+1,_,_,rfl,aK.below tW.out tW.out.size tG.out (fun _ h=>h),by rw [sO.out,gC.out];first|(rw [List.length_append];exact xC.out)|(have h9:=xC.out;simp only [List.length_append,List.length_singleton,List.length_nil] at h9 ⊢;exact h9),by rw [sO.out,gC.out];exact .snoc (AE.out.mono (fun _ _ hh=>lB.mod (G':=fun k=>k<w0.heap.size) hh tG.out (fun k hk _=>⟨by omega,hk⟩))) ⟨sa,sl,sc,rfl,aG Vj.out tG.out (fun g hg he=>by have:=Q0.out g hg;omega),Q0.out⟩,?_,?_,rfl,bB⟩⟩
  ·rw [sO.out,gC.out,Fn.out]
   intro z hz
   rcases List.mem_append.1 hz with h9|h9
   ·have:=P6.out z h9;omega
   ·simp only [List.mem_singleton] at h9;rw [h9];omega
  ·rw [sO.out,gC.out,List.length_append];have:=TB.out;simp<;>omega
 have hk3:((p.kind:Int)==3)=true:=by rw [hk];rfl
 have Ff:p.text≠[]:=fun h=>rA ⟨hk,h⟩
 have hte:p.text.isEmpty=false:=by cases h9:p.text with
  | nil=>exact absurd h9 Ff
  | cons=>rfl
 rcases List.eq_nil_or_concat acc with h9|⟨a0,q,h9⟩
 ·subst h9
  have nC:=Lh rA
  clear Ff rA hk
  have gC:=Lh (show eD ([]:List cH) p=([]:List cH)++[p] from D8 nC.out)
  obtain ⟨w8,G0⟩:∃ w8,w8=wq.alloc (.cells #[.int .i64 p.kind,aB p.space,aB p.loc,.slice sa sl sc,aB p.text,.int .i64 p.at'] 61):=⟨_,rfl⟩
  have E3:aJ w8 wq.heap.size #[.int .i64 p.kind,aB p.space,aB p.loc,.slice sa sl sc,aB p.text,.int .i64 p.at'] 61:=by rw [G0];exact aJ.new wq _ _
  have kZ:aK (fun _=>False) wq w8:=by rw [G0];exact (aK.refl _ wq).alloc _
  obtain ⟨v',w9,gA,eC,tR,hv,gv,cv,Fj⟩:=yJ yH underlying23 rfl (by decide) (by decide) w8 w0.heap.size (Nat.le_trans tW.out.size kZ.size) (.slice oA ([]:List cH).length oC) ([]:List cH).length (by have:=TB.out;have:=cL.out;omega) xs (aG (S:=fun _=>False) sR.out kZ (fun _ _=>id)) wq.heap.size (eL p (.slice sa sl sc)) rfl
   (fun j u hj=>by rw [E3.cell];simpa [eL] using hj)
   (fun u hu=>by
    simp only [eL,List.mem_cons,List.not_mem_nil,or_false] at hu
    rcases hu with rfl|rfl|rfl|rfl|rfl|rfl<;>rfl)
  subst Fj
  have xC:=Lh eC
  have tG:=Lh (show aK (fun k=>w0.heap.size≤k) wq w9 from (kZ.mono (fun _ _ h=>h.elim)).trans (tR.mono (fun k _ hk=>(aV sR.out hk).2)) (fun _ _ h=>h))
  clear E3 kZ eC tR hv
  ((repeat revert K);refine vB ?_;(repeat with_reducible intro K hK))
  rw [←G0]
  clear G0
  refine gQ rfl (.tmp 15) (.tmp 17) _ _ rfl _ _ _ (by rw [dZ (by decide)];(try simp only [aL,aQ,aS,bD,Nat.reduceEqDiff,↓reduceIte]);(try rfl)) (by rw [dZ (by decide)];(try simp only [aL,aQ,aS,bD,Nat.reduceEqDiff,↓reduceIte]);(try rfl)) gA ?_
  clear gA
  rw [mC (by decide)]
  ((repeat revert K);refine vg ?_;intro K hK)
  (refine Kk [3,7,8,9] fun f=>?_)
  refine dN.out _ _ ⟨l.length-(i+1),by rw [HK.out];omega,HJ.out _ _ _ ⟨f,i+1,_,_,rfl,aK.below tW.out tW.out.size tG.out (fun _ h=>h),by rw [sO.out,gC.out];first|(rw [List.length_append];exact xC.out)|(have h9:=xC.out;simp only [List.length_append,List.length_singleton,List.length_nil] at h9 ⊢;exact h9),by rw [sO.out,gC.out];exact .snoc (AE.out.mono (fun _ _ hh=>lB.mod (G':=fun k=>k<w0.heap.size) hh tG.out (fun k hk _=>⟨by omega,hk⟩))) ⟨sa,sl,sc,rfl,aG Vj.out tG.out (fun g hg he=>by have:=Q0.out g hg;omega),Q0.out⟩,?_,?_,rfl,bB⟩⟩
  ·rw [sO.out,gC.out,Fn.out]
   intro z hz
   rcases List.mem_append.1 hz with h9|h9
   ·have:=P6.out z h9;omega
   ·simp only [List.mem_singleton] at h9;rw [h9];omega
  ·rw [sO.out,gC.out,List.length_append];have:=TB.out;simp<;>omega
 ·rw [List.concat_eq_append] at h9
  subst h9
  obtain ⟨go,cap,ZO,hgb,a3g,SY,hgm,Q6⟩:=lT sR.out (by simp)
  simp only [Value.slice.injEq] at ZO
  obtain ⟨rfl,_,rfl⟩:=ZO
  obtain ⟨ys,zs,hxs,hys,hzs⟩:=AE.out.unsnoc
  obtain ⟨qa,ql,qc,hzq,hqr,Fo⟩:=hzs
  have Ky:ys.length=a0.length*6:=hys.len (fun _ _ h=>lB.len h)
  have hz:∀ j v,(eL q (.slice qa ql qc))[j]?=some v→wq.cell? ⟨go,a0.length*6+j,none⟩=some v:=fun j v hj=>by
   refine Q6 _ _ ?_
   rw [hxs,List.getElem?_append_right (by rw [Ky];omega),Ky,Nat.add_sub_cancel_left,hzq]
   exact hj
  have z0:wq.cell? ⟨go,a0.length*6,none⟩=some (.int .i64 q.kind):=hz 0 _ rfl
  have z4:wq.cell? ⟨go,a0.length*6+4,none⟩=some (aB q.text):=hz 4 _ rfl
  have z5:wq.cell? ⟨go,a0.length*6+5,none⟩=some (.int .i64 q.at'):=hz 5 _ rfl
  obtain ⟨n,hn⟩:∃ n,n=(a0++[q]).length:=⟨_,rfl⟩
  have iL:n=a0.length+1:=by rw [hn];simp
  have wn:IntKind.i64.wrap ((n:Int)-1)=(a0.length:Int):=by rw [IntKind.wrap_i64];have h1:=TB.out;rw [List.length_append] at h1;have h2:=cL.out;omega
  have u0:(0:Int)≤(a0.length:Int):=by omega
  have u1:(0:Int)<(n:Int):=by omega
  have u2:(a0.length:Int)<(n:Int):=by omega
  have u3:0<n:=by omega
  have u4:a0.length<n:=by omega
  rw [←hn]
  have Yj:=Lh hn
  have E0:=Lh iL
  clear hn iL
  by_cases Gd:q.kind=3
  rotate_left
  ·have hqk:((q.kind:Int)==3)=false:=by rw [beq_eq_false_iff_ne];omega
   have nC:=Lh rA
   have HQ3:=Lh Gd
   clear Ff rA hk Gd hz hzq hqr Fo hys hxs Q6
   have gC:=Lh (show eD (a0++[q]) p=(a0++[q])++[p] from D7 nC.out (fun h=>HQ3.out h.2))
   obtain ⟨w8,G0⟩:∃ w8,w8=wq.alloc (.cells #[.int .i64 p.kind,aB p.space,aB p.loc,.slice sa sl sc,aB p.text,.int .i64 p.at'] 61):=⟨_,rfl⟩
   have E3:aJ w8 wq.heap.size #[.int .i64 p.kind,aB p.space,aB p.loc,.slice sa sl sc,aB p.text,.int .i64 p.at'] 61:=by rw [G0];exact aJ.new wq _ _
   have kZ:aK (fun _=>False) wq w8:=by rw [G0];exact (aK.refl _ wq).alloc _
   obtain ⟨v',w9,gA,eC,tR,hv,gv,cv,Fj⟩:=yJ yH underlying23 rfl (by decide) (by decide) w8 w0.heap.size (Nat.le_trans tW.out.size kZ.size) (.slice (some ⟨go,0,none⟩) (a0++[q]).length oC) (a0++[q]).length (by have:=TB.out;have:=cL.out;omega) xs (aG (S:=fun _=>False) sR.out kZ (fun _ _=>id)) wq.heap.size (eL p (.slice sa sl sc)) rfl
    (fun j u hj=>by rw [E3.cell];simpa [eL] using hj)
    (fun u hu=>by
     simp only [eL,List.mem_cons,List.not_mem_nil,or_false] at hu
     rcases hu with rfl|rfl|rfl|rfl|rfl|rfl<;>rfl)
   subst Fj
   have xC:=Lh eC
   have tG:=Lh (show aK (fun k=>w0.heap.size≤k) wq w9 from (kZ.mono (fun _ _ h=>h.elim)).trans (tR.mono (fun k _ hk=>(aV sR.out hk).2)) (fun _ _ h=>h))
   clear E3 kZ eC tR hv
   ((repeat revert K);refine vB ?_;(repeat with_reducible intro K hK))
   rw [←G0]
   clear G0
   have Ad:=Yj.out
   subst Ad
   refine gQ rfl (.tmp 15) (.tmp 17) _ _ rfl _ _ _ (by rw [dZ (by decide)];(try simp only [aL,aQ,aS,bD,Nat.reduceEqDiff,↓reduceIte]);(try rfl)) (by rw [dZ (by decide)];(try simp only [aL,aQ,aS,bD,Nat.reduceEqDiff,↓reduceIte]);(try rfl)) gA ?_
   clear gA
   rw [mC (by decide)]
   ((repeat revert K);refine vg ?_;intro K hK)
   (refine Kk [3,7,8,9] fun f=>?_)
   refine dN.out _ _ ⟨l.length-(i+1),by rw [HK.out];omega,HJ.out _ _ _ ⟨f,i+1,_,_,rfl,aK.below tW.out tW.out.size tG.out (fun _ h=>h),by rw [sO.out,gC.out];first|(rw [List.length_append];exact xC.out)|(have h9:=xC.out;simp only [List.length_append,List.length_singleton,List.length_nil] at h9 ⊢;exact h9),by rw [sO.out,gC.out];exact .snoc (AE.out.mono (fun _ _ hh=>lB.mod (G':=fun k=>k<w0.heap.size) hh tG.out (fun k hk _=>⟨by omega,hk⟩))) ⟨sa,sl,sc,rfl,aG Vj.out tG.out (fun g hg he=>by have:=Q0.out g hg;omega),Q0.out⟩,?_,?_,rfl,bB⟩⟩
   ·rw [sO.out,gC.out,Fn.out]
    intro z hz
    rcases List.mem_append.1 hz with h9|h9
    ·have:=P6.out z h9;omega
    ·simp only [List.mem_singleton] at h9;rw [h9];omega
   ·rw [sO.out,gC.out,List.length_append];have:=TB.out;simp<;>omega
  have hqk:((q.kind:Int)==3)=true:=by rw [Gd];rfl
  have gC:=Lh (V7 (acc:=a0) hk Ff Gd)
  have hqt:q.text.length≤iF (l.take i):=P6.out q (by simp)
  have a9:¬ 9223372036854775807<q.text.length+p.text.length:=by have h1:=Fn.out;have h2:=a4l.out;omega
  have E7:go≠w.heap.size:=by have:=Pd.out go rfl;omega
  obtain ⟨txt,Vk⟩:∃ txt,txt=q.text++p.text:=⟨_,rfl⟩
  have a5r:(⟨q.text.toArray⟩:ByteArray)++⟨p.text.toArray⟩=⟨txt.toArray⟩:=by rw [Vk];exact mP _ _
  have hj4:a0.length*6+4<(a0++[q]).length*6:=by simp;omega
  have hj5:a0.length*6+5<(a0++[q]).length*6:=by simp;omega
  have T6:∀ k,((wq.drewN k).setCell ⟨go,a0.length*6+4,none⟩ (aB txt)).ownsRow w0.heap.size 61 6 (.slice (some ⟨go,0,none⟩) (a0++[q]).length oC) (a0++[q]).length (xs.set (a0.length*6+4) (aB txt)):=fun k=>BH (FY sR.out k) _ hj4 _
  have Fh:=Lh (fun (k:Nat)=>BH (T6 k) (a0.length*6+5) hj5 (.int .i64 p.at'))
  have z5':∀ k,((wq.drewN k).setCell ⟨go,a0.length*6+4,none⟩ (aB txt)).cell? ⟨go,a0.length*6+5,none⟩=some (.int .i64 q.at'):=fun k=>by
   obtain ⟨_,_,hv9,_,_,_,_,Vl⟩:=lT (T6 k) (by simp)
   simp only [Value.slice.injEq,oY,Addr.mk.injEq] at hv9
   obtain ⟨⟨rfl,_⟩,_⟩:=hv9
   refine Vl _ _ ?_
   rw [List.getElem?_set_ne (by omega),hxs,List.getElem?_append_right (by rw [Ky];omega),Ky,Nat.add_sub_cancel_left,hzq]
   rfl
  have Zx:=fun k=>uT (T6 k) (a0.length*6+5)
  have hf4:=uT sR.out (a0.length*6+4)
  have HW5:=Lh (fun (k:Nat)=>(show aJ ((wq.drewN k).setCell ⟨go,a0.length*6+4,none⟩ (aB txt)) w.heap.size _ _ from aJ.set_ne (w:=wq.drewN k) QP.out (fun he=>E7 he.symm) _))
  have Zw:=fun k=>(HW5.out k).cell
  have HXS:=Lh (show (xs.set (a0.length*6+4) (aB txt)).set (a0.length*6+5) (.int .i64 p.at')=ys++eL { q with text:=txt,at':=p.at' } (.slice qa ql qc) by
   rw [hxs,List.set_append_right _ _ (by rw [Ky];omega),Ky,Nat.add_sub_cancel_left,List.set_append_right _ _ (by rw [Ky];omega),Ky,Nat.add_sub_cancel_left,hzq]
   rfl)
  have a2S:=Lh Vk
  have HYS:=Lh hys
  have HQR:=Lh hqr
  have HQB:=Lh Fo
  have HGB:=Lh hgb
  clear rA hk Gd Ff hz hzq hqr Fo hys hxs Q6 T6 Vk hj4 hj5 Ky SY hgm
  ((repeat revert K);refine vg ?_;(repeat with_reducible intro K hK))
  (refine aI [0,0,0,0,0,1,0,1,0,0,0,2] [0,1,2,3,4,5,6,7,8,9,10,11] (by kernel_rfl) (by kernel_rfl) ?_;refine vP ?_;repeat with_reducible intro nq)
  ((repeat revert K);refine vg ?_;intro K hK)
  (refine Kk [3,7,8,9] fun f=>?_)
  have Ad:=Yj.out
  subst Ad
  obtain ⟨w9,Yq⟩:∃ w9,w9=((wq.drewN 0).setCell ⟨go,a0.length*6+4,none⟩ (aB txt)).setCell ⟨go,a0.length*6+5,none⟩ (.int .i64 p.at'):=⟨_,rfl⟩
  have tR:aK (fun k=>k=go) wq w9:=by
   rw [Yq]
   exact aK.setCell (S:=fun k=>k=go) (aK.setCell (S:=fun k=>k=go) ((aK.refl _ wq).drewN _) (p:=⟨go,a0.length*6+4,none⟩) (Or.inl rfl) _) (p:=⟨go,a0.length*6+5,none⟩) (Or.inl rfl) _
  have hr9:=Fh.out 0
  rw [←Yq] at hr9
  have dA:gJ (l.take (i+1))=a0++[{ q with text:=txt,at':=p.at' }]:=by rw [sO.out,gC.out,a2S.out]
  have Vm:cS (lB w9 0 (fun k=>k<w0.heap.size)) (a0++[{ q with text:=txt,at':=p.at' }]) (ys++eL { q with text:=txt,at':=p.at' } (.slice qa ql qc)):=
   .snoc (HYS.out.mono (fun _ _ hh=>lB.mod (G':=fun k=>k<w0.heap.size) hh tR (fun k hk _=>⟨fun he=>by have:=HGB.out;omega,hk⟩))) ⟨qa,ql,qc,rfl,aG HQR.out tR (fun g9 Nd he=>by have h7:g9<w0.heap.size:=HQB.out g9 Nd;have:=HGB.out;omega),HQB.out⟩
  have JQ:Below w0.heap.size w0 w9:=aK.below tW.out tW.out.size tR (fun k hk=>by rw [hk];exact HGB.out)
  have zZ:BI w0 (.slice (some ⟨g,ro,none⟩) l.length C) l (l.length-(i+1)) (fr 65 f [(3,.slice (some ⟨go,0,none⟩) (a0++[q]).length oC),(7,.slice (some ⟨g,ro,none⟩) l.length C),(8,.int .i64 (l.length:Nat)),(9,.int .i64 ((i+1:Nat):Int))]) w9:=by
   refine ⟨f,i+1,_,ys++eL { q with text:=txt,at':=p.at' } (.slice qa ql qc),rfl,JQ,?_,by rw [dA];exact Vm,?_,?_,rfl,bB⟩
   ·have KT:(gJ (l.take (i+1))).length=(a0++[q]).length:=by rw [dA];simp only [List.length_append,List.length_singleton]
    rw [KT,←HXS.out]
    exact hr9
   ·rw [dA,Fn.out]
    intro z hz
    rcases List.mem_append.1 hz with h9|h9
    ·have:=P6.out z (List.mem_append_left _ h9);omega
    ·simp only [List.mem_singleton] at h9
     rw [h9]
     show txt.length≤_
     rw [a2S.out,List.length_append]
     omega
   ·rw [dA];have:=TB.out;simp only [List.length_append,List.length_singleton] at this ⊢;omega
  have h8:BI w0 (.slice (some ⟨g,ro,none⟩) l.length C) l (l.length-(i+1)) (fr 65 f [(3,.slice (some ⟨go,0,none⟩) (a0++[q]).length oC),(7,.slice (some ⟨g,ro,none⟩) l.length C),(8,.int .i64 (l.length:Nat)),(9,.int .i64 ((i+1:Nat):Int))]) _:=BI.same (w':=((((wq.drewN nq).drewN nq).setCell ⟨go,a0.length*6+4,none⟩ (aB txt)).drewN nq).setCell ⟨go,a0.length*6+5,none⟩ (.int .i64 p.at')) zZ (by rw [Yq];rfl) (by rw [Yq];rfl) (by rw [Yq];rfl) (by rw [Yq];rfl)
  exact dN.out _ _ ⟨l.length-(i+1),by rw [HK.out];omega,HJ.out _ _ _ (BI.same h8 rfl rfl rfl rfl)⟩
def a2T (w1:World) (va vb:Value) (pl:Bool) (n:Nat) (k:Nat) (ac:Act) (w:World):Prop:=
 ∃ f i,ac=fr 49 f [(0,va),(1,vb),(2,.bool pl),(18,.int .i64 (n:Nat)),(19,.int .i64 (i:Nat))]∧Below w1.heap.size w1 w∧k=n-i∧i≤n
theorem G1 {p:cH}:∀ {l acc:List cH},(∀ q∈acc,q.attrs.length≤1000000000)→(∀ q∈l,q.attrs.length≤1000000000)→p∈l.foldl eD acc→p.attrs.length≤1000000000
 | [],acc,h1,_,h=>h1 p h
 | a::l,acc,h1,h2,h=>by
  refine G1 (l:=l) (acc:=eD acc a) ?_ (fun q hq=>h2 q (by simp [hq])) h
  intro q hq
  unfold eD at hq
  split at hq
  ·exact h1 q hq
  ·split at hq
   ·rename_i q0 hl
    split at hq
    ·rcases List.mem_append.1 hq with h9|h9
     ·exact h1 q (List.dropLast_subset _ h9)
     ·simp only [List.mem_singleton] at h9
      rw [h9]
      exact h1 q0 (List.mem_of_getLast? hl)
    ·rcases List.mem_append.1 hq with h9|h9
     ·exact h1 q h9
     ·simp only [List.mem_singleton] at h9
      rw [h9];exact h2 a (by simp)
   ·rcases List.mem_append.1 hq with h9|h9
    ·exact h1 q h9
    ·simp only [List.mem_singleton] at h9
     rw [h9];exact h2 a (by simp)
theorem Vn (w0:World) (l:List cH) (bF:l.length≤1000000000) (GZ:iF l≤4611686018427387904) (iE:∀ q∈l,q.attrs.length≤1000000000) (A A':Option Addr) (C C':Nat)
  (qG:0<l.length→∃ g ro,A=some ⟨g,ro,none⟩∧g<w0.heap.size∧∀ i p,l[i]?=some p→yL w0 g (ro+i*6) w0.heap.size p)
  (a2U:0<l.length→∃ g ro,A'=some ⟨g,ro,none⟩∧g<w0.heap.size∧∀ i p,l[i]?=some p→yL w0 g (ro+i*6) w0.heap.size p) (pl:Bool) :
  Calls prog 6 #[.slice A l.length C,.slice A' l.length C',.bool pl] w0 fun e w'=>e=.returned (.bool true)∧Below w0.heap.size w0 w':=by
 have oJ:=Lh (NN w0 l bF GZ A C qG)
 have a2V:=Lh a2U
 have cL:=Lh bF
 have Cn:=Lh GZ
 have tC:=Lh (fun p (hp:p∈gJ l)=>G1 (p:=p) (l:=l) (acc:=[]) (by simp) iE hp)
 clear bF GZ qG a2U iE
 refine eJ 49 func6 [_,_,_] fun f=>?_
 simp only [aE]
 (refine vg ?_;(repeat with_reducible intro K hK))
 refine oJ.out.mono ?_
 rintro e1 w1 ⟨va,xs,rfl,bP,BV,mF,a2W⟩
 have fV:=Lh bP
 have CB:=Lh BV
 have R3:=Lh mF
 have TB:=Lh a2W
 have wS:=Lh (NN w1 l cL.out Cn.out A' C' (fun h=>by
  obtain ⟨g,ro,h1,h2,h3⟩:=a2V.out h
  refine ⟨g,ro,h1,Nat.lt_of_lt_of_le h2 bP.size,fun i p hp=>?_⟩
  obtain ⟨sa,sl,sc,c0,c1,c2,c3,c4,c5,c6,c7⟩:=(h3 i p hp).ex
  have tr:∀ j v,w0.cell? ⟨g,j,none⟩=some v→w1.cell? ⟨g,j,none⟩=some v:=fun j v h=>(bP.cell (p:=⟨g,j,none⟩) h2).trans h
  exact ⟨sa,sl,sc,tr _ _ c0,tr _ _ c1,tr _ _ c2,tr _ _ c3,tr _ _ c4,tr _ _ c5,aG (S:=fun _=>False) c6 (aH bP _) (fun _ _=>id),fun k hk=>Nat.lt_of_lt_of_le (c7 k hk) bP.size⟩))
 clear bP BV mF a2W oJ a2V
 ((repeat revert K);refine vS ?_;(repeat with_reducible intro K hK))
 refine wS.out.mono ?_
 rintro e2 w2 ⟨vb,ys,rfl,dJ,QC,wD,a4n⟩
 obtain ⟨m,hm⟩:∃ m,m=gJ l:=⟨_,rfl⟩
 rw [←hm] at QC wD CB R3 TB tC
 have nK:=Lh (fV.out.trans (dJ.mono fV.out.size))
 have Vo:aK (fun _=>False) w1 w2:=aH dJ _
 have a4o:=Lh (aG (S:=fun _=>False) CB.out Vo (fun _ _=>id))
 have a4p:=Lh (R3.out.mono (fun _ _ hh=>lB.mod (G':=fun k=>k<w0.heap.size) hh Vo (fun k hk _=>⟨id,hk⟩)))
 have QQ:=Lh QC
 have fB:=Lh wD
 obtain ⟨aA,aC,rfl⟩:∃ aA aC,va=.slice aA m.length aC:=by
  rcases CB.out.2 with ⟨h9,h8⟩|⟨g,cap,cur,h9,_⟩
  ·exact ⟨none,0,by rw [h9,h8]⟩
  ·exact ⟨_,_,h9⟩
 obtain ⟨bA,bC,rfl⟩:∃ bA bC,vb=.slice bA m.length bC:=by
  rcases QQ.out.2 with ⟨h9,h8⟩|⟨g,cap,cur,h9,_⟩
  ·exact ⟨none,0,by rw [h9,h8]⟩
  ·exact ⟨_,_,h9⟩
 clear dJ QC wD a4n hm Vo wS CB R3
 ((repeat revert K);refine vS ?_;intro K hK)
 (refine cJ [0,1,2,18,19] fun f=>?_)
 refine wp_loop_ghost_k (a2T w2 (.slice aA m.length aC) (.slice bA m.length bC) pl m.length) m.length ⟨f,0,rfl,Below.refl _ w2,rfl,Nat.zero_le _⟩ ?_
 rintro k _ w ⟨f,i,rfl,hb,hk,hi⟩ J K2 hJ cY
 have HJ:=Lh hJ
 have dN:=Lh cY
 have HB:=Lh hb
 have HK:=Lh hk
 clear hJ cY hb hk
 by_cases bB:i<m.length
 rotate_left
 ·have sX:i=m.length:=by omega
  subst sX
  have t1:¬ ((m.length:Int)<(m.length:Int)):=by omega
  (revert K;refine vg ?_)
  (refine cW ?_)
  exact ⟨rfl,nK.out.trans (HB.out.mono nK.out.size)⟩
 have t0:(0:Int)≤(i:Int):=by omega
 have t1:(i:Int)<(m.length:Int):=by omega
 have wi:IntKind.i64.wrap ((i:Int)+1)=((i+1:Nat):Int):=by rw [IntKind.wrap_i64];have:=cL.out;have:=TB.out;omega
 obtain ⟨p,hp⟩:∃ p,m[i]?=some p:=⟨m[i],by simp [bB]⟩
 have HAP:=Lh (tC.out p (List.mem_of_getElem? hp))
 obtain ⟨ga,ca,hva,_,Vp,_,_,wG⟩:=lT a4o.out (by omega)
 obtain ⟨gb,cb,Pg,_,Vq,_,_,Pb⟩:=lT QQ.out (by omega)
 simp only [Value.slice.injEq] at hva Pg
 obtain ⟨rfl,_,rfl⟩:=hva
 obtain ⟨rfl,_,rfl⟩:=Pg
 obtain ⟨sa,sl,sc,a0,a1,a2,a3,a4,a5,har,_⟩:=(CG a4p.out wG hp).ex
 obtain ⟨sa',sl',sc',b0,b1,b2,b3,b4,b5,hZ,_⟩:=(CG fB.out Pb hp).ex
 have tra:∀ j v,w2.cell? ⟨ga,j,none⟩=some v→w.cell? ⟨ga,j,none⟩=some v:=fun j v h=>(HB.out.cell (p:=⟨ga,j,none⟩) Vp).trans h
 have trb:∀ j v,w2.cell? ⟨gb,j,none⟩=some v→w.cell? ⟨gb,j,none⟩=some v:=fun j v h=>(HB.out.cell (p:=⟨gb,j,none⟩) Vq).trans h
 replace a0:=tra _ _ a0
 replace a1:=tra _ _ a1
 replace a2:=tra _ _ a2
 replace a3:=tra _ _ a3
 replace a4:=tra _ _ a4
 replace a5:=tra _ _ a5
 replace b0:=trb _ _ b0
 replace b1:=trb _ _ b1
 replace b2:=trb _ _ b2
 replace b3:=trb _ _ b3
 replace b4:=trb _ _ b4
 replace b5:=trb _ _ b5
 have HGA:=Lh Vp
 have HGB:=Lh Vq
 have JO:=Lh a5
 have vQ:=Lh b5
 have a2X:=Lh (fun (k:Nat)=>Kb (w.drewN k) p HAP.out 0 0 sa sl sc sa' sl' sc' (aG (S:=fun _=>False) har (eF (aH HB.out (fun _=>False)) rfl rfl rfl rfl) (fun _ _=>id)) (aG (S:=fun _=>False) hZ (eF (aH HB.out (fun _=>False)) rfl rfl rfl rfl) (fun _ _=>id)))
 clear wG Pb har hZ tra trb Vp Vq hp
 cases pl with
 | false=>
  (revert K;refine vg ?_;(repeat with_reducible intro K hK))
  (refine aI [0,0,0,1,0,0,0,1,2,0,0,0,0,0,0,0,0,1,0,0,0,0,1,0,0,0] [0,1,2,3,4,5,6,7,8,9,10,11,12,13,14,15,16,17,18,19,20,21,22,23,24,25] (by kernel_rfl) (by kernel_rfl) ?_;refine vP ?_;repeat with_reducible intro nq)
  (refine bK rfl rfl (fun nq K hK=>?_);go_simp)
  refine (a2X.out _).mono ?_
  rintro e5 w5 ⟨rfl,jM⟩
  have D9:=Lh (show Below w2.heap.size w2 w5 from HB.out.trans ((show Below w.heap.size w w5 from ⟨jM.os,jM.tape,jM.output,jM.size,jM.block⟩).mono HB.out.size))
  clear jM
  (go_simp;refine hK.out _ _ ?_;clear hK K)
  (refine vP ?_;repeat with_reducible intro nq)
  ((repeat revert K);refine vg ?_;intro K hK)
  (refine Kk [0,1,2,18,19] fun f=>?_)
  exact dN.out _ _ ⟨m.length-(i+1),by rw [HK.out];omega,HJ.out _ _ _ ⟨f,i+1,rfl,⟨D9.out.os,D9.out.tape,D9.out.output,D9.out.size,D9.out.block⟩,rfl,bB⟩⟩
 | true=>
  (revert K;refine vg ?_;(repeat with_reducible intro K hK))
  (refine aI [0,0,0,1,0,0,0,1,2,0,0,0,0,0,0,0,0,1,0,0,0,0,1,0,0,0] [0,1,2,3,4,5,6,7,8,9,10,11,12,13,14,15,16,17,18,19,20,21,22,23,24,25] (by kernel_rfl) (by kernel_rfl) ?_;refine vP ?_;repeat with_reducible intro nq)
  (refine bK rfl rfl (fun nq K hK=>?_);go_simp)
  refine (a2X.out _).mono ?_
  rintro e5 w5 ⟨rfl,jM⟩
  have Kz:Below w.heap.size w w5:=⟨jM.os,jM.tape,jM.output,jM.size,jM.block⟩
  have D9:=Lh (show Below w2.heap.size w2 w5 from HB.out.trans (Kz.mono HB.out.size))
  have a5':w5.cell? ⟨ga,i*6+5,none⟩=some (.int .i64 p.at'):=(Kz.cell (p:=⟨ga,i*6+5,none⟩) (Nat.lt_of_lt_of_le HGA.out HB.out.size)).trans JO.out
  have b5':w5.cell? ⟨gb,i*6+5,none⟩=some (.int .i64 p.at'):=(Kz.cell (p:=⟨gb,i*6+5,none⟩) (Nat.lt_of_lt_of_le HGB.out HB.out.size)).trans vQ.out
  clear jM Kz a0 a1 a2 a3 a4 a5 b0 b1 b2 b3 b4 b5
  (go_simp;refine hK.out _ _ ?_;clear hK K)
  (refine vP ?_;repeat with_reducible intro nq)
  ((repeat revert K);refine vg ?_;intro K hK)
  (refine Kk [0,1,2,18,19] fun f=>?_)
  exact dN.out _ _ ⟨m.length-(i+1),by rw [HK.out];omega,HJ.out _ _ _ ⟨f,i+1,rfl,⟨D9.out.os,D9.out.tape,D9.out.output,D9.out.size,D9.out.block⟩,rfl,bB⟩⟩
theorem Vr:∀ n:Fin 256,(bits .or .u8 (n.val:Int) 32==120)=(eH (UInt8.ofNat n.val)==120)∧(bits .or .u8 (n.val:Int) 32==109)=(eH (UInt8.ofNat n.val)==109)∧(bits .or .u8 (n.val:Int) 32==108)=(eH (UInt8.ofNat n.val)==108):=by decide +kernel
theorem Vs (b:UInt8):(bits .or .u8 (b.toNat:Int) 32==120)=(eH b==120)∧(bits .or .u8 (b.toNat:Int) 32==109)=(eH b==109)∧(bits .or .u8 (b.toNat:Int) 32==108)=(eH b==108):=by
 have:=Vr ⟨b.toNat,b.toNat_lt⟩
 simpa using this
theorem Q7 (s:Bs) (w:World):Calls prog 49 #[aB s] w fun e w'=>e=.returned (.bool (BS s))∧w'=w:=by
 by_cases hl:3≤s.length
 ·obtain ⟨a,b,c,r,hs⟩:∃ a b c r,s=a::b::c::r:=by
   match s,hl with
   | a::b::c::r,_=>exact ⟨a,b,c,r,rfl⟩
  have ix0:∀ h,(⟨s.toArray⟩:ByteArray)[0]'h=a:=by rw [hs];exact fun h=>rfl
  have ix1:∀ h,(⟨s.toArray⟩:ByteArray)[1]'h=b:=by rw [hs];exact fun h=>rfl
  have ix2:∀ h,(⟨s.toArray⟩:ByteArray)[2]'h=c:=by rw [hs];exact fun h=>rfl
  have HR:=Lh (show BS s=((eH a==120)&&(eH b==109)&&(eH c==108)) by
   rw [hs]
   show ([eH a,eH b,eH c]==[120,109,108])=_
   cases h1:(eH a==120)<;>cases h2:(eH b==109)<;>cases h3:(eH c==108)<;>simp_all)
  have z0:(3:Int)≤(s.length:Int):=by omega
  have z1:(0:Int)<(s.length:Int):=by omega
  have z2:(1:Int)<(s.length:Int):=by omega
  have z3:(2:Int)<(s.length:Int):=by omega
  have n1:0<s.length:=by omega
  have n2:1<s.length:=by omega
  have n3:2<s.length:=by omega
  have l1:=(Vs a).1
  have l2:=(Vs b).2.1
  have l3:=(Vs c).2.2
  cases h1:(eH a==120)<;>cases h2:(eH b==109)<;>cases h3:(eH c==108)
  all_goals
   rw [h1] at l1 HR
   rw [h2] at l2 HR
   rw [h3] at l3 HR
   rw [HR.out]
   clear h1 h2 h3 hs HR hl
   refine eJ 24 func49 [_] fun f=>?_
   simp only [aE]
   refine vg ?_
   (refine cW ?_)
   exact ⟨rfl,rfl⟩
 ·have HR:=Lh (show BS s=false by
   match s,hl with
   | [],_=>rfl
   | [a],_=>unfold BS;simp
   | [a,b],_=>unfold BS;simp
   | a::b::c::r,h=>exact absurd (by simp) h)
  have z0:¬ (3:Int)≤(s.length:Int):=by omega
  clear hl
  refine eJ 24 func49 [_] fun f=>?_
  simp only [aE]
  refine vg ?_
  (refine cW ?_)
  exact ⟨by rw [HR.out],rfl⟩
def dV1:Bs:=[118,101,114,115,105,111,110,61,34,49,46,48,34]
def dV2:Bs:=[118,101,114,115,105,111,110,61,39,49,46,48,39]
def dE:List Bs:=[[],[32,101,110,99,111,100,105,110,103,61,34,85,84,70,45,56,34],[32,101,110,99,111,100,105,110,103,61,39,117,116,102,45,56,39]]
def dS:List Bs:=[[],[32,115,116,97,110,100,97,108,111,110,101,61,34,121,101,115,34],[32,115,116,97,110,100,97,108,111,110,101,61,39,110,111,39]]
def NO (s a b:Bs):Bool:=s==dV1++a++b||s==dV2++a++b
theorem Co (s:Bs):lM.contains s=dE.any fun a=>dS.any fun b=>NO s a b:=by
 rw [Bool.eq_iff_iff]
 show (dE.flatMap fun a=>dS.flatMap fun b=>[dV1++a++b,dV2++a++b]).contains s=true↔_
 simp only [List.contains_iff_mem,List.mem_flatMap,List.mem_cons,List.not_mem_nil,or_false,List.any_eq_true,NO,Bool.or_eq_true,beq_iff_eq]
abbrev dEc:Array Value:=#[.string ⟨#[]⟩,.string ⟨#[32,101,110,99,111,100,105,110,103,61,34,85,84,70,45,56,34]⟩,.string ⟨#[32,101,110,99,111,100,105,110,103,61,39,117,116,102,45,56,39]⟩]
abbrev dSc:Array Value:=#[.string ⟨#[]⟩,.string ⟨#[32,115,116,97,110,100,97,108,111,110,101,61,34,121,101,115,34]⟩,.string ⟨#[32,115,116,97,110,100,97,108,111,110,101,61,39,110,111,39]⟩]
theorem Vt:∀ i,i<3→∃ a,dE[i]?=some a∧dEc[i]?=some (aB a)∧a.length≤100
 | 0,_=>⟨_,rfl,rfl,by decide⟩
 | 1,_=>⟨_,rfl,rfl,by decide⟩
 | 2,_=>⟨_,rfl,rfl,by decide⟩
theorem Vu:∀ i,i<3→∃ a,dS[i]?=some a∧dSc[i]?=some (aB a)∧a.length≤100
 | 0,_=>⟨_,rfl,rfl,by decide⟩
 | 1,_=>⟨_,rfl,rfl,by decide⟩
 | 2,_=>⟨_,rfl,rfl,by decide⟩
def DeO (s:Bs) (g1:Nat) (w0:World) (k:Nat) (ac:Act) (w:World):Prop:=
 ∃ f i,ac=fr 35 f [(0,aB s),(7,.slice (some ⟨g1,0,none⟩) 3 3),(8,.int .i64 3),(9,.int .i64 (i:Nat))]∧aJ w g1 dEc 9∧aK (fun _=>False) w0 w∧k=3-i∧i≤3∧((dE.take i).any fun a=>dS.any fun b=>NO s a b)=false
def DeI (s:Bs) (g1 g2:Nat) (i:Nat) (a:Bs) (w0:World) (k:Nat) (ac:Act) (w:World):Prop:=
 ∃ f j,ac=fr 35 f [(0,aB s),(4,aB a),(7,.slice (some ⟨g1,0,none⟩) 3 3),(8,.int .i64 3),(9,.int .i64 (i:Nat)),(13,.slice (some ⟨g2,0,none⟩) 3 3),(14,.int .i64 3),(15,.int .i64 (j:Nat))]∧w0=w∧k=3-j∧j≤3∧((dS.take j).any fun b=>NO s a b)=false
theorem NP {α:Type} {l:List α} {i:Nat} {a:α} {p:α→Bool} (h:l[i]?=some a) (h1:(l.take i).any p=false) (h2:p a=false):(l.take (i+1)).any p=false:=by
 rw [List.take_add_one,h,List.any_append,h1]
 simp [h2]
theorem Vv (s:Bs) (w:World):Calls prog 50 #[aB s] w fun e w'=>e=.returned (.bool (lM.contains s))∧aK (fun _=>False) w w':=by
 obtain ⟨wa,jY⟩:∃ wa,wa=w.alloc (.cells dEc 9):=⟨_,rfl⟩
 have k8:aJ wa w.heap.size dEc 9:=by rw [jY];exact aJ.new w _ _
 have Ci:=Lh (show aK (fun _=>False) w wa by rw [jY];exact (aK.refl _ w).alloc _)
 obtain ⟨g1,RU⟩:∃ g1,g1=w.heap.size:=⟨_,rfl⟩
 rw [←RU] at k8
 have s7:=Lh k8
 have Xp:=Lh (Co s)
 clear k8
 refine eJ 35 func50 [_] fun f=>?_
 simp only [aE]
 (refine vg ?_;intro K hK)
 rw [←jY,←RU]
 clear jY RU
 (refine cJ [0,7,8,9] fun f=>?_)
 refine wp_loop_ghost_k (DeO s g1 w) 3 ⟨f,0,rfl,s7.out,Ci.out,rfl,by omega,rfl⟩ ?_
 rintro k _ w2 ⟨f,i,rfl,hb,hm,hk,hi,Bi⟩ J K2 hJ cY
 have HJ:=Lh hJ
 have dN:=Lh cY
 have HB:=Lh hb
 have HM:=Lh hm
 have HK:=Lh hk
 have NA:=Lh Bi
 clear hJ cY hb hm hk Bi s7 Ci
 by_cases bB:i<3
 ·have t0:(0:Int)≤(i:Int):=by omega
  have t1:(i:Int)<3:=by omega
  obtain ⟨a,ha,hac,iE⟩:=Vt i bB
  have Zi:w2.cell? ⟨g1,i,none⟩=some (aB a):=by rw [HB.out.cell];exact hac
  obtain ⟨wb,mZ⟩:∃ wb,wb=w2.alloc (.cells dSc 9):=⟨_,rfl⟩
  have vG:aJ wb w2.heap.size dSc 9:=by rw [mZ];exact aJ.new w2 _ _
  have fV:=Lh (show aJ wb g1 dEc 9 by rw [mZ];exact HB.out.alloc _)
  have HMB:=Lh (show aK (fun _=>False) w wb by rw [mZ];exact HM.out.alloc _)
  obtain ⟨g2,CU⟩:∃ g2,g2=w2.heap.size:=⟨_,rfl⟩
  rw [←CU] at vG
  have pO:=Lh vG
  have tC:=Lh iE
  have HAI:=Lh ha
  clear vG iE ha hac
  (revert K;refine vg ?_;(repeat with_reducible intro K hK))
  rw [←mZ,←CU]
  clear mZ CU Zi
  (refine cJ [0,4,7,8,9,13,14,15] fun f=>?_)
  refine wp_loop_ghost_k (DeI s g1 g2 i a wb) 3 ⟨f,0,rfl,rfl,rfl,by omega,rfl⟩ ?_
  rintro k5 _ w5 ⟨f,j,rfl,rfl,hk5,hj,Pi⟩ J5 K5 hJ5 hK5
  have HJ5:=Lh hJ5
  have HK5:=Lh hK5
  have Ny:=Lh hk5
  have Pj:=Lh Pi
  clear hJ5 hK5 hk5 Pi
  by_cases a2Y:j<3
  ·have u0:(0:Int)≤(j:Int):=by omega
   have u1:(j:Int)<3:=by omega
   obtain ⟨b,hbj,hbc,eZ⟩:=Vu j a2Y
   have u7:wb.cell? ⟨g2,j,none⟩=some (aB b):=by rw [pO.out.cell];exact hbc
   have wj:IntKind.i64.wrap ((j:Int)+1)=((j+1:Nat):Int):=by rw [IntKind.wrap_i64];omega
   obtain ⟨p1,qH⟩:∃ p1,p1=dV1++a:=⟨_,rfl⟩
   obtain ⟨p2,mG⟩:∃ p2,p2=dV2++a:=⟨_,rfl⟩
   obtain ⟨q1,O1⟩:∃ q1,q1=p1++b:=⟨_,rfl⟩
   obtain ⟨q2,AQ⟩:∃ q2,q2=p2++b:=⟨_,rfl⟩
   have c1:(⟨#[118,101,114,115,105,111,110,61,34,49,46,48,34]⟩:ByteArray)++⟨a.toArray⟩=⟨p1.toArray⟩:=by rw [qH];exact mP dV1 a
   have c2:(⟨#[118,101,114,115,105,111,110,61,39,49,46,48,39]⟩:ByteArray)++⟨a.toArray⟩=⟨p2.toArray⟩:=by rw [mG];exact mP dV2 a
   have c3:(⟨p1.toArray⟩:ByteArray)++⟨b.toArray⟩=⟨q1.toArray⟩:=by rw [O1];exact mP p1 b
   have c4:(⟨p2.toArray⟩:ByteArray)++⟨b.toArray⟩=⟨q2.toArray⟩:=by rw [AQ];exact mP p2 b
   have A5:p1.length=13+a.length:=by rw [qH,List.length_append];rfl
   have y8:p2.length=13+a.length:=by rw [mG,List.length_append];rfl
   have a1:¬ 9223372036854775807<13+a.length:=by have:=tC.out;omega
   have a3:¬ 9223372036854775807<p1.length+b.length:=by have:=tC.out;omega
   have a4:¬ 9223372036854775807<p2.length+b.length:=by have:=tC.out;omega
   have Gi:=Lh (show NO s a b=(s==q1||s==q2) by rw [O1,AQ,qH,mG];rfl)
   have HBJ:=Lh hbj
   clear hbj hbc eZ qH mG O1 AQ A5 y8
   have a2Z:=Lh (show NO s a b=true→lM.contains s=true from fun h=>by
    rw [Xp.out,List.any_eq_true]
    refine ⟨a,List.mem_of_getElem? HAI.out,?_⟩
    rw [List.any_eq_true]
    exact ⟨b,List.mem_of_getElem? HBJ.out,h⟩)
   cases hh1:(s==q1) with
   | true=>
    have HR:=Lh (a2Z.out (by rw [Gi.out,hh1];rfl))
    ((repeat revert K);refine vg ?_;(repeat with_reducible intro K hK))
    (refine cW ?_)
    exact ⟨by rw [HR.out],HMB.out⟩
   | false=>
    cases hh2:(s==q2) with
    | true=>
     have HR:=Lh (a2Z.out (by rw [Gi.out,hh1,hh2];rfl))
     ((repeat revert K);refine vg ?_;(repeat with_reducible intro K hK))
     (refine cW ?_)
     exact ⟨by rw [HR.out],HMB.out⟩
    | false=>
     have xP:=Lh (NP (p:=fun b=>NO s a b) HBJ.out Pj.out (by rw [Gi.out,hh1,hh2];rfl))
     ((repeat revert K);refine vg ?_;(repeat with_reducible intro K hK))
     (refine Kk [0,4,7,8,9,13,14,15] fun f=>?_)
     exact HK5.out _ _ ⟨3-(j+1),by rw [Ny.out];omega,HJ5.out _ _ _ ⟨f,j+1,rfl,rfl,rfl,a2Y,xP.out⟩⟩
  ·have hjj:j=3:=by omega
   subst hjj
   have wi:IntKind.i64.wrap ((i:Int)+1)=((i+1:Nat):Int):=by rw [IntKind.wrap_i64];omega
   have xP:=Lh (NP (p:=fun a=>dS.any fun b=>NO s a b) HAI.out NA.out Pj.out)
   ((repeat revert K);refine vg ?_;intro K hK)
   (refine Kk [0,7,8,9] fun f=>?_)
   exact dN.out _ _ ⟨3-(i+1),by rw [HK.out];omega,HJ.out _ _ _ ⟨f,i+1,rfl,fV.out,HMB.out,rfl,bB,xP.out⟩⟩
 ·have sX:i=3:=by omega
  subst sX
  have HR:=Lh (show lM.contains s=false by rw [Xp.out];exact NA.out)
  (revert K;refine vg ?_)
  (refine cW ?_)
  exact ⟨by rw [HR.out],HM.out⟩
end Go.Proofs.YtdjdjbpnbjdaaaaGreatDoor
