/- Part of the proof that laws.FnRawTokens returns true for every argument. No conditions. -/
import Derived.Test.YtdjdjbpnbjdaaaaGreatDoorP13
import Derived.Test.YtdjdjbpnbjdaaaaGreatDoorP19
set_option linter.all false
set_option maxHeartbeats 8000000
set_option maxRecDepth 100000
namespace Go.Proofs.YtdjdjbpnbjdaaaaGreatDoor
open Go Go.RowKit Tryz
structure M0 (x:Cx) (c:DC) (w:World) (v:DV) (k:Int) (fb:List Nat) (w':World) (q:Nat) (fb':List Nat):Prop where
 dec:∃ c',bO w' x.d c' v∧∃ nx dp,c'={ c with stk:=.pointer (some ⟨q,0,none⟩),free:=nx,depth:=dp }∧∃ fl,jB w' nx fl fb'
 blk:∃ sp loc ok,aJ w' q (kB c.stk k sp loc ok) 91
 mod:aK (fun b=>b=x.d∨b=q) w w'
 fbs:(fb=q::fb')∨(fb=[]∧fb'=[]∧q=w.heap.size)
theorem jB.ptr {w:World} {p:Value} {l:List mQ} {bs:List Nat} (h:jB w p l bs):(p=.pointer none∧bs=[]∧l=[])∨∃ q e l' bs',p=.pointer (some ⟨q,0,none⟩)∧bs=q::bs'∧l=e::l':=by
 cases l with
 | nil=>
  cases bs with
  | nil=>exact Or.inl ⟨h,rfl,rfl⟩
  | cons b bs=>exact h.elim
 | cons e l=>
  cases bs with
  | nil=>exact h.elim
  | cons b bs=>exact Or.inr ⟨b,e,l,bs,h.1,rfl,rfl⟩
noncomputable def Aj (n:Nat):Code:=((Tryz.f72.body).bind (Code.partAt n)).getD .skip
noncomputable def Ak (n:Nat):Code:=((Tryz.f73.body).bind (Code.partAt n)).getD .skip
theorem M1 (x:Cx) (c:DC) (w:World) (v:DV) (hd:bO w x.d c v) (k:Int) (hk:k=0∨k=1) (q:Nat) (E5:q≠x.d) (nx:Value) (k0:Int) (sp loc:Bs) (ok:Bool) (hq:aJ w q (kB nx k0 sp loc ok) 91) (a:Option Addr) (vY:c.stk=.pointer a) (Q:Exit→Act→World→Prop)
  (hQ:∀ f w' c',bO w' x.d c' v→(∃ dp,c'={ c with stk:=.pointer (some ⟨q,0,none⟩),depth:=dp })→aJ w' q (kB c.stk k sp loc ok) 91→aK (fun b=>b=x.d∨b=q) w w'→Q .ret (fr 45 f [(4,.pointer (some ⟨q,0,none⟩))]) w') (f:Nat→Value) :
  (Aj 5).wp prog Q (fr 45 f [(0,bS x),(1,.int .i64 k),(5,.pointer (some ⟨q,0,none⟩))]) w:=by
 have hc:=hd.cell
 have hf:=hd.frozen
 have nU:=hq.cell
 have s6:=hq.frozen
 have SM:x.d≠q:=fun e=>E5 e.symm
 have HD:=Lh hd
 have HB:=Lh hq
 have HQ:=Lh hQ
 clear hd hq hQ
 obtain ⟨c1,c2,c3,c4,c5,c6,c7,c8,c9,c10,c11,c12,c13⟩:=c
 simp only at vY
 subst vY
 unfold Aj
 conv=>arg 2;whnf
 have hm:∀ (S:Nat→Prop),S x.d→S q→∀ (u1 u2 u3:Value),aK S w (((w.setCell ⟨q,0,none⟩ u1).setCell ⟨q,1,none⟩ u2).setCell ⟨x.d,11,none⟩ u3):=fun S h1 h2 u1 u2 u3=>
  (((aK.refl S w).setCell (p:=⟨q,0,none⟩) (Or.inl h2) u1).setCell (p:=⟨q,1,none⟩) (Or.inl h2) u2).setCell (p:=⟨x.d,11,none⟩) (Or.inl h1) u3
 have HM:=Lh hm
 clear hm
 rcases hk with rfl|rfl
 ·refine vg ?_
  refine Qk [4] fun f=>?_
  refine HQ.out f _ _ ?_ ⟨IntKind.i64.wrap (c7+1),rfl⟩ ?_ ?_
  ·exact ((((show aJ w x.d _ _ from HD.out).set_ne (a:=⟨q,0,none⟩) SM (.pointer a)).set_ne (a:=⟨q,1,none⟩) SM (.int .i64 0)).set 12 (.int .i64 (IntKind.i64.wrap (c7+1)))).set 11 (.pointer (some ⟨q,0,none⟩))
  ·exact ((((show aJ w q _ _ from HB.out).set 0 (.pointer a)).set 1 (.int .i64 0)).set_ne (a:=⟨x.d,12,none⟩) E5 (.int .i64 (IntKind.i64.wrap (c7+1)))).set_ne (a:=⟨x.d,11,none⟩) E5 (.pointer (some ⟨q,0,none⟩))
  ·exact ((((aK.refl (fun b=>b=x.d∨b=q) w).setCell (p:=⟨q,0,none⟩) (Or.inl (Or.inr rfl)) _).setCell (p:=⟨q,1,none⟩) (Or.inl (Or.inr rfl)) _).setCell (p:=⟨x.d,12,none⟩) (Or.inl (Or.inl rfl)) _).setCell (p:=⟨x.d,11,none⟩) (Or.inl (Or.inl rfl)) _
 ·refine vg ?_
  refine Qk [4] fun f=>?_
  refine HQ.out f _ _ ?_ ⟨c7,rfl⟩ ?_ ?_
  ·exact (((show aJ w x.d _ _ from HD.out).set_ne (a:=⟨q,0,none⟩) SM (.pointer a)).set_ne (a:=⟨q,1,none⟩) SM (.int .i64 1)).set 11 (.pointer (some ⟨q,0,none⟩))
  ·exact (((show aJ w q _ _ from HB.out).set 0 (.pointer a)).set 1 (.int .i64 1)).set_ne (a:=⟨x.d,11,none⟩) E5 (.pointer (some ⟨q,0,none⟩))
  ·exact HM.out _ (Or.inl rfl) (Or.inr rfl) _ _ _
theorem Al (x:Cx) (c:DC) (w:World) (v:DV) (hd:bO w x.d c v) (k:Int) (hk:k=0∨k=1) (a:Option Addr) (vY:c.stk=.pointer a) (fl:List mQ) (fb:List Nat) (qO:jB w c.free fl fb) (VK:∀ b∈fb,b≠x.d) (xJ:fb.Nodup) :
  Calls prog 72 #[bS x,.int .i64 k] w fun en w'=>∃ q fb',en=.returned (.pointer (some ⟨q,0,none⟩))∧M0 x c w v k fb w' q fb':=by
 have hc:=hd.cell
 have hf:=hd.frozen
 have HD:=Lh hd
 have HK:=Lh hk
 rcases qO.ptr with ⟨h1,rfl,rfl⟩|⟨q,e,l',bs',h1,rfl,rfl⟩
 ·have hdn:x.d≠w.heap.size:=by have:=aJ.lt hd;omega
  clear qO VK xJ hd hk
  obtain ⟨c1,c2,c3,c4,c5,c6,c7,c8,c9,c10,c11,c12,c13⟩:=c
  simp only at vY h1
  subst vY h1
  refine eJ 45 func72 [_,_] fun f=>?_
  simp only [aE]
  refine vT 5 ?_
  (refine cJ [0,1,5] fun f=>?_)
  refine aY (M1 x _ _ v ((show aJ w x.d _ _ from HD.out).alloc _) k HK.out w.heap.size (fun e=>hdn e.symm) _ _ [] [] _ (aJ.new w #[.pointer none,.int .i64 0,aB [],aB [],.bool false] 91) a rfl _ ?_ f) (by kernel_rfl)
  rintro f w' c' Gw ⟨dp,rfl⟩ A8 hm'
  (refine cW ?_)
  refine ⟨w.heap.size,[],rfl,⟨_,Gw,_,dp,rfl,[],rfl⟩,⟨[],[],false,A8⟩,?_,Or.inr ⟨rfl,rfl,rfl⟩⟩
  exact (aH ((Below.refl _ w).alloc (Nat.le_refl _) _) _).trans hm' (fun i _ hi=>hi)
 ·have E5:q≠x.d:=VK q (by simp)
  obtain ⟨hp,nx,ok,hb,SU,kV⟩:=qO
  obtain ⟨an,han⟩:∃ an,nx=.pointer an:=by
   rcases kV.ptr with ⟨h,_⟩|⟨_,_,_,_,h,_⟩
   ·exact ⟨_,h⟩
   ·exact ⟨_,h⟩
  subst han
  have nU:=hb.cell
  have s6:=hb.frozen
  have SM:x.d≠q:=fun e=>E5 e.symm
  have HB:=Lh hb
  have HR:=Lh kV
  have JJ:=Lh (show ∀ b∈bs',b≠x.d∧b≠q from fun b vG=>⟨VK b (by simp [vG]),fun e=>by
   rw [List.nodup_cons] at xJ
   exact xJ.1 (e▸vG)⟩)
  clear VK xJ hd hk hp SU kV hb
  obtain ⟨c1,c2,c3,c4,c5,c6,c7,c8,c9,c10,c11,c12,c13⟩:=c
  simp only at vY h1
  subst vY h1
  refine eJ 45 func72 [_,_] fun f=>?_
  simp only [aE]
  refine vT 5 ?_
  (refine cJ [0,1,5] fun f=>?_)
  have nR:bO (w.setCell ⟨x.d,13,none⟩ (.pointer an)) x.d ⟨c1,c2,c3,c4,c5,.pointer a,c7,.pointer an,c9,c10,c11,c12,c13⟩ v:=(show aJ w x.d _ _ from HD.out).set 13 (.pointer an)
  have bP:aJ (w.setCell ⟨x.d,13,none⟩ (.pointer an)) q _ _:=(show aJ w q _ _ from HB.out).set_ne (a:=⟨x.d,13,none⟩) E5 (.pointer an)
  refine aY (M1 x _ _ v nR k HK.out q E5 _ _ _ _ _ bP a rfl _ ?_ f) (by kernel_rfl)
  rintro f w' c' Gw ⟨dp,rfl⟩ A8 hm'
  (refine cW ?_)
  have wE:aK (fun b=>b=x.d∨b=q) w w':=((aK.refl (fun b=>b=x.d∨b=q) w).setCell (p:=⟨x.d,13,none⟩) (Or.inl (Or.inl rfl)) (.pointer an)).trans hm' (fun _ _ h=>h)
  refine ⟨q,bs',rfl,⟨_,Gw,.pointer an,dp,rfl,l',HR.out.mod wE (fun b vG=>by
   rintro (h|h)
   ·exact (JJ.out b vG).1 h
   ·exact (JJ.out b vG).2 h)⟩,⟨_,_,_,A8⟩,wE,Or.inl rfl⟩
theorem Jd (x:Cx) (c:DC) (w:World) (v:DV) (hd:bO w x.d c v) (vY:c.stk=.pointer none) :
  Calls prog 73 #[bS x] w fun en w'=>en=.returned (.pointer none)∧w'=w:=by
 have hc:=hd.cell
 have hf:=hd.frozen
 clear hd
 refine eJ 41 func73 [_] fun f=>?_
 simp only [aE]
 refine vg ?_
 (refine cW ?_)
 exact ⟨rfl,rfl⟩
structure CA (x:Cx) (c:DC) (w:World) (v:DV) (e:mQ) (stk':List mQ) (sb':List Nat) (fl:List mQ) (fb:List Nat) (w':World) (q:Nat):Prop where
 dec:∃ c',bO w' x.d c' v∧∃ nx dp,c'={ c with stk:=nx,free:=.pointer (some ⟨q,0,none⟩),depth:=dp }∧jB w' nx stk' sb'
 free:jB w' (.pointer (some ⟨q,0,none⟩)) (e::fl) (q::fb)
 mod:aK (fun b=>b=x.d∨b=q) w w'
theorem SW (x:Cx) (c:DC) (w:World) (v:DV) (hd:bO w x.d c v) (q:Nat) (E5:q≠x.d) (an:Option Addr) (k0:Int) (sp loc:Bs) (ok:Bool) (hq:aJ w q (kB (.pointer an) k0 sp loc ok) 91) (a:Option Addr) (Am:c.free=.pointer a) (Q:Exit→Act→World→Prop)
  (hQ:∀ f w',bO w' x.d { c with stk:=.pointer an,free:=.pointer (some ⟨q,0,none⟩) } v→aJ w' q (kB (.pointer a) k0 sp loc ok) 91→aK (fun b=>b=x.d∨b=q) w w'→Q .normal (fr 41 f [(3,.pointer (some ⟨q,0,none⟩))]) w') (f:Nat→Value) :
  (Ak 5).wp prog Q (fr 41 f [(0,bS x),(3,.pointer (some ⟨q,0,none⟩))]) w:=by
 have hc:=hd.cell
 have hf:=hd.frozen
 have nU:=hq.cell
 have s6:=hq.frozen
 have SM:x.d≠q:=fun e=>E5 e.symm
 have HD:=Lh hd
 have HB:=Lh hq
 have HQ:=Lh hQ
 clear hd hq hQ
 obtain ⟨c1,c2,c3,c4,c5,c6,c7,c8,c9,c10,c11,c12,c13⟩:=c
 simp only at Am
 subst Am
 unfold Ak
 conv=>arg 2;whnf
 refine vg ?_
 refine Qk [3] fun f=>?_
 refine HQ.out f _ ?_ ?_ ?_
 ·exact (((show aJ w x.d _ _ from HD.out).set 11 (.pointer an)).set_ne (a:=⟨q,0,none⟩) SM (.pointer a)).set 13 (.pointer (some ⟨q,0,none⟩))
 ·exact (((show aJ w q _ _ from HB.out).set_ne (a:=⟨x.d,11,none⟩) E5 (.pointer an)).set 0 (.pointer a)).set_ne (a:=⟨x.d,13,none⟩) E5 (.pointer (some ⟨q,0,none⟩))
 ·exact (((aK.refl (fun b=>b=x.d∨b=q) w).setCell (p:=⟨x.d,11,none⟩) (Or.inl (Or.inl rfl)) _).setCell (p:=⟨q,0,none⟩) (Or.inl (Or.inr rfl)) _).setCell (p:=⟨x.d,13,none⟩) (Or.inl (Or.inl rfl)) _
theorem An (x:Cx) (c:DC) (w:World) (v:DV) (hd:bO w x.d c v) (q:Nat) (e:mQ) (he:e.kind=0∨e.kind=1) (stk':List mQ) (sb':List Nat) (vY:jB w c.stk (e::stk') (q::sb')) (fl:List mQ) (fb:List Nat) (qO:jB w c.free fl fb)
  (VK:∀ b∈(q::sb')++fb,b≠x.d) (xJ:((q::sb')++fb).Nodup) :
  Calls prog 73 #[bS x] w fun en w'=>en=.returned (.pointer (some ⟨q,0,none⟩))∧CA x c w v e stk' sb' fl fb w' q:=by
 have hc:=hd.cell
 have hf:=hd.frozen
 have HD:=Lh hd
 have E5:q≠x.d:=VK q (by simp)
 have SM:x.d≠q:=fun e=>E5 e.symm
 obtain ⟨hp,nx,ok,hb,SU,kV⟩:=vY
 obtain ⟨an,han⟩:∃ an,nx=.pointer an:=by
  rcases kV.ptr with ⟨h,_⟩|⟨_,_,_,_,h,_⟩
  ·exact ⟨_,h⟩
  ·exact ⟨_,h⟩
 subst han
 obtain ⟨fa,FJ⟩:∃ fa,c.free=.pointer fa:=by
  rcases qO.ptr with ⟨h,_⟩|⟨_,_,_,_,h,_⟩
  ·exact ⟨_,h⟩
  ·exact ⟨_,h⟩
 have nU:=hb.cell
 have s6:=hb.frozen
 have HB:=Lh hb
 have HR:=Lh kV
 have a0z:=Lh qO
 have HKE:=Lh SU
 have JJ:=Lh (show ∀ b,b∈sb'∨b∈fb→¬ (b=x.d∨b=q) from fun b vG hh=>by
  rw [List.cons_append,List.nodup_cons] at xJ
  rcases hh with hh|hh
  ·exact VK b (by rcases vG with h|h<;>simp [h]) hh
  ·subst hh;exact xJ.1 (by rcases vG with h|h<;>simp [h]))
 clear VK xJ hd SU kV hb qO
 obtain ⟨c1,c2,c3,c4,c5,c6,c7,c8,c9,c10,c11,c12,c13⟩:=c
 simp only at hp FJ
 subst hp FJ
 obtain ⟨ek,esp,eloc,eok⟩:=e
 simp only at he
 have zZ:∀ dp w',bO w' x.d ⟨c1,c2,c3,c4,c5,.pointer an,dp,.pointer (some ⟨q,0,none⟩),c9,c10,c11,c12,c13⟩ v→aJ w' q (kB (.pointer fa) (ek:Int) esp eloc ok) 91→aK (fun b=>b=x.d∨b=q) w w' →
   CA x ⟨c1,c2,c3,c4,c5,.pointer (some ⟨q,0,none⟩),c7,.pointer fa,c9,c10,c11,c12,c13⟩ w v ⟨ek,esp,eloc,eok⟩ stk' sb' fl fb w' q:=fun dp w' h1 h2 h3=>
  ⟨⟨_,h1,.pointer an,dp,rfl,HR.out.mod h3 (fun b hb=>JJ.out b (Or.inl hb))⟩,⟨rfl,.pointer fa,ok,h2,HKE.out,a0z.out.mod h3 (fun b hb=>JJ.out b (Or.inr hb))⟩,h3⟩
 have HF:=Lh zZ
 clear zZ
 rcases he with rfl|rfl
 ·refine eJ 41 func73 [_] fun f=>?_
  simp only [aE]
  (refine vT 5 ?_;intro K hK)
  (refine cJ [0,3] fun f=>?_)
  have nR:bO (w.setCell ⟨x.d,12,none⟩ (.int .i64 (IntKind.i64.wrap (c7-1)))) x.d ⟨c1,c2,c3,c4,c5,.pointer (some ⟨q,0,none⟩),IntKind.i64.wrap (c7-1),.pointer fa,c9,c10,c11,c12,c13⟩ v:=(show aJ w x.d _ _ from HD.out).set 12 (.int .i64 (IntKind.i64.wrap (c7-1)))
  have bP:aJ (w.setCell ⟨x.d,12,none⟩ (.int .i64 (IntKind.i64.wrap (c7-1)))) q _ _:=(show aJ w q _ _ from HB.out).set_ne (a:=⟨x.d,12,none⟩) E5 (.int .i64 (IntKind.i64.wrap (c7-1)))
  refine aY (SW x _ _ v nR q E5 _ _ _ _ _ bP fa rfl _ ?_ f) (by kernel_rfl)
  intro f w' h1 h2 h3
  have H1:=Lh h1
  have H2:=Lh h2
  have H3:=Lh (((aK.refl (fun b=>b=x.d∨b=q) w).setCell (p:=⟨x.d,12,none⟩) (Or.inl (Or.inl rfl)) (.int .i64 (IntKind.i64.wrap (c7-1)))).trans h3 (fun _ _ h=>h))
  clear h1 h2 h3 nR bP hc hf nU s6
  (revert K;refine vg ?_)
  (refine cW ?_)
  exact ⟨rfl,HF.out _ _ H1.out H2.out H3.out⟩
 ·refine eJ 41 func73 [_] fun f=>?_
  simp only [aE]
  (refine vT 5 ?_;intro K hK)
  (refine cJ [0,3] fun f=>?_)
  refine aY (SW x _ _ v HD.out q E5 _ _ _ _ _ HB.out fa rfl _ ?_ f) (by kernel_rfl)
  intro f w' h1 h2 h3
  have H1:=Lh h1
  have H2:=Lh h2
  have H3:=Lh h3
  clear h1 h2 h3 hc hf nU s6
  (revert K;refine vg ?_)
  (refine cW ?_)
  exact ⟨rfl,HF.out _ _ H1.out H2.out H3.out⟩
structure dP (x:Cx) (c:DC) (w:World) (v:DV) (m:Nat) (sb fb:List Nat) (c':DC) (w':World) (sb' fb':List Nat):Prop where
 dec:bO w' x.d c' v
 cs:∃ p q dp,c'={ c with stk:=p,free:=q,depth:=dp }
 mod:aK (fun b=>b=x.d∨b∈m::(sb++fb)) w w'
 sub:∀ b∈m::(sb'++fb'),b∈m::(sb++fb)∨w.heap.size≤b
theorem dP.trans {x:Cx} {c c1 c2:DC} {w w1 w2:World} {v:DV} {m:Nat} {sb fb sb1 fb1 sb2 fb2:List Nat} (h:dP x c w v m sb fb c1 w1 sb1 fb1) (k:dP x c1 w1 v m sb1 fb1 c2 w2 sb2 fb2):dP x c w v m sb fb c2 w2 sb2 fb2:=by
 obtain ⟨p,q,dp,rfl⟩:=h.cs
 obtain ⟨p2,q2,dp2,rfl⟩:=k.cs
 refine ⟨k.dec,⟨p2,q2,dp2,rfl⟩,h.mod.trans k.mod (fun i hi hs=>?_),fun b hb=>?_⟩
 ·rcases hs with hs|hs
  ·exact Or.inl hs
  ·rcases h.sub i hs with h2|h2
   ·exact Or.inr h2
   ·omega
 ·rcases k.sub b hb with h2|h2
  ·exact h.sub b h2
  ·exact Or.inr (Nat.le_trans h.mod.size h2)
theorem jB.isPtr {w:World} {p:Value} {l:List mQ} {bs:List Nat} (h:jB w p l bs):∃ a,p=.pointer a:=by
 rcases h.ptr with ⟨h,_⟩|⟨_,_,_,_,h,_⟩
 ·exact ⟨_,h⟩
 ·exact ⟨_,h⟩
theorem nX.pushed {x:Cx} (hx:x.Ok) {w w1 w':World} {c:DC} {v:DV} {m:Nat} {sb fb:List Nat} {n:Nat} {stk:List mQ} {ns:Bs→Option Bs} (h:nX x w c v m sb fb n stk ns) (jV:∀ k,x.S1 v k→k<w.heap.size) (hB:x.B≤w.heap.size) {k:Int} {q:Nat} {fb':List Nat} (hp:M0 x c w v k fb w1 q fb')
  (hm:aK (fun b=>b=q) w1 w') (e:mQ) (ok:Bool) (pB:e.kind=1→ok=e.ok) (hb:aJ w' q (kB c.stk e.kind e.space e.loc ok) 91) :
  ∃ c',dP x c w v m sb fb c' w' (q::sb) fb'∧nX x w' c' v m (q::sb) fb' n (e::stk) ns:=by
 obtain ⟨c',hd,⟨nx,dp,rfl,fl,rT⟩⟩:=hp.dec
 have xJ:=h.nodup
 have VK:∀ b∈m::(sb++fb),b≠x.d:=fun b hb he=>h.s1 b hb (Or.inl (Or.inl he))
 have hqn:q∉m::sb∧q∉fb'∧q≠x.d∧x.B≤q∧¬ x.S1 v q∧(q∈fb∨w.heap.size≤q)∧(∀ b∈fb',b∈fb):=by
  rcases hp.fbs with rfl|⟨rfl,rfl,rfl⟩
  ·have a1A:(m::(sb++q::fb')).Nodup:=xJ
   have O1:q∈m::(sb++q::fb'):=by simp
   refine ⟨?_,?_,VK q O1,h.base q O1,h.s1 q O1,Or.inl (by simp),fun b hb=>by simp [hb]⟩
   ·intro hh
    have h3:(m::sb++q::fb').Nodup:=a1A
    exact (List.nodup_append.1 h3).2.2 q hh q (by simp) rfl
   ·intro hh
    have h3:(m::sb++q::fb').Nodup:=a1A
    exact (List.nodup_cons.1 (List.nodup_append.1 h3).2.1).1 hh
  ·refine ⟨fun hh=>?_,by simp,?_,hB,fun hh=>Nat.lt_irrefl _ (jV _ hh),Or.inr (Nat.le_refl _),by simp⟩
   ·have:=h.lt w.heap.size (by simp at hh ⊢;exact hh)
    omega
   ·intro he
    have:=jV x.d (Or.inl (Or.inl rfl));omega
 obtain ⟨q1,q2,q3,q4,q5,q6,q7⟩:=hqn
 have Je:aK (fun b=>b=x.d∨b=q) w w':=hp.mod.trans hm (fun i _ hi=>Or.inr hi)
 have sM:∀ b∈m::(sb++fb'),¬ (b=x.d∨b=q):=by
  intro b hbm hh
  have Ti:b=m∨b∈sb∨b∈fb':=by simpa using hbm
  have dJ:b∈m::(sb++fb):=by
   rcases Ti with h|h|h
   ·simp [h]
   ·simp [h]
   ·simp [q7 b h]
  rcases hh with hh|hh
  ·exact VK b dJ hh
  ·rw [hh] at Ti
   rcases Ti with h|h|h
   ·exact q1 (by simp [h])
   ·exact q1 (by simp [h])
   ·exact q2 h
 refine ⟨_,⟨aJ.mod hd hm (fun he=>q3 he.symm),⟨_,_,_,rfl⟩,?_,?_⟩,⟨⟨rfl,c.stk,ok,hb,pB,h.stk.mod Je (fun b hb=>sM b (by simp [hb]))⟩,⟨fl,rT.mod hm (fun b hb he=>q2 (he▸hb))⟩,h.map,h.ns.mod Je (sM m (by simp)),?_,?_,?_⟩⟩
 ·refine ⟨Je.os,Je.tape,Je.output,Je.size,fun i hi hn=>Je.block i hi (fun hh=>hn ?_)⟩
  rcases hh with hh|hh
  ·exact Or.inl hh
  ·subst hh
   rcases q6 with h6|h6
   ·exact Or.inr (by simp [h6])
   ·omega
 ·intro b hb
  simp only [List.mem_cons,List.mem_append,List.cons_append] at hb
  rcases hb with h9|h9|h9|h9
  ·exact Or.inl (by simp [h9])
  ·subst h9
   rcases q6 with h6|h6
   ·exact Or.inl (by simp [h6])
   ·exact Or.inr h6
  ·exact Or.inl (by simp [h9])
  ·exact Or.inl (by simp [q7 b h9])
 ·have h3:(m::sb++fb).Nodup:=xJ
  have h4:=List.nodup_append.1 h3
  have a1B:=List.nodup_cons.1 h4.1
  have a4C:fb'.Nodup:=by
   rcases hp.fbs with rfl|⟨rfl,rfl,rfl⟩
   ·exact (List.nodup_cons.1 h4.2.1).2
   ·simp
  rw [List.nodup_cons]
  refine ⟨?_,?_⟩
  ·intro hh
   simp only [List.cons_append,List.mem_cons,List.mem_append] at hh
   rcases hh with h9|h9|h9
   ·exact q1 (by simp [h9])
   ·exact a1B.1 h9
   ·exact h4.2.2 m (by simp) m (q7 m h9) rfl
  ·rw [List.cons_append,List.nodup_cons]
   refine ⟨?_,?_⟩
   ·intro hh
    rcases List.mem_append.1 hh with h9|h9
    ·exact q1 (by simp [h9])
    ·exact q2 h9
   ·rw [List.nodup_append]
    exact ⟨a1B.2,a4C,fun a ha b hb=>h4.2.2 a (by simp [ha]) b (q7 b hb)⟩
 ·intro b hb
  simp only [List.mem_cons,List.mem_append,List.cons_append] at hb
  rcases hb with h9|h9|h9|h9
  ·exact h.base b (by simp [h9])
  ·subst h9;exact q4
  ·exact h.base b (by simp [h9])
  ·exact h.base b (by simp [q7 b h9])
 ·intro b hb
  simp only [List.mem_cons,List.mem_append,List.cons_append] at hb
  rcases hb with h9|h9|h9|h9
  ·exact h.s1 b (by simp [h9])
  ·subst h9;exact q5
  ·exact h.s1 b (by simp [h9])
  ·exact h.s1 b (by simp [q7 b h9])
theorem nX.freeNd {x:Cx} {w:World} {c:DC} {v:DV} {m:Nat} {sb fb:List Nat} {n:Nat} {stk:List mQ} {ns:Bs→Option Bs} (h:nX x w c v m sb fb n stk ns):fb.Nodup∧∀ b∈fb,b≠x.d:=by
 have h3:(m::sb++fb).Nodup:=h.nodup
 exact ⟨(List.nodup_append.1 h3).2.1,fun b hb he=>h.s1 b (by simp [hb]) (Or.inl (Or.inl he))⟩
theorem M2 (x:Cx) (hx:x.Ok) (c:DC) (w:World) (v:DV) (hd:bO w x.d c v) (jV:∀ k,x.S1 v k→k<w.heap.size) (hB:x.B≤w.heap.size) (m:Nat) (sb fb:List Nat) (n:Nat) (stk:List mQ) (ns:Bs→Option Bs) (h:nX x w c v m sb fb n stk ns) (loc url:Bs) (ok:Bool) :
  Calls prog 32 #[bS x,aB loc,aB url,.bool ok] w fun en w'=>en=.returned (.tuple #[])∧∃ c' sb' fb',dP x c w v m sb fb c' w' sb' fb'∧nX x w' c' v m sb' fb' n ({ kind:=1,space:=url,loc:=loc,ok:=ok }::stk) ns:=by
 obtain ⟨fl,rT⟩:=h.free
 obtain ⟨a,ha⟩:=h.stk.isPtr
 have LN:=Lh (Al x c w v hd 1 (Or.inr rfl) a ha fl fb rT h.freeNd.2 h.freeNd.1)
 have H:=Lh h
 have HX:=Lh hx
 have iS:=Lh jV
 have HB:=Lh hB
 clear h hx hd jV hB rT ha
 refine eJ 25 func32 [_,_,_,_] fun f=>?_
 simp only [aE]
 (refine vg ?_;(repeat with_reducible intro K hK))
 refine LN.out.mono ?_
 rintro e1 w1 ⟨q,fb',rfl,hp⟩
 obtain ⟨sp0,loc0,ok0,hb⟩:=hp.blk
 have nU:=hb.cell
 have s6:=hb.frozen
 have QP:=Lh hb
 have HP:=Lh hp
 clear hb hp LN
 ((repeat revert K);refine vS ?_)
 refine kO ?_
 (refine lG rfl ?_)
 have hm:aK (fun b=>b=q) w1 (((w1.setCell ⟨q,3,none⟩ (aB loc)).setCell ⟨q,2,none⟩ (aB url)).setCell ⟨q,4,none⟩ (.bool ok)):=(((aK.refl (fun b=>b=q) w1).setCell (p:=⟨q,3,none⟩) (Or.inl rfl) _).setCell (p:=⟨q,2,none⟩) (Or.inl rfl) _).setCell (p:=⟨q,4,none⟩) (Or.inl rfl) _
 obtain ⟨c',h1,h2⟩:=H.out.pushed HX.out iS.out HB.out HP.out hm { kind:=1,space:=url,loc:=loc,ok:=ok } ok (fun _=>rfl) (((QP.out.set 3 (aB loc)).set 2 (aB url)).set 4 (.bool ok))
 exact ⟨rfl,c',_,_,h1,h2⟩
theorem FW (x:Cx) (hx:x.Ok) (c:DC) (w:World) (v:DV) (hd:bO w x.d c v) (jV:∀ k,x.S1 v k→k<w.heap.size) (hB:x.B≤w.heap.size) (m:Nat) (sb fb:List Nat) (n:Nat) (stk:List mQ) (ns:Bs→Option Bs) (h:nX x w c v m sb fb n stk ns) (nm:Bs×Bs) :
  Calls prog 33 #[bS x,.agg #[aB nm.1,aB nm.2]] w fun en w'=>en=.returned (.tuple #[])∧∃ c' sb' fb',dP x c w v m sb fb c' w' sb' fb'∧nX x w' c' v m sb' fb' n ({ kind:=0,space:=nm.1,loc:=nm.2,ok:=false }::stk) ns:=by
 have iE:aK (fun _=>False) w (w.alloc (.cells #[aB nm.1,aB nm.2] 85)):=aH ((Below.refl _ w).alloc (Nat.le_refl _) _) _
 have nR:bO (w.alloc (.cells #[aB nm.1,aB nm.2] 85)) x.d c v:=(show aJ w x.d _ _ from hd).alloc _
 have h1:nX x (w.alloc (.cells #[aB nm.1,aB nm.2] 85)) c v m sb fb n stk ns:=h.mod iE (fun _ _=>id) h.s1
 obtain ⟨fl,rT⟩:=h1.free
 obtain ⟨a,ha⟩:=h1.stk.isPtr
 have LN:=Lh (Al x c _ v nR 0 (Or.inl rfl) a ha fl fb rT h1.freeNd.2 h1.freeNd.1)
 have lC:=aJ.new w #[aB nm.1,aB nm.2] 85
 have rJ:=Lh lC
 have H:=Lh h1
 have H0:=Lh h
 have HX:=Lh hx
 have iS:=Lh jV
 have HB:=Lh hB
 have tC:=Lh iE
 clear h h1 hx hd nR jV hB rT ha lC iE
 refine eJ 11 func33 [_,_] fun f=>?_
 simp only [aE]
 (refine vg ?_;(repeat with_reducible intro K hK))
 refine LN.out.mono ?_
 rintro e1 w1 ⟨q,fb',rfl,hp⟩
 obtain ⟨sp0,loc0,ok0,hb⟩:=hp.blk
 have nU:=hb.cell
 have s6:=hb.frozen
 have QP:=Lh hb
 have HP:=Lh hp
 have OT:w.heap.size≠x.d∧w.heap.size≠q:=by
  refine ⟨fun e=>?_,fun e=>?_⟩
  ·have:=iS.out x.d (Or.inl (Or.inl rfl));omega
  ·rcases hp.fbs with h9|⟨_,_,h9⟩
   ·have:=H0.out.lt q (by rw [h9];simp);omega
   ·simp at h9;omega
 have Tj:=rJ.out.mod hp.mod (fun hh=>by rcases hh with hh|hh;exact OT.1 hh;exact OT.2 hh)
 have EY:=Tj.cell
 have Og:=Tj.frozen
 clear hb hp LN Tj
 ((repeat revert K);refine vS ?_)
 refine kO ?_
 (refine lG rfl ?_)
 have hm:aK (fun b=>b=q) w1 ((w1.setCell ⟨q,2,none⟩ (aB nm.1)).setCell ⟨q,3,none⟩ (aB nm.2)):=((aK.refl (fun b=>b=q) w1).setCell (p:=⟨q,2,none⟩) (Or.inl rfl) _).setCell (p:=⟨q,3,none⟩) (Or.inl rfl) _
 obtain ⟨c',h1,h2⟩:=H.out.pushed HX.out (fun k hk=>Nat.lt_of_lt_of_le (iS.out k hk) tC.out.size) (Nat.le_trans HB.out tC.out.size) HP.out hm { kind:=0,space:=nm.1,loc:=nm.2,ok:=false } ok0 (fun h=>by cases h) ((QP.out.set 2 (aB nm.1)).set 3 (aB nm.2))
 refine ⟨rfl,c',_,_,⟨h1.dec,h1.cs,(tC.out.mono (fun _ _ h=>h.elim)).trans h1.mod (fun _ _ h=>h),fun b hb=>?_⟩,h2⟩
 rcases h1.sub b hb with h9|h9
 ·exact Or.inl h9
 ·exact Or.inr (Nat.le_trans tC.out.size h9)
theorem l4.drewN {w:World} {m n:Nat} {ns:Bs→Option Bs} (h:l4 w m n ns) (k:Nat):l4 (w.drewN k) m n ns:=h.mod (S:=fun _=>False) (aH (show Below w.heap.size w (w.drewN k) from ⟨rfl,rfl,rfl,Nat.le_refl _,fun _ _=>rfl⟩) _) id
abbrev kH:Bs:=[120,109,108,110,115]
theorem Ao {cs:Array Value} {o:Nat} {v:Value} (h:cs[o]?=some v):cs.setIfInBounds o v=cs:=by
 apply Array.ext
 ·simp
 ·intro i h1 h2
  rw [Array.getElem_setIfInBounds h2]
  split
  ·rename_i e;subst e
   rw [Array.getElem?_eq_getElem h2] at h
   simpa using h.symm
  ·rfl
def lR (w:World) (g:Nat) (cs:Array Value) (t:TypeId) (o:Nat) (s:Bs) (w':World):Prop:=
 aK (fun k=>k=g) w w'∧aJ w' g (cs.setIfInBounds o (aB s)) t∧w'.heap.size=w.heap.size
theorem lR.keep {w:World} {g:Nat} {cs:Array Value} {t:TypeId} {o:Nat} {s:Bs} (hb:aJ w g cs t) (h:cs[o]?=some (aB s)) (k:Nat):lR w g cs t o s (w.drewN k):=
 ⟨(aK.refl _ w).drewN k,by rw [Ao h];exact hb,rfl⟩
theorem lR.one {w:World} {g:Nat} {cs:Array Value} {t:TypeId} {o:Nat} (s:Bs) (hb:aJ w g cs t) (k:Nat):lR w g cs t o s ((w.drewN k).setCell ⟨g,o,none⟩ (aB s)):=
 ⟨((aK.refl (fun k=>k=g) w).drewN k).setCell (p:=⟨g,o,none⟩) (Or.inl rfl) _,(show aJ (w.drewN k) g cs t from hb).set o (aB s),by simp [World.setCell]⟩
theorem uK (x:Cx) (c:DC) (w:World) (v:DV) (hd:bO w x.d c v) (m n:Nat) (ns:Bs→Option Bs) (M3:c.ns=.map (some m)) (sM:l4 w m n ns) (fY:c.space=⟨x.o.space.toArray⟩)
  (g:Nat) (cs:Array Value) (t:TypeId) (hb:aJ w g cs t) (yU:g≠x.d) (hgm:g≠m) (o:Nat) (nm:Bs×Bs) (h0:cs[o]?=some (aB nm.1)) (h1:cs[o+1]?=some (aB nm.2)) (hl:nm.1.length≤100000000000) (el:Bool) :
  Calls prog 34 #[bS x,.pointer (some ⟨g,o,none⟩),.bool el] w fun en w'=>en=.returned (.tuple #[])∧lR w g cs t o (dF x.o ns nm el).1 w':=by
 have No:x.d≠g:=fun e=>yU e.symm
 have hc:=hd.cell
 have hf:=hd.frozen
 have z7:w.cell? ⟨g,o,none⟩=some (aB nm.1):=(hb.cell o).trans h0
 have z8:w.cell? ⟨g,o+1,none⟩=some (aB nm.2):=(hb.cell (o+1)).trans h1
 have hfg:=hb.frozen
 have HB:=Lh hb
 have HD:=Lh hd
 have W8:=Lh sM
 have H0:=Lh h0
 obtain ⟨c1,c2,c3,c4,c5,c6,c7,c8,c9,c10,c11,c12,c13⟩:=c
 simp only at M3 fY
 subst M3 fY
 clear hb hd sM h0 h1
 obtain ⟨sp,lo⟩:=nm
 simp only at z7 z8 hl
 by_cases e1:sp=kH
 ·subst e1
  refine eJ 75 func34 [_,_,_] fun f=>?_
  simp only [aE]
  (refine vg ?_;intro K hK)
  (refine lG rfl ?_)
  exact ⟨rfl,lR.keep HB.out H0.out 0⟩
 obtain ⟨a1,a2⟩:=vX e1
 by_cases e2:sp=[]
 ·subst e2
  cases el with
  | false=>
   refine eJ 75 func34 [_,_,_] fun f=>?_
   simp only [aE]
   (refine vg ?_;intro K hK)
   (refine lG rfl ?_)
   exact ⟨rfl,lR.keep HB.out H0.out 0⟩
  | true=>
   by_cases e3:lo=kH
   ·subst e3
    refine eJ 75 func34 [_,_,_] fun f=>?_
    simp only [aE]
    (refine vg ?_;intro K hK)
    (refine lG rfl ?_)
    exact ⟨rfl,lR.keep HB.out H0.out 0⟩
   obtain ⟨b1,b2⟩:=vX e3
   have M4:=fun k=>(W8.out.drewN k).look [] (by simp)
   have HT:=Lh (show dF x.o ns ([],lo) true=(match ns [] with|some v=>(v,lo)|none=>(x.o.space,lo)) by
    unfold dF
    rw [if_neg (show ¬ (([]:Bs)=f9) by decide),if_neg (by simp),if_neg (by rintro ⟨_,_,h⟩;exact e3 h)]
    simp only [show ¬ (([]:Bs)=xR) by decide,if_false]
    cases ns []<;>rfl)
   clear e1 e3
   cases hn:ns [] with
   | some u=>
    rw [hn] at M4
    simp only [Option.isSome_some,Option.getD_some] at M4
    have DW:=Lh (show (dF x.o ns ([],lo) true).1=u by rw [HT.out,hn])
    refine eJ 75 func34 [_,_,_] fun f=>?_
    simp only [aE]
    (refine vg ?_;intro K hK)
    (refine cJ [0,1] fun f=>?_)
    go_quiet (fail)
    (revert K;refine vg ?_)
    refine kO ?_
    (refine lG rfl ?_)
    rw [DW.out]
    exact ⟨rfl,lR.one u HB.out _⟩
   | none=>
    rw [hn] at M4
    simp only [Option.isSome_none,Option.getD_none] at M4
    have DW:=Lh (show (dF x.o ns ([],lo) true).1=x.o.space by rw [HT.out,hn])
    refine eJ 75 func34 [_,_,_] fun f=>?_
    simp only [aE]
    (refine vg ?_;intro K hK)
    (refine cJ [0,1] fun f=>?_)
    go_quiet (fail)
    (revert K;refine vg ?_)
    refine kO ?_
    (refine lG rfl ?_)
    rw [DW.out]
    exact ⟨rfl,lR.one x.o.space HB.out _⟩
 obtain ⟨b1,b2⟩:=vX e2
 by_cases e3:sp=zX
 ·subst e3
  have bP:aJ (w.setCell ⟨g,o,none⟩ (aB fC)) g (cs.setIfInBounds o (aB fC)) t:=(show aJ w g cs t from HB.out).set o (aB fC)
  have VL:l4 (w.setCell ⟨g,o,none⟩ (aB fC)) m n ns:=W8.out.mod (S:=fun k=>k=g) ((aK.refl (fun k=>k=g) w).setCell (p:=⟨g,o,none⟩) (Or.inl rfl) _) (fun e=>hgm e.symm)
  have M4:=fun k=>(VL.drewN k).look fC (by decide)
  have fV:=Lh bP
  have HTW:=Lh (show ∀ s k,lR w g cs t o s (((w.setCell ⟨g,o,none⟩ (aB fC)).drewN k).setCell ⟨g,o,none⟩ (aB s)) from fun s k=>by
   refine ⟨(((aK.refl (fun i=>i=g) w).setCell (p:=⟨g,o,none⟩) (Or.inl rfl) _).drewN k).setCell (p:=⟨g,o,none⟩) (Or.inl rfl) _,?_,by simp [World.setCell]⟩
   have:=(show aJ ((w.setCell ⟨g,o,none⟩ (aB fC)).drewN k) g _ t from bP).set o (aB s)
   simpa using this)
  have HTU:=Lh (show ∀ k,lR w g cs t o fC ((w.setCell ⟨g,o,none⟩ (aB fC)).drewN k) from fun k=>
   ⟨((aK.refl (fun i=>i=g) w).setCell (p:=⟨g,o,none⟩) (Or.inl rfl) _).drewN k,bP,by simp [World.setCell]⟩)
  have HT:=Lh (show dF x.o ns (zX,lo) el=(match ns fC with|some v=>(v,lo)|none=>(fC,lo)) by
   unfold dF
   rw [if_neg (show ¬ (zX=f9) by decide),if_neg (by simp),if_neg (by rintro ⟨h,_⟩;exact h rfl)]
   simp only [show zX=xR from rfl,if_true,show ¬ (fC=[]) by decide,if_false]
   cases ns fC<;>rfl)
  clear e1 e2 bP VL
  cases hn:ns fC with
  | some u=>
   rw [hn] at M4
   simp only [Option.isSome_some,Option.getD_some,aB,fC] at M4
   have DW:=Lh (show (dF x.o ns (zX,lo) el).1=u by rw [HT.out,hn])
   cases el
   all_goals
    refine eJ 75 func34 [_,_,_] fun f=>?_
    simp only [aE]
    (refine vg ?_;intro K hK)
    (refine cJ [0,1] fun f=>?_)
    go_quiet (fail)
    (revert K;refine vg ?_)
    refine kO ?_
    (refine lG rfl ?_)
    rw [DW.out]
    exact ⟨rfl,HTW.out u _⟩
  | none=>
   rw [hn] at M4
   simp only [Option.isSome_none,Option.getD_none,aB,fC] at M4
   have DW:=Lh (show (dF x.o ns (zX,lo) el).1=fC by rw [HT.out,hn])
   cases el
   all_goals
    refine eJ 75 func34 [_,_,_] fun f=>?_
    simp only [aE]
    (refine vg ?_;intro K hK)
    (refine cJ [0,1] fun f=>?_)
    go_quiet (fail)
    (revert K;refine vg ?_)
    refine kO ?_
    (refine lG rfl ?_)
    rw [DW.out]
    exact ⟨rfl,HTU.out _⟩
 ·obtain ⟨d1,d2⟩:=vX e3
  have M4:=fun k=>(W8.out.drewN k).look sp (by unfold maxLen;omega)
  have HT:=Lh (show dF x.o ns (sp,lo) el=(match ns sp with|some v=>(v,lo)|none=>(sp,lo)) by
   unfold dF
   rw [if_neg (show ¬ (sp=f9) from e1),if_neg (by rintro ⟨h,_⟩;exact e2 h),if_neg (by rintro ⟨_,h,_⟩;exact e2 h)]
   simp only [show ¬ (sp=xR) from e3,if_false,e2]
   cases ns sp<;>rfl)
  clear e1 e2 e3
  cases hn:ns sp with
  | some u=>
   rw [hn] at M4
   simp only [Option.isSome_some,Option.getD_some] at M4
   have DW:=Lh (show (dF x.o ns (sp,lo) el).1=u by rw [HT.out,hn])
   cases el
   all_goals
    refine eJ 75 func34 [_,_,_] fun f=>?_
    simp only [aE]
    (refine vg ?_;intro K hK)
    (refine cJ [0,1] fun f=>?_)
    go_quiet (fail)
    (revert K;refine vg ?_)
    refine kO ?_
    (refine lG rfl ?_)
    rw [DW.out]
    exact ⟨rfl,lR.one u HB.out _⟩
  | none=>
   rw [hn] at M4
   simp only [Option.isSome_none,Option.getD_none] at M4
   have DW:=Lh (show (dF x.o ns (sp,lo) el).1=sp by rw [HT.out,hn])
   cases el
   all_goals
    refine eJ 75 func34 [_,_,_] fun f=>?_
    simp only [aE]
    (refine vg ?_;intro K hK)
    (refine cJ [0,1] fun f=>?_)
    go_quiet (fail)
    (revert K;refine vg ?_)
    refine kO ?_
    (refine lG rfl ?_)
    rw [DW.out]
    exact ⟨rfl,lR.keep HB.out H0.out _⟩
theorem nX.popped {x:Cx} {w w':World} {c:DC} {v:DV} {m q:Nat} {sb fb:List Nat} {n:Nat} {e:mQ} {stk:List mQ} {ns:Bs→Option Bs} (h:nX x w c v m (q::sb) fb n (e::stk) ns) {fl:List mQ} (hp:CA x c w v e stk sb fl fb w' q) :
  ∃ c',dP x c w v m (q::sb) fb c' w' sb (q::fb)∧nX x w' c' v m sb (q::fb) n stk ns∧(∃ nx,c'.free=.pointer (some ⟨q,0,none⟩)∧∃ ok,aJ w' q (kB nx e.kind e.space e.loc ok) 91∧(e.kind=1→ok=e.ok)):=by
 obtain ⟨c',hd,nx,dp,rfl,dA⟩:=hp.dec
 have A9:∀ b,b∈m::(sb++q::fb)↔b∈m::((q::sb)++fb):=by
  intro b
  simp only [List.mem_cons,List.mem_append,List.cons_append]
  constructor
  ·rintro (h|h|h|h)
   ·exact Or.inl h
   ·exact Or.inr (Or.inr (Or.inl h))
   ·exact Or.inr (Or.inl h)
   ·exact Or.inr (Or.inr (Or.inr h))
  ·rintro (h|h|h|h)
   ·exact Or.inl h
   ·exact Or.inr (Or.inr (Or.inl h))
   ·exact Or.inr (Or.inl h)
   ·exact Or.inr (Or.inr (Or.inr h))
 have VK:∀ b∈m::((q::sb)++fb),b≠x.d:=fun b hb he=>h.s1 b hb (Or.inl (Or.inl he))
 have M5:¬ (m=x.d∨m=q):=by
  rintro (he|he)
  ·exact VK m (by simp) he
  ·have:=(List.nodup_cons.1 h.nodup).1
   exact this (by simp [he])
 refine ⟨_,⟨hd,⟨_,_,_,rfl⟩,hp.mod.mono (fun b _ hb=>?_),fun b hb=>Or.inl ((A9 b).1 hb)⟩,⟨dA,⟨_,hp.free⟩,h.map,h.ns.mod hp.mod M5,?_,fun b hb=>h.base b ((A9 b).1 hb),fun b hb=>h.s1 b ((A9 b).1 hb)⟩,?_⟩
 ·rcases hb with hb|hb
  ·exact Or.inl hb
  ·exact Or.inr (by simp [hb])
 ·have h1:(m::(q::sb++fb)).Nodup:=h.nodup
  have:(m::(q::sb++fb)).Perm (m::(sb++q::fb)):=by
   refine List.Perm.cons m ?_
   exact (List.perm_middle).symm
  exact this.nodup_iff.1 h1
 ·obtain ⟨_,nx2,ok,hb,hk,_⟩:=hp.free
  exact ⟨nx2,rfl,ok,hb,hk⟩
theorem nX.turned {x:Cx} {w w':World} {c:DC} {v:DV} {m:Nat} {sb fb:List Nat} {n n':Nat} {stk:List mQ} {ns ns':Bs→Option Bs} (h:nX x w c v m sb fb n stk ns) (hm:aK (fun k=>k=m) w w') (hn:l4 w' m n' ns'):nX x w' c v m sb fb n' stk ns':=by
 obtain ⟨fl,hf⟩:=h.free
 have lD:∀ b∈sb++fb,¬ b=m:=fun b hb he=>(List.nodup_cons.1 h.nodup).1 (he▸hb)
 exact ⟨h.stk.mod hm (fun b hb=>lD b (by simp [hb])),⟨fl,hf.mod hm (fun b hb=>lD b (by simp [hb]))⟩,h.map,hn,h.nodup,h.base,h.s1⟩
noncomputable def Ap (n:Nat):Code:=((Tryz.f35.body).bind (Code.partAt n)).getD .skip
def lS (stk:List mQ):Prop:=∀ e∈stk,(e.kind=0∨e.kind=1)∧e.space.length≤100000000000∧e.loc.length≤100000000000
def a1C (x:Cx) (c0:DC) (w0:World) (v:DV) (m:Nat) (sb0 fb0:List Nat) (n0:Nat) (stk0:List mQ) (ns0:Bs→Option Bs) (k:Nat) (a:Act) (w:World):Prop:=
 ∃ f c sb fb n stk ns,a=fr 179 f [(0,bS x)]∧dP x c0 w0 v m sb0 fb0 c w sb fb∧nX x w c v m sb fb n stk ns∧k=stk.length∧jK stk0 ns0=jK stk ns∧n+stk.length≤n0+stk0.length∧lS stk
theorem dP.refl {x:Cx} {c:DC} {w:World} {v:DV} (hd:bO w x.d c v) (m:Nat) (sb fb:List Nat):dP x c w v m sb fb c w sb fb:=
 ⟨hd,⟨c.stk,c.free,c.depth,rfl⟩,aK.refl _ _,fun _ hb=>Or.inl hb⟩
theorem Tk (x:Cx) (hx:x.Ok) (c0:DC) (w0:World) (v:DV) (hd:bO w0 x.d c0 v) (m:Nat) (sb0 fb0:List Nat) (n0:Nat) (stk0:List mQ) (ns0:Bs→Option Bs) (h:nX x w0 c0 v m sb0 fb0 n0 stk0 ns0) (pB:lS stk0) (hn:n0+stk0.length≤100000000000) (Q:Exit→Act→World→Prop)
  (hQ:∀ f c w sb fb n,dP x c0 w0 v m sb0 fb0 c w sb fb→nX x w c v m sb fb n (jK stk0 ns0).1 (jK stk0 ns0).2→n+(jK stk0 ns0).1.length≤n0+stk0.length→Q .normal (fr 179 f [(0,bS x)]) w) (f:Nat→Value) (c1:Code) (u7:c1=.loop (Ap 21)) :
  c1.wp prog (Exit.inBlock 1 Q) (fr 179 f [(0,bS x)]) w0:=by
 subst u7
 have HX:=Lh hx
 have HQ:=Lh hQ
 have HN:=Lh hn
 refine wp_loop_ghost_k (a1C x c0 w0 v m sb0 fb0 n0 stk0 ns0) stk0.length ⟨f,c0,sb0,fb0,n0,stk0,ns0,rfl,dP.refl hd m sb0 fb0,h,rfl,rfl,Nat.le_refl _,pB⟩ ?_
 clear h pB hd hx hQ hn
 rintro k _ w ⟨f,c,sb,fb,n,stk,ns,rfl,hs,ho,hk,hu,hn,pB⟩ J K2 hJ cY
 have HJ:=Lh hJ
 have dN:=Lh cY
 have HS:=Lh hs
 have HO:=Lh ho
 have HK:=Lh hk
 have HU:=Lh hu
 have nC:=Lh hn
 have DL:=Lh pB
 have hc:=hs.dec.cell
 have hf:=hs.dec.frozen
 have HD:=Lh hs.dec
 clear hJ cY hs hk hu hn pB
 unfold Ap
 conv=>arg 2;whnf
 rcases ho.stk.ptr with ⟨h1,h2,h3⟩|⟨q,e,stk',sb',h1,h2,h3⟩
 ·subst h2 h3
  clear ho
  (refine vg ?_;intro K hK)
  refine Qk [0] fun f=>?_
  have Tl:=HU.out
  rw [show jK [] ns=([],ns) from rfl] at Tl
  refine HQ.out f c w [] fb n HS.out ?_ ?_
  ·rw [Tl];exact HO.out
  ·rw [Tl];exact nC.out
 ·subst h2 h3
  have dA:=ho.stk
  obtain ⟨_,nx,ok,hb,SU,kV⟩:=dA
  have nU:=hb.cell
  have s6:=hb.frozen
  have Jf:=(DL.out e (by simp)).1
  rcases Jf with Jf|Jf
  ·have Tl:=HU.out
   have hu3:jK (e::stk') ns=(e::stk',ns):=by unfold jK;rw [if_pos Jf]
   rw [hu3] at Tl
   have Fk:=Lh Tl
   clear ho hb SU kV Tl hu3
   rw [Jf] at nU
   (refine vg ?_;intro K hK)
   refine Qk [0] fun f=>?_
   refine HQ.out f c w (q::sb') fb n HS.out ?_ ?_
   ·rw [Fk.out];exact HO.out
   ·rw [Fk.out];exact nC.out
  ·have hu3:jK (e::stk') ns=jK stk' (kL ns e.loc (if e.ok then some e.space else none)):=by
    conv=>lhs;unfold jK
    rw [if_neg (by rw [Jf];decide)]
   have HU3:=Lh (HU.out.trans hu3)
   obtain ⟨fl,rT⟩:=ho.free
   have h3:(m::((q::sb')++fb)).Nodup:=ho.nodup
   have M6:=Lh (An x c w v HD.out q e (Or.inr Jf) stk' sb' ho.stk fl fb rT (fun b hb he=>ho.s1 b (List.mem_cons_of_mem _ hb) (Or.inl (Or.inl he))) (List.nodup_cons.1 h3).2)
   have HEK:=Lh Jf
   rw [Jf] at nU
   clear ho hb SU kV hu3 rT h3
   (refine vg ?_;(repeat with_reducible intro K hK))
   refine M6.out.mono ?_
   rintro e1 w1 ⟨rfl,hp⟩
   obtain ⟨c1,jV,BV,nx1,Jg,ok1,bP,xO⟩:=HO.out.popped hp
   have Aq:=xO HEK.out
   subst Aq
   have hc:=jV.dec.cell
   have hf:=jV.dec.frozen
   have nU:=bP.cell
   have s6:=bP.frozen
   have M3:=BV.map
   have iS:=Lh jV
   have CB:=Lh BV
   have FG:=Lh jV.dec
   have HES:=Lh (DL.out e (by simp)).2
   obtain ⟨p1,p2,p3,p4,p5,p6,p7,p8,p9,p10,p11,p12,p13⟩:=c1
   simp only at M3
   subst M3
   clear hp jV BV bP xO M6 Jg
   cases heo:e.ok with
   | true=>
    ((repeat revert K);refine vS ?_)
    (refine aI [0,0,0,1,0,0,0,0,1,0,0,0,0,1,2] [0,1,2,3,4,5,6,7,8,9,10,11,12,13,14] (by kernel_rfl) (by kernel_rfl) ?_;refine vP ?_;repeat with_reducible intro nq)
    refine bK rfl rfl (fun nq K hK=>?_)
    obtain ⟨w2,wD,gK,JH⟩:=(CB.out.ns.drewN nq).store (by have h9:n+(e::stk').length≤n0+stk0.length:=nC.out;have:=HN.out;unfold maxLen;rw [List.length_cons] at h9;omega) e.loc e.space (by have:=HES.out.2;unfold maxLen;omega) (by have:=HES.out.1;unfold maxLen;omega)
    have mH:=Lh gK
    have DW:=Lh JH
    clear gK JH
    go_simp
    refine hK.out _ _ ?_
    clear hK K
    (refine vP ?_;repeat with_reducible intro nq)
    (try refine vg ?_)
    have iA:aK (fun k=>k=m) w1 (w2.drewN nq):=((show aK (fun k=>k=m) w1 (w1.drewN _) from (aK.refl _ w1).drewN _).trans (mL DW.out) (fun _ _ h=>h)).drewN nq
    have Fl:=CB.out.turned iA (mH.out.drewN nq)
    have Ar:x.d≠m:=fun e=>CB.out.s1 m (by simp) (Or.inl (Or.inl e.symm))
    have Fm:dP x ⟨p1,p2,p3,p4,p5,p6,p7,p8,p9,p10,p11,p12,.map (some m)⟩ w1 v m sb' (q::fb) ⟨p1,p2,p3,p4,p5,p6,p7,p8,p9,p10,p11,p12,.map (some m)⟩ (w2.drewN nq) sb' (q::fb):=⟨aJ.mod FG.out iA Ar,⟨_,_,_,rfl⟩,iA.mono (fun _ _ h=>Or.inr (by simp [h])),fun _ hb=>Or.inl hb⟩
    (refine Kk [0] fun f=>?_)
    refine dN.out _ _ ⟨stk'.length,by rw [HK.out];simp,HJ.out _ _ _ ⟨f,_,sb',q::fb,n+1,stk',_,rfl,HS.out.trans (iS.out.trans Fm),Fl,rfl,?_,?_,fun e' OK=>DL.out e' (by simp [OK])⟩⟩
    ·rw [HU3.out,heo];rfl
    ·have h9:n+(e::stk').length≤n0+stk0.length:=nC.out;rw [List.length_cons] at h9;omega
   | false=>
    ((repeat revert K);refine vS ?_)
    (refine aI [0,0,0,1,0,0,0,0,1,2] [0,1,2,3,4,5,6,7,8,9] (by kernel_rfl) (by kernel_rfl) ?_;refine vP ?_;repeat with_reducible intro nq)
    refine bK rfl rfl (fun nq K hK=>?_)
    obtain ⟨w2,wD,gK,JH⟩:=(CB.out.ns.drewN nq).drop e.loc (by have:=HES.out.2;unfold maxLen;omega) 0
    have mH:=Lh gK
    have DW:=Lh JH
    clear gK JH
    go_simp
    refine hK.out _ _ ?_
    clear hK K
    (refine vP ?_;repeat with_reducible intro nq)
    (try refine vg ?_)
    have iA:aK (fun k=>k=m) w1 (w2.drewN nq):=((show aK (fun k=>k=m) w1 (w1.drewN _) from (aK.refl _ w1).drewN _).trans (mL DW.out) (fun _ _ h=>h)).drewN nq
    have Fl:=CB.out.turned iA (mH.out.drewN nq)
    have Ar:x.d≠m:=fun e=>CB.out.s1 m (by simp) (Or.inl (Or.inl e.symm))
    have Fm:dP x ⟨p1,p2,p3,p4,p5,p6,p7,p8,p9,p10,p11,p12,.map (some m)⟩ w1 v m sb' (q::fb) ⟨p1,p2,p3,p4,p5,p6,p7,p8,p9,p10,p11,p12,.map (some m)⟩ (w2.drewN nq) sb' (q::fb):=⟨aJ.mod FG.out iA Ar,⟨_,_,_,rfl⟩,iA.mono (fun _ _ h=>Or.inr (by simp [h])),fun _ hb=>Or.inl hb⟩
    (refine Kk [0] fun f=>?_)
    refine dN.out _ _ ⟨stk'.length,by rw [HK.out];simp,HJ.out _ _ _ ⟨f,_,sb',q::fb,n,stk',_,rfl,HS.out.trans (iS.out.trans Fm),Fl,rfl,?_,?_,fun e' OK=>DL.out e' (by simp [OK])⟩⟩
    ·rw [HU3.out,heo];rfl
    ·have h9:n+(e::stk').length≤n0+stk0.length:=nC.out;rw [List.length_cons] at h9;omega
end Go.Proofs.YtdjdjbpnbjdaaaaGreatDoor
