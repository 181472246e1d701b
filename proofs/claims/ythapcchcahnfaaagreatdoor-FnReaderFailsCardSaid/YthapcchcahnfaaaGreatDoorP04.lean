/- Part of the proof that laws.FnStrictIsLoose, laws.FnUnclosed, laws.FnReaderFails, laws.FnWithin, laws.FnSkip returns true for every argument. No conditions. -/
import Derived.WalkKit
import Derived.BigFrame
import Derived.Scope
import Derived.Deep.LoopGhost
import Derived.Lib.Hide
import Derived.Test.YthapcchcahnfaaaGreatDoorP03
import Derived.Lib.ConvBytes
import Derived.Lib.AtoiErrMem
set_option linter.all false
set_option maxHeartbeats 8000000
set_option maxRecDepth 100000
namespace Go.Proofs.YthapcchcahnfaaaGreatDoor
open Go Tryz
def lk (f:Nat→Value):List (Nat×Value)→Nat→Value
 | [],t=>f t
 | (d,v)::L,t=>if t=d then v else lk f L t
def EP (n:Nat) (f:Nat→Value) (L:List (Nat×Value)):Act:=⟨Array.ofFn (n:=n) fun i=>lk f L i.val,[]⟩
theorem aX (f:Nat→Value) (t:Nat):lk f [] t=f t:=of_eq_true (eq_self _)
theorem aS (f:Nat→Value) (d:Nat) (v:Value) (L:List (Nat×Value)) (t:Nat):lk f ((d,v)::L) t=if t=d then v else lk f L t:=of_eq_true (eq_self _)
structure Ey (F:Nat→(Nat→Value)→List (Nat×Value)→Act):Prop where
 is:F=EP
theorem O2 {n:Nat} {f:Nat→Value} {L:List (Nat×Value)} {t:Nat} (h:t<n):(EP n f L).tmps[t]?=some (lk f L t):=by
 simp [EP,h]
theorem TV {n:Nat} {f:Nat→Value} {L:List (Nat×Value)} {d:Nat} (c:d<n) (v:Value):(EP n f L).tmps.setIfInBounds d v=(EP n f ((d,v)::L)).tmps:=by
 apply Array.ext
 ·simp [EP]
 ·intro i b g;simp [EP] at b;rw [Array.getElem_setIfInBounds (by simpa [EP] using b)];simp only [EP,Array.getElem_ofFn,lk];by_cases a:d=i
  ·subst a;simp
  ·rw [if_neg a,if_neg (fun e=>a e.symm)]
noncomputable def Gf:{ F:Nat→(Nat→Value)→List (Nat×Value)→Act // Ey F }:=Classical.choice ⟨⟨EP,⟨rfl⟩⟩⟩
noncomputable def fr (n:Nat) (f:Nat→Value) (L:List (Nat×Value)):Act:=Gf.val n f L
theorem wS (n:Nat) (f:Nat→Value) (L:List (Nat×Value)):fr n f L=EP n f L:=by
 unfold fr;rw [Gf.property.is]
theorem jC (n:Nat) (f:Nat→Value) (L:List (Nat×Value)):(fr n f L).defers=[]:=by rw [wS];rfl
theorem KI {n:Nat} {f:Nat→Value} {L:List (Nat×Value)} {t:Nat} (h:t<n):(fr n f L).tmps[t]?=some (lk f L t):=by
 rw [wS];exact O2 h
theorem iC {n:Nat} {f:Nat→Value} {L:List (Nat×Value)} {t:Nat} (h:t<n) (u:Value):(fr n f L).tmps.getD t u=lk f L t:=by
 rw [Array.getD_eq_getD_getElem?,KI h];rfl
theorem O3 {n:Nat} {f:Nat→Value} {L:List (Nat×Value)} {d:Nat} (h:d<n) (v:Value):(fr n f L).tmps.setIfInBounds d v=(fr n f ((d,v)::L)).tmps:=by
 rw [wS,wS];exact TV h v
theorem O4 (n:Nat) (f:Nat→Value) (L:List (Nat×Value)):(⟨(fr n f L).tmps,[]⟩:Act)=fr n f L:=by rw [wS];rfl
theorem cC {n:Nat} {f:Nat→Value} {L:List (Nat×Value)} {t:Nat} (h:t<n):(fr n f L).eval (.tmp t)=lk f L t:=iC h _
theorem fR {n:Nat} {f:Nat→Value} {L:List (Nat×Value)} {d:Nat} (h:d<n) (v:Value):(fr n f L).put (some d) v=fr n f ((d,v)::L):=by
 show (⟨(fr n f L).tmps.setIfInBounds d v,(fr n f L).defers⟩:Act)=_;rw [O3 h,jC,O4]
def keep (f:Nat→Value) (L:List (Nat×Value)):List Nat→List (Nat×Value)
 | []=>[]
 | k::ks=>(k,lk f L k)::keep f L ks
theorem aQ (f:Nat→Value) (L:List (Nat×Value)):keep f L []=[]:=of_eq_true (eq_self _)
theorem aK (f:Nat→Value) (L:List (Nat×Value)) (k:Nat) (a:List Nat):keep f L (k::a)=(k,lk f L k)::keep f L a:=of_eq_true (eq_self _)
theorem KJ (f:Nat→Value) (L:List (Nat×Value)):∀ (a:List Nat) (t:Nat),lk (lk f L) (keep f L a) t=lk f L t
 | [],t=>rfl
 | k::a,t=>by
  simp only [keep,lk];split
  ·rename_i h;subst h;rfl
  ·exact KJ f L a t
theorem C0 (n:Nat) (f:Nat→Value) (L:List (Nat×Value)) (a:List Nat):fr n f L=fr n (lk f L) (keep f L a):=by
 rw [wS,wS];simp only [EP,KJ]
theorem TW {P:Program} {c:Code} {Q:Exit→Act→World→Prop} {n:Nat} {f:Nat→Value} {L:List (Nat×Value)} {w:World} (a:List Nat) (h:∀ g,c.wp P Q (fr n g (keep f L a)) w):c.wp P Q (fr n f L) w:=by
 rw [C0 n f L a];exact h _
theorem YA {K:Act→World→Prop} {n:Nat} {f:Nat→Value} {L:List (Nat×Value)} {w:World} (a:List Nat) (h:∀ g,K (fr n g (keep f L a)) w):K (fr n f L) w:=by
 rw [C0 n f L a];exact h _
theorem YB {Q:Exit→Act→World→Prop} {e:Exit} {n:Nat} {f:Nat→Value} {L:List (Nat×Value)} {w:World} (a:List Nat) (h:∀ g,Q e (fr n g (keep f L a)) w):Q e (fr n f L) w:=by
 rw [C0 n f L a];exact h _
def aF:Nat→List Value→List (Nat×Value)
 | _,[]=>[]
 | i,v::vs=>(i,v)::aF (i+1) vs
theorem wT (f:Nat→Value):∀ (a:List Value) (i t:Nat),i≤t→lk f (aF i a) t=(a[t-i]?).getD (f t)
 | [],i,t,_=>by simp [aF,lk]
 | v::a,i,t,h=>by
  simp only [aF,lk];split
  ·rename_i e;subst e;simp
  ·rw [wT f a (i+1) t (by omega),show t-i=(t-(i+1))+1 by omega,List.getElem?_cons_succ]
theorem O5 {P:Program} {b:FuncId} {fn:Func} {c:Code} {a:List Value} {w:World} {R:Ending→World→Prop} (n:Nat) (j:P.funcs[b]?=some fn) (g:fn.body=some c) (l:fn.ntmps=n) (k:a.length≤n)
  (h:∀ f,c.wp P (bodyPost P fn R) (fr n f (aF 0 a)) w):Calls P b a.toArray w R:=by
 refine calls_of_wp j g ?_;have e:({ tmps:=a.toArray++Array.replicate (fn.ntmps-a.toArray.size) undef,defers:=[] }:Act)=fr n (fun _=>undef) (aF 0 a):=by
  subst l;rw [wS];simp only [EP]
  congr 1
  apply Array.ext
  ·simp;omega
  ·intro i m o;simp only [Array.getElem_ofFn];rw [wT _ a 0 i (Nat.zero_le _)];by_cases d:i<a.length
   ·simp [Array.getElem_append,d]
   ·simp [Array.getElem_append,d]
 rw [e];exact h _
theorem TX {P:Program} {fn:Func} {R:Ending→World→Prop} {n:Nat} {f:Nat→Value} {L:List (Nat×Value)} {w:World} {t:Nat} (a:fn.results=#[.tmp t]) (b:t<n) (h:R (.returned (lk f L t)) w):bodyPost P fn R .ret (fr n f L) w:=by
 refine bodyPost_ret (v:=lk f L t) ?_ (jC n f L) h;rw [results_tmp a,iC b]
theorem TY {P:Program} {fn:Func} {R:Ending→World→Prop} {n:Nat} {f:Nat→Value} {L:List (Nat×Value)} {w:World} {t u:Nat} (a:fn.results=#[.tmp t,.tmp u]) (b:t<n) (c:u<n) (h:R (.returned (.tuple #[lk f L t,lk f L u])) w):bodyPost P fn R .ret (fr n f L) w:=by
 refine bodyPost_ret (v:=.tuple #[lk f L t,lk f L u]) ?_ (jC n f L) h;rw [results_tmp2 a,iC b,iC c]
theorem kU {P:Program} {fn:Func} {R:Ending→World→Prop} {n:Nat} {f:Nat→Value} {L:List (Nat×Value)} {w:World} (a:fn.results=#[]) (h:R (.returned (.tuple #[])) w):bodyPost P fn R .ret (fr n f L) w:=by
 refine bodyPost_ret (v:=.tuple #[]) ?_ (jC n f L) h;rw [results_none a]
theorem TZ {P:Program} {fn:Func} {R:Ending→World→Prop} {n:Nat} {f:Nat→Value} {L:List (Nat×Value)} {w:World} {t:Nat} {v:Value} (b:fn.results=#[.tmp t]) (c:t<n) (a:lk f L t=v) (h:R (.returned v) w):bodyPost P fn R .ret (fr n f L) w:=by
 subst a;exact TX b c h
theorem C1 {P:Program} {fn:Func} {R:Ending→World→Prop} {n:Nat} {f:Nat→Value} {L:List (Nat×Value)} {w:World} {t u:Nat} {v v':Value} (c:fn.results=#[.tmp t,.tmp u]) (d:t<n) (e:u<n) (a:lk f L t=v) (b:lk f L u=v') (h:R (.returned (.tuple #[v,v'])) w):bodyPost P fn R .ret (fr n f L) w:=by
 subst a;subst b;exact TY c d e h
theorem T1 {P:Program} {fn:Func} {R:Ending→World→Prop} {n:Nat} {f:Nat→Value} {L:List (Nat×Value)} {w:World} {t u s:Nat} {v v' b:Value} (i:fn.results=#[.tmp t,.tmp u,.tmp s]) (k:t<n) (l:u<n) (j:s<n) (c:lk f L t=v) (d:lk f L u=v') (g:lk f L s=b) (h:R (.returned (.tuple #[v,v',b])) w):bodyPost P fn R .ret (fr n f L) w:=by
 subst c;subst d;subst g;refine bodyPost_ret (v:=.tuple #[lk f L t,lk f L u,lk f L s]) ?_ (jC n f L) h;have e:∀ (a:Array Value),(results fn a).run P w=.ok (.tuple #[a.getD t undef,a.getD u undef,a.getD s undef]) w:=fun a=>by simp [results,i]
 rw [e,iC k,iC l,iC j]
theorem kF {P:Program} {fn:Func} {R:Ending→World→Prop} {a:Act} {w:World} (h:bodyPost P fn R .ret a w):bodyPost P fn R .normal a w:=h
attribute [irreducible] fr lk keep
attribute [go_sem] jC KI iC O3 O4 aX aS
theorem zA {P:Program} {Q:Exit→Act→World→Prop} {a:Act} {w:World} {x y:Code} (h:∀ K:Act→World→Prop,(∀ a w,y.wp P Q a w→K a w)→x.wp P (Exit.then K Q) a w):(Code.seq x y).wp P Q a w:=wp_seq_k h
theorem zB {P:Program} {Q:Exit→Act→World→Prop} {a:Act} {w:World} {b:Nat} {l:List Oper} (h:wpList P l.toArray Q l a w):(Code.region b l.toArray false).wp P Q a w:=wp_region_lit h
theorem zC {P:Program} {b:Array Oper} {Q:Exit→Act→World→Prop} {a:Act} {w:World} (h:Q .normal a w):wpList P b Q [] a w:=h
theorem zD {P:Program} {b:Array Oper} {Q:Exit→Act→World→Prop} {a:Act} {w:World} {rest:List Oper} {o:Oper} (c:o.guard=none) (h:∀ K:Act→World→Prop,(∀ a w,wpList P b Q rest a w→K a w)→o.wp P a w K Q):wpList P b Q (o::rest) a w:=wpList_plain c h
theorem zE {P:Program} {b:Array Oper} {Q:Exit→Act→World→Prop} {a:Act} {w:World} {rest:List Oper} {o:Oper} (h:∀ K:Act→World→Prop,(∀ a w,wpList P b Q rest a w→K a w)→if Region.wanted o (yielded b a.tmps) then o.wp P a w K Q else K (a.put o.dst undef) w):wpList P b Q (o::rest) a w:=wpList_step h
theorem zt {P:Program} {Q:Exit→Act→World→Prop} {a:Act} {w:World} {c:Operand} {x y:Code} (h:x.wp P Q a w) (b:a.eval c=.bool true:=by go_simp;first|done|omega):(Code.cond c x y).wp P Q a w:=wp_cond b h
theorem zf {P:Program} {Q:Exit→Act→World→Prop} {a:Act} {w:World} {c:Operand} {x y:Code} (h:y.wp P Q a w) (b:a.eval c=.bool false:=by go_simp;first|done|omega):(Code.cond c x y).wp P Q a w:=wp_cond b h
theorem zG {P:Program} {Q:Exit→Act→World→Prop} {a:Act} {w:World} {b:Nat} (h:Q (.exit b) a w):(Code.exit b).wp P Q a w:=wp_exit h
theorem zR {P:Program} {Q:Exit→Act→World→Prop} {a:Act} {w:World} (h:Q .ret a w):Code.ret.wp P Q a w:=wp_ret h
theorem zK {P:Program} {Q:Exit→Act→World→Prop} {a:Act} {w:World} {b:Nat} {c:Code} (h:c.wp P (Exit.inBlock b Q) a w):(Code.block b c).wp P Q a w:=wp_block h
theorem zL {P:Program} {Q:Exit→Act→World→Prop} {a:Act} {w:World} {l:Nat} (h:Q .normal a w):(Code.label l).wp P Q a w:=wp_label h
theorem zN {P:Program} {Q:Exit→Act→World→Prop} {a:Act} {w:World} (h:Q .normal a w):Code.skip.wp P Q a w:=wp_skip h
theorem zS {P:Program} {Q:Exit→Act→World→Prop} {a:Act} {w:World} {c:Code} (h:c.wp P (Exit.noGoto Q) a w):(Code.scope c).wp P Q a w:=wp_scope_straight h
def Code.startsAt (b:Nat):Code→Bool
 | .region i _ _=>i==b
 | .seq a _=>Code.startsAt b a
 | _=>false
def Code.partAt (e:Nat):Code→Option Code
 | .seq a b=>if Code.startsAt e a then some (.seq a b) else match Code.partAt e a with
  | some c=>some c
  | none=>Code.partAt e b
 | .region i o d=>if i==e then some (.region i o d) else none
 | .cond _ a b=>match Code.partAt e a with
  | some c=>some c
  | none=>Code.partAt e b
 | .block _ c=>Code.partAt e c
 | .loop c=>Code.partAt e c
 | .scope c=>Code.partAt e c
 | _=>none
theorem bB {P:Program} {c b:Code} {Q:Exit→Act→World→Prop} {a:Act} {w:World} (h:c.wp P Q a w) (e:b=c):b.wp P Q a w:=e▸h
structure Et (p q:Prop):Prop where
 of:q→p
theorem vg {p q:Prop} (h:q) (H:Et p q:=by constructor;intro hEnd;replace hEnd:=Lib.hid hEnd;(repeat with_reducible intro K hK);(repeat (first|(with_reducible first|refine zA fun K hK=>?_|refine zB ?_|refine zC ?_)|((with_reducible first|refine zD rfl fun K hK=>?_|refine zE fun K hK=>?_);go_simp)|(with_reducible first|((repeat ((fail_if_success refine hK _ _ ?_);clear hK K));refine hK _ _ ?_;clear hK K)|refine zt ?_|refine zf ?_|refine zG ?_|refine zR ?_|refine zK ?_|refine zL ?_|refine zN ?_|refine zS ?_)|simp only [Exit.then,Exit.inBlock,Exit.noGoto,↓reduceIte,Nat.reduceEqDiff]|simp only [undef,reduceCtorEq,↓reduceIte]));(repeat revert K);exact hEnd.out):p:=H.of h
def Hx (p:Prop):Prop:=p
theorem Hx.o {p:Prop} (h:Hx p):p:=h
theorem Lh {p:Prop} (h:p):Hx p:=h
theorem cY {α:Type} (a:α):∃ b,b=a:=⟨a,rfl⟩
theorem cN {a b:Prop} (u:a) (v:b):Hx a ∧ Hx b:=⟨u,v⟩
theorem mJ {a b c:Prop} (u:a) (v:b) (w:c):Hx a ∧ Hx b ∧ Hx c:=⟨u,v,w⟩
theorem kV {a b c d:Prop} (u:a) (v:b) (w:c) (x:d):Hx a ∧ Hx b ∧ Hx c ∧ Hx d:=⟨u,v,w,x⟩
theorem o4 {a b c d e:Prop} (u:a) (v:b) (w:c) (x:d) (y:e):Hx a ∧ Hx b ∧ Hx c ∧ Hx d ∧ Hx e:=⟨u,v,w,x,y⟩
theorem iH {a b c d e f:Prop} (u:a) (v:b) (w:c) (x:d) (y:e) (z:f):Hx a ∧ Hx b ∧ Hx c ∧ Hx d ∧ Hx e ∧ Hx f:=⟨u,v,w,x,y,z⟩
structure Ez (n:Nat):Prop where
 t:True
structure Fa (n:Nat) (p q:Prop):Prop where
 of:Ez n→q→p
theorem O6 {b:Array Oper} {d:Bool} {rest:Code} {P:Program} {Q:Exit→Act→World→Prop} {a:Act} {w:World} {n:Nat} (_:Ez n) (h:((Code.region n b d).seq rest).wp P Q a w):((Code.region n b d).seq rest).wp P Q a w:=h
theorem O7 {c:Array Oper} {d:Bool} {rest b:Code} {P:Program} {Q:Exit→Act→World→Prop} {a:Act} {w:World} {n:Nat} (_:Ez n) (h:(((Code.region n c d).seq rest).seq b).wp P Q a w):(((Code.region n c d).seq rest).seq b).wp P Q a w:=h
theorem vT (n:Nat) {p q:Prop} (h:q) (H:Fa n p q:=by constructor;intro a hEnd;replace hEnd:=Lib.hid hEnd;(repeat with_reducible intro K hK);(repeat ((fail_if_success with_reducible refine O6 a ?_);(fail_if_success with_reducible refine O7 a ?_);(first|(with_reducible first|refine zA fun K hK=>?_|refine zB ?_|refine zC ?_)|((with_reducible first|refine zD rfl fun K hK=>?_|refine zE fun K hK=>?_);go_simp)|(with_reducible first|((repeat ((fail_if_success refine hK _ _ ?_);clear hK K));refine hK _ _ ?_;clear hK K)|refine zt ?_|refine zf ?_|refine zG ?_|refine zR ?_|refine zK ?_|refine zL ?_|refine zN ?_|refine zS ?_)|simp only [Exit.then,Exit.inBlock,Exit.noGoto,↓reduceIte,Nat.reduceEqDiff]|simp only [undef,reduceCtorEq,↓reduceIte])));(repeat revert K);exact hEnd.out):p:=H.of ⟨trivial⟩ h
theorem vB {p q:Prop} (h:q) (H:Et p q:=by constructor;intro hEnd;replace hEnd:=Lib.hid hEnd;(repeat with_reducible intro K hK);(repeat ((fail_if_success at_builtin);(first|(with_reducible first|refine zA fun K hK=>?_|refine zB ?_|refine zC ?_)|((with_reducible first|refine zD rfl fun K hK=>?_|refine zE fun K hK=>?_);go_simp)|(with_reducible first|((repeat ((fail_if_success refine hK _ _ ?_);clear hK K));refine hK _ _ ?_;clear hK K)|refine zt ?_|refine zf ?_|refine zG ?_|refine zR ?_|refine zK ?_|refine zL ?_|refine zN ?_|refine zS ?_)|simp only [Exit.then,Exit.inBlock,Exit.noGoto,↓reduceIte,Nat.reduceEqDiff]|simp only [undef,reduceCtorEq,↓reduceIte])));(repeat revert K);exact hEnd.out):p:=H.of h
theorem vS {p q:Prop} (h:q) (H:Et p q:=by constructor;intro hEnd;replace hEnd:=Lib.hid hEnd;(repeat with_reducible intro K hK);go_simp;(repeat (first|(with_reducible first|refine zA fun K hK=>?_|refine zB ?_|refine zC ?_)|((with_reducible first|refine zD rfl fun K hK=>?_|refine zE fun K hK=>?_);go_simp)|(with_reducible first|((repeat ((fail_if_success refine hK _ _ ?_);clear hK K));refine hK _ _ ?_;clear hK K)|refine zt ?_|refine zf ?_|refine zG ?_|refine zR ?_|refine zK ?_|refine zL ?_|refine zN ?_|refine zS ?_)|simp only [Exit.then,Exit.inBlock,Exit.noGoto,↓reduceIte,Nat.reduceEqDiff]|simp only [undef,reduceCtorEq,↓reduceIte]));(repeat revert K);exact hEnd.out):p:=H.of h
theorem cO {P:Program} {fn:Func} {R:Ending→World→Prop} {m:Nat} {f:Nat→Value} {L:List (Nat×Value)} {w:World} {t:Nat} {v:Value} (h:R (.returned v) w) (H:fn.results=#[.tmp t] ∧ t<m ∧ lk f L t=v:=by exact ⟨rfl,by decide,by simp only [aS,aX,Nat.reduceEqDiff,↓reduceIte];rfl⟩):bodyPost P fn R .ret (fr m f L) w:=by
 obtain ⟨a,b,c⟩:=H;exact TZ a b c h
theorem kN {P:Program} {fn:Func} {R:Ending→World→Prop} {m:Nat} {f:Nat→Value} {L:List (Nat×Value)} {w:World} {t u:Nat} {v v':Value} (h:R (.returned (.tuple #[v,v'])) w) (H:fn.results=#[.tmp t,.tmp u] ∧ t<m ∧ u<m ∧ lk f L t=v ∧ lk f L u=v':=by exact ⟨rfl,by decide,by decide,by simp only [aS,aX,Nat.reduceEqDiff,↓reduceIte];rfl,by simp only [aS,aX,Nat.reduceEqDiff,↓reduceIte];rfl⟩):bodyPost P fn R .ret (fr m f L) w:=by
 obtain ⟨a,b,c,d,e⟩:=H;exact C1 a b c d e h
theorem OU {P:Program} {fn:Func} {R:Ending→World→Prop} {m:Nat} {f:Nat→Value} {L:List (Nat×Value)} {w:World} {t u s:Nat} {v v' a:Value} (h:R (.returned (.tuple #[v,v',a])) w) (H:fn.results=#[.tmp t,.tmp u,.tmp s] ∧ t<m ∧ u<m ∧ s<m ∧ lk f L t=v ∧ lk f L u=v' ∧ lk f L s=a:=by exact ⟨rfl,by decide,by decide,by decide,by simp only [aS,aX,Nat.reduceEqDiff,↓reduceIte];rfl,by simp only [aS,aX,Nat.reduceEqDiff,↓reduceIte];rfl,by simp only [aS,aX,Nat.reduceEqDiff,↓reduceIte];rfl⟩):bodyPost P fn R .ret (fr m f L) w:=by
 obtain ⟨b,c,d,e,g,i,j⟩:=H;exact T1 b c d e g i j h
theorem eI {P:Program} {a:FuncId} {fn:Func} {c:Code} {w:World} {R:Ending→World→Prop} (n:Nat) (d:P.funcs[a]?=some fn) (b:List Value) (h:∀ f,c.wp P (bodyPost P fn R) (fr n f (aF 0 b)) w) (H:fn.body=some c ∧ fn.ntmps=n ∧ b.length≤n:=by exact ⟨rfl,rfl,Nat.le_of_ble_eq_true rfl⟩):Calls P a b.toArray w R:=O5 n d H.1 H.2.1 H.2.2 h
theorem cP {P:Program} {c:Code} {Q:Exit→Act→World→Prop} {n:Nat} {f:Nat→Value} {L a:List (Nat×Value)} {w:World} (b:List Nat) (h:∀ g,c.wp P Q (fr n g a) w) (H:keep f L b=a:=by simp only [aK,aQ,aS,aX,Nat.reduceEqDiff,↓reduceIte];rfl):c.wp P Q (fr n f L) w:=TW b (H▸h)
theorem Kk {K:Act→World→Prop} {n:Nat} {f:Nat→Value} {L a:List (Nat×Value)} {w:World} (b:List Nat) (h:∀ g,K (fr n g a) w) (H:keep f L b=a:=by simp only [aK,aQ,aS,aX,Nat.reduceEqDiff,↓reduceIte];rfl):K (fr n f L) w:=YA b (H▸h)
theorem Qk {Q:Exit→Act→World→Prop} {e:Exit} {n:Nat} {f:Nat→Value} {L a:List (Nat×Value)} {w:World} (b:List Nat) (h:∀ g,Q e (fr n g a) w) (H:keep f L b=a:=by simp only [aK,aQ,aS,aX,Nat.reduceEqDiff,↓reduceIte];rfl):Q e (fr n f L) w:=YB b (H▸h)
end Go.Proofs.YthapcchcahnfaaaGreatDoor
namespace Go.Proofs.YthapcchcahnfaaaGreatDoor
open Go Go.RowKit Tryz
theorem nC (a:Bool):∀ (c:Bs) (n:Nat),n≤c.foldl (fun n b=>n*(if a then 16 else 10)+eF b) n
 | [],n=>dD _
 | b::c,n=>by
  refine fX ?_ (nC a c _);show n≤n*(if a then 16 else 10)+eF b;cases a<;>simp<;>omega
theorem wU {a:Bool} {b:UInt8} (h:fI a b=true):(48≤b.toNat∧b.toNat≤57∧eF b=b.toNat-48)∨(a=true∧97≤b.toNat∧b.toNat≤102∧eF b=b.toNat-87)∨(a=true∧65≤b.toNat∧b.toNat≤70∧eF b=b.toNat-55):=by
 have i:(48:UInt8).toNat=48:=rfl;have f:(57:UInt8).toNat=57:=rfl;have g:(97:UInt8).toNat=97:=rfl;have j:(102:UInt8).toNat=102:=rfl;have k:(65:UInt8).toNat=65:=rfl;have l:(70:UInt8).toNat=70:=rfl;simp only [fI,Bool.or_eq_true,G9,KF,UInt8.le_iff_toNat_le,i,f,g,j,k,l] at h;unfold eF;simp only [UInt8.le_iff_toNat_le,f,g];rcases h with (⟨c,d⟩|⟨⟨e,c⟩,d⟩)|⟨⟨e,c⟩,d⟩
 ·left;rw [aV d];exact ⟨c,d,rfl⟩
 ·right;left;rw [aN (by omega),aV c];exact ⟨e,c,d,rfl⟩
 ·right;right;rw [aN (by omega),aN (by omega)];exact ⟨e,c,d,rfl⟩
theorem O8 (n v:Nat) (h:(97≤n∧n≤102∧v=n)∨(65≤n∧n≤70∧v=n+32)) (w:World):Calls prog 127 #[.int .u8 n] w fun e w'=>e=.returned (.int .u8 v)∧w=w':=by
 rcases h with ⟨a,b,rfl⟩|⟨a,b,rfl⟩
 ·have c:v=97∨v=98∨v=99∨v=100∨v=101∨v=102:=by omega
  clear a b;rcases c with rfl|rfl|rfl|rfl|rfl|rfl
  all_goals
   go_enter func127,ntmps127
   go_wp2;go_ret
   exact ⟨rfl,rfl⟩
 ·have c:n=65∨n=66∨n=67∨n=68∨n=69∨n=70:=by omega
  clear a b;rcases c with rfl|rfl|rfl|rfl|rfl|rfl
  all_goals
   go_enter func127,ntmps127
   go_wp2;go_ret
   exact ⟨rfl,rfl⟩
abbrev O9 (s:Bs):Value:=.string ⟨s.toArray⟩
def pQ (a:Bool) (b:Bs) (u:TypeId) (c:Ending):Prop:=
 if b=[]∨18446744073709551616≤gL a b then ∃ n k,c=.returned (.tuple #[.int .u64 n,.iface u (.int .i64 k)])∧(k=1∨k=2) else c=.returned (.tuple #[.int .u64 (gL a b),.nilIface])
def PA (c:Bool) (d:Bs) (e:Value) (w1:World) (k:Nat) (a:Act) (w:World):Prop:=
 ∃ (f:Nat→Value) (i acc:Nat) (n:Int),a=fr 172 f [(0,O9 d),(1,.int .i64 (if c then 16 else 10)),(8,.bool false),(10,.int .u64 (if c then 1152921504606846976 else 1844674407370955162)),(11,.int .u64 18446744073709551615),(12,.bool false),(13,.int .u64 n),(99,e),(100,.int .i64 d.length),(101,.int .i64 i)] ∧
  w=w1∧i≤d.length∧k=d.length-i∧n=(acc:Int)∧acc<18446744073709551616∧gL c d=(d.drop i).foldl (fun n b=>n*(if c then 16 else 10)+eF b) acc
noncomputable def IC:Code:=((Tryz.f114.body).bind (Code.partAt 36)).getD .skip
structure XQ (a:Bs) (b:Nat) (w1:World):Prop where
 at':∀ j,(c:j<a.length)→w1.cell? ⟨b,j,none⟩=some (.int .u8 a[j].toNat)
theorem KK (j:Bool) (g:Bs) (Z:∀ b∈g,fI j b=true) (hl:g.length≤1000000000) (b D:Nat) (w0 w1:World) (hm:XQ g b w1) (hB:Below w0.heap.size w0 w1) (K:Act→World→Prop) (J:Nat→Act→World→Prop) (k:Nat)
  (f:Nat→Value) (i acc:Nat) (n:Int) (hi:i≤g.length) (hk:k=g.length-i) (hn:n=(acc:Int)) (x:acc<18446744073709551616) (l:gL j g=(g.drop i).foldl (fun n b=>n*(if j then 16 else 10)+eF b) acc)
  (hJ:∀ k a w,PA j g (.slice (some ⟨b,0,none⟩) g.length D) w1 k a w→J k a w) (hK:∀ a w,Handed J k a w→K a w) (K2:Act→World→Prop)
  (G:∀ f n,18446744073709551616 > gL j g→n=(gL j g:Int)→K2 (fr 172 f [(0,O9 g),(12,.bool false),(13,.int .u64 n)]) w1) :
  IC.wp prog (Exit.then K (Exit.inBlock 3 (Exit.then K2 (bodyPost prog Tryz.f114 fun en w'=>pQ j g 237 en∧Below w0.heap.size w0 w'))))
   (fr 172 f [(0,O9 g),(1,.int .i64 (if j then 16 else 10)),(8,.bool false),(10,.int .u64 (if j then 1152921504606846976 else 1844674407370955162)),(11,.int .u64 18446744073709551615),(12,.bool false),(13,.int .u64 n),(99,.slice (some ⟨b,0,none⟩) g.length D),(100,.int .i64 g.length),(101,.int .i64 i)]) w1:=by
 have n0:0≤n:=by omega
 have n1:n<18446744073709551616:=by omega
 have a1:(g.length:Int)≤1000000000:=by omega
 have ⟨X,p,HA,V,e,W⟩:=iH hk hn x hB l hJ;have Y:=Lh G;clear hk hn x hB hJ G;by_cases u:i<g.length
 ·have hc:=hm.at' i u;have s:=Z g[i] (List.getElem_mem u);rw [show g.drop i=g[i]::g.drop (i+1) from EF u,List.foldl_cons] at l;generalize g[i]=c at hc s l;obtain ⟨m,L⟩:=cY c.toNat;obtain ⟨d,M⟩:∃ d:Int,d=(eF c:Int):=⟨_,rfl⟩;have r:((48:Int)≤m∧(m:Int)≤57∧d=(m:Int)-48∧d≤9)∨(j=true∧∃ v:Nat,((97≤m∧m≤102∧v=m)∨(65≤m∧m≤70∧v=m+32))∧d=(v:Int)-97+10∧(97:Int)≤v∧(v:Int)≤102):=by
   rcases wU s with ⟨E,F,q⟩|⟨T,E,F,q⟩|⟨T,E,F,q⟩
   ·left;omega
   ·right;exact ⟨T,m,by omega,by omega,by omega,by omega⟩
   ·right;exact ⟨T,m+32,by omega,by omega,by omega,by omega⟩
  have aC:0≤d:=by omega
  have ⟨o,e⟩:=cN M l;rw [←L] at hc;clear L s M l Z hm;unfold IC;conv=>arg 2;whnf
  cases j
  ·simp only [sS,↓reduceIte] at e ⊢;rcases r with ⟨E,F,q,h4⟩|⟨T,_⟩
   ·have C:=Lh q;have O:IntKind.u8.wrap ((m:Int)-48)=d:=by rw [IntKind.wrap_u8];omega
    have y:IntKind.u64.wrap d=d:=by rw [IntKind.wrap_u64];omega
    have Q:((m:Int)==95)=false:=by simp;omega
    have h5:d<10:=by omega
    have H:IntKind.u8.wrap 10=10:=by rw [IntKind.wrap_u8];rfl
    have I:IntKind.u64.wrap 10=10:=by rw [IntKind.wrap_u64];rfl
    have P:IntKind.i64.wrap ((i:Int)+1)=((i+1:Nat):Int):=by rw [IntKind.wrap_i64];omega
    clear q;by_cases hcut:(1844674407370955162:Int)≤n
    ·revert K;refine vg ?_;intro K hK K hK K hK;refine kN ?_;refine ⟨?_,V.o⟩;unfold pQ;rw [aV (aW (by
      rw [e.o];have h:=nC false (g.drop (i+1)) (acc*10+eF c);simp only [sS,↓reduceIte] at h;have:=p.o;omega))]
     exact ⟨_,_,rfl,by decide⟩
    ·have S:IntKind.u64.wrap (n*10)=n*10:=by rw [IntKind.wrap_u64];omega
     by_cases R:n*10+d<18446744073709551616
     ·have z:IntKind.u64.wrap (n*10+d)=n*10+d:=by rw [IntKind.wrap_u64];omega
      have A:¬ (n*10+d<n*10):=by omega
      have U:¬ (18446744073709551615<n*10+d):=by omega
      revert K;refine vg ?_;refine Kk [0,1,8,10,11,12,13,99,100,101] fun f=>?_;refine ⟨g.length-(i+1),by have:=X.o;omega,W.o _ _ _ ⟨f,i+1,acc*10+eF c,_,rfl,rfl,by omega,rfl,by have:=p.o;have:=o.o;omega,by have:=p.o;have:=o.o;omega,e.o⟩⟩
     ·have z:IntKind.u64.wrap (n*10+d)=n*10+d-18446744073709551616:=by rw [IntKind.wrap_u64];omega
      have A:n*10+d-18446744073709551616<n*10:=by omega
      revert K;refine vg ?_;intro K hK K hK K hK;refine kN ?_;refine ⟨?_,V.o⟩;unfold pQ;rw [aV (aW (by
       rw [e.o];have h:=nC false (g.drop (i+1)) (acc*10+eF c);simp only [sS,↓reduceIte] at h;have:=p.o;have:=o.o;omega))]
      exact ⟨_,_,rfl,by decide⟩
   ·cases T
  ·simp only [↓reduceIte] at e ⊢;rcases r with ⟨E,F,q,h4⟩|⟨_,v,hv,q,E,F⟩
   ·have C:=Lh q;have O:IntKind.u8.wrap ((m:Int)-48)=d:=by rw [IntKind.wrap_u8];omega
    have y:IntKind.u64.wrap d=d:=by rw [IntKind.wrap_u64];omega
    have Q:((m:Int)==95)=false:=by simp;omega
    have h5:d<16:=by omega
    have H:IntKind.u8.wrap 16=16:=by rw [IntKind.wrap_u8];rfl
    have I:IntKind.u64.wrap 16=16:=by rw [IntKind.wrap_u64];rfl
    have P:IntKind.i64.wrap ((i:Int)+1)=((i+1:Nat):Int):=by rw [IntKind.wrap_i64];omega
    clear q;by_cases hcut:(1152921504606846976:Int)≤n
    ·revert K;refine vg ?_;intro K hK K hK K hK;refine kN ?_;refine ⟨?_,V.o⟩;unfold pQ;rw [aV (aW (by
      rw [e.o];have h:=nC true (g.drop (i+1)) (acc*16+eF c);simp only [sS,↓reduceIte] at h;have:=p.o;omega))]
     exact ⟨_,_,rfl,by decide⟩
    ·have S:IntKind.u64.wrap (n*16)=n*16:=by rw [IntKind.wrap_u64];omega
     by_cases R:n*16+d<18446744073709551616
     ·have z:IntKind.u64.wrap (n*16+d)=n*16+d:=by rw [IntKind.wrap_u64];omega
      have A:¬ (n*16+d<n*16):=by omega
      have U:¬ (18446744073709551615<n*16+d):=by omega
      revert K;refine vg ?_;refine Kk [0,1,8,10,11,12,13,99,100,101] fun f=>?_;refine ⟨g.length-(i+1),by have:=X.o;omega,W.o _ _ _ ⟨f,i+1,acc*16+eF c,_,rfl,rfl,by omega,rfl,by have:=p.o;have:=o.o;omega,by have:=p.o;have:=o.o;omega,e.o⟩⟩
     ·exfalso;omega
   ·have C:=Lh q;have t:=Lh (fun w=>O8 m v hv w);have aL:(57:Int)<m:=by omega
    have a0:(48:Int)≤m:=by omega
    have a2:IntKind.u8.wrap ((v:Int)-97)=(v:Int)-97:=by rw [IntKind.wrap_u8];omega
    have O:IntKind.u8.wrap ((v:Int)-97+10)=d:=by rw [IntKind.wrap_u8];omega
    have y:IntKind.u64.wrap d=d:=by rw [IntKind.wrap_u64];omega
    have Q:((m:Int)==95)=false:=by simp;omega
    have h5:d<16:=by omega
    have H:IntKind.u8.wrap 16=16:=by rw [IntKind.wrap_u8];rfl
    have I:IntKind.u64.wrap 16=16:=by rw [IntKind.wrap_u64];rfl
    have P:IntKind.i64.wrap ((i:Int)+1)=((i+1:Nat):Int):=by rw [IntKind.wrap_i64];omega
    clear q hv;revert K;refine vg ?_;intro K hK K hK K hK K hK K hK;refine (t.o _).mono ?_;rintro e1 w2 ⟨rfl,rfl⟩;(repeat revert K);refine vS ?_;intro K hK K hK K hK K hK K hK;refine (t.o _).mono ?_;rintro e1 w2 ⟨rfl,rfl⟩;(repeat revert K);refine vS ?_;intro K hK K hK K hK K hK;refine (t.o _).mono ?_;rintro e1 w2 ⟨rfl,rfl⟩;go_simp;by_cases hcut:(1152921504606846976:Int)≤n
    ·(repeat revert K);refine vg ?_;intro K hK K hK K hK;refine kN ?_;refine ⟨?_,V.o⟩;unfold pQ;rw [aV (aW (by
      rw [e.o];have h:=nC true (g.drop (i+1)) (acc*16+eF c);simp only [sS,↓reduceIte] at h;have:=p.o;omega))]
     exact ⟨_,_,rfl,by decide⟩
    ·have S:IntKind.u64.wrap (n*16)=n*16:=by rw [IntKind.wrap_u64];omega
     by_cases R:n*16+d<18446744073709551616
     ·have z:IntKind.u64.wrap (n*16+d)=n*16+d:=by rw [IntKind.wrap_u64];omega
      have A:¬ (n*16+d<n*16):=by omega
      have U:¬ (18446744073709551615<n*16+d):=by omega
      (repeat revert K);refine vg ?_;refine Kk [0,1,8,10,11,12,13,99,100,101] fun f=>?_;refine ⟨g.length-(i+1),by have:=X.o;omega,W.o _ _ _ ⟨f,i+1,acc*16+eF c,_,rfl,rfl,by omega,rfl,by have:=p.o;have:=o.o;omega,by have:=p.o;have:=o.o;omega,e.o⟩⟩
     ·exfalso;omega
 ·have aA:i=g.length:=by omega
  subst aA;have N:gL j g=acc:=by
   have:=e.o;rw [vN (dD _)] at this;exact this
  have B:=Lh N;clear N l u hi hm Z;unfold IC;conv=>arg 2;whnf
  revert K;refine vg ?_;intro K hK K hK;refine Kk [0,12,13] fun f=>?_;exact Y.o _ _ (by have:=B.o;have:=HA.o;omega) (by rw [B.o];exact p.o)
theorem C2 (g:Bool) (a:Bs) (G:∀ b∈a,fI g b=true) (L:a.length≤1000000000) (w:World) :
  Calls prog 114 #[O9 a,.int .i64 (if g then 16 else 10),.int .i64 64] w fun M w'=>pQ g a 237 M∧Below w.heap.size w w':=by
 have C:=Lh G;have N:IntKind.u64.wrap (IntKind.u64.wrap 18446744073709551616-1)=18446744073709551615:=by
  rw [IntKind.wrap_u64,IntKind.wrap_u64];decide
 have x:=Lib.run_convert_string_bytes (P:=prog) w 9 81 5 ⟨a.toArray⟩ underlying9 underlying81 underlying5;have B:=Lh (fun (j:Nat) (t:j<a.length)=>(Lib.bytesWorld_cell w 5 ⟨a.toArray⟩ j t));have c:=Lh (Lib.bytesWorld_below w 5 ⟨a.toArray⟩);obtain ⟨w1,s⟩:=cY (Lib.bytesWorld w 5 ⟨a.toArray⟩);rw [←s] at x B c;clear s G;by_cases l:a=[]
 ·subst l;refine eI 172 func114 [_,_,_] fun f=>?_;simp only [aF];refine vg ?_;intro K hK;refine kN ?_;refine ⟨?_,Below.refl _ _⟩;unfold pQ;rw [aV (aH rfl)];exact ⟨_,_,rfl,by decide⟩
 ·have q:True:=trivial;have y:a.isEmpty=false:=by simp [l]
  have v:=Lh l;clear l q;cases g
  all_goals
   (try simp only [sS,↓reduceIte])
   refine eI 172 func114 [_,_,_] fun f=>?_;simp only [aF];refine vg ?_;intro K hK;have o:IntKind.u64.wrap (IntKind.u64.wrap (2 ^ min (IntKind.u64.wrap 64).toNat 64)-1)=18446744073709551615:=by
    rw [IntKind.wrap_u64,IntKind.wrap_u64,IntKind.wrap_u64];decide
   refine cP [0,1,8,10,11,12,13,99,100,101] fun f=>?_;rw [o];clear o;have E:=iW a.length;have m:XQ a w.heap.size w1:=⟨fun j t=>by
    have h:=B.o j t;rw [show (⟨a.toArray⟩:ByteArray).data.toList.getD j 0=a[j] by simp [List.getD,List.getElem?_eq_getElem t]] at h;exact h⟩
   first
    | refine wp_loop_ghost_k (PA false a (.slice (some ⟨w.heap.size,0,none⟩) a.length (grownCap w a.length 0 5)) w1) a.length ⟨f,0,0,0,rfl,rfl,E,rfl,rfl,by decide,by first|rfl|simp [gL]⟩ ?_
    | refine wp_loop_ghost_k (PA true a (.slice (some ⟨w.heap.size,0,none⟩) a.length (grownCap w a.length 0 5)) w1) a.length ⟨f,0,0,0,rfl,rfl,E,rfl,rfl,by decide,by first|rfl|simp [gL]⟩ ?_
   rintro k _ wr ⟨f,i,acc,n,rfl,rfl,H,I,z,d,e⟩ J D F p
   first
    | refine bB (KK false a C.o L _ _ w _ m c.o D J k f i acc n H I z d e F p K ?_) (by kernel_rfl)
    | refine bB (KK true a C.o L _ _ w _ m c.o D J k f i acc n H I z d e F p K ?_) (by kernel_rfl)
   intro f n r A;subst A;have u:=Lh r;clear r z e d;revert K;refine vg ?_;refine kN ?_;refine ⟨?_,c.o⟩;unfold pQ;rw [aN (by
    intro h;rcases h with h|h
    ·exact v.o h
    ·have:=u.o;omega)]
end Go.Proofs.YthapcchcahnfaaaGreatDoor
