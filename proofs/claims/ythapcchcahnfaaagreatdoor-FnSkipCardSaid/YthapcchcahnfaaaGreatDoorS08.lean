/- Part of the proof that laws.FnSkip returns true for every argument. No conditions. -/
import Derived.WalkKit
import Derived.BigFrame
import Derived.Scope
import Derived.Deep.LoopGhost
import Derived.Lib.Hide
import Derived.Test.YthapcchcahnfaaaGreatDoorS03
import Derived.Shelf.Small.Strs
import Derived.Shelf.Strconv.Itoa0
import Derived.Shelf.LaysM
import Derived.Shelf.Bytes.Len
import Derived.Shelf.Bytes.TryGrow
import Derived.Shelf.Bytes.GrowSliceCatch
import Derived.Shelf.Bytes.GrowSlice
import Derived.Shelf.Bytes.GrowRow0
import Derived.Shelf.Bytes.GrowRow
import Derived.Shelf.Strings.Search1
import Derived.Shelf.Strings.Fold
import Derived.Shelf.Unicode.DecodeSlow
import Derived.Shelf.Unicode.DecodeAny
import Derived.Shelf.Unicode.Is16White
import Derived.Shelf.Unicode.CaseLookup
import Derived.Shelf.Unicode.CaseConvert
import Derived.Shelf.Unicode.Is16Any
import Derived.Shelf.Unicode.Is32Any
import Derived.Ground.GgnProg
import Derived.Shelf.Unicode.PredsGn
import Derived.Test.YthapcchcahnfaaaGreatDoorProg
import Derived.Deep.Quiet
import Derived.Deep.QuietTactic
import Derived.Deep.RegionHeld3
import Derived.NoCompiler
set_option linter.all false
set_option maxHeartbeats 8000000
set_option maxRecDepth 100000
namespace Go.Proofs.YthapcchcahnfaaaGreatDoor
open Go Go.Proofs.Tryz
def lk (f:Nat→Value):List (Nat×Value)→Nat→Value
 | [],t=>f t
 | (d,v)::L,t=>if t=d then v else lk f L t
def CW (n:Nat) (f:Nat→Value) (L:List (Nat×Value)):Act:=⟨Array.ofFn (n:=n) fun i=>lk f L i.val,[]⟩
theorem aW (f:Nat→Value) (t:Nat):lk f [] t=f t:=of_eq_true (eq_self _)
theorem aR (f:Nat→Value) (d:Nat) (v:Value) (L:List (Nat×Value)) (t:Nat):lk f ((d,v)::L) t=if t=d then v else lk f L t:=of_eq_true (eq_self _)
structure Ag (F:Nat→(Nat→Value)→List (Nat×Value)→Act):Prop where
 is:F=CW
theorem MQ {n:Nat} {f:Nat→Value} {L:List (Nat×Value)} {t:Nat} (h:t<n):(CW n f L).tmps[t]?=some (lk f L t):=by
 simp [CW,h]
theorem Q1 {n:Nat} {f:Nat→Value} {L:List (Nat×Value)} {d:Nat} (c:d<n) (v:Value):(CW n f L).tmps.setIfInBounds d v=(CW n f ((d,v)::L)).tmps:=by
 apply Array.ext
 ·simp [CW]
 ·intro i b g;simp [CW] at b;rw [Array.getElem_setIfInBounds (by simpa [CW] using b)];simp only [CW,Array.getElem_ofFn,lk];by_cases a:d=i
  ·subst a;simp
  ·rw [if_neg a,if_neg (fun e=>a e.symm)]
noncomputable def Bf:{ F:Nat→(Nat→Value)→List (Nat×Value)→Act // Ag F }:=Classical.choice ⟨⟨CW,⟨rfl⟩⟩⟩
noncomputable def fr (n:Nat) (f:Nat→Value) (L:List (Nat×Value)):Act:=Bf.val n f L
theorem uV (n:Nat) (f:Nat→Value) (L:List (Nat×Value)):fr n f L=CW n f L:=by
 unfold fr;rw [Bf.property.is]
theorem iI (n:Nat) (f:Nat→Value) (L:List (Nat×Value)):(fr n f L).defers=[]:=by rw [uV];rfl
theorem IF {n:Nat} {f:Nat→Value} {L:List (Nat×Value)} {t:Nat} (h:t<n):(fr n f L).tmps[t]?=some (lk f L t):=by
 rw [uV];exact MQ h
theorem gQ {n:Nat} {f:Nat→Value} {L:List (Nat×Value)} {t:Nat} (h:t<n) (u:Value):(fr n f L).tmps.getD t u=lk f L t:=by
 rw [Array.getD_eq_getD_getElem?,IF h];rfl
theorem MR {n:Nat} {f:Nat→Value} {L:List (Nat×Value)} {d:Nat} (h:d<n) (v:Value):(fr n f L).tmps.setIfInBounds d v=(fr n f ((d,v)::L)).tmps:=by
 rw [uV,uV];exact Q1 h v
theorem MS (n:Nat) (f:Nat→Value) (L:List (Nat×Value)):(⟨(fr n f L).tmps,[]⟩:Act)=fr n f L:=by rw [uV];rfl
theorem bU {n:Nat} {f:Nat→Value} {L:List (Nat×Value)} {t:Nat} (h:t<n):(fr n f L).eval (.tmp t)=lk f L t:=gQ h _
theorem fG {n:Nat} {f:Nat→Value} {L:List (Nat×Value)} {d:Nat} (h:d<n) (v:Value):(fr n f L).put (some d) v=fr n f ((d,v)::L):=by
 show (⟨(fr n f L).tmps.setIfInBounds d v,(fr n f L).defers⟩:Act)=_;rw [MR h,iI,MS]
def keep (f:Nat→Value) (L:List (Nat×Value)):List Nat→List (Nat×Value)
 | []=>[]
 | k::ks=>(k,lk f L k)::keep f L ks
theorem aO (f:Nat→Value) (L:List (Nat×Value)):keep f L []=[]:=of_eq_true (eq_self _)
theorem aK (f:Nat→Value) (L:List (Nat×Value)) (k:Nat) (a:List Nat):keep f L (k::a)=(k,lk f L k)::keep f L a:=of_eq_true (eq_self _)
theorem IG (f:Nat→Value) (L:List (Nat×Value)):∀ (a:List Nat) (t:Nat),lk (lk f L) (keep f L a) t=lk f L t
 | [],t=>rfl
 | k::a,t=>by
  simp only [keep,lk];split
  ·rename_i h;subst h;rfl
  ·exact IG f L a t
theorem BE (n:Nat) (f:Nat→Value) (L:List (Nat×Value)) (a:List Nat):fr n f L=fr n (lk f L) (keep f L a):=by
 rw [uV,uV];simp only [CW,IG]
theorem Q2 {P:Program} {c:Code} {Q:Exit→Act→World→Prop} {n:Nat} {f:Nat→Value} {L:List (Nat×Value)} {w:World} (a:List Nat) (h:∀ g,c.wp P Q (fr n g (keep f L a)) w):c.wp P Q (fr n f L) w:=by
 rw [BE n f L a];exact h _
theorem U8 {K:Act→World→Prop} {n:Nat} {f:Nat→Value} {L:List (Nat×Value)} {w:World} (a:List Nat) (h:∀ g,K (fr n g (keep f L a)) w):K (fr n f L) w:=by
 rw [BE n f L a];exact h _
theorem U9 {Q:Exit→Act→World→Prop} {e:Exit} {n:Nat} {f:Nat→Value} {L:List (Nat×Value)} {w:World} (a:List Nat) (h:∀ g,Q e (fr n g (keep f L a)) w):Q e (fr n f L) w:=by
 rw [BE n f L a];exact h _
def aF:Nat→List Value→List (Nat×Value)
 | _,[]=>[]
 | i,v::vs=>(i,v)::aF (i+1) vs
theorem uW (f:Nat→Value):∀ (a:List Value) (i t:Nat),i≤t→lk f (aF i a) t=(a[t-i]?).getD (f t)
 | [],i,t,_=>by simp [aF,lk]
 | v::a,i,t,h=>by
  simp only [aF,lk];split
  ·rename_i e;subst e;simp
  ·rw [uW f a (i+1) t (by omega),show t-i=(t-(i+1))+1 by omega,List.getElem?_cons_succ]
theorem MT {P:Program} {b:FuncId} {fn:Func} {c:Code} {a:List Value} {w:World} {R:Ending→World→Prop} (n:Nat) (j:P.funcs[b]?=some fn) (g:fn.body=some c) (l:fn.ntmps=n) (k:a.length≤n)
  (h:∀ f,c.wp P (bodyPost P fn R) (fr n f (aF 0 a)) w):Calls P b a.toArray w R:=by
 refine calls_of_wp j g ?_;have e:({ tmps:=a.toArray++Array.replicate (fn.ntmps-a.toArray.size) undef,defers:=[] }:Act)=fr n (fun _=>undef) (aF 0 a):=by
  subst l;rw [uV];simp only [CW]
  congr 1
  apply Array.ext
  ·simp;omega
  ·intro i m o;simp only [Array.getElem_ofFn];rw [uW _ a 0 i (Nat.zero_le _)];by_cases d:i<a.length
   ·simp [Array.getElem_append,d]
   ·simp [Array.getElem_append,d]
 rw [e];exact h _
theorem Q3 {P:Program} {fn:Func} {R:Ending→World→Prop} {n:Nat} {f:Nat→Value} {L:List (Nat×Value)} {w:World} {t:Nat} (a:fn.results=#[.tmp t]) (b:t<n) (h:R (.returned (lk f L t)) w):bodyPost P fn R .ret (fr n f L) w:=by
 refine bodyPost_ret (v:=lk f L t) ?_ (iI n f L) h;rw [results_tmp a,gQ b]
theorem Q4 {P:Program} {fn:Func} {R:Ending→World→Prop} {n:Nat} {f:Nat→Value} {L:List (Nat×Value)} {w:World} {t u:Nat} (a:fn.results=#[.tmp t,.tmp u]) (b:t<n) (c:u<n) (h:R (.returned (.tuple #[lk f L t,lk f L u])) w):bodyPost P fn R .ret (fr n f L) w:=by
 refine bodyPost_ret (v:=.tuple #[lk f L t,lk f L u]) ?_ (iI n f L) h;rw [results_tmp2 a,gQ b,gQ c]
theorem kA {P:Program} {fn:Func} {R:Ending→World→Prop} {n:Nat} {f:Nat→Value} {L:List (Nat×Value)} {w:World} (a:fn.results=#[]) (h:R (.returned (.tuple #[])) w):bodyPost P fn R .ret (fr n f L) w:=by
 refine bodyPost_ret (v:=.tuple #[]) ?_ (iI n f L) h;rw [results_none a]
theorem Q5 {P:Program} {fn:Func} {R:Ending→World→Prop} {n:Nat} {f:Nat→Value} {L:List (Nat×Value)} {w:World} {t:Nat} {v:Value} (b:fn.results=#[.tmp t]) (c:t<n) (a:lk f L t=v) (h:R (.returned v) w):bodyPost P fn R .ret (fr n f L) w:=by
 subst a;exact Q3 b c h
theorem BF {P:Program} {fn:Func} {R:Ending→World→Prop} {n:Nat} {f:Nat→Value} {L:List (Nat×Value)} {w:World} {t u:Nat} {v v':Value} (c:fn.results=#[.tmp t,.tmp u]) (d:t<n) (e:u<n) (a:lk f L t=v) (b:lk f L u=v') (h:R (.returned (.tuple #[v,v'])) w):bodyPost P fn R .ret (fr n f L) w:=by
 subst a;subst b;exact Q4 c d e h
theorem Q6 {P:Program} {fn:Func} {R:Ending→World→Prop} {n:Nat} {f:Nat→Value} {L:List (Nat×Value)} {w:World} {t u s:Nat} {v v' b:Value} (i:fn.results=#[.tmp t,.tmp u,.tmp s]) (k:t<n) (l:u<n) (j:s<n) (c:lk f L t=v) (d:lk f L u=v') (g:lk f L s=b) (h:R (.returned (.tuple #[v,v',b])) w):bodyPost P fn R .ret (fr n f L) w:=by
 subst c;subst d;subst g;refine bodyPost_ret (v:=.tuple #[lk f L t,lk f L u,lk f L s]) ?_ (iI n f L) h;have e:∀ (a:Array Value),(results fn a).run P w=.ok (.tuple #[a.getD t undef,a.getD u undef,a.getD s undef]) w:=fun a=>by simp [results,i]
 rw [e,gQ k,gQ l,gQ j]
theorem jL {P:Program} {fn:Func} {R:Ending→World→Prop} {a:Act} {w:World} (h:bodyPost P fn R .ret a w):bodyPost P fn R .normal a w:=h
attribute [irreducible] fr lk keep
attribute [go_sem] iI IF gQ MR MS aW aR
theorem zA {P:Program} {Q:Exit→Act→World→Prop} {a:Act} {w:World} {x y:Code} (h:∀ K:Act→World→Prop,(∀ a w,y.wp P Q a w→K a w)→x.wp P (Exit.then K Q) a w):(Code.seq x y).wp P Q a w:=wp_seq_k h
theorem zB {P:Program} {Q:Exit→Act→World→Prop} {a:Act} {w:World} {b:Nat} {l:List Oper} (h:wpList P l.toArray Q l a w):(Code.region b l.toArray false).wp P Q a w:=wp_region_lit h
theorem zC {P:Program} {ops:Array Oper} {Q:Exit→Act→World→Prop} {a:Act} {w:World} (h:Q .normal a w):wpList P ops Q [] a w:=h
theorem zD {P:Program} {ops:Array Oper} {Q:Exit→Act→World→Prop} {a:Act} {w:World} {rest:List Oper} {o:Oper} (b:o.guard=none) (h:∀ K:Act→World→Prop,(∀ a w,wpList P ops Q rest a w→K a w)→o.wp P a w K Q):wpList P ops Q (o::rest) a w:=wpList_plain b h
theorem zE {P:Program} {ops:Array Oper} {Q:Exit→Act→World→Prop} {a:Act} {w:World} {rest:List Oper} {o:Oper} (h:∀ K:Act→World→Prop,(∀ a w,wpList P ops Q rest a w→K a w)→if Region.wanted o (yielded ops a.tmps) then o.wp P a w K Q else K (a.put o.dst undef) w):wpList P ops Q (o::rest) a w:=wpList_step h
theorem zt {P:Program} {Q:Exit→Act→World→Prop} {a:Act} {w:World} {c:Operand} {x y:Code} (h:x.wp P Q a w) (b:a.eval c=.bool true:=by go_simp;first|done|omega):(Code.cond c x y).wp P Q a w:=wp_cond b h
theorem zf {P:Program} {Q:Exit→Act→World→Prop} {a:Act} {w:World} {c:Operand} {x y:Code} (h:y.wp P Q a w) (b:a.eval c=.bool false:=by go_simp;first|done|omega):(Code.cond c x y).wp P Q a w:=wp_cond b h
theorem zG {P:Program} {Q:Exit→Act→World→Prop} {a:Act} {w:World} {b:Nat} (h:Q (.exit b) a w):(Code.exit b).wp P Q a w:=wp_exit h
theorem zR {P:Program} {Q:Exit→Act→World→Prop} {a:Act} {w:World} (h:Q .ret a w):Code.ret.wp P Q a w:=wp_ret h
theorem zK {P:Program} {Q:Exit→Act→World→Prop} {a:Act} {w:World} {b:Nat} {c:Code} (h:c.wp P (Exit.inBlock b Q) a w):(Code.block b c).wp P Q a w:=wp_block h
theorem zL {P:Program} {Q:Exit→Act→World→Prop} {a:Act} {w:World} {l:Nat} (h:Q .normal a w):(Code.label l).wp P Q a w:=wp_label h
theorem zN {P:Program} {Q:Exit→Act→World→Prop} {a:Act} {w:World} (h:Q .normal a w):Code.skip.wp P Q a w:=wp_skip h
theorem zS {P:Program} {Q:Exit→Act→World→Prop} {a:Act} {w:World} {c:Code} (h:c.wp P (Exit.noGoto Q) a w):(Code.scope c).wp P Q a w:=wp_scope_straight h
def Code.startsAt (b:Nat):Code→Bool
 | .region i _ _=>i==b
 | .seq a _=>Code.startsAt b a
 | _=>false
def Code.partAt (e:Nat):Code→Option Code
 | .seq a b=>if Code.startsAt e a then some (.seq a b) else match Code.partAt e a with
  | some c=>some c
  | none=>Code.partAt e b
 | .region i o d=>if i==e then some (.region i o d) else none
 | .cond _ a b=>match Code.partAt e a with
  | some c=>some c
  | none=>Code.partAt e b
 | .block _ c=>Code.partAt e c
 | .loop c=>Code.partAt e c
 | .scope c=>Code.partAt e c
 | _=>none
theorem bB {P:Program} {c b:Code} {Q:Exit→Act→World→Prop} {a:Act} {w:World} (h:c.wp P Q a w) (e:b=c):b.wp P Q a w:=e▸h
structure Ac (p q:Prop):Prop where
 of:q→p
theorem vg {p q:Prop} (h:q) (H:Ac p q:=by constructor;intro hEnd;replace hEnd:=Lib.hid hEnd;(repeat with_reducible intro K hK);(repeat (first|(with_reducible first|refine zA fun K hK=>?_|refine zB ?_|refine zC ?_)|((with_reducible first|refine zD rfl fun K hK=>?_|refine zE fun K hK=>?_);go_simp)|(with_reducible first|((repeat ((fail_if_success refine hK _ _ ?_);clear hK K));refine hK _ _ ?_;clear hK K)|refine zt ?_|refine zf ?_|refine zG ?_|refine zR ?_|refine zK ?_|refine zL ?_|refine zN ?_|refine zS ?_)|simp only [Exit.then,Exit.inBlock,Exit.noGoto,↓reduceIte,Nat.reduceEqDiff]|simp only [undef,reduceCtorEq,↓reduceIte]));(repeat revert K);exact hEnd.out):p:=H.of h
def Hx (p:Prop):Prop:=p
theorem Hx.o {p:Prop} (h:Hx p):p:=h
theorem Lh {p:Prop} (h:p):Hx p:=h
theorem cK {α:Type} (a:α):∃ b,b=a:=⟨a,rfl⟩
theorem cB {a b:Prop} (u:a) (v:b):Hx a ∧ Hx b:=⟨u,v⟩
theorem kV {a b c:Prop} (u:a) (v:b) (w:c):Hx a ∧ Hx b ∧ Hx c:=⟨u,v,w⟩
theorem kS {a b c d:Prop} (u:a) (v:b) (w:c) (x:d):Hx a ∧ Hx b ∧ Hx c ∧ Hx d:=⟨u,v,w,x⟩
theorem pM {a b c d e:Prop} (u:a) (v:b) (w:c) (x:d) (y:e):Hx a ∧ Hx b ∧ Hx c ∧ Hx d ∧ Hx e:=⟨u,v,w,x,y⟩
theorem gT {a b c d e f:Prop} (u:a) (v:b) (w:c) (x:d) (y:e) (z:f):Hx a ∧ Hx b ∧ Hx c ∧ Hx d ∧ Hx e ∧ Hx f:=⟨u,v,w,x,y,z⟩
structure Ah (n:Nat):Prop where
 t:True
structure Ai (n:Nat) (p q:Prop):Prop where
 of:Ah n→q→p
theorem MU {ops:Array Oper} {d:Bool} {rest:Code} {P:Program} {Q:Exit→Act→World→Prop} {a:Act} {w:World} {n:Nat} (_:Ah n) (h:((Code.region n ops d).seq rest).wp P Q a w):((Code.region n ops d).seq rest).wp P Q a w:=h
theorem MV {ops:Array Oper} {d:Bool} {rest b:Code} {P:Program} {Q:Exit→Act→World→Prop} {a:Act} {w:World} {n:Nat} (_:Ah n) (h:(((Code.region n ops d).seq rest).seq b).wp P Q a w):(((Code.region n ops d).seq rest).seq b).wp P Q a w:=h
theorem vT (n:Nat) {p q:Prop} (h:q) (H:Ai n p q:=by constructor;intro a hEnd;replace hEnd:=Lib.hid hEnd;(repeat with_reducible intro K hK);(repeat ((fail_if_success with_reducible refine MU a ?_);(fail_if_success with_reducible refine MV a ?_);(first|(with_reducible first|refine zA fun K hK=>?_|refine zB ?_|refine zC ?_)|((with_reducible first|refine zD rfl fun K hK=>?_|refine zE fun K hK=>?_);go_simp)|(with_reducible first|((repeat ((fail_if_success refine hK _ _ ?_);clear hK K));refine hK _ _ ?_;clear hK K)|refine zt ?_|refine zf ?_|refine zG ?_|refine zR ?_|refine zK ?_|refine zL ?_|refine zN ?_|refine zS ?_)|simp only [Exit.then,Exit.inBlock,Exit.noGoto,↓reduceIte,Nat.reduceEqDiff]|simp only [undef,reduceCtorEq,↓reduceIte])));(repeat revert K);exact hEnd.out):p:=H.of ⟨trivial⟩ h
theorem vB {p q:Prop} (h:q) (H:Ac p q:=by constructor;intro hEnd;replace hEnd:=Lib.hid hEnd;(repeat with_reducible intro K hK);(repeat ((fail_if_success at_builtin);(first|(with_reducible first|refine zA fun K hK=>?_|refine zB ?_|refine zC ?_)|((with_reducible first|refine zD rfl fun K hK=>?_|refine zE fun K hK=>?_);go_simp)|(with_reducible first|((repeat ((fail_if_success refine hK _ _ ?_);clear hK K));refine hK _ _ ?_;clear hK K)|refine zt ?_|refine zf ?_|refine zG ?_|refine zR ?_|refine zK ?_|refine zL ?_|refine zN ?_|refine zS ?_)|simp only [Exit.then,Exit.inBlock,Exit.noGoto,↓reduceIte,Nat.reduceEqDiff]|simp only [undef,reduceCtorEq,↓reduceIte])));(repeat revert K);exact hEnd.out):p:=H.of h
theorem vS {p q:Prop} (h:q) (H:Ac p q:=by constructor;intro hEnd;replace hEnd:=Lib.hid hEnd;(repeat with_reducible intro K hK);go_simp;(repeat (first|(with_reducible first|refine zA fun K hK=>?_|refine zB ?_|refine zC ?_)|((with_reducible first|refine zD rfl fun K hK=>?_|refine zE fun K hK=>?_);go_simp)|(with_reducible first|((repeat ((fail_if_success refine hK _ _ ?_);clear hK K));refine hK _ _ ?_;clear hK K)|refine zt ?_|refine zf ?_|refine zG ?_|refine zR ?_|refine zK ?_|refine zL ?_|refine zN ?_|refine zS ?_)|simp only [Exit.then,Exit.inBlock,Exit.noGoto,↓reduceIte,Nat.reduceEqDiff]|simp only [undef,reduceCtorEq,↓reduceIte]));(repeat revert K);exact hEnd.out):p:=H.of h
theorem cM {P:Program} {fn:Func} {R:Ending→World→Prop} {m:Nat} {f:Nat→Value} {L:List (Nat×Value)} {w:World} {t:Nat} {v:Value} (h:R (.returned v) w) (H:fn.results=#[.tmp t] ∧ t<m ∧ lk f L t=v:=by exact ⟨rfl,by decide,by simp only [aR,aW,Nat.reduceEqDiff,↓reduceIte];rfl⟩):bodyPost P fn R .ret (fr m f L) w:=by
 obtain ⟨a,b,c⟩:=H;exact Q5 a b c h
theorem kW {P:Program} {fn:Func} {R:Ending→World→Prop} {m:Nat} {f:Nat→Value} {L:List (Nat×Value)} {w:World} {t u:Nat} {v v':Value} (h:R (.returned (.tuple #[v,v'])) w) (H:fn.results=#[.tmp t,.tmp u] ∧ t<m ∧ u<m ∧ lk f L t=v ∧ lk f L u=v':=by exact ⟨rfl,by decide,by decide,by simp only [aR,aW,Nat.reduceEqDiff,↓reduceIte];rfl,by simp only [aR,aW,Nat.reduceEqDiff,↓reduceIte];rfl⟩):bodyPost P fn R .ret (fr m f L) w:=by
 obtain ⟨a,b,c,d,e⟩:=H;exact BF a b c d e h
theorem MI {P:Program} {fn:Func} {R:Ending→World→Prop} {m:Nat} {f:Nat→Value} {L:List (Nat×Value)} {w:World} {t u s:Nat} {v v' a:Value} (h:R (.returned (.tuple #[v,v',a])) w) (H:fn.results=#[.tmp t,.tmp u,.tmp s] ∧ t<m ∧ u<m ∧ s<m ∧ lk f L t=v ∧ lk f L u=v' ∧ lk f L s=a:=by exact ⟨rfl,by decide,by decide,by decide,by simp only [aR,aW,Nat.reduceEqDiff,↓reduceIte];rfl,by simp only [aR,aW,Nat.reduceEqDiff,↓reduceIte];rfl,by simp only [aR,aW,Nat.reduceEqDiff,↓reduceIte];rfl⟩):bodyPost P fn R .ret (fr m f L) w:=by
 obtain ⟨b,c,d,e,g,i,j⟩:=H;exact Q6 b c d e g i j h
theorem eL {P:Program} {a:FuncId} {fn:Func} {c:Code} {w:World} {R:Ending→World→Prop} (n:Nat) (d:P.funcs[a]?=some fn) (b:List Value) (h:∀ f,c.wp P (bodyPost P fn R) (fr n f (aF 0 b)) w) (H:fn.body=some c ∧ fn.ntmps=n ∧ b.length≤n:=by exact ⟨rfl,rfl,Nat.le_of_ble_eq_true rfl⟩):Calls P a b.toArray w R:=MT n d H.1 H.2.1 H.2.2 h
theorem cG {P:Program} {c:Code} {Q:Exit→Act→World→Prop} {n:Nat} {f:Nat→Value} {L a:List (Nat×Value)} {w:World} (b:List Nat) (h:∀ g,c.wp P Q (fr n g a) w) (H:keep f L b=a:=by simp only [aK,aO,aR,aW,Nat.reduceEqDiff,↓reduceIte];rfl):c.wp P Q (fr n f L) w:=Q2 b (H▸h)
theorem Kk {K:Act→World→Prop} {n:Nat} {f:Nat→Value} {L a:List (Nat×Value)} {w:World} (b:List Nat) (h:∀ g,K (fr n g a) w) (H:keep f L b=a:=by simp only [aK,aO,aR,aW,Nat.reduceEqDiff,↓reduceIte];rfl):K (fr n f L) w:=U8 b (H▸h)
theorem Qk {Q:Exit→Act→World→Prop} {e:Exit} {n:Nat} {f:Nat→Value} {L a:List (Nat×Value)} {w:World} (b:List Nat) (h:∀ g,Q e (fr n g a) w) (H:keep f L b=a:=by simp only [aK,aO,aR,aW,Nat.reduceEqDiff,↓reduceIte];rfl):Q e (fr n f L) w:=U9 b (H▸h)
end Go.Proofs.YthapcchcahnfaaaGreatDoor
namespace Go.Proofs.YthapcchcahnfaaaGreatDoor
open Go Go.RowKit Go.Proofs.Tryz
theorem FN (x:Cx) (hx:x.Ok) (w:World) (Z:Below x.B x.W0 w) (n:Nat) (s:ByteArray) (hs:s.toList.isEmpty=false) (g:Array Value) (D:aL w x.rd (tZ x s n) 56) (C:aL w x.rb g 5) (V:g.size=4096)
   (U:s.size ≤ 1000000000) (hn:n ≤ 1000000000) (F:Int) (q:Nat) (S:0 < q) (T:¬ q=4096) (H:q ≤ 4096) (j:aL w x.br (iP x q q .nilIface F) 235) :
    Calls prog 187 #[.pointer (some ⟨x.br,0,none⟩)] w fun e w'=>e=.returned (.tuple #[])∧sN x w s n g F w':=by
  have G:=j.cell;have hf:=j.frozen;have f:=Lib.hid hx;have Y:=Lib.hid Z;have M:=Lib.hid D;have L:=Lib.hid C;have J:=Lib.hid j;clear hx Z D C j;have a4:decide ((0:Int) < (q:Int))=true:=by simpa using S
  have a5:(q:Int) ≤ 4096:=by omega
  have a6:¬ (4096=q):=fun h=>T h.symm;have W:w.cell? ⟨x.br,0,none⟩=some (.slice (some ⟨x.rb,0,none⟩) 4096 4096):=G 0;have k2:w.cell? ⟨x.br,2,none⟩=some (.int .i64 q):=G 2;have X:w.cell? ⟨x.br,3,none⟩=some (.int .i64 q):=G 3;clear G;go_enter func187,ntmps187
  go_wp2
  go_region_held3 (fun w'=>w'.cell? ⟨x.br,0,none⟩=some (.slice (some ⟨x.rb,0,none⟩) 4096 4096)∧w'.cell? ⟨x.br,2,none⟩=some (.int .i64 q)∧w'.cell? ⟨x.br,3,none⟩=some (.int .i64 q))
    (go_keep)
    (first
      | (refine j9 rfl (.tmp 13) (.tmp 26) 81 81 rfl 5 underlying81 pQ _ _ _ _ _ _ rfl rfl (by simp) ?_))
  go_wp2;go_region
  go_wp2;go_quiet (fail);obtain ⟨w0,d⟩:∃ w0,w0=((w.setCell ⟨x.br,3,none⟩ (.int .i64 0)).setCell ⟨x.br,2,none⟩ (.int .i64 0)).drew.drew.drewN nq:=⟨_,rfl⟩;have v:aJ (fun k=>k=x.br) w w0:=by
    rw [d];exact ((((aJ.refl (fun k=>k=x.br) w).setCell (p:=⟨x.br,3,none⟩) (aG rfl) _).setCell (p:=⟨x.br,2,none⟩) (aG rfl) _).drew.drew.drewN nq)
  have b:aL w0 x.br (iP x 0 0 .nilIface F) 235:=by
    rw [d];exact (J.out.set 3 _).set 2 _
  have E:w0.heap.size=w.heap.size:=by rw [d];simp [World.setCell]
  rw [show (((w.setCell ⟨x.br,3,none⟩ (.int .i64 0)).setCell ⟨x.br,2,none⟩ (.int .i64 0)).drew.drew.drewN nq)=w0 from d.symm];clear d hf W k2 X;have W:w0.cell? ⟨x.br,0,none⟩=some (.slice (some ⟨x.rb,0,none⟩) 4096 4096):=b.cell 0;have k1:w0.cell? ⟨x.br,1,none⟩=some (.iface 54 (.pointer (some ⟨x.rd,0,none⟩))):=b.cell 1;have X:w0.cell? ⟨x.br,3,none⟩=some (.int .i64 0):=b.cell 3;have u:=Lib.hid (M.out.mod v (fun h=>f.out.ne5 h.symm));have t:=Lib.hid (L.out.mod v (fun h=>f.out.ne4 h.symm));have z:=Lib.hid (fun k=>BD x f.out (w0.drewN k) (bM (aJ.below Y.out Y.out.size v (fun i hi=>by subst hi;exact f.out.br)) k) n s hs g u.out t.out V U hn);have r:=Lib.hid b;have N:=Lib.hid v;have O:=Lib.hid E;clear b v E;go_wp2;refine wp_loop_once ?_;go_wp2;have R:=fun a w=>nZ a w;have aA:=fun a w=>qW a w
  go_region_held3 (fun w'=>w'.cell? ⟨x.br,0,none⟩=some (.slice (some ⟨x.rb,0,none⟩) 4096 4096)∧w'.cell? ⟨x.br,1,none⟩=some (.iface 54 (.pointer (some ⟨x.rd,0,none⟩)))∧w'.cell? ⟨x.br,3,none⟩=some (.int .i64 0))
    (first
      | go_keep
      | (go_split_ands
         have H:=((show aL (w0.drewN 1) x.br _ _ from r.out).mod o.mod (by intro h;rcases h with h|h;exact f.out.ne4 h;exact f.out.ne5 h)).cell;exact ⟨H 0,H 1,H 3⟩))
    (first
      | (go_at_call 170;refine (z.out 1).mono ?_;rintro e w1 ⟨m,rfl,o⟩))
  have c:aL w1 x.br (iP x 0 0 .nilIface F) 235:=(show aL (w0.drewN 1) x.br _ _ from r.out).mod o.mod (by intro h;rcases h with h|h;exact f.out.ne4 h;exact f.out.ne5 h);have aC:=c.cell;have a0:=c.frozen;have I:=Lib.hid c;have l:=Lib.hid o;have a1:(m:Int) ≤ 4096:=by have:=o.m2;omega
  have a2:¬ ((m:Int) < 0):=by omega
  have a3:(0:Int) < (m:Int):=by have:=o.m1;omega
  clear c o W k1 X;go_wp2;(try simp only [Exit.inBlock,Exit.then]);refine bodyPost_ret (results_none rfl _ _ _) rfl ?_
  have y:aL (w1.setCell ⟨x.br,3,none⟩ (.int .i64 m)) x.br (iP x 0 m .nilIface F) 235:=I.out.set 3 _;have A:x.rb ≠ x.br:=fun h=>f.out.ne4 h.symm;have B:x.rd ≠ x.br:=fun h=>f.out.ne5 h.symm;refine ⟨rfl,m,l.out.m1,l.out.m2,l.out.m3,y,l.out.row.set_ne A _,?_,?_,?_⟩
  · obtain ⟨n',P,Q⟩:=l.out.rd
    exact ⟨n',P,Q.set_ne B _⟩
  · have P:aJ (fun k=>k=x.br ∨ k=x.rb ∨ k=x.rd) (w0.drewN 1) w1:=l.out.mod.mono (fun i _ h=>by rcases h with h|h <;> simp [h])
    have Q:aJ (fun k=>k=x.br ∨ k=x.rb ∨ k=x.rd) w (w0.drewN 1):=(N.out.mono (fun i _ h=>aG h)).drewN 1;exact (Q.trans P (fun _ _ h=>h)).setCell (aG (aG rfl)) _
  · have:=l.out.size
    simp [World.setCell];rw [this];exact O.out
end Go.Proofs.YthapcchcahnfaaaGreatDoor
namespace Go.Proofs
open Go.Shelf Go.Proofs.Tryz
def Tryz.lays137_ren:Go.Shelf.Ren:=⟨fun|137=>106|217=>122|266=>136|n=>n,fun|9=>9|5=>5|3=>3|n=>n,fun|n=>n⟩
theorem Tryz.lays137:Go.Proofs.Lays.n137 prog Tryz.lays137_ren:={
 mixed:=by kernel_rfl
 f137:=func106.trans (congrArg some (by kernel_rfl))
 f217:=func122.trans (congrArg some (by kernel_rfl))
 f266:=func136.trans (congrArg some (by kernel_rfl))
 t3:=underlying3
 a3:=isAgg3
 z3:=sizeOf3
 v3:=zeroValue3
 t5:=underlying5
 a5:=isAgg5
 z5:=sizeOf5
 v5:=zeroValue5
 t9:=underlying9
 a9:=isAgg9
 z9:=sizeOf9
 v9:=zeroValue9 }
open Go.RowKit in
theorem Tryz.strings_IndexByte (s:ByteArray) (c:Int) (w:World) :
  Calls prog 106 #[.string s,.int .u8 c] w fun e w'=>e=.returned (.int .i64 (Lib.indexByte s.data.toList c.toNat.toUInt8))∧w'=w:=Any.strings_IndexByte Tryz.lays137 s c w
def Tryz.laysM290_ren:Go.Shelf.Ren:=⟨fun|290=>121|324=>135|n=>n,fun|37=>81|3=>3|0=>0|4=>4|20=>20|75=>59|5=>5|80=>133|9=>9|n=>n,fun|14=>2|n=>n⟩
theorem Tryz.laysM290:Go.Proofs.LaysM.n290 prog Tryz.laysM290_ren:={
 mixed:=by kernel_rfl
 f290:=func121.trans (congrArg some (by kernel_rfl))
 f324:=func135.trans (congrArg some (by kernel_rfl))
 t0:=underlying0
 a0:=isAgg0
 z0:=sizeOf0
 v0:=zeroValue0
 t3:=underlying3
 a3:=isAgg3
 z3:=sizeOf3
 v3:=zeroValue3
 t4:=underlying4
 a4:=isAgg4
 z4:=sizeOf4
 v4:=zeroValue4
 t20:=underlying20
 a20:=isAgg20
 z20:=sizeOf20
 v20:=zeroValue20
 t37:=underlying81
 a37:=isAgg81
 z37:=sizeOf81
 v37:=zeroValue81
 t75:=underlying59
 a75:=isAgg59
 z75:=sizeOf59
 v75:=zeroValue59
 g14:=by kernel_rfl
 t5:=underlying5
 a5:=isAgg5
 z5:=sizeOf5
 v5:=zeroValue5
 t9:=underlying9
 a9:=isAgg9
 z9:=sizeOf9
 v9:=zeroValue9
 t80:=underlying133
 a80:=isAgg133
 z80:=sizeOf133
 v80:=zeroValue133
 i0:=by kernel_rfl
 i3:=by kernel_rfl
 i4:=by kernel_rfl
 i5:=by kernel_rfl
 i9:=by kernel_rfl
 i20:=by kernel_rfl
 i37:=by kernel_rfl
 i75:=by kernel_rfl
 i80:=by kernel_rfl
 m14:=by kernel_rfl }
open Go.RowKit in
theorem Tryz.bytes_growSlice_row (g l c n:Nat) (d:Array Value) (w:World) (m:w.heap[g]?=some (.cells d 5 (0,0))) (i:d.size=c) (j:l≤c) (o:1≤n) (f:l+n≤140737488355328) (h:c≤140737488355328) (k:∀ v∈d.toList.take l,v.oneCell'=true) :
  Calls prog 121 #[.slice (some ⟨g,0,none⟩) l c,.int .i64 n] w fun e w'=>∃ b a,e=.returned (.slice (some ⟨w.heap.size,0,none⟩) l b)∧w'.heap[w.heap.size]?=some (.cells a 5 (0,0)) ∧
   a.size=b∧a.toList.take l=d.toList.take l∧l+n≤b∧b≤maxLen∧Below w.heap.size w w':=Any.bytes_growSlice_row Tryz.laysM290 g l c n d w m i j o f h k
def Tryz.lays164_ren:Go.Shelf.Ren:=⟨fun|164=>74|197=>107|239=>108|260=>123|274=>124|275=>125|n=>n,fun|9=>9|4=>4|3=>3|5=>5|0=>0|21=>21|105=>188|156=>225|49=>224|157=>226|46=>176|159=>228|162=>231|160=>229|119=>253|139=>256|138=>255|208=>260|51=>246|206=>258|n=>n,fun|11=>3|12=>4|13=>5|3=>6|4=>7|n=>n⟩
theorem Tryz.lays164:Go.Proofs.Lays.n164 prog Tryz.lays164_ren:={
 mixed:=by kernel_rfl
 f164:=func74.trans (congrArg some (by kernel_rfl))
 f197:=func107.trans (congrArg some (by kernel_rfl))
 f239:=func108.trans (congrArg some (by kernel_rfl))
 f260:=func123.trans (congrArg some (by kernel_rfl))
 f274:=func124.trans (congrArg some (by kernel_rfl))
 f275:=func125.trans (congrArg some (by kernel_rfl))
 t0:=underlying0
 a0:=isAgg0
 z0:=sizeOf0
 v0:=zeroValue0
 t3:=underlying3
 a3:=isAgg3
 z3:=sizeOf3
 v3:=zeroValue3
 t4:=underlying4
 a4:=isAgg4
 z4:=sizeOf4
 v4:=zeroValue4
 t5:=underlying5
 a5:=isAgg5
 z5:=sizeOf5
 v5:=zeroValue5
 t9:=underlying9
 a9:=isAgg9
 z9:=sizeOf9
 v9:=zeroValue9
 t21:=underlying21
 a21:=isAgg21
 z21:=sizeOf21
 v21:=zeroValue21
 t46:=underlying176
 a46:=isAgg176
 z46:=sizeOf176
 v46:=zeroValue176
 t49:=underlying224
 a49:=isAgg224
 z49:=sizeOf224
 v49:=zeroValue224
 t51:=underlying246
 a51:=isAgg246
 z51:=sizeOf246
 v51:=zeroValue246
 t105:=underlying188
 a105:=isAgg188
 z105:=sizeOf188
 v105:=zeroValue188
 t119:=underlying253
 a119:=isAgg253
 z119:=sizeOf253
 t138:=underlying255
 a138:=isAgg255
 z138:=sizeOf255
 v138:=zeroValue255
 t139:=underlying256
 a139:=isAgg256
 z139:=sizeOf256
 v139:=zeroValue256
 t156:=underlying225
 a156:=isAgg225
 z156:=sizeOf225
 t157:=underlying226
 a157:=isAgg226
 z157:=sizeOf226
 v157:=zeroValue226
 t159:=underlying228
 a159:=isAgg228
 z159:=sizeOf228
 v159:=zeroValue228
 t160:=underlying229
 a160:=isAgg229
 z160:=sizeOf229
 v160:=zeroValue229
 t162:=underlying231
 a162:=isAgg231
 z162:=sizeOf231
 v162:=zeroValue231
 t206:=underlying258
 a206:=isAgg258
 z206:=sizeOf258
 v206:=zeroValue258
 t208:=underlying260
 a208:=isAgg260
 z208:=sizeOf260
 v208:=zeroValue260
 g3:=by kernel_rfl
 g4:=by kernel_rfl
 g11:=by kernel_rfl
 g12:=by kernel_rfl
 g13:=by kernel_rfl }
open Go.RowKit Go.Lib in
theorem Tryz.strings_EqualFold (s t:ByteArray) (w:World) (d:s.size<4294967281) (a:∀ (j:Nat) b,s.data.toList[j]?=some b→b.toNat<128) (c:∀ (j:Nat) b,t.data.toList[j]?=some b→b.toNat<128) :
  Calls prog 74 #[.string s,.string t] w fun e w'=>e=.returned (.bool (Lib.equalFold s.data.toList t.data.toList))∧w'=w:=Any.strings_EqualFold Tryz.lays164 s t w d a c
def Tryz.lays197_ren:Go.Shelf.Ren:=⟨fun|197=>107|260=>123|n=>n,fun|9=>9|21=>21|3=>3|4=>4|5=>5|105=>188|119=>253|0=>0|46=>176|139=>256|138=>255|n=>n,fun|3=>6|4=>7|n=>n⟩
theorem Tryz.lays197:Go.Proofs.Lays.n197 prog Tryz.lays197_ren:={
 mixed:=by kernel_rfl
 f197:=func107.trans (congrArg some (by kernel_rfl))
 f260:=func123.trans (congrArg some (by kernel_rfl))
 t0:=underlying0
 a0:=isAgg0
 z0:=sizeOf0
 v0:=zeroValue0
 t3:=underlying3
 a3:=isAgg3
 z3:=sizeOf3
 v3:=zeroValue3
 t4:=underlying4
 a4:=isAgg4
 z4:=sizeOf4
 v4:=zeroValue4
 t5:=underlying5
 a5:=isAgg5
 z5:=sizeOf5
 v5:=zeroValue5
 t9:=underlying9
 a9:=isAgg9
 z9:=sizeOf9
 v9:=zeroValue9
 t21:=underlying21
 a21:=isAgg21
 z21:=sizeOf21
 v21:=zeroValue21
 t46:=underlying176
 a46:=isAgg176
 z46:=sizeOf176
 v46:=zeroValue176
 t105:=underlying188
 a105:=isAgg188
 z105:=sizeOf188
 v105:=zeroValue188
 t119:=underlying253
 a119:=isAgg253
 z119:=sizeOf253
 t138:=underlying255
 a138:=isAgg255
 z138:=sizeOf255
 v138:=zeroValue255
 t139:=underlying256
 a139:=isAgg256
 z139:=sizeOf256
 v139:=zeroValue256
 g3:=by kernel_rfl
 g4:=by kernel_rfl }
open Go.RowKit Go.Lib in
theorem Tryz.utf8_DecodeRuneInString (s:ByteArray) (w:World) (a:Lib.Utf8Tabs 6 7 w) :
  Calls prog 107 #[.string s] w fun e w'=>e=.returned (.tuple #[.int .i32 (Lib.decodeGo s).1,.int .i64 (Lib.decodeGo s).2])∧Below w.heap.size w w':=Any.utf8_DecodeRuneInString Tryz.lays197 s w a
def Tryz.laysGn14_ren:Go.Shelf.Ren:=⟨fun|14=>117|25=>133|26=>134|n=>n,fun|22=>221|21=>21|4=>4|0=>0|31=>245|28=>242|3=>3|32=>246|35=>248|33=>224|29=>243|38=>251|41=>264|42=>176|43=>265|n=>n,fun|n=>n⟩
theorem Tryz.laysGn14:Go.Proofs.LaysGn.n14 prog Tryz.laysGn14_ren:={
 mixed:=by kernel_rfl
 f14:=func117.trans (congrArg some (by kernel_rfl))
 f25:=func133.trans (congrArg some (by kernel_rfl))
 f26:=func134.trans (congrArg some (by kernel_rfl))
 t0:=underlying0
 a0:=isAgg0
 z0:=sizeOf0
 v0:=zeroValue0
 i0:=by kernel_rfl
 t3:=underlying3
 a3:=isAgg3
 z3:=sizeOf3
 v3:=zeroValue3
 i3:=by kernel_rfl
 t4:=underlying4
 a4:=isAgg4
 z4:=sizeOf4
 v4:=zeroValue4
 i4:=by kernel_rfl
 t21:=underlying21
 a21:=isAgg21
 z21:=sizeOf21
 v21:=zeroValue21
 i21:=by kernel_rfl
 t22:=underlying221
 a22:=isAgg221
 z22:=sizeOf221
 v22:=zeroValue221
 i22:=by kernel_rfl
 t28:=underlying242
 a28:=isAgg242
 z28:=sizeOf242
 v28:=zeroValue242
 i28:=by kernel_rfl
 t29:=underlying243
 a29:=isAgg243
 z29:=sizeOf243
 v29:=zeroValue243
 i29:=by kernel_rfl
 t31:=underlying245
 a31:=isAgg245
 z31:=sizeOf245
 v31:=zeroValue245
 i31:=by kernel_rfl
 t32:=underlying246
 a32:=isAgg246
 z32:=sizeOf246
 v32:=zeroValue246
 i32:=by kernel_rfl
 t33:=underlying224
 a33:=isAgg224
 z33:=sizeOf224
 v33:=zeroValue224
 i33:=by kernel_rfl
 t35:=underlying248
 a35:=isAgg248
 z35:=sizeOf248
 v35:=zeroValue248
 i35:=by kernel_rfl
 t38:=underlying251
 a38:=isAgg251
 z38:=sizeOf251
 v38:=zeroValue251
 i38:=by kernel_rfl
 t41:=underlying264
 a41:=isAgg264
 z41:=sizeOf264
 v41:=zeroValue264
 i41:=by kernel_rfl
 t42:=underlying176
 a42:=isAgg176
 z42:=sizeOf176
 v42:=zeroValue176
 i42:=by kernel_rfl
 t43:=underlying265
 a43:=isAgg265
 z43:=sizeOf265
 v43:=zeroValue265
 i43:=by kernel_rfl }
open Go.RowKit Go.Lib in
theorem Tryz.unicode_Is_any (a f:Nat) (T:RTab) (r:Int) (w:World) (c:-2147483648≤r) (b:r≤2147483647) (g:RTabAt a f T w) (d:RTabOk T) :
  Calls prog 117 #[.pointer (some ⟨a,f,none⟩),.int .i32 r] w fun e w'=>e=.returned (.bool (isGo T r))∧Below w.heap.size w w':=Any.unicode_Is_any Tryz.laysGn14 a f T r w c b g d
end Go.Proofs
namespace Go.Proofs.YthapcchcahnfaaaGreatDoor
open Go Go.Proofs.Tryz
section
variable {P:Program} {ops:Array Oper} {md:Region.Mode} {L:List Nat}
theorem nB {a:Array Bool} {i:Nat} (h:a.getD i true=false):a.getD i false=false:=by
 rcases Nat.lt_or_ge i a.size with h'|h'
 ·simp [h'] at h ⊢;exact h
 ·simp [Array.getElem?_eq_none h'] at h
def lI (w:World) (v:Value):Result Next→Prop
 | .ok (.value u) w'=>w'=w∧u=v
 | _=>False
def rX (P:Program) (o:Oper) (a:Act) (w:World) (v:Value):Prop:=lI w v ((execOp a.eval o).run P w)
def FO (P:Program) (o:Oper) (a:Act) (next:Act→Prop):Prop:=∃ v,(∀ w,rX P o a w v)∧next (a.put o.dst v)
attribute [go_sem] lI rX FO
def IH (P:Program) (ops:Array Oper) (L:List Nat) (Q:Exit→Act→World→Prop) (i:Nat) (K:Act→(World→Prop)→Prop) (a:Act) (C:World→Prop):Prop:=
 match ops[i]? with
 | none=>False
 | some o=>match L.getD i 2 with
  | 0=>∃ v,Yields P ops o v a∧K (a.put o.dst v) C
  | 1=>∃ v,YieldsIn P ops C o v a∧K (a.put o.dst v) C
  | _=>∀ w,C w→wpOp P ops Q i (fun c w'=>∃ b,b w'∧K c b) a w
theorem MW {Q:Exit→Act→World→Prop} {i:Nat} {K f:Act→(World→Prop)→Prop} {a:Act} {C:World→Prop} (h:∀ a C,K a C→f a C) (c:IH P ops L Q i K a C):IH P ops L Q i f a C:=by
 unfold IH at *;split
 ·simp_all
 ·rename_i o g;simp only [g] at c;split
  ·rename_i d;simp only [d] at c;obtain ⟨v,b,e⟩:=c;exact ⟨v,b,h _ _ e⟩
  ·rename_i d;simp only [d] at c;obtain ⟨v,b,e⟩:=c;exact ⟨v,b,h _ _ e⟩
  ·rename_i d b;split at c
   ·exact absurd (by assumption) d
   ·exact absurd (by assumption) b
   ·exact fun w j=>wpOp_mono (fun a' w' ⟨C',b,e⟩=>⟨C',b,h _ _ e⟩) (c w j)
def oR (P:Program) (md:Region.Mode) (ops:Array Oper) (L:List Nat) (Q:Exit→Act→World→Prop):Nat→Array Bool→Act→(World→Prop)→Prop
 | 0,listed,a,C=>Region.ready md ops listed=[]∧∀ w,C w→Q .normal a w
 | fuel+1,listed,a,C=>
  (Region.ready md ops listed=[]→∀ w,C w→Q .normal a w) ∧
  ∀ i∈Region.ready md ops listed,IH P ops L Q i (oR P md ops L Q fuel (listed.setIfInBounds i true)) a C
theorem oS {Q:Exit→Act→World→Prop}:∀ (b:Nat) (c:Array Bool) (a:Act) (C:World→Prop) (w:World),C w→oR P md ops L Q b c a C→wpAny P md ops Q b c a w
 | 0,_,_,_,w,e,h=>⟨h.1,h.2 w e⟩
 | b+1,_,_,C,w,e,h=>⟨fun m=>h.1 m w e,fun i p=>by
  have d:=h.2 i p;unfold IH at d;split at d
  ·exact d.elim
  ·rename_i o k;split at d
   ·obtain ⟨v,j,hK⟩:=d;exact j.wpOp k (oS b _ _ C w e hK)
   ·obtain ⟨v,j,hK⟩:=d;exact wpOp_of_qOp (C:=C) (K:=fun f=>oR P md ops L Q b _ f C) e (fun f w' g l=>oS b _ _ C w' g l) (j.qOp k hK)
   ·exact wpOp_mono (fun f w' ⟨C',d,n⟩=>oS b _ _ C' w' d n) (d w e)⟩
structure nC (md:Region.Mode) (ops:Array Oper) (L:List Nat) (i:Nat) (wt:Nat→Bool) (a:Array Bool):Prop where
 out:∀ j,wt j=true→a.getD j false=false
 cov:∀ j,j≠i→a.getD j true=false→2≤L.getD j 2→wt j=true
def mG (md:Region.Mode) (ops:Array Oper) (i:Nat) (b:Nat→Bool):Prop:=∀ j,b j=true→∃ a,ops[j]?=some a∧∃ e∈a.after,Region.binds md e=true∧(e.on=i∨b e.on=true)
theorem nC.not_ready {i j:Nat} {f:Nat→Bool} {a:Array Bool} (q:mG md ops i f) (h:nC md ops L i f a) (n:a.getD i true=false) (p:j∈Region.ready md ops a):f j=false:=by
 cases r:f j with
 | false=>rfl
 | true=>
  obtain ⟨s,k,e,m,l,c⟩:=q j r;obtain ⟨_,o,g,b⟩:=mem_ready.1 p;have:o=s:=Option.some.inj (g.symm.trans k);subst this;have d:=b e m l;rcases c with c|c
  ·rw [c,nB n] at d;cases d
  ·rw [h.out _ c] at d;cases d
theorem nC.set {i j:Nat} {f:Nat→Bool} {a:Array Bool} (h:nC md ops L i f a) (g:f j=false):nC md ops L i f (a.setIfInBounds j true):=by
 refine ⟨fun k c=>?_,fun k c d l=>?_⟩
 ·have:j≠k:=fun e=>by subst e;rw [g] at c;cases c
  rw [getD_set_ne false this];exact h.out k c
 ·by_cases b:j=k
  ·subst b;rcases Nat.lt_or_ge j a.size with h'|h'
   ·simp [h'] at d
   ·simp at d
  ·rw [getD_set_ne true b] at d;exact h.cov k c d l
theorem sO {Q:Exit→Act→World→Prop} {i:Nat} {l:Oper} {v:Value} (hi:ops[i]?=some l) (G:∀ (j:Nat) (o:Oper) cs b,ops[j]?=some o→o.op≠.select cs b)
  (hQ:∀ c a w,Q (.panic c) (a.put l.dst v) w→Q (.panic c) a w) (wt:Nat→Bool) (aA:L.getD i 2=1→mG md ops i wt) (p:L.getD i 2=0∨L.getD i 2=1) :
  ∀ (f:Nat) (d:Array Bool) (a:Act) (C:World→Prop),
   (∀ j n,ops[j]?=some n→j≠i→d.getD j true=false→(∀ e∈n.after,Region.binds md e=true→e.on≠i)→l.apart ops n=true) →
   (L.getD i 2=1→nC md ops L i wt d) →
   i∈Region.ready md ops d→(L.getD i 2=0→Yields P ops l v a)→(L.getD i 2=1→YieldsIn P ops C l v a) →
   oR P md ops L Q f (d.setIfInBounds i true) (a.put l.dst v) C→oR P md ops L Q (f+1) d a C:=by
 intro f
 have I:∀ (f:Nat) (d:Array Bool) (a:Act) (C:World→Prop),(L.getD i 2=0→Yields P ops l v a)→(L.getD i 2=1→YieldsIn P ops C l v a) →
   oR P md ops L Q f (d.setIfInBounds i true) (a.put l.dst v) C→IH P ops L Q i (oR P md ops L Q f (d.setIfInBounds i true)) a C:=by
  intro f d a C E z H;unfold IH;simp only [hi];rcases p with p|p
  ·simp only [p];exact ⟨v,E p,H⟩
  ·simp only [p];exact ⟨v,z p,H⟩
 induction f with
 | zero=>
  intro d a C _ _ M E z H;refine ⟨fun h=>(by rw [h] at M;cases M),fun j S=>?_⟩;by_cases g:j=i
  ·subst g;exact I _ _ _ _ E z H
  ·have:=ready_mono S g;rw [H.1] at this;cases this
 | succ f ih=>
  intro d a C q B M E z H;refine ⟨fun h=>(by rw [h] at M;cases M),fun j S=>?_⟩;by_cases g:j=i
  ·subst g;exact I _ _ _ _ E z H
  ·have F:=H.2 j (ready_mono S g);obtain ⟨s,n,A,T⟩:=mem_ready.1 S;have r:=(mem_ready.1 M).1;have Y:∀ e∈n.after,Region.binds md e=true→e.on≠i:=fun e he hb a0=>by
    have z:=T e he hb;rw [a0,nB r] at z;cases z
   have U:=q j n A g s Y
   have m:∀ k ok,ops[k]?=some ok→k≠i→(d.setIfInBounds j true).getD k true=false →
     (∀ e∈ok.after,Region.binds md e=true→e.on≠i)→l.apart ops ok=true:=fun k ok hk a1 Z a2=>by
    refine q k ok hk a1 ?_ a2;by_cases X:j=k
    ·subst X;exact s
    ·rw [getD_set_ne true X] at Z;exact Z
   have t:L.getD i 2=1→nC md ops L i wt (d.setIfInBounds j true):=fun h=>(B h).set ((B h).not_ready (aA h) r S);have N:=ready_mono M (Ne.symm g);obtain ⟨p1,p2,p3⟩:=Oper.apart_spec U;have O:=fun cs b=>G i l cs b hi;have R:=fun cs b=>G j n cs b A;have x:∀ (a:Act),(L.getD i 2=0→Yields P ops l v a)→∀ u,(L.getD i 2=0→Yields P ops l v (a.put n.dst u)):=fun a D u h=>
    (D h).of_same (execOp_put l O a n.dst u p3) (wanted_put l a n.dst u p3)
   have y:∀ (a:Act),(L.getD i 2=1→YieldsIn P ops C l v a)→∀ u,(L.getD i 2=1→YieldsIn P ops C l v (a.put n.dst u)):=fun a D u h=>
    (D h).of_same (execOp_put l O a n.dst u p3) (wanted_put l a n.dst u p3)
   unfold IH at F ⊢;simp only [A] at F ⊢;split
   ·rename_i J;simp only [J] at F;obtain ⟨u,D,hK⟩:=F;refine ⟨u,D.of_same (execOp_put n R a l.dst v p1).symm (wanted_put n a l.dst v p1).symm,ih _ _ _ m t N (x a E u) (y a z u) ?_⟩;rw [Array.setIfInBounds_comm _ _ g,←Act.put_comm a v u p2];exact hK
   ·rename_i J;simp only [J] at F;obtain ⟨u,D,hK⟩:=F;refine ⟨u,D.of_same (execOp_put n R a l.dst v p1).symm (wanted_put n a l.dst v p1).symm,ih _ _ _ m t N (x a E u) (y a z u) ?_⟩;rw [Array.setIfInBounds_comm _ _ g,←Act.put_comm a v u p2];exact hK
   ·rename_i V W;rcases p with p|p
    ·split at F
     ·exact absurd (by assumption) V
     ·exact absurd (by assumption) W
     ·intro w hw;have h2:=wpOp_put A U O R hQ (E p) (F w hw);refine wpOp_mono (fun a' w' h3=>?_) h2;obtain ⟨D,C',aC,hK⟩:=h3;refine ⟨C',aC,ih _ _ _ m t N (fun _=>D) (fun h=>by rw [p] at h;cases h) ?_⟩;rw [Array.setIfInBounds_comm _ _ g];exact hK
    ·have h2:=(B p).not_ready (aA p) r S;rw [(B p).cov j g s (by
      rcases Nat.lt_or_ge (L.getD j 2) 2 with hl|hl
      ·have:L.getD j 2=0∨L.getD j 2=1:=by omega
       rcases this with h|h
       ·exact absurd h V
       ·exact absurd h W
      ·exact hl)] at h2
     cases h2
def lC (md:Region.Mode) (ops:Array Oper) (i:Nat):Array Bool:=
 ops.foldl (fun acc o=>acc.push (o.after.any fun e=>Region.binds md e&&(e.on==i||acc.getD e.on false))) #[]
def FP (md:Region.Mode) (ops:Array Oper) (L:List Nat) (a:Array Bool) (i:Nat):Bool:=
 let wt:=lC md ops i
 decide (wt.size=ops.size)&&(List.range ops.size).all fun j=>
  (j==i||a.getD j true||decide (L.getD j 2<2)||wt.getD j false) &&
  (!wt.getD j false||(!a.getD j false&&match ops[j]? with
   | some oj=>oj.after.any fun e=>Region.binds md e&&(e.on==i||wt.getD e.on false)
   | none=>false))
theorem CX {a:Array Bool} {i:Nat} (r:a.size=ops.size) (h:FP md ops L a i=true):mG md ops i (fun j=>(lC md ops i).getD j false)∧nC md ops L i (fun j=>(lC md ops i).getD j false) a:=by
 simp only [FP,Bool.and_eq_true,decide_eq_true_eq,List.all_eq_true,List.mem_range] at h;obtain ⟨q,h⟩:=h;have f:∀ j,(lC md ops i).getD j false=true→j<ops.size:=fun j c=>by
  rcases Nat.lt_or_ge j (lC md ops i).size with h'|h'
  ·omega
  ·simp [Array.getElem?_eq_none h'] at c
 refine ⟨fun j c=>?_,fun j c=>?_,fun j l d p=>?_⟩
 ·have b:=(h j (f j c)).2;simp only [c,Bool.not_true,Bool.false_or,Bool.and_eq_true] at b;have g:=b.2;split at g
  ·rename_i o m;obtain ⟨e,n,k⟩:=Array.any_eq_true'.1 g;simp only [Bool.and_eq_true,Bool.or_eq_true,beq_iff_eq] at k;exact ⟨o,m,e,n,k.1,k.2⟩
  ·cases g
 ·have b:=(h j (f j c)).2;simp only [c,Bool.not_true,Bool.false_or,Bool.and_eq_true,Bool.not_eq_true'] at b;exact b.1
 ·have c:j<ops.size:=by
   rcases Nat.lt_or_ge j a.size with h'|h'
   ·omega
   ·simp [Array.getElem?_eq_none h'] at d
  have b:=(h j c).1;simp only [Bool.or_eq_true,beq_iff_eq,l,d,decide_eq_true_eq] at b;rcases b with ((b|b)|b)|b
  ·exact b.elim
  ·cases b
  ·omega
  ·exact b
def t7 (md:Region.Mode) (ops:Array Oper) (L:List Nat):List Nat→Array Bool→Bool
 | [],listed=>(Region.ready md ops listed).isEmpty
 | k::π,listed=>(Region.ready md ops listed).contains k&&(match L.getD k 2 with
   | 0=>Region.free md ops listed k
   | 1=>Region.free md ops listed k&&FP md ops L listed k
   | _=>Region.ready md ops listed==[k])&&t7 md ops L π (listed.setIfInBounds k true)
def rI (P:Program) (ops:Array Oper) (L:List Nat) (Q:Exit→Act→World→Prop):List Nat→Act→(World→Prop)→Prop
 | [],a,C=>∀ w,C w→Q .normal a w
 | k::π,a,C=>IH P ops L Q k (rI P ops L Q π) a C
theorem zV {Q:Exit→Act→World→Prop} (s:Region.noSelect ops=true) (r:∀ c a w,¬ Q (.panic c) a w):∀ (π:List Nat) (b:Array Bool) (a:Act) (C:World→Prop),b.size=ops.size →
  t7 md ops L π b=true→rI P ops L Q π a C→oR P md ops L Q π.length b a C
 | [],_,_,_,_,n,h=>⟨by simpa [t7] using n,h⟩
 | k::π,b,a,C,z,n,h=>by
  simp only [t7,Bool.and_eq_true] at n;obtain ⟨⟨F,g⟩,q⟩:=n;have l:k∈Region.ready md ops b:=by simpa using F
  have u:(b.setIfInBounds k true).size=ops.size:=by simpa using z
  have m:=fun B A=>zV s r π (b.setIfInBounds k true) B A u q;have x:IH P ops L Q k (oR P md ops L Q π.length (b.setIfInBounds k true)) a C:=MW m h;have j:=x;unfold IH at j;split at j
  ·exact j.elim
  ·rename_i o p;split at j
   ·rename_i e;simp only [e] at g;obtain ⟨v,t,hK⟩:=j
    exact sO p (Region.noSelect_spec s) (fun c a w d=>(r _ _ _ d).elim) (fun _=>false) (fun d=>by rw [e] at d;cases d) (.inl e) _ _ _ _ (Region.free_spec p g)
     (fun d=>by rw [e] at d;cases d) l (fun _=>t) (fun d=>by rw [e] at d;cases d) hK
   ·rename_i e;simp only [e,Bool.and_eq_true] at g;obtain ⟨v,t,hK⟩:=j;obtain ⟨w1,G⟩:=CX z g.2
    exact sO p (Region.noSelect_spec s) (fun c a w d=>(r _ _ _ d).elim) _ (fun _=>w1) (.inr e) _ _ _ _ (Region.free_spec p g.1)
     (fun _=>G) l (fun d=>by rw [e] at d;cases d) (fun _=>t) hK
   ·rename_i D E;have f:Region.ready md ops b=[k]:=by
     split at g
     ·exact absurd (by assumption) D
     ·exact absurd (by assumption) E
     ·simpa using g
    refine ⟨fun d=>(by rw [f] at d;cases d),fun i y=>?_⟩;rw [f] at y;have:i=k:=by simpa using y
    subst this;exact x
theorem BG {k:Nat} {Q:Exit→Act→World→Prop} {a:Act} {w:World} {l:List Oper} (L π:List Nat) (g:P.follows .mixedOrders=true)
  (b:(Region.noSelect l.toArray&&t7 .any l.toArray L π (Array.replicate l.length false)&&π.length==l.length)=true)
  (h:rI P l.toArray L (NoPanic Q) π a (fun w'=>∃ n,w'=w.drewN n)):(Code.region k l.toArray true).wp P Q a w:=by
 simp only [Bool.and_eq_true,beq_iff_eq] at b;obtain ⟨⟨j,i⟩,f⟩:=b;refine wp_region_noPanic (wp_region_any g ?_);have:=zV (md:=.any) j (fun c a w e=>e) π (Array.replicate l.length false) a _ (by simp) i h;rw [f] at this;have d:=oS (md:=.any) _ _ _ _ { w with drawn:=w.drawn+1 } ⟨1,rfl⟩ this;simpa using d
theorem MX {Q:Exit→Act→World→Prop} {a:Act} {w:World} (h:∀ n,Q .normal a (w.drewN n)):rI P ops L (NoPanic Q) [] a (fun w'=>∃ n,w'=w.drewN n):=by
 rintro _ ⟨n,rfl⟩;exact NoPanic.normal (h n)
theorem JZ {Q:Exit→Act→World→Prop} {a:Act} {C:World→Prop} {k:Nat} {π:List Nat} {o:Oper} (i:ops[k]?=some o) (g:L.getD k 2=0)
  (h:∀ K:Act→Prop,(∀ a,rI P ops L Q π a C→K a)→if Region.wanted o (yielded ops a.tmps) then FO P o a K else K (a.put o.dst undef)):rI P ops L Q (k::π) a C:=by
 have:=h (fun d=>rI P ops L Q π d C) (fun _ h=>h);simp only [rI,IH,i,g];split at this
 ·rename_i c;obtain ⟨v,e,f⟩:=this;refine ⟨v,.inl ⟨c,fun w=>?_⟩,f⟩;have b:=e w;unfold rX at b;generalize (execOp a.eval o).run P w=r at *;cases r with
  | ok n w'=>cases n<;>simp only [lI] at b;rw [b.1,b.2]
  | halt x w'=>simp only [lI] at b
 ·rename_i c;exact ⟨undef,.inr ⟨by simpa using c,rfl⟩,this⟩
theorem FQ {Q:Exit→Act→World→Prop} {a:Act} {C:World→Prop} {k:Nat} {π:List Nat} {o:Oper} (g:ops[k]?=some o) (f:L.getD k 2=1)
  (h:∀ K:Act→Prop,(∀ a,rI P ops L Q π a C→K a)→if Region.wanted o (yielded ops a.tmps) then o.quiet P a C K else K (a.put o.dst undef)):rI P ops L Q (k::π) a C:=by
 have:=h (fun c=>rI P ops L Q π c C) (fun _ h=>h);simp only [rI,IH,g,f];split at this
 ·rename_i b;obtain ⟨v,d,e⟩:=this;exact ⟨v,.inl ⟨b,d⟩,e⟩
 ·rename_i b;exact ⟨undef,.inr ⟨by simpa using b,rfl⟩,this⟩
theorem bI {Q:Exit→Act→World→Prop} {a:Act} {w:World} {k:Nat} {π:List Nat} {o:Oper} (d:ops[k]?=some o) (g:L.getD k 2=2)
  (h:∀ (n:Nat) (K:Act→World→Prop),Shut (∀ c w',rI P ops L Q π c (fun b=>∃ n,b=w'.drewN n)→K c w')→if Region.wanted o (yielded ops a.tmps)=true then Oper.wp P o a (w.drewN n) K Q else K (a.put o.dst undef) (w.drewN n)) :
  rI P ops L Q (k::π) a (fun w'=>∃ n,w'=w.drewN n):=by
 simp only [rI,IH,d,g];rintro _ ⟨n,rfl⟩;refine wpOp_mono (fun c w' f=>⟨fun b=>∃ n,b=w'.drewN n,⟨0,rfl⟩,f⟩) (wpOp_step d fun e hK=>h n e hK)
end
theorem lD {P:Program} {b:Nat} {Q:Exit→Act→World→Prop} {a:Act} {w:World} {l:List Oper} (L π:List Nat) (h:rI P l.toArray L (NoPanic Q) π a (fun w'=>∃ n,w'=w.drewN n)) (H:P.follows .mixedOrders=true ∧ (Region.noSelect l.toArray&&t7 .any l.toArray L π (Array.replicate l.length false)&&π.length==l.length)=true:=by exact ⟨by kernel_rfl,by kernel_rfl⟩):(Code.region b l.toArray true).wp P Q a w:=BG L π H.1 H.2 h
theorem vP {p q:Prop} (h:q) (H:Ac p q:=by constructor;intro hEnd;replace hEnd:=Lib.hid hEnd;(repeat (first|(with_reducible refine MX (fun nz=>?_))|((with_reducible refine JZ rfl rfl (fun K hK=>?_));go_simp;refine hK _ ?_;clear hK K)|((with_reducible refine FQ rfl rfl (fun K hK=>?_));go_simp;refine hK _ ?_;clear hK K)|((with_reducible refine bI rfl rfl (fun nz K hK=>?_));go_simp;refine hK.out _ _ ?_;clear hK K)));(repeat revert nz);exact hEnd.out):p:=H.of h
end Go.Proofs.YthapcchcahnfaaaGreatDoor
