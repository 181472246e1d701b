/- Part of the proof that laws.FnWithin returns true for every argument. No conditions. -/
import Derived.WalkKit
import Derived.BigFrame
import Derived.Scope
import Derived.Deep.LoopGhost
import Derived.Lib.Hide
import Derived.Deep.Quiet
import Derived.Deep.QuietTactic
import Derived.Deep.RegionHeld3
import Derived.NoCompiler
import Derived.Test.YthapcchcahnfaaaGreatDoorQ01
import Derived.Lib.DecodeN
import Derived.Shelf.Unicode.CaseLaid
set_option linter.all false
set_option maxHeartbeats 8000000
set_option maxRecDepth 100000
namespace Go.Proofs.YthapcchcahnfaaaGreatDoor
open Go
def lk (f:Nat→Value):List (Nat×Value)→Nat→Value
 | [],t=>f t
 | (d,v)::L,t=>if t=d then v else lk f L t
def C6 (n:Nat) (f:Nat→Value) (L:List (Nat×Value)):Act:=⟨Array.ofFn (n:=n) fun i=>lk f L i.val,[]⟩
theorem aZ (f:Nat→Value) (t:Nat):lk f [] t=f t:=of_eq_true (eq_self _)
theorem aR (f:Nat→Value) (d:Nat) (v:Value) (L:List (Nat×Value)) (t:Nat):lk f ((d,v)::L) t=if t=d then v else lk f L t:=of_eq_true (eq_self _)
structure Aw (F:Nat→(Nat→Value)→List (Nat×Value)→Act):Prop where
 is:F=C6
theorem MW {n:Nat} {f:Nat→Value} {L:List (Nat×Value)} {t:Nat} (h:t<n):(C6 n f L).tmps[t]?=some (lk f L t):=by
 simp [C6,h]
theorem RB {n:Nat} {f:Nat→Value} {L:List (Nat×Value)} {d:Nat} (c:d<n) (v:Value):(C6 n f L).tmps.setIfInBounds d v=(C6 n f ((d,v)::L)).tmps:=by
 apply Array.ext
 ·simp [C6]
 ·intro i b g;simp [C6] at b;rw [Array.getElem_setIfInBounds (by simpa [C6] using b)];simp only [C6,Array.getElem_ofFn,lk];by_cases a:d=i
  ·subst a;simp
  ·rw [if_neg a,if_neg (fun e=>a e.symm)]
noncomputable def Bx:{ F:Nat→(Nat→Value)→List (Nat×Value)→Act // Aw F }:=Classical.choice ⟨⟨C6,⟨rfl⟩⟩⟩
noncomputable def fr (n:Nat) (f:Nat→Value) (L:List (Nat×Value)):Act:=Bx.val n f L
theorem uZ (n:Nat) (f:Nat→Value) (L:List (Nat×Value)):fr n f L=C6 n f L:=by
 unfold fr;rw [Bx.property.is]
theorem jM (n:Nat) (f:Nat→Value) (L:List (Nat×Value)):(fr n f L).defers=[]:=by rw [uZ];rfl
theorem IR {n:Nat} {f:Nat→Value} {L:List (Nat×Value)} {t:Nat} (h:t<n):(fr n f L).tmps[t]?=some (lk f L t):=by
 rw [uZ];exact MW h
theorem jZ {n:Nat} {f:Nat→Value} {L:List (Nat×Value)} {t:Nat} (h:t<n) (u:Value):(fr n f L).tmps.getD t u=lk f L t:=by
 rw [Array.getD_eq_getD_getElem?,IR h];rfl
theorem MX {n:Nat} {f:Nat→Value} {L:List (Nat×Value)} {d:Nat} (h:d<n) (v:Value):(fr n f L).tmps.setIfInBounds d v=(fr n f ((d,v)::L)).tmps:=by
 rw [uZ,uZ];exact RB h v
theorem MY (n:Nat) (f:Nat→Value) (L:List (Nat×Value)):(⟨(fr n f L).tmps,[]⟩:Act)=fr n f L:=by rw [uZ];rfl
theorem cB {n:Nat} {f:Nat→Value} {L:List (Nat×Value)} {t:Nat} (h:t<n):(fr n f L).eval (.tmp t)=lk f L t:=jZ h _
theorem fO {n:Nat} {f:Nat→Value} {L:List (Nat×Value)} {d:Nat} (h:d<n) (v:Value):(fr n f L).put (some d) v=fr n f ((d,v)::L):=by
 show (⟨(fr n f L).tmps.setIfInBounds d v,(fr n f L).defers⟩:Act)=_;rw [MX h,jM,MY]
def keep (f:Nat→Value) (L:List (Nat×Value)):List Nat→List (Nat×Value)
 | []=>[]
 | k::ks=>(k,lk f L k)::keep f L ks
theorem aP (f:Nat→Value) (L:List (Nat×Value)):keep f L []=[]:=of_eq_true (eq_self _)
theorem aL (f:Nat→Value) (L:List (Nat×Value)) (k:Nat) (a:List Nat):keep f L (k::a)=(k,lk f L k)::keep f L a:=of_eq_true (eq_self _)
theorem IS (f:Nat→Value) (L:List (Nat×Value)):∀ (a:List Nat) (t:Nat),lk (lk f L) (keep f L a) t=lk f L t
 | [],t=>rfl
 | k::a,t=>by
  simp only [keep,lk];split
  ·rename_i h;subst h;rfl
  ·exact IS f L a t
theorem BK (n:Nat) (f:Nat→Value) (L:List (Nat×Value)) (a:List Nat):fr n f L=fr n (lk f L) (keep f L a):=by
 rw [uZ,uZ];simp only [C6,IS]
theorem RC {P:Program} {c:Code} {Q:Exit→Act→World→Prop} {n:Nat} {f:Nat→Value} {L:List (Nat×Value)} {w:World} (a:List Nat) (h:∀ g,c.wp P Q (fr n g (keep f L a)) w):c.wp P Q (fr n f L) w:=by
 rw [BK n f L a];exact h _
theorem VS {K:Act→World→Prop} {n:Nat} {f:Nat→Value} {L:List (Nat×Value)} {w:World} (a:List Nat) (h:∀ g,K (fr n g (keep f L a)) w):K (fr n f L) w:=by
 rw [BK n f L a];exact h _
theorem VT {Q:Exit→Act→World→Prop} {e:Exit} {n:Nat} {f:Nat→Value} {L:List (Nat×Value)} {w:World} (a:List Nat) (h:∀ g,Q e (fr n g (keep f L a)) w):Q e (fr n f L) w:=by
 rw [BK n f L a];exact h _
def aF:Nat→List Value→List (Nat×Value)
 | _,[]=>[]
 | i,v::vs=>(i,v)::aF (i+1) vs
theorem u9 (f:Nat→Value):∀ (a:List Value) (i t:Nat),i≤t→lk f (aF i a) t=(a[t-i]?).getD (f t)
 | [],i,t,_=>by simp [aF,lk]
 | v::a,i,t,h=>by
  simp only [aF,lk];split
  ·rename_i e;subst e;simp
  ·rw [u9 f a (i+1) t (by omega),show t-i=(t-(i+1))+1 by omega,List.getElem?_cons_succ]
theorem MZ {P:Program} {b:FuncId} {fn:Func} {c:Code} {a:List Value} {w:World} {R:Ending→World→Prop} (n:Nat) (j:P.funcs[b]?=some fn) (g:fn.body=some c) (l:fn.ntmps=n) (k:a.length≤n)
  (h:∀ f,c.wp P (bodyPost P fn R) (fr n f (aF 0 a)) w):Calls P b a.toArray w R:=by
 refine calls_of_wp j g ?_;have e:({ tmps:=a.toArray++Array.replicate (fn.ntmps-a.toArray.size) undef,defers:=[] }:Act)=fr n (fun _=>undef) (aF 0 a):=by
  subst l;rw [uZ];simp only [C6]
  congr 1
  apply Array.ext
  ·simp;omega
  ·intro i m o;simp only [Array.getElem_ofFn];rw [u9 _ a 0 i (Nat.zero_le _)];by_cases d:i<a.length
   ·simp [Array.getElem_append,d]
   ·simp [Array.getElem_append,d]
 rw [e];exact h _
theorem RD {P:Program} {fn:Func} {R:Ending→World→Prop} {n:Nat} {f:Nat→Value} {L:List (Nat×Value)} {w:World} {t:Nat} (a:fn.results=#[.tmp t]) (b:t<n) (h:R (.returned (lk f L t)) w):bodyPost P fn R .ret (fr n f L) w:=by
 refine bodyPost_ret (v:=lk f L t) ?_ (jM n f L) h;rw [results_tmp a,jZ b]
theorem RE {P:Program} {fn:Func} {R:Ending→World→Prop} {n:Nat} {f:Nat→Value} {L:List (Nat×Value)} {w:World} {t u:Nat} (a:fn.results=#[.tmp t,.tmp u]) (b:t<n) (c:u<n) (h:R (.returned (.tuple #[lk f L t,lk f L u])) w):bodyPost P fn R .ret (fr n f L) w:=by
 refine bodyPost_ret (v:=.tuple #[lk f L t,lk f L u]) ?_ (jM n f L) h;rw [results_tmp2 a,jZ b,jZ c]
theorem j9 {P:Program} {fn:Func} {R:Ending→World→Prop} {n:Nat} {f:Nat→Value} {L:List (Nat×Value)} {w:World} (a:fn.results=#[]) (h:R (.returned (.tuple #[])) w):bodyPost P fn R .ret (fr n f L) w:=by
 refine bodyPost_ret (v:=.tuple #[]) ?_ (jM n f L) h;rw [results_none a]
theorem RF {P:Program} {fn:Func} {R:Ending→World→Prop} {n:Nat} {f:Nat→Value} {L:List (Nat×Value)} {w:World} {t:Nat} {v:Value} (b:fn.results=#[.tmp t]) (c:t<n) (a:lk f L t=v) (h:R (.returned v) w):bodyPost P fn R .ret (fr n f L) w:=by
 subst a;exact RD b c h
theorem BL {P:Program} {fn:Func} {R:Ending→World→Prop} {n:Nat} {f:Nat→Value} {L:List (Nat×Value)} {w:World} {t u:Nat} {v v':Value} (c:fn.results=#[.tmp t,.tmp u]) (d:t<n) (e:u<n) (a:lk f L t=v) (b:lk f L u=v') (h:R (.returned (.tuple #[v,v'])) w):bodyPost P fn R .ret (fr n f L) w:=by
 subst a;subst b;exact RE c d e h
theorem RG {P:Program} {fn:Func} {R:Ending→World→Prop} {n:Nat} {f:Nat→Value} {L:List (Nat×Value)} {w:World} {t u s:Nat} {v v' b:Value} (i:fn.results=#[.tmp t,.tmp u,.tmp s]) (k:t<n) (l:u<n) (j:s<n) (c:lk f L t=v) (d:lk f L u=v') (g:lk f L s=b) (h:R (.returned (.tuple #[v,v',b])) w):bodyPost P fn R .ret (fr n f L) w:=by
 subst c;subst d;subst g;refine bodyPost_ret (v:=.tuple #[lk f L t,lk f L u,lk f L s]) ?_ (jM n f L) h;have e:∀ (a:Array Value),(results fn a).run P w=.ok (.tuple #[a.getD t undef,a.getD u undef,a.getD s undef]) w:=fun a=>by simp [results,i]
 rw [e,jZ k,jZ l,jZ j]
theorem jN {P:Program} {fn:Func} {R:Ending→World→Prop} {a:Act} {w:World} (h:bodyPost P fn R .ret a w):bodyPost P fn R .normal a w:=h
attribute [irreducible] fr lk keep
attribute [go_sem] jM IR jZ MX MY aZ aR
theorem zA {P:Program} {Q:Exit→Act→World→Prop} {a:Act} {w:World} {x y:Code} (h:∀ K:Act→World→Prop,(∀ a w,y.wp P Q a w→K a w)→x.wp P (Exit.then K Q) a w):(Code.seq x y).wp P Q a w:=wp_seq_k h
theorem zB {P:Program} {Q:Exit→Act→World→Prop} {a:Act} {w:World} {b:Nat} {l:List Oper} (h:wpList P l.toArray Q l a w):(Code.region b l.toArray false).wp P Q a w:=wp_region_lit h
theorem zC {P:Program} {ops:Array Oper} {Q:Exit→Act→World→Prop} {a:Act} {w:World} (h:Q .normal a w):wpList P ops Q [] a w:=h
theorem zD {P:Program} {ops:Array Oper} {Q:Exit→Act→World→Prop} {a:Act} {w:World} {rest:List Oper} {o:Oper} (b:o.guard=none) (h:∀ K:Act→World→Prop,(∀ a w,wpList P ops Q rest a w→K a w)→o.wp P a w K Q):wpList P ops Q (o::rest) a w:=wpList_plain b h
theorem zE {P:Program} {ops:Array Oper} {Q:Exit→Act→World→Prop} {a:Act} {w:World} {rest:List Oper} {o:Oper} (h:∀ K:Act→World→Prop,(∀ a w,wpList P ops Q rest a w→K a w)→if Region.wanted o (yielded ops a.tmps) then o.wp P a w K Q else K (a.put o.dst undef) w):wpList P ops Q (o::rest) a w:=wpList_step h
theorem zt {P:Program} {Q:Exit→Act→World→Prop} {a:Act} {w:World} {c:Operand} {x y:Code} (h:x.wp P Q a w) (b:a.eval c=.bool true:=by go_simp;first|done|omega):(Code.cond c x y).wp P Q a w:=wp_cond b h
theorem zf {P:Program} {Q:Exit→Act→World→Prop} {a:Act} {w:World} {c:Operand} {x y:Code} (h:y.wp P Q a w) (b:a.eval c=.bool false:=by go_simp;first|done|omega):(Code.cond c x y).wp P Q a w:=wp_cond b h
theorem zG {P:Program} {Q:Exit→Act→World→Prop} {a:Act} {w:World} {b:Nat} (h:Q (.exit b) a w):(Code.exit b).wp P Q a w:=wp_exit h
theorem zR {P:Program} {Q:Exit→Act→World→Prop} {a:Act} {w:World} (h:Q .ret a w):Code.ret.wp P Q a w:=wp_ret h
theorem zK {P:Program} {Q:Exit→Act→World→Prop} {a:Act} {w:World} {b:Nat} {c:Code} (h:c.wp P (Exit.inBlock b Q) a w):(Code.block b c).wp P Q a w:=wp_block h
theorem zL {P:Program} {Q:Exit→Act→World→Prop} {a:Act} {w:World} {l:Nat} (h:Q .normal a w):(Code.label l).wp P Q a w:=wp_label h
theorem zN {P:Program} {Q:Exit→Act→World→Prop} {a:Act} {w:World} (h:Q .normal a w):Code.skip.wp P Q a w:=wp_skip h
theorem zS {P:Program} {Q:Exit→Act→World→Prop} {a:Act} {w:World} {c:Code} (h:c.wp P (Exit.noGoto Q) a w):(Code.scope c).wp P Q a w:=wp_scope_straight h
def Code.startsAt (b:Nat):Code→Bool
 | .region i _ _=>i==b
 | .seq a _=>Code.startsAt b a
 | _=>false
def Code.partAt (e:Nat):Code→Option Code
 | .seq a b=>if Code.startsAt e a then some (.seq a b) else match Code.partAt e a with
  | some c=>some c
  | none=>Code.partAt e b
 | .region i o d=>if i==e then some (.region i o d) else none
 | .cond _ a b=>match Code.partAt e a with
  | some c=>some c
  | none=>Code.partAt e b
 | .block _ c=>Code.partAt e c
 | .loop c=>Code.partAt e c
 | .scope c=>Code.partAt e c
 | _=>none
theorem bB {P:Program} {c b:Code} {Q:Exit→Act→World→Prop} {a:Act} {w:World} (h:c.wp P Q a w) (e:b=c):b.wp P Q a w:=e▸h
structure Ar (p q:Prop):Prop where
 of:q→p
theorem vg {p q:Prop} (h:q) (H:Ar p q:=by constructor;intro hEnd;replace hEnd:=Lib.hid hEnd;(repeat with_reducible intro K hK);(repeat (first|(with_reducible first|refine zA fun K hK=>?_|refine zB ?_|refine zC ?_)|((with_reducible first|refine zD rfl fun K hK=>?_|refine zE fun K hK=>?_);go_simp)|(with_reducible first|((repeat ((fail_if_success refine hK _ _ ?_);clear hK K));refine hK _ _ ?_;clear hK K)|refine zt ?_|refine zf ?_|refine zG ?_|refine zR ?_|refine zK ?_|refine zL ?_|refine zN ?_|refine zS ?_)|simp only [Exit.then,Exit.inBlock,Exit.noGoto,↓reduceIte,Nat.reduceEqDiff]|simp only [undef,reduceCtorEq,↓reduceIte]));(repeat revert K);exact hEnd.out):p:=H.of h
def Hx (p:Prop):Prop:=p
theorem Hx.o {p:Prop} (h:Hx p):p:=h
theorem Lh {p:Prop} (h:p):Hx p:=h
theorem cR {α:Type} (a:α):∃ b,b=a:=⟨a,rfl⟩
theorem cH {a b:Prop} (u:a) (v:b):Hx a ∧ Hx b:=⟨u,v⟩
theorem lQ {a b c:Prop} (u:a) (v:b) (w:c):Hx a ∧ Hx b ∧ Hx c:=⟨u,v,w⟩
theorem kY {a b c d:Prop} (u:a) (v:b) (w:c) (x:d):Hx a ∧ Hx b ∧ Hx c ∧ Hx d:=⟨u,v,w,x⟩
theorem pI {a b c d e:Prop} (u:a) (v:b) (w:c) (x:d) (y:e):Hx a ∧ Hx b ∧ Hx c ∧ Hx d ∧ Hx e:=⟨u,v,w,x,y⟩
theorem iD {a b c d e f:Prop} (u:a) (v:b) (w:c) (x:d) (y:e) (z:f):Hx a ∧ Hx b ∧ Hx c ∧ Hx d ∧ Hx e ∧ Hx f:=⟨u,v,w,x,y,z⟩
structure Ax (n:Nat):Prop where
 t:True
structure Ay (n:Nat) (p q:Prop):Prop where
 of:Ax n→q→p
theorem M0 {ops:Array Oper} {d:Bool} {rest:Code} {P:Program} {Q:Exit→Act→World→Prop} {a:Act} {w:World} {n:Nat} (_:Ax n) (h:((Code.region n ops d).seq rest).wp P Q a w):((Code.region n ops d).seq rest).wp P Q a w:=h
theorem M1 {ops:Array Oper} {d:Bool} {rest b:Code} {P:Program} {Q:Exit→Act→World→Prop} {a:Act} {w:World} {n:Nat} (_:Ax n) (h:(((Code.region n ops d).seq rest).seq b).wp P Q a w):(((Code.region n ops d).seq rest).seq b).wp P Q a w:=h
theorem vT (n:Nat) {p q:Prop} (h:q) (H:Ay n p q:=by constructor;intro a hEnd;replace hEnd:=Lib.hid hEnd;(repeat with_reducible intro K hK);(repeat ((fail_if_success with_reducible refine M0 a ?_);(fail_if_success with_reducible refine M1 a ?_);(first|(with_reducible first|refine zA fun K hK=>?_|refine zB ?_|refine zC ?_)|((with_reducible first|refine zD rfl fun K hK=>?_|refine zE fun K hK=>?_);go_simp)|(with_reducible first|((repeat ((fail_if_success refine hK _ _ ?_);clear hK K));refine hK _ _ ?_;clear hK K)|refine zt ?_|refine zf ?_|refine zG ?_|refine zR ?_|refine zK ?_|refine zL ?_|refine zN ?_|refine zS ?_)|simp only [Exit.then,Exit.inBlock,Exit.noGoto,↓reduceIte,Nat.reduceEqDiff]|simp only [undef,reduceCtorEq,↓reduceIte])));(repeat revert K);exact hEnd.out):p:=H.of ⟨trivial⟩ h
theorem vB {p q:Prop} (h:q) (H:Ar p q:=by constructor;intro hEnd;replace hEnd:=Lib.hid hEnd;(repeat with_reducible intro K hK);(repeat ((fail_if_success at_builtin);(first|(with_reducible first|refine zA fun K hK=>?_|refine zB ?_|refine zC ?_)|((with_reducible first|refine zD rfl fun K hK=>?_|refine zE fun K hK=>?_);go_simp)|(with_reducible first|((repeat ((fail_if_success refine hK _ _ ?_);clear hK K));refine hK _ _ ?_;clear hK K)|refine zt ?_|refine zf ?_|refine zG ?_|refine zR ?_|refine zK ?_|refine zL ?_|refine zN ?_|refine zS ?_)|simp only [Exit.then,Exit.inBlock,Exit.noGoto,↓reduceIte,Nat.reduceEqDiff]|simp only [undef,reduceCtorEq,↓reduceIte])));(repeat revert K);exact hEnd.out):p:=H.of h
theorem vS {p q:Prop} (h:q) (H:Ar p q:=by constructor;intro hEnd;replace hEnd:=Lib.hid hEnd;(repeat with_reducible intro K hK);go_simp;(repeat (first|(with_reducible first|refine zA fun K hK=>?_|refine zB ?_|refine zC ?_)|((with_reducible first|refine zD rfl fun K hK=>?_|refine zE fun K hK=>?_);go_simp)|(with_reducible first|((repeat ((fail_if_success refine hK _ _ ?_);clear hK K));refine hK _ _ ?_;clear hK K)|refine zt ?_|refine zf ?_|refine zG ?_|refine zR ?_|refine zK ?_|refine zL ?_|refine zN ?_|refine zS ?_)|simp only [Exit.then,Exit.inBlock,Exit.noGoto,↓reduceIte,Nat.reduceEqDiff]|simp only [undef,reduceCtorEq,↓reduceIte]));(repeat revert K);exact hEnd.out):p:=H.of h
theorem cX {P:Program} {fn:Func} {R:Ending→World→Prop} {m:Nat} {f:Nat→Value} {L:List (Nat×Value)} {w:World} {t:Nat} {v:Value} (h:R (.returned v) w) (H:fn.results=#[.tmp t] ∧ t<m ∧ lk f L t=v:=by exact ⟨rfl,by decide,by simp only [aR,aZ,Nat.reduceEqDiff,↓reduceIte];rfl⟩):bodyPost P fn R .ret (fr m f L) w:=by
 obtain ⟨a,b,c⟩:=H;exact RF a b c h
theorem jV {P:Program} {fn:Func} {R:Ending→World→Prop} {m:Nat} {f:Nat→Value} {L:List (Nat×Value)} {w:World} {t u:Nat} {v v':Value} (h:R (.returned (.tuple #[v,v'])) w) (H:fn.results=#[.tmp t,.tmp u] ∧ t<m ∧ u<m ∧ lk f L t=v ∧ lk f L u=v':=by exact ⟨rfl,by decide,by decide,by simp only [aR,aZ,Nat.reduceEqDiff,↓reduceIte];rfl,by simp only [aR,aZ,Nat.reduceEqDiff,↓reduceIte];rfl⟩):bodyPost P fn R .ret (fr m f L) w:=by
 obtain ⟨a,b,c,d,e⟩:=H;exact BL a b c d e h
theorem MM {P:Program} {fn:Func} {R:Ending→World→Prop} {m:Nat} {f:Nat→Value} {L:List (Nat×Value)} {w:World} {t u s:Nat} {v v' a:Value} (h:R (.returned (.tuple #[v,v',a])) w) (H:fn.results=#[.tmp t,.tmp u,.tmp s] ∧ t<m ∧ u<m ∧ s<m ∧ lk f L t=v ∧ lk f L u=v' ∧ lk f L s=a:=by exact ⟨rfl,by decide,by decide,by decide,by simp only [aR,aZ,Nat.reduceEqDiff,↓reduceIte];rfl,by simp only [aR,aZ,Nat.reduceEqDiff,↓reduceIte];rfl,by simp only [aR,aZ,Nat.reduceEqDiff,↓reduceIte];rfl⟩):bodyPost P fn R .ret (fr m f L) w:=by
 obtain ⟨b,c,d,e,g,i,j⟩:=H;exact RG b c d e g i j h
theorem eT {P:Program} {a:FuncId} {fn:Func} {c:Code} {w:World} {R:Ending→World→Prop} (n:Nat) (d:P.funcs[a]?=some fn) (b:List Value) (h:∀ f,c.wp P (bodyPost P fn R) (fr n f (aF 0 b)) w) (H:fn.body=some c ∧ fn.ntmps=n ∧ b.length≤n:=by exact ⟨rfl,rfl,Nat.le_of_ble_eq_true rfl⟩):Calls P a b.toArray w R:=MZ n d H.1 H.2.1 H.2.2 h
theorem cM {P:Program} {c:Code} {Q:Exit→Act→World→Prop} {n:Nat} {f:Nat→Value} {L a:List (Nat×Value)} {w:World} (b:List Nat) (h:∀ g,c.wp P Q (fr n g a) w) (H:keep f L b=a:=by simp only [aL,aP,aR,aZ,Nat.reduceEqDiff,↓reduceIte];rfl):c.wp P Q (fr n f L) w:=RC b (H▸h)
theorem Kk {K:Act→World→Prop} {n:Nat} {f:Nat→Value} {L a:List (Nat×Value)} {w:World} (b:List Nat) (h:∀ g,K (fr n g a) w) (H:keep f L b=a:=by simp only [aL,aP,aR,aZ,Nat.reduceEqDiff,↓reduceIte];rfl):K (fr n f L) w:=VS b (H▸h)
theorem Qk {Q:Exit→Act→World→Prop} {e:Exit} {n:Nat} {f:Nat→Value} {L a:List (Nat×Value)} {w:World} (b:List Nat) (h:∀ g,Q e (fr n g a) w) (H:keep f L b=a:=by simp only [aL,aP,aR,aZ,Nat.reduceEqDiff,↓reduceIte];rfl):Q e (fr n f L) w:=VT b (H▸h)
section
variable {P:Program} {ops:Array Oper} {md:Region.Mode} {L:List Nat}
theorem nA {a:Array Bool} {i:Nat} (h:a.getD i true=false):a.getD i false=false:=by
 rcases Nat.lt_or_ge i a.size with h'|h'
 ·simp [h'] at h ⊢;exact h
 ·simp [Array.getElem?_eq_none h'] at h
def lH (w:World) (v:Value):Result Next→Prop
 | .ok (.value u) w'=>w'=w∧u=v
 | _=>False
def sD (P:Program) (o:Oper) (a:Act) (w:World) (v:Value):Prop:=lH w v ((execOp a.eval o).run P w)
def FS (P:Program) (o:Oper) (a:Act) (next:Act→Prop):Prop:=∃ v,(∀ w,sD P o a w v)∧next (a.put o.dst v)
attribute [go_sem] lH sD FS
def IT (P:Program) (ops:Array Oper) (L:List Nat) (Q:Exit→Act→World→Prop) (i:Nat) (K:Act→(World→Prop)→Prop) (a:Act) (C:World→Prop):Prop:=
 match ops[i]? with
 | none=>False
 | some o=>match L.getD i 2 with
  | 0=>∃ v,Yields P ops o v a∧K (a.put o.dst v) C
  | 1=>∃ v,YieldsIn P ops C o v a∧K (a.put o.dst v) C
  | _=>∀ w,C w→wpOp P ops Q i (fun c w'=>∃ b,b w'∧K c b) a w
theorem M2 {Q:Exit→Act→World→Prop} {i:Nat} {K f:Act→(World→Prop)→Prop} {a:Act} {C:World→Prop} (h:∀ a C,K a C→f a C) (c:IT P ops L Q i K a C):IT P ops L Q i f a C:=by
 unfold IT at *;split
 ·simp_all
 ·rename_i o g;simp only [g] at c;split
  ·rename_i d;simp only [d] at c;obtain ⟨v,b,e⟩:=c;exact ⟨v,b,h _ _ e⟩
  ·rename_i d;simp only [d] at c;obtain ⟨v,b,e⟩:=c;exact ⟨v,b,h _ _ e⟩
  ·rename_i d b;split at c
   ·exact absurd (by assumption) d
   ·exact absurd (by assumption) b
   ·exact fun w j=>wpOp_mono (fun a' w' ⟨C',b,e⟩=>⟨C',b,h _ _ e⟩) (c w j)
def oX (P:Program) (md:Region.Mode) (ops:Array Oper) (L:List Nat) (Q:Exit→Act→World→Prop):Nat→Array Bool→Act→(World→Prop)→Prop
 | 0,listed,a,C=>Region.ready md ops listed=[]∧∀ w,C w→Q .normal a w
 | fuel+1,listed,a,C=>
  (Region.ready md ops listed=[]→∀ w,C w→Q .normal a w) ∧
  ∀ i∈Region.ready md ops listed,IT P ops L Q i (oX P md ops L Q fuel (listed.setIfInBounds i true)) a C
theorem oY {Q:Exit→Act→World→Prop}:∀ (b:Nat) (c:Array Bool) (a:Act) (C:World→Prop) (w:World),C w→oX P md ops L Q b c a C→wpAny P md ops Q b c a w
 | 0,_,_,_,w,e,h=>⟨h.1,h.2 w e⟩
 | b+1,_,_,C,w,e,h=>⟨fun m=>h.1 m w e,fun i p=>by
  have d:=h.2 i p;unfold IT at d;split at d
  ·exact d.elim
  ·rename_i o k;split at d
   ·obtain ⟨v,j,hK⟩:=d;exact j.wpOp k (oY b _ _ C w e hK)
   ·obtain ⟨v,j,hK⟩:=d;exact wpOp_of_qOp (C:=C) (K:=fun f=>oX P md ops L Q b _ f C) e (fun f w' g l=>oY b _ _ C w' g l) (j.qOp k hK)
   ·exact wpOp_mono (fun f w' ⟨C',d,n⟩=>oY b _ _ C' w' d n) (d w e)⟩
structure nB (md:Region.Mode) (ops:Array Oper) (L:List Nat) (i:Nat) (wt:Nat→Bool) (a:Array Bool):Prop where
 out:∀ j,wt j=true→a.getD j false=false
 cov:∀ j,j≠i→a.getD j true=false→2≤L.getD j 2→wt j=true
def mF (md:Region.Mode) (ops:Array Oper) (i:Nat) (b:Nat→Bool):Prop:=∀ j,b j=true→∃ a,ops[j]?=some a∧∃ e∈a.after,Region.binds md e=true∧(e.on=i∨b e.on=true)
theorem nB.not_ready {i j:Nat} {f:Nat→Bool} {a:Array Bool} (q:mF md ops i f) (h:nB md ops L i f a) (n:a.getD i true=false) (p:j∈Region.ready md ops a):f j=false:=by
 cases r:f j with
 | false=>rfl
 | true=>
  obtain ⟨s,k,e,m,l,c⟩:=q j r;obtain ⟨_,o,g,b⟩:=mem_ready.1 p;have:o=s:=Option.some.inj (g.symm.trans k);subst this;have d:=b e m l;rcases c with c|c
  ·rw [c,nA n] at d;cases d
  ·rw [h.out _ c] at d;cases d
theorem nB.set {i j:Nat} {f:Nat→Bool} {a:Array Bool} (h:nB md ops L i f a) (g:f j=false):nB md ops L i f (a.setIfInBounds j true):=by
 refine ⟨fun k c=>?_,fun k c d l=>?_⟩
 ·have:j≠k:=fun e=>by subst e;rw [g] at c;cases c
  rw [getD_set_ne false this];exact h.out k c
 ·by_cases b:j=k
  ·subst b;rcases Nat.lt_or_ge j a.size with h'|h'
   ·simp [h'] at d
   ·simp at d
  ·rw [getD_set_ne true b] at d;exact h.cov k c d l
theorem sQ {Q:Exit→Act→World→Prop} {i:Nat} {l:Oper} {v:Value} (hi:ops[i]?=some l) (G:∀ (j:Nat) (o:Oper) cs b,ops[j]?=some o→o.op≠.select cs b)
  (hQ:∀ c a w,Q (.panic c) (a.put l.dst v) w→Q (.panic c) a w) (wt:Nat→Bool) (aA:L.getD i 2=1→mF md ops i wt) (p:L.getD i 2=0∨L.getD i 2=1) :
  ∀ (f:Nat) (d:Array Bool) (a:Act) (C:World→Prop),
   (∀ j n,ops[j]?=some n→j≠i→d.getD j true=false→(∀ e∈n.after,Region.binds md e=true→e.on≠i)→l.apart ops n=true) →
   (L.getD i 2=1→nB md ops L i wt d) →
   i∈Region.ready md ops d→(L.getD i 2=0→Yields P ops l v a)→(L.getD i 2=1→YieldsIn P ops C l v a) →
   oX P md ops L Q f (d.setIfInBounds i true) (a.put l.dst v) C→oX P md ops L Q (f+1) d a C:=by
 intro f
 have I:∀ (f:Nat) (d:Array Bool) (a:Act) (C:World→Prop),(L.getD i 2=0→Yields P ops l v a)→(L.getD i 2=1→YieldsIn P ops C l v a) →
   oX P md ops L Q f (d.setIfInBounds i true) (a.put l.dst v) C→IT P ops L Q i (oX P md ops L Q f (d.setIfInBounds i true)) a C:=by
  intro f d a C E z H;unfold IT;simp only [hi];rcases p with p|p
  ·simp only [p];exact ⟨v,E p,H⟩
  ·simp only [p];exact ⟨v,z p,H⟩
 induction f with
 | zero=>
  intro d a C _ _ M E z H;refine ⟨fun h=>(by rw [h] at M;cases M),fun j S=>?_⟩;by_cases g:j=i
  ·subst g;exact I _ _ _ _ E z H
  ·have:=ready_mono S g;rw [H.1] at this;cases this
 | succ f ih=>
  intro d a C q B M E z H;refine ⟨fun h=>(by rw [h] at M;cases M),fun j S=>?_⟩;by_cases g:j=i
  ·subst g;exact I _ _ _ _ E z H
  ·have F:=H.2 j (ready_mono S g);obtain ⟨s,n,A,T⟩:=mem_ready.1 S;have r:=(mem_ready.1 M).1;have Y:∀ e∈n.after,Region.binds md e=true→e.on≠i:=fun e he hb a0=>by
    have z:=T e he hb;rw [a0,nA r] at z;cases z
   have U:=q j n A g s Y
   have m:∀ k ok,ops[k]?=some ok→k≠i→(d.setIfInBounds j true).getD k true=false →
     (∀ e∈ok.after,Region.binds md e=true→e.on≠i)→l.apart ops ok=true:=fun k ok hk a1 Z a2=>by
    refine q k ok hk a1 ?_ a2;by_cases X:j=k
    ·subst X;exact s
    ·rw [getD_set_ne true X] at Z;exact Z
   have t:L.getD i 2=1→nB md ops L i wt (d.setIfInBounds j true):=fun h=>(B h).set ((B h).not_ready (aA h) r S);have N:=ready_mono M (Ne.symm g);obtain ⟨p1,p2,p3⟩:=Oper.apart_spec U;have O:=fun cs b=>G i l cs b hi;have R:=fun cs b=>G j n cs b A;have x:∀ (a:Act),(L.getD i 2=0→Yields P ops l v a)→∀ u,(L.getD i 2=0→Yields P ops l v (a.put n.dst u)):=fun a D u h=>
    (D h).of_same (execOp_put l O a n.dst u p3) (wanted_put l a n.dst u p3)
   have y:∀ (a:Act),(L.getD i 2=1→YieldsIn P ops C l v a)→∀ u,(L.getD i 2=1→YieldsIn P ops C l v (a.put n.dst u)):=fun a D u h=>
    (D h).of_same (execOp_put l O a n.dst u p3) (wanted_put l a n.dst u p3)
   unfold IT at F ⊢;simp only [A] at F ⊢;split
   ·rename_i J;simp only [J] at F;obtain ⟨u,D,hK⟩:=F;refine ⟨u,D.of_same (execOp_put n R a l.dst v p1).symm (wanted_put n a l.dst v p1).symm,ih _ _ _ m t N (x a E u) (y a z u) ?_⟩;rw [Array.setIfInBounds_comm _ _ g,←Act.put_comm a v u p2];exact hK
   ·rename_i J;simp only [J] at F;obtain ⟨u,D,hK⟩:=F;refine ⟨u,D.of_same (execOp_put n R a l.dst v p1).symm (wanted_put n a l.dst v p1).symm,ih _ _ _ m t N (x a E u) (y a z u) ?_⟩;rw [Array.setIfInBounds_comm _ _ g,←Act.put_comm a v u p2];exact hK
   ·rename_i V W;rcases p with p|p
    ·split at F
     ·exact absurd (by assumption) V
     ·exact absurd (by assumption) W
     ·intro w hw;have h2:=wpOp_put A U O R hQ (E p) (F w hw);refine wpOp_mono (fun a' w' h3=>?_) h2;obtain ⟨D,C',aC,hK⟩:=h3;refine ⟨C',aC,ih _ _ _ m t N (fun _=>D) (fun h=>by rw [p] at h;cases h) ?_⟩;rw [Array.setIfInBounds_comm _ _ g];exact hK
    ·have h2:=(B p).not_ready (aA p) r S;rw [(B p).cov j g s (by
      rcases Nat.lt_or_ge (L.getD j 2) 2 with hl|hl
      ·have:L.getD j 2=0∨L.getD j 2=1:=by omega
       rcases this with h|h
       ·exact absurd h V
       ·exact absurd h W
      ·exact hl)] at h2
     cases h2
def lE (md:Region.Mode) (ops:Array Oper) (i:Nat):Array Bool:=
 ops.foldl (fun acc o=>acc.push (o.after.any fun e=>Region.binds md e&&(e.on==i||acc.getD e.on false))) #[]
def FT (md:Region.Mode) (ops:Array Oper) (L:List Nat) (a:Array Bool) (i:Nat):Bool:=
 let wt:=lE md ops i
 decide (wt.size=ops.size)&&(List.range ops.size).all fun j=>
  (j==i||a.getD j true||decide (L.getD j 2<2)||wt.getD j false) &&
  (!wt.getD j false||(!a.getD j false&&match ops[j]? with
   | some oj=>oj.after.any fun e=>Region.binds md e&&(e.on==i||wt.getD e.on false)
   | none=>false))
theorem C7 {a:Array Bool} {i:Nat} (r:a.size=ops.size) (h:FT md ops L a i=true):mF md ops i (fun j=>(lE md ops i).getD j false)∧nB md ops L i (fun j=>(lE md ops i).getD j false) a:=by
 simp only [FT,Bool.and_eq_true,decide_eq_true_eq,List.all_eq_true,List.mem_range] at h;obtain ⟨q,h⟩:=h;have f:∀ j,(lE md ops i).getD j false=true→j<ops.size:=fun j c=>by
  rcases Nat.lt_or_ge j (lE md ops i).size with h'|h'
  ·omega
  ·simp [Array.getElem?_eq_none h'] at c
 refine ⟨fun j c=>?_,fun j c=>?_,fun j l d p=>?_⟩
 ·have b:=(h j (f j c)).2;simp only [c,Bool.not_true,Bool.false_or,Bool.and_eq_true] at b;have g:=b.2;split at g
  ·rename_i o m;obtain ⟨e,n,k⟩:=Array.any_eq_true'.1 g;simp only [Bool.and_eq_true,Bool.or_eq_true,beq_iff_eq] at k;exact ⟨o,m,e,n,k.1,k.2⟩
  ·cases g
 ·have b:=(h j (f j c)).2;simp only [c,Bool.not_true,Bool.false_or,Bool.and_eq_true,Bool.not_eq_true'] at b;exact b.1
 ·have c:j<ops.size:=by
   rcases Nat.lt_or_ge j a.size with h'|h'
   ·omega
   ·simp [Array.getElem?_eq_none h'] at d
  have b:=(h j c).1;simp only [Bool.or_eq_true,beq_iff_eq,l,d,decide_eq_true_eq] at b;rcases b with ((b|b)|b)|b
  ·exact b.elim
  ·cases b
  ·omega
  ·exact b
def uC (md:Region.Mode) (ops:Array Oper) (L:List Nat):List Nat→Array Bool→Bool
 | [],listed=>(Region.ready md ops listed).isEmpty
 | k::π,listed=>(Region.ready md ops listed).contains k&&(match L.getD k 2 with
   | 0=>Region.free md ops listed k
   | 1=>Region.free md ops listed k&&FT md ops L listed k
   | _=>Region.ready md ops listed==[k])&&uC md ops L π (listed.setIfInBounds k true)
def rK (P:Program) (ops:Array Oper) (L:List Nat) (Q:Exit→Act→World→Prop):List Nat→Act→(World→Prop)→Prop
 | [],a,C=>∀ w,C w→Q .normal a w
 | k::π,a,C=>IT P ops L Q k (rK P ops L Q π) a C
theorem z7 {Q:Exit→Act→World→Prop} (s:Region.noSelect ops=true) (r:∀ c a w,¬ Q (.panic c) a w):∀ (π:List Nat) (b:Array Bool) (a:Act) (C:World→Prop),b.size=ops.size →
  uC md ops L π b=true→rK P ops L Q π a C→oX P md ops L Q π.length b a C
 | [],_,_,_,_,n,h=>⟨by simpa [uC] using n,h⟩
 | k::π,b,a,C,z,n,h=>by
  simp only [uC,Bool.and_eq_true] at n;obtain ⟨⟨F,g⟩,q⟩:=n;have l:k∈Region.ready md ops b:=by simpa using F
  have u:(b.setIfInBounds k true).size=ops.size:=by simpa using z
  have m:=fun B A=>z7 s r π (b.setIfInBounds k true) B A u q;have x:IT P ops L Q k (oX P md ops L Q π.length (b.setIfInBounds k true)) a C:=M2 m h;have j:=x;unfold IT at j;split at j
  ·exact j.elim
  ·rename_i o p;split at j
   ·rename_i e;simp only [e] at g;obtain ⟨v,t,hK⟩:=j
    exact sQ p (Region.noSelect_spec s) (fun c a w d=>(r _ _ _ d).elim) (fun _=>false) (fun d=>by rw [e] at d;cases d) (.inl e) _ _ _ _ (Region.free_spec p g)
     (fun d=>by rw [e] at d;cases d) l (fun _=>t) (fun d=>by rw [e] at d;cases d) hK
   ·rename_i e;simp only [e,Bool.and_eq_true] at g;obtain ⟨v,t,hK⟩:=j;obtain ⟨w1,G⟩:=C7 z g.2
    exact sQ p (Region.noSelect_spec s) (fun c a w d=>(r _ _ _ d).elim) _ (fun _=>w1) (.inr e) _ _ _ _ (Region.free_spec p g.1)
     (fun _=>G) l (fun d=>by rw [e] at d;cases d) (fun _=>t) hK
   ·rename_i D E;have f:Region.ready md ops b=[k]:=by
     split at g
     ·exact absurd (by assumption) D
     ·exact absurd (by assumption) E
     ·simpa using g
    refine ⟨fun d=>(by rw [f] at d;cases d),fun i y=>?_⟩;rw [f] at y;have:i=k:=by simpa using y
    subst this;exact x
theorem BM {k:Nat} {Q:Exit→Act→World→Prop} {a:Act} {w:World} {l:List Oper} (L π:List Nat) (g:P.follows .mixedOrders=true)
  (b:(Region.noSelect l.toArray&&uC .any l.toArray L π (Array.replicate l.length false)&&π.length==l.length)=true)
  (h:rK P l.toArray L (NoPanic Q) π a (fun w'=>∃ n,w'=w.drewN n)):(Code.region k l.toArray true).wp P Q a w:=by
 simp only [Bool.and_eq_true,beq_iff_eq] at b;obtain ⟨⟨j,i⟩,f⟩:=b;refine wp_region_noPanic (wp_region_any g ?_);have:=z7 (md:=.any) j (fun c a w e=>e) π (Array.replicate l.length false) a _ (by simp) i h;rw [f] at this;have d:=oY (md:=.any) _ _ _ _ { w with drawn:=w.drawn+1 } ⟨1,rfl⟩ this;simpa using d
theorem M3 {Q:Exit→Act→World→Prop} {a:Act} {w:World} (h:∀ n,Q .normal a (w.drewN n)):rK P ops L (NoPanic Q) [] a (fun w'=>∃ n,w'=w.drewN n):=by
 rintro _ ⟨n,rfl⟩;exact NoPanic.normal (h n)
theorem J4 {Q:Exit→Act→World→Prop} {a:Act} {C:World→Prop} {k:Nat} {π:List Nat} {o:Oper} (i:ops[k]?=some o) (g:L.getD k 2=0)
  (h:∀ K:Act→Prop,(∀ a,rK P ops L Q π a C→K a)→if Region.wanted o (yielded ops a.tmps) then FS P o a K else K (a.put o.dst undef)):rK P ops L Q (k::π) a C:=by
 have:=h (fun d=>rK P ops L Q π d C) (fun _ h=>h);simp only [rK,IT,i,g];split at this
 ·rename_i c;obtain ⟨v,e,f⟩:=this;refine ⟨v,.inl ⟨c,fun w=>?_⟩,f⟩;have b:=e w;unfold sD at b;generalize (execOp a.eval o).run P w=r at *;cases r with
  | ok n w'=>cases n<;>simp only [lH] at b;rw [b.1,b.2]
  | halt x w'=>simp only [lH] at b
 ·rename_i c;exact ⟨undef,.inr ⟨by simpa using c,rfl⟩,this⟩
theorem FU {Q:Exit→Act→World→Prop} {a:Act} {C:World→Prop} {k:Nat} {π:List Nat} {o:Oper} (g:ops[k]?=some o) (f:L.getD k 2=1)
  (h:∀ K:Act→Prop,(∀ a,rK P ops L Q π a C→K a)→if Region.wanted o (yielded ops a.tmps) then o.quiet P a C K else K (a.put o.dst undef)):rK P ops L Q (k::π) a C:=by
 have:=h (fun c=>rK P ops L Q π c C) (fun _ h=>h);simp only [rK,IT,g,f];split at this
 ·rename_i b;obtain ⟨v,d,e⟩:=this;exact ⟨v,.inl ⟨b,d⟩,e⟩
 ·rename_i b;exact ⟨undef,.inr ⟨by simpa using b,rfl⟩,this⟩
theorem bN {Q:Exit→Act→World→Prop} {a:Act} {w:World} {k:Nat} {π:List Nat} {o:Oper} (d:ops[k]?=some o) (g:L.getD k 2=2)
  (h:∀ (n:Nat) (K:Act→World→Prop),Shut (∀ c w',rK P ops L Q π c (fun b=>∃ n,b=w'.drewN n)→K c w')→if Region.wanted o (yielded ops a.tmps)=true then Oper.wp P o a (w.drewN n) K Q else K (a.put o.dst undef) (w.drewN n)) :
  rK P ops L Q (k::π) a (fun w'=>∃ n,w'=w.drewN n):=by
 simp only [rK,IT,d,g];rintro _ ⟨n,rfl⟩;refine wpOp_mono (fun c w' f=>⟨fun b=>∃ n,b=w'.drewN n,⟨0,rfl⟩,f⟩) (wpOp_step d fun e hK=>h n e hK)
end
theorem lI {P:Program} {b:Nat} {Q:Exit→Act→World→Prop} {a:Act} {w:World} {l:List Oper} (L π:List Nat) (h:rK P l.toArray L (NoPanic Q) π a (fun w'=>∃ n,w'=w.drewN n)) (H:P.follows .mixedOrders=true ∧ (Region.noSelect l.toArray&&uC .any l.toArray L π (Array.replicate l.length false)&&π.length==l.length)=true:=by exact ⟨by kernel_rfl,by kernel_rfl⟩):(Code.region b l.toArray true).wp P Q a w:=BM L π H.1 H.2 h
theorem vP {p q:Prop} (h:q) (H:Ar p q:=by constructor;intro hEnd;replace hEnd:=Lib.hid hEnd;(repeat (first|(with_reducible refine M3 (fun nz=>?_))|((with_reducible refine J4 rfl rfl (fun K hK=>?_));go_simp;refine hK _ ?_;clear hK K)|((with_reducible refine FU rfl rfl (fun K hK=>?_));go_simp;refine hK _ ?_;clear hK K)|((with_reducible refine bN rfl rfl (fun nz K hK=>?_));go_simp;refine hK.out _ _ ?_;clear hK K)));(repeat revert nz);exact hEnd.out):p:=H.of h
theorem jO (o:cP) (q:Option UInt8) (b:Bool) (b0 b1:UInt8) (a:Bs) :
  bD o q b [] b0 b1 a=if b then .error (bW o.fails) else if bI a then .ok (a,[]) else .error .syn:=by
 rw [bD]
theorem qY (o:cP) (b:Bool) (r:Bs) (a:Bs) :
  bD o none b (62::r) 93 93 a=if b then (if bI (a.take (a.length-2)) then .ok (a.take (a.length-2),r) else .error .syn) else .error .syn:=by
 rw [bD];simp
theorem xH (o:cP) (q:Option UInt8) (r:Bs) (b0 b1:UInt8) (a:Bs) :
  bD o q false (60::r) b0 b1 a=if q=none then (if bI a then .ok (a,60::r) else .error .syn) else .error .syn:=by
 rw [bD];simp
theorem vA (o:cP) (c:Bool) (b:UInt8) (r:Bs) (b0 b1:UInt8) (a:Bs) (h:¬ (b=60∧c=false)) :
  bD o (some b) c (b::r) b0 b1 a=if bI a then .ok (a,r) else .error .syn:=by
 rw [bD,aM (by simp),aM h,aT rfl]
def fK (b b1:UInt8) (a:Bs):Bs:=if b=13 then a++[10] else if b1=13∧b=10 then a else a++[b]
theorem cJ (o:cP) (q:Option UInt8) (c:Bool) (b:UInt8) (r:Bs) (b0 b1:UInt8) (a:Bs) (d:¬ (q=none∧b0=93∧b1=93∧b=62)) (e:¬ (b=60∧c=false)) (f:q≠some b) (g:¬ (b=38∧c=false)) :
  bD o q c (b::r) b0 b1 a=bD o q c r b1 b (fK b b1 a):=by
 rw [bD,aM d,aM e,aM f,aM g];rfl
theorem uD (o:cP) (q:Option UInt8) (r:Bs) (b0 b1:UInt8) (a:Bs) (h:q≠some 38) :
  bD o q false (38::r) b0 b1 a=match gR o.fails o.ents r with
   | .error e=>.error e
   | .ok (_,some t,r')=>bD o q false r' 0 0 (a++t)
   | .ok (raw,none,r')=>if o.strict then .error .syn else bD o q false r' 0 0 (a++raw):=by
 rw [bD,aM (by simp),aM (by simp),aM h,aT (by simp)];split<;>rename_i b<;>rw [b]
inductive SV where
 | bad|opn
 deriving DecidableEq,Repr,Inhabited
def aI (l:Bs):Nat×Nat:=if (dF l).1=65533∧(dF l).2=1 then (0,0) else dF l
def rL (r:Nat):Bool:=(97≤r&&r≤122)||(65≤r&&r≤90)||r==95||r==58||(192≤r&&r≤255&&r != 215&&r != 247)
def lJ (r:Nat):Bool:=rL r||(48≤r&&r≤57)||r==45||r==46||r==183
def hH:Nat→Bool→Nat→Bs→Nat
 | 0,_,k,_=>k
 | n+1,first,k,l=>
  if l=[] then k
  else if (aI l).2=0∨(128≤(aI l).1∧lJ (aI l).1=false) then 2
  else if lJ (aI l).1=false∨(first=true∧rL (aI l).1=false) then hH n false 1 (l.drop (aI l).2)
  else hH n false k (l.drop (aI l).2)
def bH (l:Bs):Nat:=hH l.length true (if l=[] then 1 else 0) l
def eL (l:Bs):Bool:=!l.contains 58&&bH l==0
def jH (l:Bs):Option (Bs×Bs):=
 match l.dropWhile (· != 58) with
 | []=>some ([],l)
 | _::loc=>if loc.contains 58 then none else if l.takeWhile (· != 58)=[]∨loc=[] then none else some (l.takeWhile (· != 58),loc)
def fP (rest:Bs):Except SV ((Bs×Bs)×Bs):=
 if bH (aD rest).1=1 then .error .bad
 else if bH (aD rest).1=2 then .error .opn
 else match jH (aD rest).1 with
  | none=>.error .opn
  | some (p,l)=>if eL l=false∨(p≠[]∧eL p=false) then .error .opn else .ok ((p,l),(aD rest).2)
def bQ (a:Bool):Int→Bs→Option Int
 | n,[]=>some n
 | n,b::r=>
  if eW a b then
   let m:=if 0≤n then n*(if a then 16 else 10)+dW b else n
   bQ a (if 1114111<m then -1 else m) r
  else none
def iE (s:Bs):Option Int:=
 match s with
 | []=>none
 | b::t=>if b=120 then (if t=[] then none else bQ true 0 t) else bQ false 0 (b::t)
abbrev aN:=List (Bs×Bs)
def oF:aN:=[([108,116],[60]),([103,116],[62]),([97,109,112],[38]),([97,112,111,115],[39]),([113,117,111,116],[34])]
def eJ (l:aN) (k:Bs):Option Bs:=(l.find? (·.1==k)).map (·.2)
def jB (n:Int):Bool:=0≤n&&bY n.toNat
def jI (ents:aN) (rest:Bs):Except SV (Bs×Bs):=
 match iG 59 rest with
 | none=>.error .bad
 | some []=>.error .bad
 | some (c::t)=>
  if c=35 then
   match iE t with
   | none=>.error .bad
   | some n=>if jB n then .ok (gH n.toNat,rest.drop (t.length+2)) else .error .opn
  else if bH (c::t)=2 then .error .opn
  else if bH (c::t)=1 then .error .bad
  else match eJ (oF++ents) (c::t) with
   | some x=>.ok (x,rest.drop (t.length+2))
   | none=>.error .bad
def fN (ents:aN) (rest:Bs):Except SV (Bs×Bs):=
 match rest with
 | []=>.error .bad
 | b::r=>
  if b=38 then
   match jI ents r with
   | .error e=>.error e
   | .ok (t,r2)=>if bI t then .ok (t,r2) else .error .opn
  else if (aI (b::r)).2=0∨bY (aI (b::r)).1=false then .error .bad
  else .ok ((b::r).take (aI (b::r)).2,(b::r).drop (aI (b::r)).2)
def nR:Bs:=[93,93,62]
def dU (ents:aN):Nat→Bs→Bs→Except SV (Bs×Bs)
 | 0,_,_=>.error .opn
 | k+1,rest,out=>
  match rest with
  | []=>.ok (out,[])
  | b::r=>
   if b=60 then .ok (out,b::r)
   else if nR.isPrefixOf (b::r) then .error .bad
   else if b=13 then (match r with
    | []=>dU ents k [] (out++[10])
    | c::r2=>if c=10 then dU ents k r2 (out++[10]) else dU ents k (c::r2) (out++[10]))
   else match fN ents (b::r) with
    | .error e=>.error e
    | .ok (t,r2)=>dU ents k r2 (out++t)
def eP:Nat→Bs→Bs→Except SV (Bs×Bs)
 | 0,_,_=>.error .opn
 | k+1,rest,out=>
  match rest with
  | []=>.error .bad
  | b::r=>
   if nR.isPrefixOf (b::r) then .ok (out,r.drop 2)
   else if b=13 then (match r with
    | []=>eP k [] (out++[10])
    | c::r2=>if c=10 then eP k r2 (out++[10]) else eP k (c::r2) (out++[10]))
   else if (aI (b::r)).2=0∨bY (aI (b::r)).1=false then .error .bad
   else eP k ((b::r).drop (aI (b::r)).2) (out++(b::r).take (aI (b::r)).2)
def lK (s:Bs):Bool:=!s.contains 13&&bI s
def dM (p:Bs):Bs→Option (Bs×Bs)
 | []=>none
 | b::r=>if p.isPrefixOf (b::r) then some ([],(b::r).drop p.length) else (dM p r).map fun x=>(b::x.1,x.2)
def dJ (rest:Bs):Except SV (Bs×Bs):=
 match dM [45,45] rest with
 | none=>.error .bad
 | some (s,r)=>
  match r with
  | []=>.error .bad
  | c::r2=>if c=62 then (if lK s then .ok (s,r2) else .error .opn) else .error .bad
def wF (s:Bs):Bool:=(s.take 3).map eQ==[120,109,108]
def kA:List Bs:=
 let v1:Bs:=[118,101,114,115,105,111,110,61,34,49,46,48,34]
 let v2:Bs:=[118,101,114,115,105,111,110,61,39,49,46,48,39]
 let e:List Bs:=[[],[32,101,110,99,111,100,105,110,103,61,34,85,84,70,45,56,34],[32,101,110,99,111,100,105,110,103,61,39,117,116,102,45,56,39]]
 let s:List Bs:=[[],[32,115,116,97,110,100,97,108,111,110,101,61,34,121,101,115,34],[32,115,116,97,110,100,97,108,111,110,101,61,39,110,111,39]]
 e.flatMap fun a=>s.flatMap fun b=>[v1++a++b,v2++a++b]
def fL (first:Bool) (rest:Bs):Except SV ((Bs×Bs)×Bs):=
 if bH (aD rest).1=1 then .error .bad
 else if eL (aD rest).1=false then .error .opn
 else
  match dM [63,62] (aQ (aD rest).2) with
  | none=>.error .bad
  | some (s,r)=>
   if lK s=false∨(s≠[]∧(aQ (aD rest).2).length=(aD rest).2.length)∨(wF (aD rest).1=true∧¬ (first=true∧(aD rest).1=mM∧kA.contains s=true)) then .error .opn
   else .ok (((aD rest).1,s),r)
def lX:Bs→Option Bs
 | []=>none
 | b::r=>if b=62 then some r else if b=60∨b=91∨b=34∨b=39 then none else lX r
def oZ (rest:Bs):Except SV (Bs×Bs):=
 if (aQ rest).length=rest.length∨eL (aD (aQ rest)).1=false then .error .opn
 else match lX (aD (aQ rest)).2 with
  | none=>.error .opn
  | some r=>if lK (rest.take (rest.length-r.length-1)) then .ok (rest.take (rest.length-r.length-1),r) else .error .opn
def pS (ents:aN) (q:UInt8):Nat→Bs→Bs→Except SV (Bs×Bs)
 | 0,_,_=>.error .opn
 | k+1,rest,out=>
  match rest with
  | []=>.error .bad
  | b::r=>
   if b=q then .ok (out,r)
   else if b=60 then .error .bad
   else if b≠32∧lR b=true then .error .opn
   else match fN ents (b::r) with
    | .error e=>.error e
    | .ok (t,r2)=>pS ents q k r2 (out++t)
def eH (ents:aN) (rest:Bs):Except SV (cV×Bs):=
 match fP rest with
 | .error e=>.error e
 | .ok (nm,r)=>
  match aQ r with
  | []=>.error .bad
  | b::r2=>
   if b=61 then
    match aQ r2 with
    | []=>.error .bad
    | q::r3=>
     if q=34∨q=39 then
      match pS ents q (r3.length+1) r3 [] with
      | .error e=>.error e
      | .ok (v,r4)=>.ok ((nm.1,nm.2,v),r4)
     else .error .bad
   else .error .bad
def dD (ents:aN):Nat→Bs→List cV→Except SV (List cV×Bool×Bs)
 | 0,_,_=>.error .opn
 | k+1,rest,acc=>
  match aQ rest with
  | []=>.error .bad
  | b::r=>
   if b=62 then .ok (acc,false,r)
   else if b=47 then (match r with
    | []=>.error .bad
    | c::r2=>if c=62 then .ok (acc,true,r2) else .error .bad)
   else match eH ents (b::r) with
    | .error e=>.error e
    | .ok (a,r2)=>
     if (aQ rest).length=rest.length then .error .opn
     else if acc.any (fun x=>x.1==a.1&&x.2.1==a.2.1) then .error .opn
     else dD ents k r2 (acc++[a])
def oG:Bs:=[104,116,116,112,58,47,47,119,119,119,46,119,51,46,111,114,103,47,50,48,48,48,47,120,109,108,110,115,47]
def iV:List aN→Bs→Option Bs
 | [],_=>none
 | l::bs,p=>match eJ l p with
  | some v=>some v
  | none=>iV bs p
def cE (a:Bs) (bound:List aN) (p:Bs) (b:Bool):Bs:=
 if (p=[]∧b=false)∨p=bE then p
 else if p=mM then dQ
 else match iV bound p with
  | some v=>v
  | none=>if p=[] then a else p
def eK:List cV→Except SV aN
 | []=>.ok []
 | (sp,loc,v)::l=>
  if sp≠bE∧(sp≠[]∨loc≠bE) then eK l
  else
   let name:=if sp=bE then loc else []
   if name=mM∨name=bE∨(name≠[]∧v=[])∨v=dQ∨v=oG then .error .opn
   else match eK l with
    | .error e=>.error e
    | .ok x=>.ok ((name,v)::x)
def gE (a:Bs) (bound:List aN):List cV→List cV→Except SV (List cV)
 | acc,[]=>.ok acc
 | acc,(sp,loc,v)::l=>
  if acc.any (fun x=>x.1==cE a bound sp false&&x.2.1==loc) then .error .opn
  else gE a bound (acc++[(cE a bound sp false,loc,v)]) l
structure gS where
 rest:Bs
 opens:List Bs
 bound:List aN
def dK (nm:Bs×Bs):Bs:=nm.1++58::nm.2
def eR (b:Bool) (a:Bs) (s:gS) (nm:Bs×Bs):Except SV (aU×gS):=
 if b then .ok (.fin nm,s)
 else match s.opens with
  | []=>.error .bad
  | x::l=>if x=dK nm then .ok (.fin (cE a s.bound nm.1 true,nm.2),{ s with opens:=l,bound:=s.bound.tail }) else .error .bad
def mO (c:Bool) (a:Bs) (s:gS) (nm:Bs×Bs) (b:List cV):Except SV (aU×gS):=
 if c then .ok (.start nm b,s)
 else if nm=([],bE) then .error .opn
 else match eK b with
  | .error e=>.error e
  | .ok l=>
   match gE a (l::s.bound) [] b with
   | .error e=>.error e
   | .ok x=>if nm.1=bE then .error .opn else .ok (.start (cE a (l::s.bound) nm.1 true,nm.2) x,{ s with opens:=dK nm::s.opens,bound:=l::s.bound })
structure lT where
 raw:Bool
 ents:aN
 space:Bs
def rM:Bs:=[68,79,67,84,89,80,69]
def BN:Bs:=[91,67,68,65,84,65,91]
def lY (r:Bs):Except SV (aU×Bs):=
 if [45,45].isPrefixOf r then (match dJ (r.drop 2) with
  | .error e=>.error e
  | .ok (d,r2)=>.ok (.comment d,r2))
 else if BN.isPrefixOf r then (match eP (r.length+1) (r.drop 7) [] with
  | .error e=>.error e
  | .ok (d,r2)=>.ok (.text d,r2))
 else if rM.isPrefixOf r then (match oZ (r.drop 7) with
  | .error e=>.error e
  | .ok (d,r2)=>.ok (.dir (rM++d),r2))
 else match r with
  | []=>.error .bad
  | b::_=>if b=45∨b=91 then .error .bad else .error .opn
def nS (rest:Bs):Except SV ((Bs×Bs)×Bs):=
 match fP rest with
 | .error e=>.error e
 | .ok (nm,r)=>
  match aQ r with
  | []=>.error .bad
  | b::r2=>if b=62 then .ok (nm,r2) else .error .bad
def fA (ents:aN) (rest:Bs):Except SV ((Bs×Bs)×List cV×Bool×Bs):=
 match fP rest with
 | .error e=>.error e
 | .ok (nm,r)=>
  match dD ents (r.length+1) r [] with
  | .error e=>.error e
  | .ok (ats,em,r2)=>.ok (nm,ats,em,r2)
def kB (ents:aN) (first:Bool) (rest:Bs):Except SV (aU×Bool×Bs):=
 match rest with
 | []=>.error .opn
 | b::r=>
  if b≠60 then (match dU ents ((b::r).length+1) (b::r) [] with
   | .error e=>.error e
   | .ok (d,r2)=>.ok (.text d,false,r2))
  else match r with
   | []=>.error .bad
   | c::r2=>
    if c=47 then (match nS r2 with
     | .error e=>.error e
     | .ok (nm,r3)=>.ok (.fin nm,false,r3))
    else if c=63 then (match fL first r2 with
     | .error e=>.error e
     | .ok (x,r3)=>.ok (.proc x.1 x.2,false,r3))
    else if c=33 then (match lY r2 with
     | .error e=>.error e
     | .ok (t,r3)=>.ok (t,false,r3))
    else match fA ents (c::r2) with
     | .error e=>.error e
     | .ok (nm,ats,em,r3)=>.ok (.start nm ats,em,r3)
def kC (o:lT) (s:gS) (t:aU) (em:Bool):Except SV (List aU×gS):=
 match t with
 | .start nm ats=>
  match mO o.raw o.space s nm ats with
  | .error e=>.error e
  | .ok (t,s2)=>
   if em then (match eR o.raw o.space s2 nm with
    | .error e=>.error e
    | .ok (t2,s3)=>.ok ([t,t2],s3))
   else .ok ([t],s2)
 | .fin nm=>
  match eR o.raw o.space s nm with
  | .error e=>.error e
  | .ok (t,s2)=>.ok ([t],s2)
 | t=>.ok ([t],s)
def iW (o:lT) (first:Bool) (s:gS):Except SV (List aU×gS):=
 match kB o.ents first s.rest with
 | .error e=>.error e
 | .ok (t,em,r)=>kC o { s with rest:=r } t em
def lZ (o:lT) (T:Bs):Nat→gS→List (aU×Nat)→List (aU×Nat)×Option SV
 | 0,_,out=>(out,some .opn)
 | k+1,s,out=>
  if s.rest=[] then (out,if s.opens=[] then none else some .bad)
  else match iW o (s.rest.length==T.length) s with
   | .error e=>(out,some e)
   | .ok (ts,s2)=>lZ o T k s2 (out++ts.map fun t=>(t,T.length-s2.rest.length))
def fM (o:lT) (T:Bs):List (aU×Nat)×Option SV:=lZ o T (T.length+1) ⟨T,[],[]⟩ []
theorem IU (l:Bs) (k:Nat):(⟨l.toArray⟩:ByteArray).get! k=l.getD k 0:=by
 show l.toArray[k]! = _;by_cases h:k<l.length
 ·simp [h]
 ·simp [h];rfl
theorem C8 (l:Bs) (h:1≤l.length):dF l=Lib.decodeN l.length (l.getD 0 0).toNat (l.getD 1 0).toNat (l.getD 2 0).toNat (l.getD 3 0).toNat:=by
 have a:(⟨l.toArray⟩:ByteArray).size=l.length:=by simp [ByteArray.size]
 unfold dF Lib.decodeGoB;rw [aM (by omega),Lib.decode_at,IU,IU,IU,IU,a];rfl
def fZ (c:UInt8):Bool:=c.toNat / 64==2
theorem M4 (b:UInt8) (r:Bs):dF (b::r)=dF (b::r.takeWhile fZ):=by
 rw [C8 _ (by simp),C8 _ (by simp)];have q:=b.toNat_lt
 match r with
 | []=>rfl
 | c::r1=>
  have s:=c.toNat_lt;by_cases a:fZ c=true
  ·rw [List.takeWhile_cons_of_pos a]
   match r1 with
   | []=>rfl
   | d::r2=>
    have t:=d.toNat_lt;by_cases g:fZ d=true
    ·rw [List.takeWhile_cons_of_pos g]
     match r2 with
     | []=>rfl
     | e::r3=>
      have u:=e.toNat_lt;by_cases i:fZ e=true
      ·rw [List.takeWhile_cons_of_pos i];simp only [gF,List.getD_cons_zero,List.getD_cons_succ];unfold Lib.decodeN;have k:(1<r3.length+1+1+1+1)=True:=by simp
       have l:(2<r3.length+1+1+1+1)=True:=by simp
       have m:(3<r3.length+1+1+1+1)=True:=by simp
       have n:(1<(r3.takeWhile fZ).length+1+1+1+1)=True:=by simp
       have o:(2<(r3.takeWhile fZ).length+1+1+1+1)=True:=by simp
       have p:(3<(r3.takeWhile fZ).length+1+1+1+1)=True:=by simp
       simp only [k,l,m,n,o,p]
      ·have j:¬ e.toNat / 64=2:=by simpa [fZ] using i
       rw [List.takeWhile_cons_of_neg i];simp only [gF,List.length_nil,List.getD_cons_zero,List.getD_cons_succ,List.getD_nil];unfold Lib.decodeN;simp [j]
    ·have h:¬ d.toNat / 64=2:=by simpa [fZ] using g
     rw [List.takeWhile_cons_of_neg g];simp only [gF,List.length_nil,List.getD_cons_zero,List.getD_cons_succ,List.getD_nil];unfold Lib.decodeN;simp [h]
  ·have f:¬ c.toNat / 64=2:=by simpa [fZ] using a
   rw [List.takeWhile_cons_of_neg a];simp only [gF,List.length_nil,List.getD_cons_zero,List.getD_cons_succ,List.getD_nil];unfold Lib.decodeN;simp [f]
theorem C9 (b:UInt8) (r:Bs):aI (b::r)=aI (b::r.takeWhile fZ):=by unfold aI;rw [←M4]
theorem kD {b:UInt8} (h:b.toNat<128) (r:Bs):aI (b::r)=(b.toNat,1):=by
 unfold aI;rw [C8 _ (by simp)];have:Lib.decodeN (b::r).length ((b::r).getD 0 0).toNat ((b::r).getD 1 0).toNat ((b::r).getD 2 0).toNat ((b::r).getD 3 0).toNat=(b.toNat,1):=by
  unfold Lib.decodeN;rw [List.getD_cons_zero,aT h]
 rw [this,aM];simp only;omega
theorem J6 (n a b c d:Nat) (h:128≤a) (e:b<256) (f:c<256) (g:d<256):Lib.decodeN n a b c d=(65533,1)∨∃ x k,Lib.decodeN n a b c d=(x,k)∧128≤x∧2≤k∧k≤n∧k≤4∧(1<k→b / 64=2)∧(2<k→c / 64=2)∧(3<k→d / 64=2):=by
 unfold Lib.decodeN;rw [aM (by omega)];repeat' split
 all_goals first
  | exact aG rfl
  | exact aX ⟨_,_,rfl,by omega,by omega,by omega,by omega,by omega,by omega,by omega⟩
theorem oH {b:UInt8} (h:128≤b.toNat) (r:Bs):aI (b::r)=(0,0)∨∃ x k,aI (b::r)=(x,k+1)∧128≤x∧1≤k∧k≤3∧k≤r.length∧∀ c∈r.take k,fZ c=true:=by
 have g:=((b::r).getD 1 0).toNat_lt;have l:=((b::r).getD 2 0).toNat_lt;have m:=((b::r).getD 3 0).toNat_lt;rcases J6 (b::r).length b.toNat ((b::r).getD 1 0).toNat ((b::r).getD 2 0).toNat ((b::r).getD 3 0).toNat h g l m with e|⟨x,k,e,q1,q2,q3,q4,q5,q6,q7⟩
 ·left;unfold aI;rw [C8 _ (by simp),List.getD_cons_zero,e];rfl
 ·right;refine ⟨x,k-1,?_,q1,by omega,by omega,by simp at q3;omega,?_⟩
  ·unfold aI;rw [C8 _ (by simp),List.getD_cons_zero,e,aM (by simp;omega),show k-1+1=k by omega]
  ·intro c n;obtain ⟨i,o,rfl⟩:=List.getElem_of_mem n;rw [rJ] at o;rw [List.getElem_take];have d:∀ j (f:j<r.length),(b::r).getD (j+1) 0=r[j]:=fun j f=>by simp [rI,f]
   unfold fZ;have a:i<r.length:=by omega
   have:i=0∨i=1∨i=2:=by omega
   rcases this with rfl|rfl|rfl
   ·rw [←d 0 a];simpa using q5 (by omega)
   ·rw [←d 1 a];simpa using q6 (by omega)
   ·rw [←d 2 a];simpa using q7 (by omega)
theorem J7 (n a b c d x k:Nat) (t:128≤a) (h:Lib.decodeN n a b c d=(x,k)) (u:2≤k) (i m o p:Nat) (j:1<k→1<i∧m=b) (q:2<k→2<i∧o=c) (r:3<k→3<i∧p=d):Lib.decodeN i a m o p=(x,k):=by
 unfold Lib.decodeN at h ⊢;rw [aM (by omega)] at h ⊢;split at h
 ·rename_i g;split at h
  ·rename_i e;simp only [bP] at h;obtain ⟨rfl,rfl⟩:=h;obtain ⟨f,rfl⟩:=j (by omega);rw [aT ⟨g.1,f,g.2.2⟩,aT e]
  ·simp only [bP] at h;omega
 ·split at h
  ·rename_i g0 g;split at h
   ·rename_i e;simp only [bP] at h;obtain ⟨rfl,rfl⟩:=h;obtain ⟨f,rfl⟩:=j (by omega);obtain ⟨l,rfl⟩:=q (by omega);rw [aM (by omega),aT ⟨g.1,⟨f,g.2.1.2⟩,⟨l,g.2.2.2⟩⟩,aT e]
   ·simp only [bP] at h;omega
  ·split at h
   ·rename_i g0 g1 g;split at h
    ·rename_i e;simp only [bP] at h;obtain ⟨rfl,rfl⟩:=h;obtain ⟨f,rfl⟩:=j (by omega);obtain ⟨l,rfl⟩:=q (by omega);obtain ⟨s,rfl⟩:=r (by omega);rw [aM (by omega),aM (by omega),aT ⟨g.1,⟨f,g.2.1.2⟩,⟨l,g.2.2.1.2⟩,⟨s,g.2.2.2.2⟩⟩,aT e]
    ·simp only [bP] at h;omega
   ·simp only [bP] at h;omega
theorem DA (l y:Bs) {i:Nat} (h:i<l.length):(l++y).getD i 0=l.getD i 0:=by
 simp [rI,List.getElem?_append_left h]
theorem z8 {b:UInt8} (h:128≤b.toNat) {r:Bs} {x k:Nat} (d:aI (b::r)=(x,k+1)) (n:1≤k) (i:k≤r.length) {a:Bs} (g:a.take k=r.take k):aI (b::a)=(x,k+1):=by
 have f:k≤a.length:=by have:=congrArg List.length g;simp only [rJ] at this;omega
 have c:∀ j,j<k→(b::a).getD (j+1) 0=(b::r).getD (j+1) 0:=fun j m=>by
  simp only [List.getD_cons_succ];rw [←List.take_append_drop k r,←List.take_append_drop k a,DA _ _ (by rw [rJ];omega),DA _ _ (by rw [rJ];omega),g]
 have l:Lib.decodeN (b::r).length ((b::r).getD 0 0).toNat ((b::r).getD 1 0).toNat ((b::r).getD 2 0).toNat ((b::r).getD 3 0).toNat=(x,k+1):=by
  unfold aI at d;split at d
  ·simp at d
  ·rw [C8 _ (by simp)] at d;exact d
 have e:=J7 _ _ _ _ _ _ _ (by simpa using h) l (by omega) (b::a).length ((b::a).getD 1 0).toNat ((b::a).getD 2 0).toNat ((b::a).getD 3 0).toNat
  (fun _=>⟨by simp;omega,by rw [c 0 (by omega)]⟩) (fun _=>⟨by simp;omega,by rw [c 1 (by omega)]⟩) (fun _=>⟨by simp;omega,by rw [c 2 (by omega)]⟩)
 unfold aI;rw [C8 _ (by simp)];rw [show (b::a).getD 0 0=(b::r).getD 0 0 from rfl,e,aM (by simp;omega)]
theorem FV (k:Nat):cY k []=true:=by cases k<;>simp [cY]
theorem xI (b:UInt8) (r:Bs):1≤(dF (b::r)).2∧(dF (b::r)).2≤(b::r).length:=by
 by_cases h:b.toNat<128
 ·have a:=kD h r;unfold aI at a;split at a
  ·simp at a
  ·rw [a];simp
 ·rcases oH (b:=b) (by omega) r with a|⟨x,k,a,_,c,_,d,_⟩
  ·unfold aI at a;split at a
   ·rename_i g;rw [g.2];simp
   ·rename_i g;have e:=b.toNat_lt;rw [C8 _ (by simp)] at a;exfalso;unfold Lib.decodeN at a;simp only [List.getD_cons_zero] at a;rw [aM h] at a;repeat' split at a
    all_goals simp at a
  ·unfold aI at a;split at a
   ·simp at a
   ·rw [a];simp;omega
theorem IV:∀ (k a:Nat) (l:Bs),l.length≤k→l.length≤a→cY k l=cY a l
 | k,a,[],_,_=>by rw [FV,FV]
 | 0,_,_::_,h,_=>by simp at h
 | _,0,_::_,_,h=>by simp at h
 | k+1,a+1,b::r,h,h'=>by
  obtain ⟨c,d⟩:=xI b r;have ih:=IV k a ((b::r).drop (dF (b::r)).2) (by rw [eO];simp at h ⊢;omega) (by rw [eO];simp at h' ⊢;omega);rw [cY,cY,ih]
theorem mP (b:UInt8) (r:Bs):bI (b::r)=(if (aI (b::r)).2=0 then false else if bY (aI (b::r)).1 then bI ((b::r).drop (aI (b::r)).2) else false):=by
 obtain ⟨d,e⟩:=xI b r;have c:bI (b::r)=(if (dF (b::r)).1=65533∧(dF (b::r)).2=1 then false else if bY (dF (b::r)).1 then bI ((b::r).drop (dF (b::r)).2) else false):=by
  unfold bI;rw [gF,cY,aM (by simp)];rw [IV r.length ((b::r).drop (dF (b::r)).2).length _ (by rw [eO];simp;omega) (dC _)]
 rw [c];unfold aI;by_cases a:(dF (b::r)).1=65533∧(dF (b::r)).2=1
 ·rw [aT a,aT a];rfl
 ·simp only [aM a];rw [aM (show ¬ (dF (b::r)).2=0 by omega)]
theorem iO:bI []=true:=FV _
theorem uF {b:UInt8} (h:b.toNat<128) (r:Bs):bI (b::r)=(bY b.toNat&&bI r):=by
 rw [mP,kD h];simp only [List.drop_succ_cons,List.drop_zero];cases bY b.toNat<;>simp
theorem uG:∀ (n:Nat) (x y:Bs),x.length≤n→bI x=true→bI (x++y)=bI y
 | _,[],_,_,_=>rfl
 | 0,_::_,_,h,_=>by simp at h
 | n+1,b::r,y,h,a=>by
  rw [mP] at a;by_cases f:b.toNat<128
  ·rw [kD f] at a;simp only [List.drop_succ_cons,List.drop_zero] at a;rw [iZ,uF f];by_cases c:bY b.toNat=true
   ·rw [c] at a ⊢;simp only [Nat.succ_ne_self,if_false,if_true,Bool.true_and] at a ⊢;exact uG n r y (by simp at h;omega) (by simpa using a)
   ·simp [c] at a
  ·rcases oH (b:=b) (by omega) r with d|⟨x,k,d,_,g,_,e,_⟩
   ·rw [d] at a;simp at a
   ·rw [d] at a;simp only [List.drop_succ_cons] at a;have i:aI (b::(r++y))=(x,k+1):=z8 (by omega) d g e (by rw [List.take_append_of_le_length e]);rw [iZ,mP,i];simp only [List.drop_succ_cons];by_cases c:bY x=true
    ·rw [aM (by omega),aT c] at a ⊢;rw [List.drop_append_of_le_length e];exact uG n (r.drop k) y (by rw [eO];simp at h;omega) a
    ·simp [c] at a
theorem jC {x:Bs} (h:bI x=true) (y:Bs):bI (x++y)=bI y:=uG x.length x y (dC _) h
theorem AA {b:UInt8} {r w:Bs} (a:(aI (b::r)).2=0∨bY (aI (b::r)).1=false) (c:w.takeWhile fZ=r.takeWhile fZ):bI (b::w)=false:=by
 rw [mP,C9,c,←C9];rcases a with a|a
 ·rw [aT a]
 ·rw [a];simp
theorem J8 {b:UInt8} {r:Bs} (a:bY (aI (b::r)).1=true) (d:(aI (b::r)).2≠0):bI ((b::r).take (aI (b::r)).2)=true∧(aI (b::r)).2≤(b::r).length:=by
 by_cases e:b.toNat<128
 ·rw [kD e] at a ⊢;simp only [List.take_succ_cons,List.take_zero];rw [uF e,iO];simp only at a;simp [a]
 ·rcases oH (b:=b) (by omega) r with c|⟨x,k,c,_,f,_,g,_⟩
  ·rw [c] at d;simp at d
  ·rw [c] at a ⊢;simp only [List.take_succ_cons];have h:aI (b::r.take k)=(x,k+1):=z8 (by omega) c f g (by rw [List.take_take,Nat.min_self]);rw [mP,h];simp only [List.drop_succ_cons];rw [aM (by omega),aT a,t6 (by rw [rJ];omega)];exact ⟨iO,by simp;omega⟩
end Go.Proofs.YthapcchcahnfaaaGreatDoor
namespace Go.Proofs.YthapcchcahnfaaaGreatDoor
open Go Go.Lib
def Cc:List (Nat×Nat):=[(75,107),(83,115),(107,8490),(115,383),(181,924),(197,229),(223,7838),(229,8491),(304,304),(305,305),(383,83),(452,453),(453,454),(454,452),(455,456),(456,457),(457,455),(458,459),(459,460),(460,458),(497,498),(498,499),(499,497),(837,921),(912,8147),(914,946),(917,949),(920,952),(921,953),(922,954),(924,956),(928,960),(929,961),(931,962),(934,966),(937,969),(944,8163),(946,976),(949,1013),(952,977),(953,8126),(954,1008),(956,181),(960,982),(961,1009),(962,963),(963,931),(966,981),(969,8486),(976,914),(977,1012),(981,934),(982,928),(1008,922),(1009,929),(1012,920),(1013,917),(1042,1074),(1044,1076),(1054,1086),(1057,1089),(1058,1090),(1066,1098),(1074,7296),(1076,7297),(1086,7298),(1089,7299),(1090,7300),(1098,7302),(1122,1123),(1123,7303),(7296,1042),(7297,1044),(7298,1054),(7299,1057),(7300,7301),(7301,1058),(7302,1066),(7303,1122),(7304,42570),(7776,7777),(7777,7835),(7835,7776),(7838,223),(8126,837),(8147,912),(8163,944),(8486,937),(8490,75),(8491,197),(42570,42571),(42571,7304),(64261,64262),(64262,64261)]
def Az (c:Nat):Nat:=if Nat.ble 65 c&&Nat.ble c 90 then c+32 else if Nat.beq c 107 then 8490 else if Nat.beq c 115 then 383 else if Nat.ble 97 c&&Nat.ble c 122 then c-32 else c
inductive Tr (α:Type) where
 | e:Tr α
 | n:Tr α→α→Tr α→Tr α
def Tr.list {α:Type}:Tr α→List α
 | .e=>[]
 | .n l x r=>l.list++x::r.list
def Tr.look {α:Type} (b a:α→Nat) (k:Nat):Tr α→Option α
 | .e=>none
 | .n l x r=>bif Nat.blt k (b x) then l.look b a k else bif Nat.blt (a x) k then r.look b a k else some x
def VU:Tr CaseRow:=(.n (.n (.n (.n (.n (.n (.n (.n (.n .e (65,90,0,32,0) .e) (97,122,-32,0,-32) .e) (181,181,743,0,743) (.n (.n .e (192,214,0,32,0) .e) (216,222,0,32,0) .e)) (224,246,-32,0,-32) (.n (.n (.n .e (248,254,-32,0,-32) .e) (255,255,121,0,121) .e) (256,303,1114112,1114112,1114112) (.n .e (304,304,0,-199,0) .e))) (305,305,-232,0,-232) (.n (.n (.n (.n .e (306,311,1114112,1114112,1114112) .e) (313,328,1114112,1114112,1114112) .e) (330,375,1114112,1114112,1114112) (.n (.n .e (376,376,0,-121,0) .e) (377,382,1114112,1114112,1114112) .e)) (383,383,-300,0,-300) (.n (.n (.n .e (384,384,195,0,195) .e) (385,385,0,210,0) .e) (386,389,1114112,1114112,1114112) (.n .e (390,390,0,206,0) .e)))) (391,392,1114112,1114112,1114112) (.n (.n (.n (.n (.n .e (393,394,0,205,0) .e) (395,396,1114112,1114112,1114112) .e) (398,398,0,79,0) (.n (.n .e (399,399,0,202,0) .e) (400,400,0,203,0) .e)) (401,402,1114112,1114112,1114112) (.n (.n (.n .e (403,403,0,205,0) .e) (404,404,0,207,0) .e) (405,405,97,0,97) (.n .e (406,406,0,211,0) .e))) (407,407,0,209,0) (.n (.n (.n (.n .e (408,409,1114112,1114112,1114112) .e) (410,410,163,0,163) .e) (411,411,42561,0,42561) (.n .e (412,412,0,211,0) .e)) (413,413,0,213,0) (.n (.n (.n .e (414,414,130,0,130) .e) (415,415,0,214,0) .e) (416,421,1114112,1114112,1114112) (.n .e (422,422,0,218,0) .e))))) (423,424,1114112,1114112,1114112) (.n (.n (.n (.n (.n (.n .e (425,425,0,218,0) .e) (428,429,1114112,1114112,1114112) .e) (430,430,0,218,0) (.n (.n .e (431,432,1114112,1114112,1114112) .e) (433,434,0,217,0) .e)) (435,438,1114112,1114112,1114112) (.n (.n (.n .e (439,439,0,219,0) .e) (440,441,1114112,1114112,1114112) .e) (444,445,1114112,1114112,1114112) (.n .e (447,447,56,0,56) .e))) (452,452,0,2,1) (.n (.n (.n (.n .e (453,453,-1,1,0) .e) (454,454,-2,0,-1) .e) (455,455,0,2,1) (.n .e (456,456,-1,1,0) .e)) (457,457,-2,0,-1) (.n (.n (.n .e (458,458,0,2,1) .e) (459,459,-1,1,0) .e) (460,460,-2,0,-1) (.n .e (461,476,1114112,1114112,1114112) .e)))) (477,477,-79,0,-79) (.n (.n (.n (.n (.n .e (478,495,1114112,1114112,1114112) .e) (497,497,0,2,1) .e) (498,498,-1,1,0) (.n (.n .e (499,499,-2,0,-1) .e) (500,501,1114112,1114112,1114112) .e)) (502,502,0,-97,0) (.n (.n (.n .e (503,503,0,-56,0) .e) (504,543,1114112,1114112,1114112) .e) (544,544,0,-130,0) (.n .e (546,563,1114112,1114112,1114112) .e))) (570,570,0,10795,0) (.n (.n (.n (.n .e (571,572,1114112,1114112,1114112) .e) (573,573,0,-163,0) .e) (574,574,0,10792,0) (.n .e (575,576,10815,0,10815) .e)) (577,578,1114112,1114112,1114112) (.n (.n (.n .e (579,579,0,-195,0) .e) (580,580,0,69,0) .e) (581,581,0,71,0) (.n .e (582,591,1114112,1114112,1114112) .e)))))) (592,592,10783,0,10783) (.n (.n (.n (.n (.n (.n (.n .e (593,593,10780,0,10780) .e) (594,594,10782,0,10782) .e) (595,595,-210,0,-210) (.n (.n .e (596,596,-206,0,-206) .e) (598,599,-205,0,-205) .e)) (601,601,-202,0,-202) (.n (.n (.n .e (603,603,-203,0,-203) .e) (604,604,42319,0,42319) .e) (608,608,-205,0,-205) (.n .e (609,609,42315,0,42315) .e))) (611,611,-207,0,-207) (.n (.n (.n (.n .e (612,612,42343,0,42343) .e) (613,613,42280,0,42280) .e) (614,614,42308,0,42308) (.n .e (616,616,-209,0,-209) .e)) (617,617,-211,0,-211) (.n (.n (.n .e (618,618,42308,0,42308) .e) (619,619,10743,0,10743) .e) (620,620,42305,0,42305) (.n .e (623,623,-211,0,-211) .e)))) (625,625,10749,0,10749) (.n (.n (.n (.n (.n .e (626,626,-213,0,-213) .e) (629,629,-214,0,-214) .e) (637,637,10727,0,10727) (.n (.n .e (640,640,-218,0,-218) .e) (642,642,42307,0,42307) .e)) (643,643,-218,0,-218) (.n (.n (.n .e (647,647,42282,0,42282) .e) (648,648,-218,0,-218) .e) (649,649,-69,0,-69) (.n .e (650,651,-217,0,-217) .e))) (652,652,-71,0,-71) (.n (.n (.n (.n .e (658,658,-219,0,-219) .e) (669,669,42261,0,42261) .e) (670,670,42258,0,42258) (.n .e (837,837,84,0,84) .e)) (880,883,1114112,1114112,1114112) (.n (.n (.n .e (886,887,1114112,1114112,1114112) .e) (891,893,130,0,130) .e) (895,895,0,116,0) (.n .e (902,902,0,38,0) .e))))) (904,906,0,37,0) (.n (.n (.n (.n (.n (.n .e (908,908,0,64,0) .e) (910,911,0,63,0) .e) (913,929,0,32,0) (.n (.n .e (931,939,0,32,0) .e) (940,940,-38,0,-38) .e)) (941,943,-37,0,-37) (.n (.n (.n .e (945,961,-32,0,-32) .e) (962,962,-31,0,-31) .e) (963,971,-32,0,-32) (.n .e (972,972,-64,0,-64) .e))) (973,974,-63,0,-63) (.n (.n (.n (.n .e (975,975,0,8,0) .e) (976,976,-62,0,-62) .e) (977,977,-57,0,-57) (.n .e (981,981,-47,0,-47) .e)) (982,982,-54,0,-54) (.n (.n (.n .e (983,983,-8,0,-8) .e) (984,1007,1114112,1114112,1114112) .e) (1008,1008,-86,0,-86) (.n .e (1009,1009,-80,0,-80) .e)))) (1010,1010,7,0,7) (.n (.n (.n (.n (.n .e (1011,1011,-116,0,-116) .e) (1012,1012,0,-60,0) .e) (1013,1013,-96,0,-96) (.n (.n .e (1015,1016,1114112,1114112,1114112) .e) (1017,1017,0,-7,0) .e)) (1018,1019,1114112,1114112,1114112) (.n (.n (.n .e (1021,1023,0,-130,0) .e) (1024,1039,0,80,0) .e) (1040,1071,0,32,0) (.n .e (1072,1103,-32,0,-32) .e))) (1104,1119,-80,0,-80) (.n (.n (.n (.n .e (1120,1153,1114112,1114112,1114112) .e) (1162,1215,1114112,1114112,1114112) .e) (1216,1216,0,15,0) (.n .e (1217,1230,1114112,1114112,1114112) .e)) (1231,1231,-15,0,-15) (.n (.n (.n .e (1232,1327,1114112,1114112,1114112) .e) (1329,1366,0,48,0) .e) (1377,1414,-48,0,-48) (.n .e (4256,4293,0,7264,0) .e))))))) (4295,4295,0,7264,0) (.n (.n (.n (.n (.n (.n (.n (.n .e (4301,4301,0,7264,0) .e) (4304,4346,3008,0,0) .e) (4349,4351,3008,0,0) (.n (.n .e (5024,5103,0,38864,0) .e) (5104,5109,0,8,0) .e)) (5112,5117,-8,0,-8) (.n (.n (.n .e (7296,7296,-6254,0,-6254) .e) (7297,7297,-6253,0,-6253) .e) (7298,7298,-6244,0,-6244) (.n .e (7299,7300,-6242,0,-6242) .e))) (7301,7301,-6243,0,-6243) (.n (.n (.n (.n .e (7302,7302,-6236,0,-6236) .e) (7303,7303,-6181,0,-6181) .e) (7304,7304,35266,0,35266) (.n .e (7305,7306,1114112,1114112,1114112) .e)) (7312,7354,0,-3008,0) (.n (.n (.n .e (7357,7359,0,-3008,0) .e) (7545,7545,35332,0,35332) .e) (7549,7549,3814,0,3814) (.n .e (7566,7566,35384,0,35384) .e)))) (7680,7829,1114112,1114112,1114112) (.n (.n (.n (.n (.n .e (7835,7835,-59,0,-59) .e) (7838,7838,0,-7615,0) .e) (7840,7935,1114112,1114112,1114112) (.n (.n .e (7936,7943,8,0,8) .e) (7944,7951,0,-8,0) .e)) (7952,7957,8,0,8) (.n (.n (.n .e (7960,7965,0,-8,0) .e) (7968,7975,8,0,8) .e) (7976,7983,0,-8,0) (.n .e (7984,7991,8,0,8) .e))) (7992,7999,0,-8,0) (.n (.n (.n (.n .e (8000,8005,8,0,8) .e) (8008,8013,0,-8,0) .e) (8017,8017,8,0,8) (.n .e (8019,8019,8,0,8) .e)) (8021,8021,8,0,8) (.n (.n (.n .e (8023,8023,8,0,8) .e) (8025,8025,0,-8,0) .e) (8027,8027,0,-8,0) (.n .e (8029,8029,0,-8,0) .e))))) (8031,8031,0,-8,0) (.n (.n (.n (.n (.n (.n .e (8032,8039,8,0,8) .e) (8040,8047,0,-8,0) .e) (8048,8049,74,0,74) (.n (.n .e (8050,8053,86,0,86) .e) (8054,8055,100,0,100) .e)) (8056,8057,128,0,128) (.n (.n (.n .e (8058,8059,112,0,112) .e) (8060,8061,126,0,126) .e) (8064,8071,8,0,8) (.n .e (8072,8079,0,-8,0) .e))) (8080,8087,8,0,8) (.n (.n (.n (.n .e (8088,8095,0,-8,0) .e) (8096,8103,8,0,8) .e) (8104,8111,0,-8,0) (.n .e (8112,8113,8,0,8) .e)) (8115,8115,9,0,9) (.n (.n (.n .e (8120,8121,0,-8,0) .e) (8122,8123,0,-74,0) .e) (8124,8124,0,-9,0) (.n .e (8126,8126,-7205,0,-7205) .e)))) (8131,8131,9,0,9) (.n (.n (.n (.n (.n .e (8136,8139,0,-86,0) .e) (8140,8140,0,-9,0) .e) (8144,8145,8,0,8) (.n (.n .e (8152,8153,0,-8,0) .e) (8154,8155,0,-100,0) .e)) (8160,8161,8,0,8) (.n (.n (.n .e (8165,8165,7,0,7) .e) (8168,8169,0,-8,0) .e) (8170,8171,0,-112,0) (.n .e (8172,8172,0,-7,0) .e))) (8179,8179,9,0,9) (.n (.n (.n (.n .e (8184,8185,0,-128,0) .e) (8186,8187,0,-126,0) .e) (8188,8188,0,-9,0) (.n .e (8486,8486,0,-7517,0) .e)) (8490,8490,0,-8383,0) (.n (.n (.n .e (8491,8491,0,-8262,0) .e) (8498,8498,0,28,0) .e) (8526,8526,-28,0,-28) (.n .e (8544,8559,0,16,0) .e)))))) (8560,8575,-16,0,-16) (.n (.n (.n (.n (.n (.n (.n .e (8579,8580,1114112,1114112,1114112) .e) (9398,9423,0,26,0) .e) (9424,9449,-26,0,-26) (.n (.n .e (11264,11311,0,48,0) .e) (11312,11359,-48,0,-48) .e)) (11360,11361,1114112,1114112,1114112) (.n (.n (.n .e (11362,11362,0,-10743,0) .e) (11363,11363,0,-3814,0) .e) (11364,11364,0,-10727,0) (.n .e (11365,11365,-10795,0,-10795) .e))) (11366,11366,-10792,0,-10792) (.n (.n (.n (.n .e (11367,11372,1114112,1114112,1114112) .e) (11373,11373,0,-10780,0) .e) (11374,11374,0,-10749,0) (.n .e (11375,11375,0,-10783,0) .e)) (11376,11376,0,-10782,0) (.n (.n (.n .e (11378,11379,1114112,1114112,1114112) .e) (11381,11382,1114112,1114112,1114112) .e) (11390,11391,0,-10815,0) (.n .e (11392,11491,1114112,1114112,1114112) .e)))) (11499,11502,1114112,1114112,1114112) (.n (.n (.n (.n (.n .e (11506,11507,1114112,1114112,1114112) .e) (11520,11557,-7264,0,-7264) .e) (11559,11559,-7264,0,-7264) (.n (.n .e (11565,11565,-7264,0,-7264) .e) (42560,42605,1114112,1114112,1114112) .e)) (42624,42651,1114112,1114112,1114112) (.n (.n (.n .e (42786,42799,1114112,1114112,1114112) .e) (42802,42863,1114112,1114112,1114112) .e) (42873,42876,1114112,1114112,1114112) (.n .e (42877,42877,0,-35332,0) .e))) (42878,42887,1114112,1114112,1114112) (.n (.n (.n (.n .e (42891,42892,1114112,1114112,1114112) .e) (42893,42893,0,-42280,0) .e) (42896,42899,1114112,1114112,1114112) (.n .e (42900,42900,48,0,48) .e)) (42902,42921,1114112,1114112,1114112) (.n (.n (.n .e (42922,42922,0,-42308,0) .e) (42923,42923,0,-42319,0) .e) (42924,42924,0,-42315,0) (.n .e (42925,42925,0,-42305,0) .e))))) (42926,42926,0,-42308,0) (.n (.n (.n (.n (.n (.n .e (42928,42928,0,-42258,0) .e) (42929,42929,0,-42282,0) .e) (42930,42930,0,-42261,0) (.n (.n .e (42931,42931,0,928,0) .e) (42932,42947,1114112,1114112,1114112) .e)) (42948,42948,0,-48,0) (.n (.n (.n .e (42949,42949,0,-42307,0) .e) (42950,42950,0,-35384,0) .e) (42951,42954,1114112,1114112,1114112) (.n .e (42955,42955,0,-42343,0) .e))) (42956,42971,1114112,1114112,1114112) (.n (.n (.n (.n .e (42972,42972,0,-42561,0) .e) (42997,42998,1114112,1114112,1114112) .e) (43859,43859,-928,0,-928) (.n .e (43888,43967,-38864,0,-38864) .e)) (65313,65338,0,32,0) (.n (.n (.n .e (65345,65370,-32,0,-32) .e) (66560,66599,0,40,0) .e) (66600,66639,-40,0,-40) (.n .e (66736,66771,0,40,0) .e)))) (66776,66811,-40,0,-40) (.n (.n (.n (.n (.n .e (66928,66938,0,39,0) .e) (66940,66954,0,39,0) .e) (66956,66962,0,39,0) (.n (.n .e (66964,66965,0,39,0) .e) (66967,66977,-39,0,-39) .e)) (66979,66993,-39,0,-39) (.n (.n (.n .e (66995,67001,-39,0,-39) .e) (67003,67004,-39,0,-39) .e) (68736,68786,0,64,0) (.n .e (68800,68850,-64,0,-64) .e))) (68944,68965,0,32,0) (.n (.n (.n (.n .e (68976,68997,-32,0,-32) .e) (71840,71871,0,32,0) .e) (71872,71903,-32,0,-32) (.n .e (93760,93791,0,32,0) .e)) (93792,93823,-32,0,-32) (.n (.n (.n .e (93856,93880,0,27,0) .e) (93883,93907,-27,0,-27) .e) (125184,125217,0,34,0) (.n .e (125218,125251,-34,0,-34) .e))))))))
def YG:Tr (Nat×Nat):=(.n (.n (.n (.n (.n (.n (.n .e (75,107) .e) (83,115) .e) (107,8490) (.n (.n .e (115,383) .e) (181,924) .e)) (197,229) (.n (.n (.n .e (223,7838) .e) (229,8491) .e) (304,304) (.n (.n .e (305,305) .e) (383,83) .e))) (452,453) (.n (.n (.n (.n .e (453,454) .e) (454,452) .e) (455,456) (.n (.n .e (456,457) .e) (457,455) .e)) (458,459) (.n (.n (.n .e (459,460) .e) (460,458) .e) (497,498) (.n (.n .e (498,499) .e) (499,497) .e)))) (837,921) (.n (.n (.n (.n (.n .e (912,8147) .e) (914,946) .e) (917,949) (.n (.n .e (920,952) .e) (921,953) .e)) (922,954) (.n (.n (.n .e (924,956) .e) (928,960) .e) (929,961) (.n (.n .e (931,962) .e) (934,966) .e))) (937,969) (.n (.n (.n (.n .e (944,8163) .e) (946,976) .e) (949,1013) (.n (.n .e (952,977) .e) (953,8126) .e)) (954,1008) (.n (.n (.n .e (956,181) .e) (960,982) .e) (961,1009) (.n (.n .e (962,963) .e) (963,931) .e))))) (966,981) (.n (.n (.n (.n (.n (.n .e (969,8486) .e) (976,914) .e) (977,1012) (.n (.n .e (981,934) .e) (982,928) .e)) (1008,922) (.n (.n (.n .e (1009,929) .e) (1012,920) .e) (1013,917) (.n (.n .e (1042,1074) .e) (1044,1076) .e))) (1054,1086) (.n (.n (.n (.n .e (1057,1089) .e) (1058,1090) .e) (1066,1098) (.n (.n .e (1074,7296) .e) (1076,7297) .e)) (1086,7298) (.n (.n (.n .e (1089,7299) .e) (1090,7300) .e) (1098,7302) (.n (.n .e (1122,1123) .e) (1123,7303) .e)))) (7296,1042) (.n (.n (.n (.n (.n .e (7297,1044) .e) (7298,1054) .e) (7299,1057) (.n (.n .e (7300,7301) .e) (7301,1058) .e)) (7302,1066) (.n (.n (.n .e (7303,1122) .e) (7304,42570) .e) (7776,7777) (.n (.n .e (7777,7835) .e) (7835,7776) .e))) (7838,223) (.n (.n (.n (.n .e (8126,837) .e) (8147,912) .e) (8163,944) (.n (.n .e (8486,937) .e) (8490,75) .e)) (8491,197) (.n (.n (.n .e (42570,42571) .e) (42571,7304) .e) (64261,64262) (.n .e (64262,64261) .e))))))
def YH (r:Nat):Option CaseRow:=VU.look (fun x=>x.1) (fun x=>x.2.1) r
def YI (r:Nat):Option (Nat×Nat):=YG.look (fun x=>x.1) (fun x=>x.1) r
def M5 (c r:Nat) (x:CaseRow):Nat:=(convertR c r x).toNat
def VV (r:Nat) (x:CaseRow):Nat:=bif Nat.beq (M5 1 r x) r then M5 0 r x else M5 1 r x
def M6 (r:Nat):Nat:=
 bif Nat.ble 128 r then
  match YI r with
  | some p=>p.2
  | none=>
   match YH r with
   | some x=>VV r x
   | none=>r
 else Az r
end Go.Proofs.YthapcchcahnfaaaGreatDoor
