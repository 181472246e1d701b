/- Part of the proof that laws.FnBalanced returns true for every argument (S, Fr). No condition of its own. -/
import Derived.Test.YtkjnockljapnbaaGreatDoorProg
import Derived.Test.YtkjnockljapnbaaGreatDoorO01
import Derived.WalkKit
import Derived.WalkLawsBesides
import Derived.WalkSpells
import Derived.Deep.QuietTactic
import Derived.BigQuiet
import Derived.Deep.DeepFit
import Derived.Deep.DeepMust
import Derived.Deep.RegionLaw
import Derived.Lib.Hide
import Derived.Lib.BufferAt
import Derived.Shelf.Abstract
import Derived.BigFrame
import Derived.Scope
import Derived.Deep.LoopGhost
set_option linter.all false
set_option maxHeartbeats 8000000
set_option maxRecDepth 100000
namespace Go.Proofs.YtkjnockljapnbaaGreatDoor
open Go Go.RowKit
structure Mod (S:Nat → Prop) (w w':World):Prop where
  os:w'.os=w.os
  tape:w'.tape=w.tape
  output:w'.output=w.output
  size:w.heap.size ≤ w'.heap.size
  block:∀ k,k < w.heap.size → ¬ S k → w'.heap[k]?=w.heap[k]?
theorem Mod.refl (S:Nat → Prop) (w:World):Mod S w w:=⟨rfl,rfl,rfl,Nat.le_refl _,fun _ _ _=>rfl⟩
theorem Mod.trans {S S':Nat → Prop} {a b c:World} (h:Mod S a b) (k:Mod S' b c) (hs:∀ i,i < a.heap.size → S' i → S i):Mod S a c:=
  ⟨k.os.trans h.os,k.tape.trans h.tape,k.output.trans h.output,Nat.le_trans h.size k.size,
    fun i hi hn=>(k.block i (Nat.lt_of_lt_of_le hi h.size) (fun h'=>hn (hs i hi h'))).trans (h.block i hi hn)⟩
theorem Mod.mono {S S':Nat → Prop} {a b:World} (h:Mod S a b) (hs:∀ i,i < a.heap.size → S i → S' i):Mod S' a b:=
  ⟨h.os,h.tape,h.output,h.size,fun i hi hn=>h.block i hi (fun h'=>hn (hs i hi h'))⟩
theorem Mod.below {S:Nat → Prop} {B:Nat} {W0 a b:World} (h0:Below B W0 a) (hB:B ≤ a.heap.size) (h:Mod S a b) (hs:∀ i,S i → B ≤ i):Below B W0 b:=
  h0.trans ⟨h.os,h.tape,h.output,h.size,fun i hi=>h.block i (by omega) (fun h'=>by have:=hs i h';omega)⟩
theorem Mod.drew {S:Nat → Prop} {a b:World} (h:Mod S a b):Mod S a b.drew:=⟨h.os,h.tape,h.output,h.size,h.block⟩
theorem Mod.drewN {S:Nat → Prop} {a b:World} (h:Mod S a b) (n:Nat):Mod S a (b.drewN n):=⟨h.os,h.tape,h.output,h.size,h.block⟩
theorem heap_setCell_ne (w:World) (a:Addr) (u:Value) (k:Nat) (h:k ≠ a.block):(w.setCell a u).heap[k]?=w.heap[k]?:=by
  simp only [World.setCell,Array.getElem?_modify]
  rw [if_neg (by omega)]
theorem heap_setRow_ne (w:World) (g:Nat) (cs:Array Value) (k:Nat) (h:k ≠ g):(w.setRow g cs).heap[k]?=w.heap[k]?:=by
  simp only [World.setRow,Array.getElem?_modify]
  rw [if_neg (by omega)]
theorem Mod.setCell {S:Nat → Prop} {a b:World} (h:Mod S a b) {p:Addr} (hp:S p.block ∨ a.heap.size ≤ p.block) (u:Value):Mod S a (b.setCell p u):=
  ⟨h.os,h.tape,h.output,by simpa [World.setCell] using h.size,fun i hi hn=>(heap_setCell_ne _ _ _ _ (by
    intro e
    subst e
    rcases hp with hp|hp
    · exact hn hp
    · omega)).trans (h.block i hi hn)⟩
theorem Mod.setRow {S:Nat → Prop} {a b:World} (h:Mod S a b) {g:Nat} (hp:S g ∨ a.heap.size ≤ g) (cs:Array Value):Mod S a (b.setRow g cs):=
  ⟨h.os,h.tape,h.output,by simpa [World.setRow] using h.size,fun i hi hn=>(heap_setRow_ne _ _ _ _ (by
    intro e
    subst e
    rcases hp with hp|hp
    · exact hn hp
    · omega)).trans (h.block i hi hn)⟩
theorem heap_alloc_lt (w:World) (o:Obj) (k:Nat) (h:k < w.heap.size):(w.alloc o).heap[k]?=w.heap[k]?:=Below.heap_alloc w o k h
theorem Mod.alloc {S:Nat → Prop} {a b:World} (h:Mod S a b) (o:Obj):Mod S a (b.alloc o):=
  ⟨h.os,h.tape,h.output,by have:=h.size;simp;omega,fun i hi hn=>(heap_alloc_lt _ _ _ (Nat.lt_of_lt_of_le hi h.size)).trans (h.block i hi hn)⟩
def Blk (w:World) (b:Nat) (cs:Array Value) (t:TypeId):Prop:=w.heap[b]?=some (.cells cs t (0,0))
theorem Blk.lt {w:World} {b:Nat} {cs:Array Value} {t:TypeId} (h:Blk w b cs t):b < w.heap.size:=by
  rcases Nat.lt_or_ge b w.heap.size with h'|h'
  · exact h'
  · unfold Blk at h;simp [Array.getElem?_eq_none h'] at h
theorem Blk.cell {w:World} {b:Nat} {cs:Array Value} {t:TypeId} (h:Blk w b cs t) (o:Nat):w.cell? ⟨b,o,none⟩=cs[o]?:=by
  unfold World.cell?;unfold Blk at h;simp [h]
theorem Blk.frozen {w:World} {b:Nat} {cs:Array Value} {t:TypeId} (h:Blk w b cs t) (o:Nat):w.frozen? ⟨b,o,none⟩=false:=by
  unfold World.frozen?;unfold Blk at h;simp [h]
theorem Blk.set {w:World} {b:Nat} {cs:Array Value} {t:TypeId} (h:Blk w b cs t) (o:Nat) (v:Value):Blk (w.setCell ⟨b,o,none⟩ v) b (cs.setIfInBounds o v) t:=by
  unfold Blk at h ⊢
  simp [World.setCell,Array.getElem?_modify,h]
theorem Blk.set_ne {w:World} {b:Nat} {cs:Array Value} {t:TypeId} (h:Blk w b cs t) {a:Addr} (hn:b ≠ a.block) (v:Value):Blk (w.setCell a v) b cs t:=
  (heap_setCell_ne _ _ _ _ hn).trans h
theorem Blk.row {w:World} {b:Nat} {cs:Array Value} {t:TypeId} (h:Blk w b cs t) (cs':Array Value):Blk (w.setRow b cs') b cs' t:=by
  unfold Blk at h ⊢
  simp [World.setRow,Array.getElem?_modify,h]
theorem Blk.row_ne {w:World} {b g:Nat} {cs:Array Value} {t:TypeId} (h:Blk w b cs t) (hn:b ≠ g) (cs':Array Value):Blk (w.setRow g cs') b cs t:=
  (heap_setRow_ne _ _ _ _ hn).trans h
theorem Blk.alloc {w:World} {b:Nat} {cs:Array Value} {t:TypeId} (h:Blk w b cs t) (o:Obj):Blk (w.alloc o) b cs t:=(heap_alloc_lt _ _ _ h.lt).trans h
theorem Blk.new (w:World) (cs:Array Value) (t:TypeId):Blk (w.alloc (.cells cs t)) w.heap.size cs t:=by
  unfold Blk World.alloc
  simp
theorem Blk.mod {S:Nat → Prop} {w w':World} {b:Nat} {cs:Array Value} {t:TypeId} (h:Blk w b cs t) (hm:Mod S w w') (hn:¬ S b):Blk w' b cs t:=
  (hm.block b h.lt hn).trans h
structure DC where
  strict:Bool
  auto:Value
  ent:Value
  space:ByteArray
  r:Value
  stk:Value
  depth:Int
  free:Value
  needClose:Bool
  tcs:ByteArray
  tcl:ByteArray
  nextTok:Value
  ns:Value
structure DV where
  bufv:Value
  lastRead:Int
  nb:Int
  err:Value
  line:Int
  lstart:Int
  off:Int
@[go_sem] def dcells (c:DC) (v:DV):Array Value:=#[.bool c.strict,c.auto,c.ent,.nilFunc,.string c.space,c.r,.nilIface,v.bufv,.int .i64 0,.int .i8 v.lastRead,.pointer none,c.stk,.int .i64 c.depth,c.free,.bool c.needClose,.string c.tcs,.string c.tcl,c.nextTok,.int .i64 v.nb,c.ns,v.err,.int .i64 v.line,.int .i64 v.lstart,.int .i64 v.off]
def DecAt (w:World) (d:Nat) (c:DC) (v:DV):Prop:=Blk w d (dcells c v) 84
structure Cx where
  W0:World
  T:Bs
  o:Opt
  d:Nat
  br:Nat
  rb:Nat
  rd:Nat
  eofA:Addr
  pcA:Option Addr
  pcN:Nat
  pcC:Nat
  pcs:List Int
abbrev Cx.B (x:Cx):Nat:=x.W0.heap.size
abbrev Cx.eofV (x:Cx):Value:=.iface 177 (.pointer (some x.eofA))
abbrev ownV:Value:=.iface 109 (.agg #[])
structure Cx.Ok (x:Cx):Prop where
  len:x.T.length ≤ 1000000000
  d:x.B ≤ x.d
  br:x.B ≤ x.br
  rb:x.B ≤ x.rb
  rd:x.B ≤ x.rd
  ne1:x.d ≠ x.br
  ne2:x.d ≠ x.rb
  ne3:x.d ≠ x.rd
  ne4:x.br ≠ x.rb
  ne5:x.br ≠ x.rd
  ne6:x.rb ≠ x.rd
  eof:x.W0.cell? ⟨0,0,none⟩=some x.eofV
  eofL:x.eofA.block < x.B
  gB:0 < x.B
  pcN:x.pcN ≤ 9223372036854775807
  pcL:x.pcN ≤ x.pcC
  pc:0 < x.pcN → ∃ pb po:Nat,x.pcA=some ⟨pb,po,none⟩∧pb < x.B∧∀ j,j < x.pcN → x.W0.cell? ⟨pb,po + j,none⟩=some (.int .i64 (x.pcs.getD j 0))
def Cx.S0 (x:Cx) (k:Nat):Prop:=k=x.d ∨ k=x.br ∨ k=x.rb ∨ k=x.rd
end Go.Proofs.YtkjnockljapnbaaGreatDoor
namespace Go.Proofs.YtkjnockljapnbaaGreatDoor
open Go
def lk (f:Nat → Value):List (Nat × Value) → Nat → Value
  | [],t=>f t
  | (d,v) :: L,t=>if t=d then v else lk f L t
def fr0 (n:Nat) (f:Nat → Value) (L:List (Nat × Value)):Act:=⟨Array.ofFn (n:=n) fun i=>lk f L i.val,[]⟩
theorem lk_nil (f:Nat → Value) (t:Nat):lk f [] t=f t:=of_eq_true (eq_self _)
theorem lk_cons (f:Nat → Value) (d:Nat) (v:Value) (L:List (Nat × Value)) (t:Nat):lk f ((d,v) :: L) t=if t=d then v else lk f L t:=of_eq_true (eq_self _)
structure FrOk (F:Nat → (Nat → Value) → List (Nat × Value) → Act):Prop where
  is:F=fr0
theorem fr0_get? {n:Nat} {f:Nat → Value} {L:List (Nat × Value)} {t:Nat} (h:t < n):(fr0 n f L).tmps[t]?=some (lk f L t):=by
  simp [fr0,h]
theorem fr0_set {n:Nat} {f:Nat → Value} {L:List (Nat × Value)} {d:Nat} (_h:d < n) (v:Value):(fr0 n f L).tmps.setIfInBounds d v=(fr0 n f ((d,v) :: L)).tmps:=by
  apply Array.ext
  · simp [fr0]
  · intro i h1 h2
    simp [fr0] at h1
    rw [Array.getElem_setIfInBounds (by simpa [fr0] using h1)]
    simp only [fr0,Array.getElem_ofFn,lk]
    by_cases hd:d=i
    · subst hd;simp
    · rw [if_neg hd,if_neg (fun e=>hd e.symm)]
noncomputable def frP:{ F:Nat → (Nat → Value) → List (Nat × Value) → Act // FrOk F }:=Classical.choice ⟨⟨fr0,⟨rfl⟩⟩⟩
noncomputable def fr (n:Nat) (f:Nat → Value) (L:List (Nat × Value)):Act:=frP.val n f L
theorem fr_is (n:Nat) (f:Nat → Value) (L:List (Nat × Value)):fr n f L=fr0 n f L:=by
  unfold fr;rw [frP.property.is]
theorem fr_defers (n:Nat) (f:Nat → Value) (L:List (Nat × Value)):(fr n f L).defers=[]:=by rw [fr_is];rfl
theorem fr_get? {n:Nat} {f:Nat → Value} {L:List (Nat × Value)} {t:Nat} (h:t < n):(fr n f L).tmps[t]?=some (lk f L t):=by
  rw [fr_is];exact fr0_get? h
theorem fr_getD {n:Nat} {f:Nat → Value} {L:List (Nat × Value)} {t:Nat} (h:t < n) (u:Value):(fr n f L).tmps.getD t u=lk f L t:=by
  rw [Array.getD_eq_getD_getElem?,fr_get? h];rfl
theorem fr_set {n:Nat} {f:Nat → Value} {L:List (Nat × Value)} {d:Nat} (h:d < n) (v:Value):(fr n f L).tmps.setIfInBounds d v=(fr n f ((d,v) :: L)).tmps:=by
  rw [fr_is,fr_is];exact fr0_set h v
theorem fr_eta (n:Nat) (f:Nat → Value) (L:List (Nat × Value)):(⟨(fr n f L).tmps,[]⟩:Act)=fr n f L:=by rw [fr_is];rfl
theorem fr_eval {n:Nat} {f:Nat → Value} {L:List (Nat × Value)} {t:Nat} (h:t < n):(fr n f L).eval (.tmp t)=lk f L t:=fr_getD h _
theorem fr_put {n:Nat} {f:Nat → Value} {L:List (Nat × Value)} {d:Nat} (h:d < n) (v:Value):(fr n f L).put (some d) v=fr n f ((d,v) :: L):=by
  show (⟨(fr n f L).tmps.setIfInBounds d v,(fr n f L).defers⟩:Act)=_
  rw [fr_set h,fr_defers,fr_eta]
def keep (f:Nat → Value) (L:List (Nat × Value)):List Nat → List (Nat × Value)
  | []=>[]
  | k :: ks=>(k,lk f L k) :: keep f L ks
theorem keep_nil (f:Nat → Value) (L:List (Nat × Value)):keep f L []=[]:=of_eq_true (eq_self _)
theorem keep_cons (f:Nat → Value) (L:List (Nat × Value)) (k:Nat) (ks:List Nat):keep f L (k :: ks)=(k,lk f L k) :: keep f L ks:=of_eq_true (eq_self _)
theorem lk_keep (f:Nat → Value) (L:List (Nat × Value)):∀ (ks:List Nat) (t:Nat),lk (lk f L) (keep f L ks) t=lk f L t
  | [],t=>rfl
  | k :: ks,t=>by
    simp only [keep,lk]
    split
    · rename_i h;subst h;rfl
    · exact lk_keep f L ks t
theorem fr_keep (n:Nat) (f:Nat → Value) (L:List (Nat × Value)) (ks:List Nat):fr n f L=fr n (lk f L) (keep f L ks):=by
  rw [fr_is,fr_is];simp only [fr0,lk_keep]
theorem wp_keep {P:Program} {c:Code} {Q:Exit → Act → World → Prop} {n:Nat} {f:Nat → Value} {L:List (Nat × Value)} {w:World} (ks:List Nat) (h:∀ g,c.wp P Q (fr n g (keep f L ks)) w):c.wp P Q (fr n f L) w:=by
  rw [fr_keep n f L ks];exact h _
theorem K_keep {K:Act → World → Prop} {n:Nat} {f:Nat → Value} {L:List (Nat × Value)} {w:World} (ks:List Nat) (h:∀ g,K (fr n g (keep f L ks)) w):K (fr n f L) w:=by
  rw [fr_keep n f L ks];exact h _
theorem Q_keep {Q:Exit → Act → World → Prop} {e:Exit} {n:Nat} {f:Nat → Value} {L:List (Nat × Value)} {w:World} (ks:List Nat) (h:∀ g,Q e (fr n g (keep f L ks)) w):Q e (fr n f L) w:=by
  rw [fr_keep n f L ks];exact h _
def argSlots:Nat → List Value → List (Nat × Value)
  | _,[]=>[]
  | i,v :: vs=>(i,v) :: argSlots (i + 1) vs
theorem lk_argSlots (f:Nat → Value):∀ (vs:List Value) (i t:Nat),i ≤ t → lk f (argSlots i vs) t=(vs[t - i]?).getD (f t)
  | [],i,t,_=>by simp [argSlots,lk]
  | v :: vs,i,t,h=>by
    simp only [argSlots,lk]
    split
    · rename_i e;subst e;simp
    · rw [lk_argSlots f vs (i + 1) t (by omega),show t - i=(t - (i + 1)) + 1 by omega,List.getElem?_cons_succ]
theorem calls_fr {P:Program} {fid:FuncId} {fn:Func} {c:Code} {vs:List Value} {w:World} {R:Ending → World → Prop} (n:Nat) (hf:P.funcs[fid]?=some fn) (hb:fn.body=some c) (hn:fn.ntmps=n) (hle:vs.length ≤ n)
    (h:∀ f,c.wp P (bodyPost P fn R) (fr n f (argSlots 0 vs)) w):Calls P fid vs.toArray w R:=by
  refine calls_of_wp hf hb ?_
  have e:({ tmps:=vs.toArray ++ Array.replicate (fn.ntmps - vs.toArray.size) undef,defers:=[] }:Act)=fr n (fun _=>undef) (argSlots 0 vs):=by
    subst hn
    rw [fr_is]
    simp only [fr0]
    congr 1
    apply Array.ext
    · simp;omega
    · intro i h1 h2
      simp only [Array.getElem_ofFn]
      rw [lk_argSlots _ vs 0 i (Nat.zero_le _)]
      by_cases hi:i < vs.length
      · simp [Array.getElem_append,hi]
      · simp [Array.getElem_append,hi]
  rw [e];exact h _
theorem fr_ret1 {P:Program} {fn:Func} {R:Ending → World → Prop} {n:Nat} {f:Nat → Value} {L:List (Nat × Value)} {w:World} {t:Nat} (hr:fn.results=#[.tmp t]) (ht:t < n) (h:R (.returned (lk f L t)) w):bodyPost P fn R .ret (fr n f L) w:=by
  refine bodyPost_ret (v:=lk f L t) ?_ (fr_defers n f L) h
  rw [results_tmp hr,fr_getD ht]
theorem fr_ret2 {P:Program} {fn:Func} {R:Ending → World → Prop} {n:Nat} {f:Nat → Value} {L:List (Nat × Value)} {w:World} {t u:Nat} (hr:fn.results=#[.tmp t,.tmp u]) (ht:t < n) (hu:u < n) (h:R (.returned (.tuple #[lk f L t,lk f L u])) w):bodyPost P fn R .ret (fr n f L) w:=by
  refine bodyPost_ret (v:=.tuple #[lk f L t,lk f L u]) ?_ (fr_defers n f L) h
  rw [results_tmp2 hr,fr_getD ht,fr_getD hu]
theorem fr_ret0 {P:Program} {fn:Func} {R:Ending → World → Prop} {n:Nat} {f:Nat → Value} {L:List (Nat × Value)} {w:World} (hr:fn.results=#[]) (h:R (.returned (.tuple #[])) w):bodyPost P fn R .ret (fr n f L) w:=by
  refine bodyPost_ret (v:=.tuple #[]) ?_ (fr_defers n f L) h
  rw [results_none hr]
theorem fr_out1 {P:Program} {fn:Func} {R:Ending → World → Prop} {n:Nat} {f:Nat → Value} {L:List (Nat × Value)} {w:World} {t:Nat} {v:Value} (hr:fn.results=#[.tmp t]) (ht:t < n) (h1:lk f L t=v) (h:R (.returned v) w):bodyPost P fn R .ret (fr n f L) w:=by
  subst h1;exact fr_ret1 hr ht h
theorem fr_out2 {P:Program} {fn:Func} {R:Ending → World → Prop} {n:Nat} {f:Nat → Value} {L:List (Nat × Value)} {w:World} {t u:Nat} {v v':Value} (hr:fn.results=#[.tmp t,.tmp u]) (ht:t < n) (hu:u < n) (h1:lk f L t=v) (h2:lk f L u=v') (h:R (.returned (.tuple #[v,v'])) w):bodyPost P fn R .ret (fr n f L) w:=by
  subst h1;subst h2;exact fr_ret2 hr ht hu h
theorem fr_normal {P:Program} {fn:Func} {R:Ending → World → Prop} {a:Act} {w:World} (h:bodyPost P fn R .ret a w):bodyPost P fn R .normal a w:=h
attribute [irreducible] fr lk keep
attribute [go_sem] fr_defers fr_get? fr_getD fr_set fr_eta lk_nil lk_cons
theorem zA {P:Program} {Q:Exit → Act → World → Prop} {a:Act} {w:World} {x y:Code} (h:∀ K:Act → World → Prop,(∀ a w,y.wp P Q a w → K a w) → x.wp P (Exit.then K Q) a w):(Code.seq x y).wp P Q a w:=wp_seq_k h
theorem zB {P:Program} {Q:Exit → Act → World → Prop} {a:Act} {w:World} {id:Nat} {l:List Oper} (h:wpList P l.toArray Q l a w):(Code.region id l.toArray false).wp P Q a w:=wp_region_lit h
theorem zC {P:Program} {ops:Array Oper} {Q:Exit → Act → World → Prop} {a:Act} {w:World} (h:Q .normal a w):wpList P ops Q [] a w:=h
theorem zD {P:Program} {ops:Array Oper} {Q:Exit → Act → World → Prop} {a:Act} {w:World} {rest:List Oper} {o:Oper} (hg:o.guard=none) (h:∀ K:Act → World → Prop,(∀ a w,wpList P ops Q rest a w → K a w) → o.wp P a w K Q):wpList P ops Q (o :: rest) a w:=wpList_plain hg h
theorem zE {P:Program} {ops:Array Oper} {Q:Exit → Act → World → Prop} {a:Act} {w:World} {rest:List Oper} {o:Oper} (h:∀ K:Act → World → Prop,(∀ a w,wpList P ops Q rest a w → K a w) → if Region.wanted o (yielded ops a.tmps) then o.wp P a w K Q else K (a.put o.dst undef) w):wpList P ops Q (o :: rest) a w:=wpList_step h
theorem zt {P:Program} {Q:Exit → Act → World → Prop} {a:Act} {w:World} {c:Operand} {x y:Code} (h:x.wp P Q a w) (hc:a.eval c=.bool true:=by go_simp;first|done|omega):(Code.cond c x y).wp P Q a w:=wp_cond hc h
theorem zf {P:Program} {Q:Exit → Act → World → Prop} {a:Act} {w:World} {c:Operand} {x y:Code} (h:y.wp P Q a w) (hc:a.eval c=.bool false:=by go_simp;first|done|omega):(Code.cond c x y).wp P Q a w:=wp_cond hc h
theorem zG {P:Program} {Q:Exit → Act → World → Prop} {a:Act} {w:World} {id:Nat} (h:Q (.exit id) a w):(Code.exit id).wp P Q a w:=wp_exit h
theorem zR {P:Program} {Q:Exit → Act → World → Prop} {a:Act} {w:World} (h:Q .ret a w):Code.ret.wp P Q a w:=wp_ret h
theorem zK {P:Program} {Q:Exit → Act → World → Prop} {a:Act} {w:World} {id:Nat} {c:Code} (h:c.wp P (Exit.inBlock id Q) a w):(Code.block id c).wp P Q a w:=wp_block h
theorem zL {P:Program} {Q:Exit → Act → World → Prop} {a:Act} {w:World} {l:Nat} (h:Q .normal a w):(Code.label l).wp P Q a w:=wp_label h
theorem zN {P:Program} {Q:Exit → Act → World → Prop} {a:Act} {w:World} (h:Q .normal a w):Code.skip.wp P Q a w:=wp_skip h
theorem zS {P:Program} {Q:Exit → Act → World → Prop} {a:Act} {w:World} {c:Code} (h:c.wp P (Exit.noGoto Q) a w):(Code.scope c).wp P Q a w:=wp_scope_straight h
def Code.startsAt (id:Nat):Code → Bool
  | .region i _ _=>i == id
  | .seq a _=>Code.startsAt id a
  | _=>false
def Code.partAt (id:Nat):Code → Option Code
  | .seq a b=>if Code.startsAt id a then some (.seq a b) else match Code.partAt id a with
    | some c=>some c
    | none=>Code.partAt id b
  | .region i o d=>if i == id then some (.region i o d) else none
  | .cond _ a b=>match Code.partAt id a with
    | some c=>some c
    | none=>Code.partAt id b
  | .block _ c=>Code.partAt id c
  | .loop c=>Code.partAt id c
  | .scope c=>Code.partAt id c
  | _=>none
theorem wp_stop {P:Program} {ops:Array Oper} {d:Bool} {rest:Code} {Q:Exit → Act → World → Prop} {a:Act} {w:World} (n:Nat) (h:((Code.region n ops d).seq rest).wp P Q a w):((Code.region n ops d).seq rest).wp P Q a w:=h
theorem wp_stop2 {P:Program} {ops:Array Oper} {d:Bool} {rest rest':Code} {Q:Exit → Act → World → Prop} {a:Act} {w:World} (n:Nat) (h:(((Code.region n ops d).seq rest).seq rest').wp P Q a w):(((Code.region n ops d).seq rest).seq rest').wp P Q a w:=h
theorem wp_code {P:Program} {c c':Code} {Q:Exit → Act → World → Prop} {a:Act} {w:World} (h:c.wp P Q a w) (e:c'=c):c'.wp P Q a w:=e ▸ h
end Go.Proofs.YtkjnockljapnbaaGreatDoor
