/- Part of the proof that laws.FnRawTokens returns true for every argument. No conditions. -/
import Derived.Test.YtdjdjbpnbjdaaaaGreatDoorProg
import Derived.Test.YtdjdjbpnbjdaaaaGreatDoorP01
import Derived.WalkKit
import Derived.WalkLawsBesides
import Derived.WalkSpells
import Derived.Deep.QuietTactic
import Derived.BigQuiet
import Derived.Deep.DeepFit
import Derived.Deep.DeepMust
import Derived.Deep.RegionLaw
import Derived.Lib.Hide
import Derived.Lib.BufferAt
import Derived.Shelf.Abstract
import Derived.BigFrame
import Derived.Scope
import Derived.Deep.LoopGhost
import Derived.Lib.ConvBytes
import Derived.Lib.AtoiErrMem
set_option linter.all false
set_option maxHeartbeats 8000000
set_option maxRecDepth 100000
namespace Go.Proofs.YtdjdjbpnbjdaaaaGreatDoor
open Go Go.RowKit Tryz
structure aK (S:Nat→Prop) (w w':World):Prop where
 os:w'.os=w.os
 tape:w'.tape=w.tape
 output:w'.output=w.output
 size:w.heap.size≤w'.heap.size
 block:∀ k,k<w.heap.size→¬ S k→w'.heap[k]?=w.heap[k]?
theorem aK.refl (S:Nat→Prop) (w:World):aK S w w:=⟨rfl,rfl,rfl,Nat.le_refl _,fun _ _ _=>rfl⟩
theorem aK.trans {S S':Nat→Prop} {a b c:World} (h:aK S a b) (k:aK S' b c) (hs:∀ i,i<a.heap.size→S' i→S i):aK S a c:=
 ⟨k.os.trans h.os,k.tape.trans h.tape,k.output.trans h.output,Nat.le_trans h.size k.size,
  fun i hi hn=>(k.block i (Nat.lt_of_lt_of_le hi h.size) (fun h'=>hn (hs i hi h'))).trans (h.block i hi hn)⟩
theorem aK.mono {S S':Nat→Prop} {a b:World} (h:aK S a b) (hs:∀ i,i<a.heap.size→S i→S' i):aK S' a b:=
 ⟨h.os,h.tape,h.output,h.size,fun i hi hn=>h.block i hi (fun h'=>hn (hs i hi h'))⟩
theorem aK.below {S:Nat→Prop} {B:Nat} {W0 a b:World} (h0:Below B W0 a) (hB:B≤a.heap.size) (h:aK S a b) (hs:∀ i,S i→B≤i):Below B W0 b:=
 h0.trans ⟨h.os,h.tape,h.output,h.size,fun i hi=>h.block i (by omega) (fun h'=>by have:=hs i h';omega)⟩
theorem aK.drew {S:Nat→Prop} {a b:World} (h:aK S a b):aK S a b.drew:=⟨h.os,h.tape,h.output,h.size,h.block⟩
theorem aK.drewN {S:Nat→Prop} {a b:World} (h:aK S a b) (n:Nat):aK S a (b.drewN n):=⟨h.os,h.tape,h.output,h.size,h.block⟩
theorem dO (w:World) (a:Addr) (u:Value) (k:Nat) (h:k≠a.block):(w.setCell a u).heap[k]?=w.heap[k]?:=by
 simp only [World.setCell,Array.getElem?_modify]
 rw [if_neg (by omega)]
theorem tM (w:World) (g:Nat) (cs:Array Value) (k:Nat) (h:k≠g):(w.setRow g cs).heap[k]?=w.heap[k]?:=by
 simp only [World.setRow,Array.getElem?_modify]
 rw [if_neg (by omega)]
theorem aK.setCell {S:Nat→Prop} {a b:World} (h:aK S a b) {p:Addr} (hp:S p.block∨a.heap.size≤p.block) (u:Value):aK S a (b.setCell p u):=
 ⟨h.os,h.tape,h.output,by simpa [World.setCell] using h.size,fun i hi hn=>(dO _ _ _ _ (by
  intro e
  subst e
  rcases hp with hp|hp
  ·exact hn hp
  ·omega)).trans (h.block i hi hn)⟩
theorem aK.setRow {S:Nat→Prop} {a b:World} (h:aK S a b) {g:Nat} (hp:S g∨a.heap.size≤g) (cs:Array Value):aK S a (b.setRow g cs):=
 ⟨h.os,h.tape,h.output,by simpa [World.setRow] using h.size,fun i hi hn=>(tM _ _ _ _ (by
  intro e
  subst e
  rcases hp with hp|hp
  ·exact hn hp
  ·omega)).trans (h.block i hi hn)⟩
theorem pX (w:World) (o:Obj) (k:Nat) (h:k<w.heap.size):(w.alloc o).heap[k]?=w.heap[k]?:=Below.heap_alloc w o k h
theorem aK.alloc {S:Nat→Prop} {a b:World} (h:aK S a b) (o:Obj):aK S a (b.alloc o):=
 ⟨h.os,h.tape,h.output,by have:=h.size;simp;omega,fun i hi hn=>(pX _ _ _ (Nat.lt_of_lt_of_le hi h.size)).trans (h.block i hi hn)⟩
def aJ (w:World) (b:Nat) (cs:Array Value) (t:TypeId):Prop:=w.heap[b]?=some (.cells cs t (0,0))
theorem aJ.lt {w:World} {b:Nat} {cs:Array Value} {t:TypeId} (h:aJ w b cs t):b<w.heap.size:=by
 rcases Nat.lt_or_ge b w.heap.size with h'|h'
 ·exact h'
 ·unfold aJ at h;simp [Array.getElem?_eq_none h'] at h
theorem aJ.cell {w:World} {b:Nat} {cs:Array Value} {t:TypeId} (h:aJ w b cs t) (o:Nat):w.cell? ⟨b,o,none⟩=cs[o]?:=by
 unfold World.cell?;unfold aJ at h;simp [h]
theorem aJ.frozen {w:World} {b:Nat} {cs:Array Value} {t:TypeId} (h:aJ w b cs t) (o:Nat):w.frozen? ⟨b,o,none⟩=false:=by
 unfold World.frozen?;unfold aJ at h;simp [h]
theorem aJ.set {w:World} {b:Nat} {cs:Array Value} {t:TypeId} (h:aJ w b cs t) (o:Nat) (v:Value):aJ (w.setCell ⟨b,o,none⟩ v) b (cs.setIfInBounds o v) t:=by
 unfold aJ at h ⊢
 simp [World.setCell,Array.getElem?_modify,h]
theorem aJ.set_ne {w:World} {b:Nat} {cs:Array Value} {t:TypeId} (h:aJ w b cs t) {a:Addr} (hn:b≠a.block) (v:Value):aJ (w.setCell a v) b cs t:=
 (dO _ _ _ _ hn).trans h
theorem aJ.row {w:World} {b:Nat} {cs:Array Value} {t:TypeId} (h:aJ w b cs t) (cs':Array Value):aJ (w.setRow b cs') b cs' t:=by
 unfold aJ at h ⊢
 simp [World.setRow,Array.getElem?_modify,h]
theorem aJ.row_ne {w:World} {b g:Nat} {cs:Array Value} {t:TypeId} (h:aJ w b cs t) (hn:b≠g) (cs':Array Value):aJ (w.setRow g cs') b cs t:=
 (tM _ _ _ _ hn).trans h
theorem aJ.alloc {w:World} {b:Nat} {cs:Array Value} {t:TypeId} (h:aJ w b cs t) (o:Obj):aJ (w.alloc o) b cs t:=(pX _ _ _ h.lt).trans h
theorem aJ.new (w:World) (cs:Array Value) (t:TypeId):aJ (w.alloc (.cells cs t)) w.heap.size cs t:=by
 unfold aJ World.alloc
 simp
theorem aJ.mod {S:Nat→Prop} {w w':World} {b:Nat} {cs:Array Value} {t:TypeId} (h:aJ w b cs t) (hm:aK S w w') (hn:¬ S b):aJ w' b cs t:=
 (hm.block b h.lt hn).trans h
structure DC where
 strict:Bool
 auto:Value
 ent:Value
 space:ByteArray
 r:Value
 stk:Value
 depth:Int
 free:Value
 needClose:Bool
 tcs:ByteArray
 tcl:ByteArray
 nextTok:Value
 ns:Value
structure DV where
 bufv:Value
 lastRead:Int
 nb:Int
 err:Value
 line:Int
 lstart:Int
 off:Int
@[go_sem] def rP (c:DC) (v:DV):Array Value:=#[.bool c.strict,c.auto,c.ent,.nilFunc,.string c.space,c.r,.nilIface,v.bufv,.int .i64 0,.int .i8 v.lastRead,.pointer none,c.stk,.int .i64 c.depth,c.free,.bool c.needClose,.string c.tcs,.string c.tcl,c.nextTok,.int .i64 v.nb,c.ns,v.err,.int .i64 v.line,.int .i64 v.lstart,.int .i64 v.off]
def bO (w:World) (d:Nat) (c:DC) (v:DV):Prop:=aJ w d (rP c v) 87
structure Cx where
 W0:World
 T:Bs
 o:cU
 d:Nat
 br:Nat
 rb:Nat
 rd:Nat
 eofA:Addr
 pcA:Option Addr
 pcN:Nat
 pcC:Nat
 pcs:List Int
abbrev Cx.B (x:Cx):Nat:=x.W0.heap.size
abbrev Cx.eofV (x:Cx):Value:=.iface 192 (.pointer (some x.eofA))
abbrev FD:Value:=.iface 112 (.agg #[])
structure Cx.Ok (x:Cx):Prop where
 len:x.T.length≤1000000000
 d:x.B≤x.d
 br:x.B≤x.br
 rb:x.B≤x.rb
 rd:x.B≤x.rd
 ne1:x.d≠x.br
 ne2:x.d≠x.rb
 ne3:x.d≠x.rd
 ne4:x.br≠x.rb
 ne5:x.br≠x.rd
 ne6:x.rb≠x.rd
 eof:x.W0.cell? ⟨0,0,none⟩=some x.eofV
 eofL:x.eofA.block<x.B
 gB:0<x.B
 pcN:x.pcN≤9223372036854775807
 pcL:x.pcN≤x.pcC
 pc:0<x.pcN→∃ pb po:Nat,x.pcA=some ⟨pb,po,none⟩∧pb<x.B∧∀ j,j<x.pcN→x.W0.cell? ⟨pb,po+j,none⟩=some (.int .i64 (x.pcs.getD j 0))
def Cx.S0 (x:Cx) (k:Nat):Prop:=k=x.d∨k=x.br∨k=x.rb∨k=x.rd
end Go.Proofs.YtdjdjbpnbjdaaaaGreatDoor
namespace Go.Proofs.YtdjdjbpnbjdaaaaGreatDoor
open Go Tryz
def lk (f:Nat→Value):List (Nat×Value)→Nat→Value
 | [],t=>f t
 | (d,v)::L,t=>if t=d then v else lk f L t
def K3 (n:Nat) (f:Nat→Value) (L:List (Nat×Value)):Act:=⟨Array.ofFn (n:=n) fun i=>lk f L i.val,[]⟩
theorem bD (f:Nat→Value) (t:Nat):lk f [] t=f t:=of_eq_true (eq_self _)
theorem aS (f:Nat→Value) (d:Nat) (v:Value) (L:List (Nat×Value)) (t:Nat):lk f ((d,v)::L) t=if t=d then v else lk f L t:=of_eq_true (eq_self _)
structure a3P (F:Nat→(Nat→Value)→List (Nat×Value)→Act):Prop where
 is:F=K3
theorem XI {n:Nat} {f:Nat→Value} {L:List (Nat×Value)} {t:Nat} (h:t<n):(K3 n f L).tmps[t]?=some (lk f L t):=by
 simp [K3,h]
theorem Fw {n:Nat} {f:Nat→Value} {L:List (Nat×Value)} {d:Nat} (_h:d<n) (v:Value):(K3 n f L).tmps.setIfInBounds d v=(K3 n f ((d,v)::L)).tmps:=by
 apply Array.ext
 ·simp [K3]
 ·intro i h1 h2
  simp [K3] at h1
  rw [Array.getElem_setIfInBounds (by simpa [K3] using h1)]
  simp only [K3,Array.getElem_ofFn,lk]
  by_cases hd:d=i
  ·subst hd;simp
  ·rw [if_neg hd,if_neg (fun e=>hd e.symm)]
noncomputable def frP:{ F:Nat→(Nat→Value)→List (Nat×Value)→Act // a3P F }:=Classical.choice ⟨⟨K3,⟨rfl⟩⟩⟩
noncomputable def fr (n:Nat) (f:Nat→Value) (L:List (Nat×Value)):Act:=frP.val n f L
theorem AM (n:Nat) (f:Nat→Value) (L:List (Nat×Value)):fr n f L=K3 n f L:=by
 unfold fr;rw [frP.property.is]
theorem kN (n:Nat) (f:Nat→Value) (L:List (Nat×Value)):(fr n f L).defers=[]:=by rw [AM];rfl
theorem RR {n:Nat} {f:Nat→Value} {L:List (Nat×Value)} {t:Nat} (h:t<n):(fr n f L).tmps[t]?=some (lk f L t):=by
 rw [AM];exact XI h
theorem lF {n:Nat} {f:Nat→Value} {L:List (Nat×Value)} {t:Nat} (h:t<n) (u:Value):(fr n f L).tmps.getD t u=lk f L t:=by
 rw [Array.getD_eq_getD_getElem?,RR h];rfl
theorem XJ {n:Nat} {f:Nat→Value} {L:List (Nat×Value)} {d:Nat} (h:d<n) (v:Value):(fr n f L).tmps.setIfInBounds d v=(fr n f ((d,v)::L)).tmps:=by
 rw [AM,AM];exact Fw h v
theorem XK (n:Nat) (f:Nat→Value) (L:List (Nat×Value)):(⟨(fr n f L).tmps,[]⟩:Act)=fr n f L:=by rw [AM];rfl
theorem dZ {n:Nat} {f:Nat→Value} {L:List (Nat×Value)} {t:Nat} (h:t<n):(fr n f L).eval (.tmp t)=lk f L t:=lF h _
theorem mC {n:Nat} {f:Nat→Value} {L:List (Nat×Value)} {d:Nat} (h:d<n) (v:Value):(fr n f L).put (some d) v=fr n f ((d,v)::L):=by
 show (⟨(fr n f L).tmps.setIfInBounds d v,(fr n f L).defers⟩:Act)=_
 rw [XJ h,kN,XK]
def keep (f:Nat→Value) (L:List (Nat×Value)):List Nat→List (Nat×Value)
 | []=>[]
 | k::ks=>(k,lk f L k)::keep f L ks
theorem aQ (f:Nat→Value) (L:List (Nat×Value)):keep f L []=[]:=of_eq_true (eq_self _)
theorem aL (f:Nat→Value) (L:List (Nat×Value)) (k:Nat) (ks:List Nat):keep f L (k::ks)=(k,lk f L k)::keep f L ks:=of_eq_true (eq_self _)
theorem RS (f:Nat→Value) (L:List (Nat×Value)):∀ (ks:List Nat) (t:Nat),lk (lk f L) (keep f L ks) t=lk f L t
 | [],t=>rfl
 | k::ks,t=>by
  simp only [keep,lk]
  split
  ·rename_i h;subst h;rfl
  ·exact RS f L ks t
theorem IL (n:Nat) (f:Nat→Value) (L:List (Nat×Value)) (ks:List Nat):fr n f L=fr n (lk f L) (keep f L ks):=by
 rw [AM,AM];simp only [K3,RS]
theorem Fx {P:Program} {c:Code} {Q:Exit→Act→World→Prop} {n:Nat} {f:Nat→Value} {L:List (Nat×Value)} {w:World} (ks:List Nat) (h:∀ g,c.wp P Q (fr n g (keep f L ks)) w):c.wp P Q (fr n f L) w:=by
 rw [IL n f L ks];exact h _
theorem Qj {K:Act→World→Prop} {n:Nat} {f:Nat→Value} {L:List (Nat×Value)} {w:World} (ks:List Nat) (h:∀ g,K (fr n g (keep f L ks)) w):K (fr n f L) w:=by
 rw [IL n f L ks];exact h _
theorem Ql {Q:Exit→Act→World→Prop} {e:Exit} {n:Nat} {f:Nat→Value} {L:List (Nat×Value)} {w:World} (ks:List Nat) (h:∀ g,Q e (fr n g (keep f L ks)) w):Q e (fr n f L) w:=by
 rw [IL n f L ks];exact h _
def aE:Nat→List Value→List (Nat×Value)
 | _,[]=>[]
 | i,v::vs=>(i,v)::aE (i+1) vs
theorem AN (f:Nat→Value):∀ (vs:List Value) (i t:Nat),i≤t→lk f (aE i vs) t=(vs[t-i]?).getD (f t)
 | [],i,t,_=>by simp [aE,lk]
 | v::vs,i,t,h=>by
  simp only [aE,lk]
  split
  ·rename_i e;subst e;simp
  ·rw [AN f vs (i+1) t (by omega),show t-i=(t-(i+1))+1 by omega,List.getElem?_cons_succ]
theorem XL {P:Program} {fid:FuncId} {fn:Func} {c:Code} {vs:List Value} {w:World} {R:Ending→World→Prop} (n:Nat) (hf:P.funcs[fid]?=some fn) (hb:fn.body=some c) (hn:fn.ntmps=n) (iK:vs.length≤n)
  (h:∀ f,c.wp P (bodyPost P fn R) (fr n f (aE 0 vs)) w):Calls P fid vs.toArray w R:=by
 refine calls_of_wp hf hb ?_
 have e:({ tmps:=vs.toArray++Array.replicate (fn.ntmps-vs.toArray.size) undef,defers:=[] }:Act)=fr n (fun _=>undef) (aE 0 vs):=by
  subst hn
  rw [AM]
  simp only [K3]
  congr 1
  apply Array.ext
  ·simp;omega
  ·intro i h1 h2
   simp only [Array.getElem_ofFn]
   rw [AN _ vs 0 i (Nat.zero_le _)]
   by_cases hi:i<vs.length
   ·simp [Array.getElem_append,hi]
   ·simp [Array.getElem_append,hi]
 rw [e];exact h _
theorem Fy {P:Program} {fn:Func} {R:Ending→World→Prop} {n:Nat} {f:Nat→Value} {L:List (Nat×Value)} {w:World} {t:Nat} (hr:fn.results=#[.tmp t]) (ht:t<n) (h:R (.returned (lk f L t)) w):bodyPost P fn R .ret (fr n f L) w:=by
 refine bodyPost_ret (v:=lk f L t) ?_ (kN n f L) h
 rw [results_tmp hr,lF ht]
theorem Fz {P:Program} {fn:Func} {R:Ending→World→Prop} {n:Nat} {f:Nat→Value} {L:List (Nat×Value)} {w:World} {t u:Nat} (hr:fn.results=#[.tmp t,.tmp u]) (ht:t<n) (hu:u<n) (h:R (.returned (.tuple #[lk f L t,lk f L u])) w):bodyPost P fn R .ret (fr n f L) w:=by
 refine bodyPost_ret (v:=.tuple #[lk f L t,lk f L u]) ?_ (kN n f L) h
 rw [results_tmp2 hr,lF ht,lF hu]
theorem lG {P:Program} {fn:Func} {R:Ending→World→Prop} {n:Nat} {f:Nat→Value} {L:List (Nat×Value)} {w:World} (hr:fn.results=#[]) (h:R (.returned (.tuple #[])) w):bodyPost P fn R .ret (fr n f L) w:=by
 refine bodyPost_ret (v:=.tuple #[]) ?_ (kN n f L) h
 rw [results_none hr]
theorem Ga {P:Program} {fn:Func} {R:Ending→World→Prop} {n:Nat} {f:Nat→Value} {L:List (Nat×Value)} {w:World} {t:Nat} {v:Value} (hr:fn.results=#[.tmp t]) (ht:t<n) (h1:lk f L t=v) (h:R (.returned v) w):bodyPost P fn R .ret (fr n f L) w:=by
 subst h1;exact Fy hr ht h
theorem IM {P:Program} {fn:Func} {R:Ending→World→Prop} {n:Nat} {f:Nat→Value} {L:List (Nat×Value)} {w:World} {t u:Nat} {v v':Value} (hr:fn.results=#[.tmp t,.tmp u]) (ht:t<n) (hu:u<n) (h1:lk f L t=v) (h2:lk f L u=v') (h:R (.returned (.tuple #[v,v'])) w):bodyPost P fn R .ret (fr n f L) w:=by
 subst h1;subst h2;exact Fz hr ht hu h
theorem Gb {P:Program} {fn:Func} {R:Ending→World→Prop} {n:Nat} {f:Nat→Value} {L:List (Nat×Value)} {w:World} {t u s:Nat} {v v' v2:Value} (hr:fn.results=#[.tmp t,.tmp u,.tmp s]) (ht:t<n) (hu:u<n) (hs:s<n) (h1:lk f L t=v) (h2:lk f L u=v') (h3:lk f L s=v2) (h:R (.returned (.tuple #[v,v',v2])) w):bodyPost P fn R .ret (fr n f L) w:=by
 subst h1;subst h2;subst h3
 refine bodyPost_ret (v:=.tuple #[lk f L t,lk f L u,lk f L s]) ?_ (kN n f L) h
 have e:∀ (tmps:Array Value),(results fn tmps).run P w=.ok (.tuple #[tmps.getD t undef,tmps.getD u undef,tmps.getD s undef]) w:=fun tmps=>by simp [results,hr]
 rw [e,lF ht,lF hu,lF hs]
theorem kO {P:Program} {fn:Func} {R:Ending→World→Prop} {a:Act} {w:World} (h:bodyPost P fn R .ret a w):bodyPost P fn R .normal a w:=h
attribute [irreducible] fr lk keep
attribute [go_sem] kN RR lF XJ XK bD aS
theorem zA {P:Program} {Q:Exit→Act→World→Prop} {a:Act} {w:World} {x y:Code} (h:∀ K:Act→World→Prop,(∀ a w,y.wp P Q a w→K a w)→x.wp P (Exit.then K Q) a w):(Code.seq x y).wp P Q a w:=wp_seq_k h
theorem zB {P:Program} {Q:Exit→Act→World→Prop} {a:Act} {w:World} {id:Nat} {l:List Oper} (h:wpList P l.toArray Q l a w):(Code.region id l.toArray false).wp P Q a w:=wp_region_lit h
theorem zC {P:Program} {ops:Array Oper} {Q:Exit→Act→World→Prop} {a:Act} {w:World} (h:Q .normal a w):wpList P ops Q [] a w:=h
theorem zD {P:Program} {ops:Array Oper} {Q:Exit→Act→World→Prop} {a:Act} {w:World} {rest:List Oper} {o:Oper} (hg:o.guard=none) (h:∀ K:Act→World→Prop,(∀ a w,wpList P ops Q rest a w→K a w)→o.wp P a w K Q):wpList P ops Q (o::rest) a w:=wpList_plain hg h
theorem zE {P:Program} {ops:Array Oper} {Q:Exit→Act→World→Prop} {a:Act} {w:World} {rest:List Oper} {o:Oper} (h:∀ K:Act→World→Prop,(∀ a w,wpList P ops Q rest a w→K a w)→if Region.wanted o (yielded ops a.tmps) then o.wp P a w K Q else K (a.put o.dst undef) w):wpList P ops Q (o::rest) a w:=wpList_step h
theorem zt {P:Program} {Q:Exit→Act→World→Prop} {a:Act} {w:World} {c:Operand} {x y:Code} (h:x.wp P Q a w) (hc:a.eval c=.bool true:=by go_simp;first|done|omega):(Code.cond c x y).wp P Q a w:=wp_cond hc h
theorem zf {P:Program} {Q:Exit→Act→World→Prop} {a:Act} {w:World} {c:Operand} {x y:Code} (h:y.wp P Q a w) (hc:a.eval c=.bool false:=by go_simp;first|done|omega):(Code.cond c x y).wp P Q a w:=wp_cond hc h
theorem zG {P:Program} {Q:Exit→Act→World→Prop} {a:Act} {w:World} {id:Nat} (h:Q (.exit id) a w):(Code.exit id).wp P Q a w:=wp_exit h
theorem zR {P:Program} {Q:Exit→Act→World→Prop} {a:Act} {w:World} (h:Q .ret a w):Code.ret.wp P Q a w:=wp_ret h
theorem zK {P:Program} {Q:Exit→Act→World→Prop} {a:Act} {w:World} {id:Nat} {c:Code} (h:c.wp P (Exit.inBlock id Q) a w):(Code.block id c).wp P Q a w:=wp_block h
theorem zL {P:Program} {Q:Exit→Act→World→Prop} {a:Act} {w:World} {l:Nat} (h:Q .normal a w):(Code.label l).wp P Q a w:=wp_label h
theorem zN {P:Program} {Q:Exit→Act→World→Prop} {a:Act} {w:World} (h:Q .normal a w):Code.skip.wp P Q a w:=wp_skip h
theorem zS {P:Program} {Q:Exit→Act→World→Prop} {a:Act} {w:World} {c:Code} (h:c.wp P (Exit.noGoto Q) a w):(Code.scope c).wp P Q a w:=wp_scope_straight h
def Code.startsAt (id:Nat):Code→Bool
 | .region i _ _=>i==id
 | .seq a _=>Code.startsAt id a
 | _=>false
def Code.partAt (id:Nat):Code→Option Code
 | .seq a b=>if Code.startsAt id a then some (.seq a b) else match Code.partAt id a with
  | some c=>some c
  | none=>Code.partAt id b
 | .region i o d=>if i==id then some (.region i o d) else none
 | .cond _ a b=>match Code.partAt id a with
  | some c=>some c
  | none=>Code.partAt id b
 | .block _ c=>Code.partAt id c
 | .loop c=>Code.partAt id c
 | .scope c=>Code.partAt id c
 | _=>none
theorem aY {P:Program} {c c':Code} {Q:Exit→Act→World→Prop} {a:Act} {w:World} (h:c.wp P Q a w) (e:c'=c):c'.wp P Q a w:=e▸h
structure Vgo (p q:Prop):Prop where
 of:q→p
theorem vg {p q:Prop} (h:q) (H:Vgo p q:=by constructor;intro rQ;replace rQ:=Lib.hid rQ;(repeat with_reducible intro K hK);(repeat (first|(with_reducible first|refine zA fun K hK=>?_|refine zB ?_|refine zC ?_)|((with_reducible first|refine zD rfl fun K hK=>?_|refine zE fun K hK=>?_);go_simp)|(with_reducible first|((repeat ((fail_if_success refine hK _ _ ?_);clear hK K));refine hK _ _ ?_;clear hK K)|refine zt ?_|refine zf ?_|refine zG ?_|refine zR ?_|refine zK ?_|refine zL ?_|refine zN ?_|refine zS ?_)|simp only [Exit.then,Exit.inBlock,Exit.noGoto,↓reduceIte,Nat.reduceEqDiff]|simp only [undef,reduceCtorEq,↓reduceIte]));(repeat revert K);exact rQ.out):p:=H.of h
theorem Lh {p:Prop} (h:p):RowKit.Hid p:=Lib.hid h
structure VAt (n:Nat):Prop where
 t:True
structure a3Q (n:Nat) (p q:Prop):Prop where
 of:VAt n→q→p
theorem XM {ops:Array Oper} {d:Bool} {rest:Code} {P:Program} {Q:Exit→Act→World→Prop} {a:Act} {w:World} {n:Nat} (_:VAt n) (h:((Code.region n ops d).seq rest).wp P Q a w):((Code.region n ops d).seq rest).wp P Q a w:=h
theorem XN {ops:Array Oper} {d:Bool} {rest rest':Code} {P:Program} {Q:Exit→Act→World→Prop} {a:Act} {w:World} {n:Nat} (_:VAt n) (h:(((Code.region n ops d).seq rest).seq rest').wp P Q a w):(((Code.region n ops d).seq rest).seq rest').wp P Q a w:=h
theorem vT (n:Nat) {p q:Prop} (h:q) (H:a3Q n p q:=by constructor;intro hA rQ;replace rQ:=Lib.hid rQ;(repeat with_reducible intro K hK);(repeat ((fail_if_success with_reducible refine XM hA ?_);(fail_if_success with_reducible refine XN hA ?_);(first|(with_reducible first|refine zA fun K hK=>?_|refine zB ?_|refine zC ?_)|((with_reducible first|refine zD rfl fun K hK=>?_|refine zE fun K hK=>?_);go_simp)|(with_reducible first|((repeat ((fail_if_success refine hK _ _ ?_);clear hK K));refine hK _ _ ?_;clear hK K)|refine zt ?_|refine zf ?_|refine zG ?_|refine zR ?_|refine zK ?_|refine zL ?_|refine zN ?_|refine zS ?_)|simp only [Exit.then,Exit.inBlock,Exit.noGoto,↓reduceIte,Nat.reduceEqDiff]|simp only [undef,reduceCtorEq,↓reduceIte])));(repeat revert K);exact rQ.out):p:=H.of ⟨trivial⟩ h
theorem vB {p q:Prop} (h:q) (H:Vgo p q:=by constructor;intro rQ;replace rQ:=Lib.hid rQ;(repeat with_reducible intro K hK);(repeat ((fail_if_success at_builtin);(first|(with_reducible first|refine zA fun K hK=>?_|refine zB ?_|refine zC ?_)|((with_reducible first|refine zD rfl fun K hK=>?_|refine zE fun K hK=>?_);go_simp)|(with_reducible first|((repeat ((fail_if_success refine hK _ _ ?_);clear hK K));refine hK _ _ ?_;clear hK K)|refine zt ?_|refine zf ?_|refine zG ?_|refine zR ?_|refine zK ?_|refine zL ?_|refine zN ?_|refine zS ?_)|simp only [Exit.then,Exit.inBlock,Exit.noGoto,↓reduceIte,Nat.reduceEqDiff]|simp only [undef,reduceCtorEq,↓reduceIte])));(repeat revert K);exact rQ.out):p:=H.of h
theorem vS {p q:Prop} (h:q) (H:Vgo p q:=by constructor;intro rQ;replace rQ:=Lib.hid rQ;(repeat with_reducible intro K hK);go_simp;(repeat (first|(with_reducible first|refine zA fun K hK=>?_|refine zB ?_|refine zC ?_)|((with_reducible first|refine zD rfl fun K hK=>?_|refine zE fun K hK=>?_);go_simp)|(with_reducible first|((repeat ((fail_if_success refine hK _ _ ?_);clear hK K));refine hK _ _ ?_;clear hK K)|refine zt ?_|refine zf ?_|refine zG ?_|refine zR ?_|refine zK ?_|refine zL ?_|refine zN ?_|refine zS ?_)|simp only [Exit.then,Exit.inBlock,Exit.noGoto,↓reduceIte,Nat.reduceEqDiff]|simp only [undef,reduceCtorEq,↓reduceIte]));(repeat revert K);exact rQ.out):p:=H.of h
theorem cW {P:Program} {fn:Func} {R:Ending→World→Prop} {m:Nat} {f:Nat→Value} {L:List (Nat×Value)} {w:World} {t:Nat} {v:Value} (h:R (.returned v) w) (H:fn.results=#[.tmp t] ∧ t<m ∧ lk f L t=v:=by exact ⟨rfl,by decide,by simp only [aS,bD,Nat.reduceEqDiff,↓reduceIte];rfl⟩):bodyPost P fn R .ret (fr m f L) w:=by
 obtain ⟨h0,h1,h2⟩:=H
 exact Ga h0 h1 h2 h
theorem kX {P:Program} {fn:Func} {R:Ending→World→Prop} {m:Nat} {f:Nat→Value} {L:List (Nat×Value)} {w:World} {t u:Nat} {v v':Value} (h:R (.returned (.tuple #[v,v'])) w) (H:fn.results=#[.tmp t,.tmp u] ∧ t<m ∧ u<m ∧ lk f L t=v ∧ lk f L u=v':=by exact ⟨rfl,by decide,by decide,by simp only [aS,bD,Nat.reduceEqDiff,↓reduceIte];rfl,by simp only [aS,bD,Nat.reduceEqDiff,↓reduceIte];rfl⟩):bodyPost P fn R .ret (fr m f L) w:=by
 obtain ⟨h0,h1,h2,h3,h4⟩:=H
 exact IM h0 h1 h2 h3 h4 h
theorem WV {P:Program} {fn:Func} {R:Ending→World→Prop} {m:Nat} {f:Nat→Value} {L:List (Nat×Value)} {w:World} {t u s:Nat} {v v' v2:Value} (h:R (.returned (.tuple #[v,v',v2])) w) (H:fn.results=#[.tmp t,.tmp u,.tmp s] ∧ t<m ∧ u<m ∧ s<m ∧ lk f L t=v ∧ lk f L u=v' ∧ lk f L s=v2:=by exact ⟨rfl,by decide,by decide,by decide,by simp only [aS,bD,Nat.reduceEqDiff,↓reduceIte];rfl,by simp only [aS,bD,Nat.reduceEqDiff,↓reduceIte];rfl,by simp only [aS,bD,Nat.reduceEqDiff,↓reduceIte];rfl⟩):bodyPost P fn R .ret (fr m f L) w:=by
 obtain ⟨h0,h1,h2,h3,h4,h5,h6⟩:=H
 exact Gb h0 h1 h2 h3 h4 h5 h6 h
theorem eJ {P:Program} {fid:FuncId} {fn:Func} {c:Code} {w:World} {R:Ending→World→Prop} (n:Nat) (hf:P.funcs[fid]?=some fn) (vs:List Value) (h:∀ f,c.wp P (bodyPost P fn R) (fr n f (aE 0 vs)) w) (H:fn.body=some c ∧ fn.ntmps=n ∧ vs.length≤n:=by exact ⟨rfl,rfl,Nat.le_of_ble_eq_true rfl⟩):Calls P fid vs.toArray w R:=XL n hf H.1 H.2.1 H.2.2 h
theorem cJ {P:Program} {c:Code} {Q:Exit→Act→World→Prop} {n:Nat} {f:Nat→Value} {L L':List (Nat×Value)} {w:World} (ks:List Nat) (h:∀ g,c.wp P Q (fr n g L') w) (H:keep f L ks=L':=by simp only [aL,aQ,aS,bD,Nat.reduceEqDiff,↓reduceIte];rfl):c.wp P Q (fr n f L) w:=Fx ks (H▸h)
theorem Kk {K:Act→World→Prop} {n:Nat} {f:Nat→Value} {L L':List (Nat×Value)} {w:World} (ks:List Nat) (h:∀ g,K (fr n g L') w) (H:keep f L ks=L':=by simp only [aL,aQ,aS,bD,Nat.reduceEqDiff,↓reduceIte];rfl):K (fr n f L) w:=Qj ks (H▸h)
theorem Qk {Q:Exit→Act→World→Prop} {e:Exit} {n:Nat} {f:Nat→Value} {L L':List (Nat×Value)} {w:World} (ks:List Nat) (h:∀ g,Q e (fr n g L') w) (H:keep f L ks=L':=by simp only [aL,aQ,aS,bD,Nat.reduceEqDiff,↓reduceIte];rfl):Q e (fr n f L) w:=Ql ks (H▸h)
end Go.Proofs.YtdjdjbpnbjdaaaaGreatDoor
namespace Go.Proofs.YtdjdjbpnbjdaaaaGreatDoor
open Go Go.RowKit Tryz
theorem oH (bQ:Bool):∀ (ds:Bs) (n:Nat),n≤ds.foldl (fun n b=>n*(if bQ then 16 else 10)+dH b) n
 | [],n=>Nat.le_refl _
 | b::ds,n=>by
  refine Nat.le_trans ?_ (oH bQ ds _)
  show n≤n*(if bQ then 16 else 10)+dH b
  cases bQ<;>simp<;>omega
theorem AO {bQ:Bool} {b:UInt8} (h:eY bQ b=true):(48≤b.toNat∧b.toNat≤57∧dH b=b.toNat-48)∨(bQ=true∧97≤b.toNat∧b.toNat≤102∧dH b=b.toNat-87)∨(bQ=true∧65≤b.toNat∧b.toNat≤70∧dH b=b.toNat-55):=by
 have e1:(48:UInt8).toNat=48:=rfl
 have e2:(57:UInt8).toNat=57:=rfl
 have e3:(97:UInt8).toNat=97:=rfl
 have e4:(102:UInt8).toNat=102:=rfl
 have e5:(65:UInt8).toNat=65:=rfl
 have e6:(70:UInt8).toNat=70:=rfl
 simp only [eY,Bool.or_eq_true,Bool.and_eq_true,decide_eq_true_eq,UInt8.le_iff_toNat_le,e1,e2,e3,e4,e5,e6] at h
 unfold dH
 simp only [UInt8.le_iff_toNat_le,e2,e3]
 rcases h with (⟨h1,h2⟩|⟨⟨h0,h1⟩,h2⟩)|⟨⟨h0,h1⟩,h2⟩
 ·left;rw [if_pos h2];exact ⟨h1,h2,rfl⟩
 ·right;left;rw [if_neg (by omega),if_pos h1];exact ⟨h0,h1,h2,rfl⟩
 ·right;right;rw [if_neg (by omega),if_neg (by omega)];exact ⟨h0,h1,h2,rfl⟩
theorem XO (n v:Nat) (h:(97≤n∧n≤102∧v=n)∨(65≤n∧n≤70∧v=n+32)) (w:World):Calls prog 121 #[.int .u8 n] w fun e w'=>e=.returned (.int .u8 v)∧w=w':=by
 rcases h with ⟨h1,h2,rfl⟩|⟨h1,h2,rfl⟩
 ·have hs:v=97∨v=98∨v=99∨v=100∨v=101∨v=102:=by omega
  clear h1 h2
  rcases hs with rfl|rfl|rfl|rfl|rfl|rfl
  all_goals
   go_enter func121,ntmps121
   go_wp2
   go_ret
   exact ⟨rfl,rfl⟩
 ·have hs:n=65∨n=66∨n=67∨n=68∨n=69∨n=70:=by omega
  clear h1 h2
  rcases hs with rfl|rfl|rfl|rfl|rfl|rfl
  all_goals
   go_enter func121,ntmps121
   go_wp2
   go_ret
   exact ⟨rfl,rfl⟩
abbrev XP (s:Bs):Value:=.string ⟨s.toArray⟩
def rR (bQ:Bool) (ds:Bs) (u:TypeId) (en:Ending):Prop:=
 if ds=[]∨18446744073709551616≤gL bQ ds then ∃ n k,en=.returned (.tuple #[.int .u64 n,.iface u (.int .i64 k)])∧(k=1∨k=2) else en=.returned (.tuple #[.int .u64 (gL bQ ds),.nilIface])
def XQ (bQ:Bool) (ds:Bs) (bsl:Value) (w1:World) (k:Nat) (a:Act) (w:World):Prop:=
 ∃ (f:Nat→Value) (i acc:Nat) (n:Int),a=fr 172 f [(0,XP ds),(1,.int .i64 (if bQ then 16 else 10)),(8,.bool false),(10,.int .u64 (if bQ then 1152921504606846976 else 1844674407370955162)),(11,.int .u64 18446744073709551615),(12,.bool false),(13,.int .u64 n),(99,bsl),(100,.int .i64 ds.length),(101,.int .i64 i)] ∧
  w=w1∧i≤ds.length∧k=ds.length-i∧n=(acc:Int)∧acc<18446744073709551616∧gL bQ ds=(ds.drop i).foldl (fun n b=>n*(if bQ then 16 else 10)+dH b) acc
noncomputable def OX:Code:=((Tryz.f108.body).bind (Code.partAt 36)).getD .skip
structure Mz (ds:Bs) (b:Nat) (w1:World):Prop where
 at':∀ j,(hj:j<ds.length)→w1.cell? ⟨b,j,none⟩=some (.int .u8 ds[j].toNat)
theorem RT (bQ:Bool) (ds:Bs) (hd:∀ b∈ds,eY bQ b=true) (hl:ds.length≤1000000000) (b cap:Nat) (w0 w1:World) (hm:Mz ds b w1) (hB:Below w0.heap.size w0 w1) (K:Act→World→Prop) (J:Nat→Act→World→Prop) (k:Nat)
  (f:Nat→Value) (i acc:Nat) (n:Int) (hi:i≤ds.length) (hk:k=ds.length-i) (hn:n=(acc:Int)) (IN:acc<18446744073709551616) (rS:gL bQ ds=(ds.drop i).foldl (fun n b=>n*(if bQ then 16 else 10)+dH b) acc)
  (hJ:∀ k a w,XQ bQ ds (.slice (some ⟨b,0,none⟩) ds.length cap) w1 k a w→J k a w) (hK:∀ a w,Handed J k a w→K a w) (K2:Act→World→Prop)
  (cY:∀ f n,18446744073709551616 > gL bQ ds→n=(gL bQ ds:Int)→K2 (fr 172 f [(0,XP ds),(12,.bool false),(13,.int .u64 n)]) w1) :
  OX.wp prog (Exit.then K (Exit.inBlock 3 (Exit.then K2 (bodyPost prog Tryz.f108 fun en w'=>rR bQ ds 234 en∧Below w0.heap.size w0 w'))))
   (fr 172 f [(0,XP ds),(1,.int .i64 (if bQ then 16 else 10)),(8,.bool false),(10,.int .u64 (if bQ then 1152921504606846976 else 1844674407370955162)),(11,.int .u64 18446744073709551615),(12,.bool false),(13,.int .u64 n),(99,.slice (some ⟨b,0,none⟩) ds.length cap),(100,.int .i64 ds.length),(101,.int .i64 i)]) w1:=by
 have n0:0≤n:=by omega
 have n1:n<18446744073709551616:=by omega
 have Yy:(ds.length:Int)≤1000000000:=by omega
 have HK:=Lh hk
 have HN:=Lh hn
 have HA:=Lh IN
 have HB:=Lh hB
 have nQ:=Lh rS
 have HJ:=Lh hJ
 have dN:=Lh cY
 clear hk hn IN hB hJ cY
 by_cases bB:i<ds.length
 ·have hc:=hm.at' i bB
  have Qm:=hd ds[i] (List.getElem_mem bB)
  rw [show ds.drop i=ds[i]::ds.drop (i+1) from List.drop_eq_getElem_cons bB,List.foldl_cons] at rS
  generalize ds[i]=c at hc Qm rS
  obtain ⟨cn,EY⟩:∃ cn,cn=c.toNat:=⟨_,rfl⟩
  obtain ⟨dI,hdI⟩:∃ dI:Int,dI=(dH c:Int):=⟨_,rfl⟩
  have iZ:((48:Int)≤cn∧(cn:Int)≤57∧dI=(cn:Int)-48∧dI≤9)∨(bQ=true∧∃ v:Nat,((97≤cn∧cn≤102∧v=cn)∨(65≤cn∧cn≤70∧v=cn+32))∧dI=(v:Int)-97+10∧(97:Int)≤v∧(v:Int)≤102):=by
   rcases AO Qm with ⟨h1,h2,h3⟩|⟨hx,h1,h2,h3⟩|⟨hx,h1,h2,h3⟩
   ·left;omega
   ·right;exact ⟨hx,cn,by omega,by omega,by omega,by omega⟩
   ·right;exact ⟨hx,cn+32,by omega,by omega,by omega,by omega⟩
  have XR:0≤dI:=by omega
  have Qn:=Lh hdI
  have nQ:=Lh rS
  rw [←EY] at hc
  clear EY Qm hdI rS hd hm
  unfold OX
  conv=>arg 2;whnf
  cases bQ
  ·simp only [Bool.false_eq_true,↓reduceIte] at nQ ⊢
   rcases iZ with ⟨h1,h2,h3,h4⟩|⟨hx,_⟩
   ·have HH3:=Lh h3
    have Yz:IntKind.u8.wrap ((cn:Int)-48)=dI:=by rw [IntKind.wrap_u8];omega
    have Za:IntKind.u64.wrap dI=dI:=by rw [IntKind.wrap_u64];omega
    have cB:((cn:Int)==95)=false:=by simp;omega
    have h5:dI<10:=by omega
    have bP:IntKind.u8.wrap 10=10:=by rw [IntKind.wrap_u8];rfl
    have dJ:IntKind.u64.wrap 10=10:=by rw [IntKind.wrap_u64];rfl
    have XS:IntKind.i64.wrap ((i:Int)+1)=((i+1:Nat):Int):=by rw [IntKind.wrap_i64];omega
    clear h3
    by_cases hcut:(1844674407370955162:Int)≤n
    ·(revert K;refine vg ?_;(repeat with_reducible intro K hK))
     (refine kX ?_)
     refine ⟨?_,HB.out⟩
     unfold rR
     rw [if_pos (Or.inr (by
      rw [nQ.out]
      have h:=oH false (ds.drop (i+1)) (acc*10+dH c)
      simp only [Bool.false_eq_true,↓reduceIte] at h
      have:=HN.out
      omega))]
     exact ⟨_,_,rfl,by decide⟩
    ·have qF:IntKind.u64.wrap (n*10)=n*10:=by rw [IntKind.wrap_u64];omega
     by_cases hov:n*10+dI<18446744073709551616
     ·have n7:IntKind.u64.wrap (n*10+dI)=n*10+dI:=by rw [IntKind.wrap_u64];omega
      have Es:¬ (n*10+dI<n*10):=by omega
      have KL:¬ (18446744073709551615<n*10+dI):=by omega
      (revert K;refine vg ?_)
      (refine Kk [0,1,8,10,11,12,13,99,100,101] fun f=>?_)
      refine ⟨ds.length-(i+1),by have:=HK.out;omega,HJ.out _ _ _ ⟨f,i+1,acc*10+dH c,_,rfl,rfl,by omega,rfl,by have:=HN.out;have:=Qn.out;omega,by have:=HN.out;have:=Qn.out;omega,nQ.out⟩⟩
     ·have n7:IntKind.u64.wrap (n*10+dI)=n*10+dI-18446744073709551616:=by rw [IntKind.wrap_u64];omega
      have Es:n*10+dI-18446744073709551616<n*10:=by omega
      (revert K;refine vg ?_;(repeat with_reducible intro K hK))
      (refine kX ?_)
      refine ⟨?_,HB.out⟩
      unfold rR
      rw [if_pos (Or.inr (by
       rw [nQ.out]
       have h:=oH false (ds.drop (i+1)) (acc*10+dH c)
       simp only [Bool.false_eq_true,↓reduceIte] at h
       have:=HN.out
       have:=Qn.out
       omega))]
      exact ⟨_,_,rfl,by decide⟩
   ·cases hx
  ·simp only [↓reduceIte] at nQ ⊢
   rcases iZ with ⟨h1,h2,h3,h4⟩|⟨_,v,hv,h3,h1,h2⟩
   ·have HH3:=Lh h3
    have Yz:IntKind.u8.wrap ((cn:Int)-48)=dI:=by rw [IntKind.wrap_u8];omega
    have Za:IntKind.u64.wrap dI=dI:=by rw [IntKind.wrap_u64];omega
    have cB:((cn:Int)==95)=false:=by simp;omega
    have h5:dI<16:=by omega
    have bP:IntKind.u8.wrap 16=16:=by rw [IntKind.wrap_u8];rfl
    have dJ:IntKind.u64.wrap 16=16:=by rw [IntKind.wrap_u64];rfl
    have XS:IntKind.i64.wrap ((i:Int)+1)=((i+1:Nat):Int):=by rw [IntKind.wrap_i64];omega
    clear h3
    by_cases hcut:(1152921504606846976:Int)≤n
    ·(revert K;refine vg ?_;(repeat with_reducible intro K hK))
     (refine kX ?_)
     refine ⟨?_,HB.out⟩
     unfold rR
     rw [if_pos (Or.inr (by
      rw [nQ.out]
      have h:=oH true (ds.drop (i+1)) (acc*16+dH c)
      simp only [Bool.false_eq_true,↓reduceIte] at h
      have:=HN.out
      omega))]
     exact ⟨_,_,rfl,by decide⟩
    ·have qF:IntKind.u64.wrap (n*16)=n*16:=by rw [IntKind.wrap_u64];omega
     by_cases hov:n*16+dI<18446744073709551616
     ·have n7:IntKind.u64.wrap (n*16+dI)=n*16+dI:=by rw [IntKind.wrap_u64];omega
      have Es:¬ (n*16+dI<n*16):=by omega
      have KL:¬ (18446744073709551615<n*16+dI):=by omega
      (revert K;refine vg ?_)
      (refine Kk [0,1,8,10,11,12,13,99,100,101] fun f=>?_)
      refine ⟨ds.length-(i+1),by have:=HK.out;omega,HJ.out _ _ _ ⟨f,i+1,acc*16+dH c,_,rfl,rfl,by omega,rfl,by have:=HN.out;have:=Qn.out;omega,by have:=HN.out;have:=Qn.out;omega,nQ.out⟩⟩
     ·exfalso;omega
   ·have HH3:=Lh h3
    have Qo:=Lh (fun w=>XO cn v hv w)
    have RU:(57:Int)<cn:=by omega
    have CU:(48:Int)≤cn:=by omega
    have hvw:IntKind.u8.wrap ((v:Int)-97)=(v:Int)-97:=by rw [IntKind.wrap_u8];omega
    have Yz:IntKind.u8.wrap ((v:Int)-97+10)=dI:=by rw [IntKind.wrap_u8];omega
    have Za:IntKind.u64.wrap dI=dI:=by rw [IntKind.wrap_u64];omega
    have cB:((cn:Int)==95)=false:=by simp;omega
    have h5:dI<16:=by omega
    have bP:IntKind.u8.wrap 16=16:=by rw [IntKind.wrap_u8];rfl
    have dJ:IntKind.u64.wrap 16=16:=by rw [IntKind.wrap_u64];rfl
    have XS:IntKind.i64.wrap ((i:Int)+1)=((i+1:Nat):Int):=by rw [IntKind.wrap_i64];omega
    clear h3 hv
    (revert K;refine vg ?_;(repeat with_reducible intro K hK))
    refine (Qo.out _).mono ?_
    rintro e1 w2 ⟨rfl,rfl⟩
    ((repeat revert K);refine vS ?_;(repeat with_reducible intro K hK))
    refine (Qo.out _).mono ?_
    rintro e1 w2 ⟨rfl,rfl⟩
    ((repeat revert K);refine vS ?_;(repeat with_reducible intro K hK))
    refine (Qo.out _).mono ?_
    rintro e1 w2 ⟨rfl,rfl⟩
    go_simp
    by_cases hcut:(1152921504606846976:Int)≤n
    ·((repeat revert K);refine vg ?_;(repeat with_reducible intro K hK))
     (refine kX ?_)
     refine ⟨?_,HB.out⟩
     unfold rR
     rw [if_pos (Or.inr (by
      rw [nQ.out]
      have h:=oH true (ds.drop (i+1)) (acc*16+dH c)
      simp only [Bool.false_eq_true,↓reduceIte] at h
      have:=HN.out
      omega))]
     exact ⟨_,_,rfl,by decide⟩
    ·have qF:IntKind.u64.wrap (n*16)=n*16:=by rw [IntKind.wrap_u64];omega
     by_cases hov:n*16+dI<18446744073709551616
     ·have n7:IntKind.u64.wrap (n*16+dI)=n*16+dI:=by rw [IntKind.wrap_u64];omega
      have Es:¬ (n*16+dI<n*16):=by omega
      have KL:¬ (18446744073709551615<n*16+dI):=by omega
      ((repeat revert K);refine vg ?_)
      (refine Kk [0,1,8,10,11,12,13,99,100,101] fun f=>?_)
      refine ⟨ds.length-(i+1),by have:=HK.out;omega,HJ.out _ _ _ ⟨f,i+1,acc*16+dH c,_,rfl,rfl,by omega,rfl,by have:=HN.out;have:=Qn.out;omega,by have:=HN.out;have:=Qn.out;omega,nQ.out⟩⟩
     ·exfalso;omega
 ·have sX:i=ds.length:=by omega
  subst sX
  have OY:gL bQ ds=acc:=by
   have:=nQ.out
   rw [List.drop_eq_nil_of_le (Nat.le_refl _)] at this
   exact this
  have HDD:=Lh OY
  clear OY rS bB hi hm hd
  unfold OX
  conv=>arg 2;whnf
  (revert K;refine vg ?_;(repeat with_reducible intro K hK))
  (refine Kk [0,12,13] fun f=>?_)
  exact dN.out _ _ (by have:=HDD.out;have:=HA.out;omega) (by rw [HDD.out];exact HN.out)
theorem IP (bQ:Bool) (ds:Bs) (hd:∀ b∈ds,eY bQ b=true) (hl:ds.length≤1000000000) (w:World) :
  Calls prog 108 #[XP ds,.int .i64 (if bQ then 16 else 10),.int .i64 64] w fun en w'=>rR bQ ds 234 en∧Below w.heap.size w w':=by
 have HD:=Lh hd
 have hmv:IntKind.u64.wrap (IntKind.u64.wrap 18446744073709551616-1)=18446744073709551615:=by
  rw [IntKind.wrap_u64,IntKind.wrap_u64]
  decide
 have EZ:=Lib.run_convert_string_bytes (P:=prog) w 9 77 5 ⟨ds.toArray⟩ underlying9 underlying77 underlying5
 have HB:=Lh (fun (j:Nat) (hj:j<ds.length)=>(Lib.bytesWorld_cell w 5 ⟨ds.toArray⟩ j hj))
 have Gc:=Lh (Lib.bytesWorld_below w 5 ⟨ds.toArray⟩)
 obtain ⟨w1,qF⟩:∃ w1,w1=Lib.bytesWorld w 5 ⟨ds.toArray⟩:=⟨_,rfl⟩
 rw [←qF] at EZ HB Gc
 clear qF hd
 by_cases cB:ds=[]
 ·subst cB
  refine eJ 172 func108 [_,_,_] fun f=>?_
  simp only [aE]
  (refine vg ?_;intro K hK)
  (refine kX ?_)
  refine ⟨?_,Below.refl _ _⟩
  unfold rR
  rw [if_pos (Or.inl rfl)]
  exact ⟨_,_,rfl,by decide⟩
 ·have a3R:True:=trivial
  have a5J:ds.isEmpty=false:=by simp [cB]
  have kP:=Lh cB
  clear cB a3R
  cases bQ
  all_goals
   (try simp only [Bool.false_eq_true,↓reduceIte])
   refine eJ 172 func108 [_,_,_] fun f=>?_
   simp only [aE]
   (refine vg ?_;intro K hK)
   have Zb:IntKind.u64.wrap (IntKind.u64.wrap (2 ^ min (IntKind.u64.wrap 64).toNat 64)-1)=18446744073709551615:=by
    rw [IntKind.wrap_u64,IntKind.wrap_u64,IntKind.wrap_u64]
    decide
   (refine cJ [0,1,8,10,11,12,13,99,100,101] fun f=>?_)
   rw [Zb]
   clear Zb
   have h0:=Nat.zero_le ds.length
   have Zc:Mz ds w.heap.size w1:=⟨fun j hj=>by
    have h:=HB.out j hj
    rw [show (⟨ds.toArray⟩:ByteArray).data.toList.getD j 0=ds[j] by simp [List.getD,List.getElem?_eq_getElem hj]] at h
    exact h⟩
   first
    | refine wp_loop_ghost_k (XQ false ds (.slice (some ⟨w.heap.size,0,none⟩) ds.length (grownCap w ds.length 0 5)) w1) ds.length ⟨f,0,0,0,rfl,rfl,h0,rfl,rfl,by decide,by first|rfl|simp [gL]⟩ ?_
    | refine wp_loop_ghost_k (XQ true ds (.slice (some ⟨w.heap.size,0,none⟩) ds.length (grownCap w ds.length 0 5)) w1) ds.length ⟨f,0,0,0,rfl,rfl,h0,rfl,rfl,by decide,by first|rfl|simp [gL]⟩ ?_
   rintro k _ wr ⟨f,i,acc,n,rfl,rfl,hi,hk,hn,IN,rS⟩ J K2 hJ cY
   first
    | refine aY (RT false ds HD.out hl _ _ w _ Zc Gc.out K2 J k f i acc n hi hk hn IN rS hJ cY K ?_) (by kernel_rfl)
    | refine aY (RT true ds HD.out hl _ _ w _ Zc Gc.out K2 J k f i acc n hi hk hn IN rS hJ cY K ?_) (by kernel_rfl)
   intro f n iL gK
   subst gK
   have E0:=Lh iL
   clear iL hn rS IN
   (revert K;refine vg ?_)
   (refine kX ?_)
   refine ⟨?_,Gc.out⟩
   unfold rR
   rw [if_neg (by
    intro h
    rcases h with h|h
    ·exact kP.out h
    ·have:=E0.out;omega)]
@[go_sem] def AP (x:Cx) (s:ByteArray) (n:Int):Array Value:=#[.string s,.slice x.pcA x.pcN x.pcC,.int .i64 n,.bool x.o.fails]
def sY (x:Cx):Value:=if x.o.fails then FD else x.eofV
section
variable {P:Program}
def mD (l:Bs):List Value:=l.map fun b=>Value.int .u8 b.toNat
theorem IQ (w:World) (dT sT ty elem:TypeId) (g dLen dCap:Nat) (s:ByteArray) (cur:Array Value) (t:TypeId)
  (hu:P.underlying dT=some (.slice elem)) (hs:(P.info? elem).map (·.size)=some 1)
  (hg:w.heap[g]?=some (.cells cur t (0,0))) (XT:Nat.min s.size dLen≤cur.size) :
  (Builtin.copy_ #[dT,sT] ty #[.slice (some ⟨g,0,none⟩) dLen dCap,.string s]).run P w =
   .ok (goInt (Nat.min s.size dLen)) (w.setRow g (mD (s.data.toList.take (Nat.min s.size dLen))++cur.toList.drop (Nat.min s.size dLen)).toArray):=by
 have iK:Nat.min s.size dLen≤s.size:=Nat.min_le_left _ _
 have gE:s.data.toList.length=s.size:=rfl
 have dA:=run_storeCells_at P g 0 t ((s.data.toList.take (Nat.min s.size dLen)).map fun b=>Value.int .u8 b.toNat) 0 cur w hg (by
  simp only [List.length_map,List.length_take,gE];omega) (by intro v hv;simp only [List.mem_map] at hv;obtain ⟨b,_,rfl⟩:=hv;rfl)
 have hl:((s.data.toList.take (Nat.min s.size dLen)).map fun b=>Value.int .u8 b.toNat).length=Nat.min s.size dLen:=by
  simp only [List.length_map,List.length_take,gE];omega
 rw [hl] at dA
 simp only [Nat.zero_add,List.take_zero,List.nil_append] at dA
 cases hq:P.info? elem with
 | none=>simp [hq] at hs
 | some i=>
  simp only [Builtin.copy_,Builtin.lenOf,Builtin.firstCells,sizeOf,typeInfo]
  simp only [List.getElem?_toArray,List.getElem?_cons_zero,List.getElem?_cons_succ,Sem.run_bind,run_underlying hu,Result.andThen_ok]
  rw [List.map_take] at dA
  unfold mD
  rw [List.map_take]
  simp [hq]
  rw [dA]
  rfl
end
theorem wC {P:Program} {ops:Array Oper} {o:Oper} {a:Act} {w:World} {K:Act→World→Prop} {Q:Exit→Act→World→Prop} {E:Prop} (yU:o.guard=none) (d s:Operand) (dT sT:TypeId)
  (ho:o.op=.call { callee:=.builtin .copy,args:=#[d,s],argTypes:=#[dT,sT] }) (elem:TypeId) (hu:P.underlying dT=some (.slice elem)) (gE:(P.info? elem).map (·.size)=some 1)
  (g dLen dCap:Nat) (str:ByteArray) (hd:a.eval d=.slice (some ⟨g,0,none⟩) dLen dCap) (hs:a.eval s=.string str)
  (cur:Array Value) (t:TypeId) (hg:w.heap[g]?=some (.cells cur t (0,0))) (m:Nat) (hm:m=Nat.min str.size dLen) (XT:m≤cur.size)
  (h:∀ w',Hid (w'=w.setRow g (mD (str.data.toList.take m)++cur.toList.drop m).toArray)→K (a.put o.dst (.int .i64 m)) w') :
  if Region.wanted o (yielded ops a.tmps)=true then Oper.wp P o a w K Q else E:=by
 have hw:Region.wanted o (yielded ops a.tmps)=true:=by simp [Region.wanted,yU]
 rw [if_pos hw]
 subst hm
 have gA:=IQ (P:=P) w dT sT o.type elem g dLen dCap str cur t hu gE hg XT
 unfold Oper.wp
 simp only [execOp,ho,resolve,invoke,builtin]
 simp [hd,hs,gA,Result.andThen]
 exact h _ (show _=_ from rfl)
theorem tN:(prog.info? 5).map (·.size)=some 1:=by kernel_rfl
theorem OZ (x:Cx) (w:World) (n:Int) (s:ByteArray) (hs:s.toList.isEmpty=true) (iH:aJ w x.rd (AP x s n) 46)
   (tP:w.cell? ⟨0,0,none⟩=some x.eofV) :
    Calls prog 164 #[.pointer (some ⟨x.rd,0,none⟩),.slice (some ⟨x.rb,0,none⟩) 4096 4096] w fun e w'=>e=.returned (.tuple #[.int .i64 0,sY x])∧∃ k,w'=w.drewN k:=by
  have hc:=iH.cell
  have hf:=iH.frozen
  clear iH
  cases rT:x.o.fails
  · go_enter func164,ntmps164
    go_wp2
    go_quiet (fail)
    go_wp2
    go_ret2
    exact ⟨by simp [sY,rT],_,rfl⟩
  · go_enter func164,ntmps164
    go_wp2
    go_ret2
    exact ⟨by simp [sY,rT],0,rfl⟩
structure O0 (x:Cx) (w:World) (s:ByteArray) (n:Nat) (arr:Array Value) (m:Nat) (w':World):Prop where
 m1:1≤m
 m2:m≤4096
 m3:m≤s.size
 row:aJ w' x.rb (mD (s.data.toList.take m)++arr.toList.drop m).toArray 5
 rd:∃ n',n'≤n+1∧aJ w' x.rd (AP x (s.extract m s.size) n') 46
 mod:aK (fun k=>k=x.rb∨k=x.rd) w w'
 size:w'.heap.size=w.heap.size
theorem XU (x:Cx) (w:World) (n:Nat) (s:ByteArray) (hs:s.toList.isEmpty=false) (arr:Array Value) (iH:aJ w x.rd (AP x s n) 46) (oZ:aJ w x.rb arr 5) (gE:arr.size=4096)
   (Et:x.pcN=0) (pA:s.size ≤ 1000000000) (cB:x.rb ≠ x.rd) :
    Calls prog 164 #[.pointer (some ⟨x.rd,0,none⟩),.slice (some ⟨x.rb,0,none⟩) 4096 4096] w fun e w'=>∃ m:Nat,e=.returned (.tuple #[.int .i64 m,.nilIface])∧O0 x w s n arr m w':=by
  have hc:=iH.cell
  have hf:=iH.frozen
  have h0:decide ((0:Int) < (x.pcN:Int))=false:=by simp [Et]
  have h1:0 < s.size:=by
    rcases Nat.eq_zero_or_pos s.size with h|h
    · have:s=ByteArray.empty:=by simpa using h
      subst this
      simp at hs
    · exact h
  obtain ⟨m,hm⟩:∃ m,m=Nat.min s.size 4096:=⟨_,rfl⟩
  have eA:m ≤ s.size:=by rw [hm];exact Nat.min_le_left _ _
  have iA:m ≤ 4096:=by rw [hm];exact Nat.min_le_right _ _
  have cD:1 ≤ m:=by rw [hm];exact Nat.le_min.2 ⟨h1,by omega⟩
  have hM:Hid (m=Nat.min s.size 4096):=hm
  clear hm
  have BZ:=Lib.hid iH
  have IR:=Lib.hid oZ
  clear iH oZ
  go_enter func164,ntmps164
  go_wp2
  go_region_law (refine wC rfl (.tmp 55) (.tmp 59) 77 9 rfl 5 underlying77 tN x.rb 4096 4096 s rfl rfl arr 5 IR.out m hM.out (by omega) ?_;intro w1 qF)
  have u7:∀ o,w1.cell? ⟨x.rd,o,none⟩=(AP x s n)[o]?:=by
    rw [qF.out];exact (aJ.row_ne (show aJ _ x.rd _ _ from BZ.out) (fun h=>cB h.symm) _).cell
  have KM:∀ o,w1.frozen? ⟨x.rd,o,none⟩=false:=by
    rw [qF.out];exact (aJ.row_ne (show aJ _ x.rd _ _ from BZ.out) (fun h=>cB h.symm) _).frozen
  clear hc hf
  go_wp2
  go_ret2
  have mF:aJ w1 x.rb (mD (s.data.toList.take m) ++ arr.toList.drop m).toArray 5:=by
    rw [qF.out];exact aJ.row (show aJ _ x.rb _ _ from IR.out) _
  have nR:aJ w1 x.rd (AP x s n) 46:=by
    rw [qF.out];exact aJ.row_ne (show aJ _ x.rd _ _ from BZ.out) (fun h=>cB h.symm) _
  have Qp:aK (fun k=>k=x.rb ∨ k=x.rd) w w1:=by
    rw [qF.out];exact aK.setRow (aK.refl _ w).drew (Or.inl (Or.inl rfl)) _
  have hz:w1.heap.size=w.heap.size:=by rw [qF.out];simp [World.setRow]
  exact ⟨m,rfl,cD,iA,eA,mF.set_ne (by simpa using cB) _,⟨n,by omega,nR.set 0 _⟩,Qp.setCell (Or.inl (Or.inr rfl)) _,by simp [hz]⟩
theorem y6 (x:Cx) (w:World) (n:Nat) (s:ByteArray) (hs:s.toList.isEmpty=false) (arr:Array Value) (iH:aJ w x.rd (AP x s n) 46) (oZ:aJ w x.rb arr 5) (gE:arr.size=4096)
   (pb po:Nat) (pc:0 < x.pcN) (Et:x.pcA=some ⟨pb,po,none⟩) (FF:x.pcN ≤ 9223372036854775807) (p:Int) (hv:w.cell? ⟨pb,po + n % x.pcN,none⟩=some (.int .i64 p))
   (q:Nat) (hq:(p ≤ 1∧q=1) ∨ (1 < p∧p < 4096∧p=q) ∨ (4096 ≤ p∧q=4096))
   (pA:s.size ≤ 1000000000) (hn:n ≤ 1000000000) (cB:x.rb ≠ x.rd) :
    Calls prog 164 #[.pointer (some ⟨x.rd,0,none⟩),.slice (some ⟨x.rb,0,none⟩) 4096 4096] w fun e w'=>∃ m:Nat,e=.returned (.tuple #[.int .i64 m,.nilIface])∧O0 x w s n arr m w':=by
  have hc:=iH.cell
  have hf:=iH.frozen
  have h0:decide ((0:Int) < (x.pcN:Int))=true:=by simpa using pc
  have h1:0 < s.size:=by
    rcases Nat.eq_zero_or_pos s.size with h|h
    · have:s=ByteArray.empty:=by simpa using h
      subst this
      simp at hs
    · exact h
  have hk:n % x.pcN < x.pcN:=Nat.mod_lt _ pc
  have O1:1 ≤ q:=by omega
  have AQ:q ≤ 4096:=by omega
  have Gd:(q:Int) ≤ 4096:=by omega
  obtain ⟨m,hm⟩:∃ m,m=Nat.min s.size q:=⟨_,rfl⟩
  have eA:m ≤ s.size:=by rw [hm];exact Nat.min_le_left _ _
  have iA:m ≤ q:=by rw [hm];exact Nat.min_le_right _ _
  have cD:1 ≤ m:=by rw [hm];exact Nat.le_min.2 ⟨h1,by omega⟩
  have hM:Hid (m=Nat.min s.size q):=hm
  clear hm
  have BZ:=Lib.hid iH
  have IR:=Lib.hid oZ
  clear iH oZ
  rcases hq with ⟨hp,rfl⟩|⟨hp,hp',rfl⟩|⟨hp,rfl⟩
  all_goals
    go_enter func164,ntmps164
    go_wp2
    go_quiet (fail)
    go_wp2
    go_region_law (refine wC rfl (.tmp 55) (.tmp 59) 77 9 rfl 5 underlying77 tN x.rb _ _ s rfl rfl arr 5 (aJ.set_ne (show aJ _ x.rb _ _ from IR.out) (by simpa using cB) _) m hM.out (by omega) ?_;intro w1 qF)
    have XR:aJ ((w.drewN nq).setCell ⟨x.rd,2,none⟩ (.int .i64 ((n:Int) + 1))) x.rd (AP x s ((n:Int) + 1)) 46:=(show aJ (w.drewN nq) x.rd _ _ from BZ.out).set 2 _
    have nR:aJ w1 x.rd (AP x s ((n:Int) + 1)) 46:=by
      rw [qF.out];exact aJ.row_ne (show aJ _ x.rd _ _ from XR) (fun h=>cB h.symm) _
    have u7:=nR.cell
    have KM:=nR.frozen
    clear hc hf
    have FG:=Lib.hid nR
    clear nR XR
    go_wp2
    go_ret2
    have mF:aJ w1 x.rb (mD (s.data.toList.take m) ++ arr.toList.drop m).toArray 5:=by
      rw [qF.out];exact aJ.row (aJ.set_ne (show aJ _ x.rb _ _ from IR.out) (by simpa using cB) _) _
    have Qp:aK (fun k=>k=x.rb ∨ k=x.rd) w w1:=by
      rw [qF.out];exact aK.setRow ((aK.refl _ w).drewN nq |>.setCell (Or.inl (Or.inr rfl)) _).drew (Or.inl (Or.inl rfl)) _
    have hz:w1.heap.size=w.heap.size:=by rw [qF.out];simp [World.setRow]
    exact ⟨m,rfl,cD,by omega,eA,mF.set_ne (by simpa using cB) _,⟨n + 1,by omega,FG.out.set 0 _⟩,Qp.setCell (Or.inl (Or.inr rfl)) _,by simp [hz]⟩
end Go.Proofs.YtdjdjbpnbjdaaaaGreatDoor
