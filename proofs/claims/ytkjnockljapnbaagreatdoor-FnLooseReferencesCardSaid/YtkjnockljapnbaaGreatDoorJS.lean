/- Part of the proof that laws.FnLooseReferences returns true for every text (the claim of laws.FnLooseReferences: S). No condition of its own. -/
import Derived.Test.YtkjnockljapnbaaGreatDoorProg
import Derived.Test.YtkjnockljapnbaaGreatDoorJF
import Derived.WalkKit
import Derived.WalkLawsBesides
import Derived.WalkSpells
import Derived.Deep.QuietTactic
import Derived.BigQuiet
import Derived.Deep.DeepFit
import Derived.Deep.DeepMust
import Derived.Deep.RegionLaw
import Derived.Lib.Hide
import Derived.Lib.BufferAt
import Derived.Shelf.Abstract
set_option linter.all false
/- How the decoder lies in memory: the cells of its blocks, what of them a call may turn. -/
namespace Go.Proofs.YtkjnockljapnbaaGreatDoor
open Go Go.RowKit

/-! ## Worlds -/
/-- Of the blocks of w those outside S are as they were. -/
structure Mod (S : Nat → Prop) (w w' : World) : Prop where
  os : w'.os = w.os
  tape : w'.tape = w.tape
  output : w'.output = w.output
  size : w.heap.size ≤ w'.heap.size
  block : ∀ k, k < w.heap.size → ¬ S k → w'.heap[k]? = w.heap[k]?
theorem Mod.refl (S : Nat → Prop) (w : World) : Mod S w w := ⟨rfl, rfl, rfl, Nat.le_refl _, fun _ _ _ => rfl⟩
theorem Mod.trans {S S' : Nat → Prop} {a b c : World} (h : Mod S a b) (k : Mod S' b c) (hs : ∀ i, i < a.heap.size → S' i → S i) : Mod S a c :=
  ⟨k.os.trans h.os, k.tape.trans h.tape, k.output.trans h.output, Nat.le_trans h.size k.size,
    fun i hi hn => (k.block i (Nat.lt_of_lt_of_le hi h.size) (fun h' => hn (hs i hi h'))).trans (h.block i hi hn)⟩
theorem Mod.mono {S S' : Nat → Prop} {a b : World} (h : Mod S a b) (hs : ∀ i, i < a.heap.size → S i → S' i) : Mod S' a b :=
  ⟨h.os, h.tape, h.output, h.size, fun i hi hn => h.block i hi (fun h' => hn (hs i hi h'))⟩
theorem Mod.of_below {S : Nat → Prop} {a b : World} (h : Below a.heap.size a b) : Mod S a b := ⟨h.os, h.tape, h.output, h.size, fun i hi _ => h.block i hi⟩
theorem Mod.below {S : Nat → Prop} {B : Nat} {W0 a b : World} (h0 : Below B W0 a) (hB : B ≤ a.heap.size) (h : Mod S a b) (hs : ∀ i, S i → B ≤ i) : Below B W0 b :=
  h0.trans ⟨h.os, h.tape, h.output, h.size, fun i hi => h.block i (by omega) (fun h' => by have := hs i h'; omega)⟩
theorem Mod.drew {S : Nat → Prop} {a b : World} (h : Mod S a b) : Mod S a b.drew := ⟨h.os, h.tape, h.output, h.size, h.block⟩
theorem Mod.drewN {S : Nat → Prop} {a b : World} (h : Mod S a b) (n : Nat) : Mod S a (b.drewN n) := ⟨h.os, h.tape, h.output, h.size, h.block⟩
theorem heap_setCell_ne (w : World) (a : Addr) (u : Value) (k : Nat) (h : k ≠ a.block) : (w.setCell a u).heap[k]? = w.heap[k]? := by
  simp only [World.setCell, Array.getElem?_modify]
  rw [if_neg (by omega)]
theorem heap_setRow_ne (w : World) (g : Nat) (cs : Array Value) (k : Nat) (h : k ≠ g) : (w.setRow g cs).heap[k]? = w.heap[k]? := by
  simp only [World.setRow, Array.getElem?_modify]
  rw [if_neg (by omega)]
theorem Mod.setCell {S : Nat → Prop} {a b : World} (h : Mod S a b) {p : Addr} (hp : S p.block ∨ a.heap.size ≤ p.block) (u : Value) : Mod S a (b.setCell p u) :=
  ⟨h.os, h.tape, h.output, by simpa [World.setCell] using h.size, fun i hi hn => (heap_setCell_ne _ _ _ _ (by
    intro e
    subst e
    rcases hp with hp | hp
    · exact hn hp
    · omega)).trans (h.block i hi hn)⟩
theorem Mod.setRow {S : Nat → Prop} {a b : World} (h : Mod S a b) {g : Nat} (hp : S g ∨ a.heap.size ≤ g) (cs : Array Value) : Mod S a (b.setRow g cs) :=
  ⟨h.os, h.tape, h.output, by simpa [World.setRow] using h.size, fun i hi hn => (heap_setRow_ne _ _ _ _ (by
    intro e
    subst e
    rcases hp with hp | hp
    · exact hn hp
    · omega)).trans (h.block i hi hn)⟩
theorem heap_alloc_lt (w : World) (o : Obj) (k : Nat) (h : k < w.heap.size) : (w.alloc o).heap[k]? = w.heap[k]? := Below.heap_alloc w o k h
theorem Mod.alloc {S : Nat → Prop} {a b : World} (h : Mod S a b) (o : Obj) : Mod S a (b.alloc o) :=
  ⟨h.os, h.tape, h.output, by have := h.size; simp; omega, fun i hi hn => (heap_alloc_lt _ _ _ (Nat.lt_of_lt_of_le hi h.size)).trans (h.block i hi hn)⟩

/-- Block b holds just these cells; nothing of it is frozen. -/
def Blk (w : World) (b : Nat) (cs : Array Value) (t : TypeId) : Prop := w.heap[b]? = some (.cells cs t (0, 0))
theorem Blk.lt {w : World} {b : Nat} {cs : Array Value} {t : TypeId} (h : Blk w b cs t) : b < w.heap.size := by
  rcases Nat.lt_or_ge b w.heap.size with h' | h'
  · exact h'
  · unfold Blk at h; simp [Array.getElem?_eq_none h'] at h
theorem Blk.cell {w : World} {b : Nat} {cs : Array Value} {t : TypeId} (h : Blk w b cs t) (o : Nat) : w.cell? ⟨b, o, none⟩ = cs[o]? := by
  unfold World.cell?; unfold Blk at h; simp [h]
theorem Blk.frozen {w : World} {b : Nat} {cs : Array Value} {t : TypeId} (h : Blk w b cs t) (o : Nat) : w.frozen? ⟨b, o, none⟩ = false := by
  unfold World.frozen?; unfold Blk at h; simp [h]
theorem Blk.set {w : World} {b : Nat} {cs : Array Value} {t : TypeId} (h : Blk w b cs t) (o : Nat) (v : Value) : Blk (w.setCell ⟨b, o, none⟩ v) b (cs.setIfInBounds o v) t := by
  unfold Blk at h ⊢
  simp [World.setCell, Array.getElem?_modify, h]
theorem Blk.set_ne {w : World} {b : Nat} {cs : Array Value} {t : TypeId} (h : Blk w b cs t) {a : Addr} (hn : b ≠ a.block) (v : Value) : Blk (w.setCell a v) b cs t :=
  (heap_setCell_ne _ _ _ _ hn).trans h
theorem Blk.row {w : World} {b : Nat} {cs : Array Value} {t : TypeId} (h : Blk w b cs t) (cs' : Array Value) : Blk (w.setRow b cs') b cs' t := by
  unfold Blk at h ⊢
  simp [World.setRow, Array.getElem?_modify, h]
theorem Blk.row_ne {w : World} {b g : Nat} {cs : Array Value} {t : TypeId} (h : Blk w b cs t) (hn : b ≠ g) (cs' : Array Value) : Blk (w.setRow g cs') b cs t :=
  (heap_setRow_ne _ _ _ _ hn).trans h
theorem Blk.alloc {w : World} {b : Nat} {cs : Array Value} {t : TypeId} (h : Blk w b cs t) (o : Obj) : Blk (w.alloc o) b cs t := (heap_alloc_lt _ _ _ h.lt).trans h
theorem Blk.new (w : World) (cs : Array Value) (t : TypeId) : Blk (w.alloc (.cells cs t)) w.heap.size cs t := by
  unfold Blk World.alloc
  simp
theorem Blk.mod {S : Nat → Prop} {w w' : World} {b : Nat} {cs : Array Value} {t : TypeId} (h : Blk w b cs t) (hm : Mod S w w') (hn : ¬ S b) : Blk w' b cs t :=
  (hm.block b h.lt hn).trans h

/-! ## The decoder's block -/
/-- What stays while tokens are read. -/
structure DC where
  strict : Bool
  auto : Value
  ent : Value
  space : ByteArray
  r : Value
  stk : Value
  depth : Int
  free : Value
  needClose : Bool
  tcs : ByteArray
  tcl : ByteArray
  nextTok : Value
  ns : Value
/-- What reading turns. -/
structure DV where
  bufv : Value
  lastRead : Int
  nb : Int
  err : Value
  line : Int
  lstart : Int
  off : Int
@[go_sem] def dcells (c : DC) (v : DV) : Array Value := #[.bool c.strict, c.auto, c.ent, .nilFunc, .string c.space, c.r, .nilIface, v.bufv, .int .i64 0, .int .i8 v.lastRead, .pointer none, c.stk, .int .i64 c.depth, c.free, .bool c.needClose, .string c.tcs, .string c.tcl, c.nextTok, .int .i64 v.nb, c.ns, v.err, .int .i64 v.line, .int .i64 v.lstart, .int .i64 v.off]
def DecAt (w : World) (d : Nat) (c : DC) (v : DV) : Prop := Blk w d (dcells c v) 84
/-- The blocks of the reading part, and what never turns. -/
structure Cx where
  W0 : World
  T : Bs
  o : Opt
  d : Nat
  br : Nat
  rb : Nat
  rd : Nat
  eofA : Addr
  pcA : Option Addr
  pcN : Nat
  pcC : Nat
  pcs : List Int
abbrev Cx.B (x : Cx) : Nat := x.W0.heap.size
abbrev Cx.eofV (x : Cx) : Value := .iface 177 (.pointer (some x.eofA))
abbrev ownV : Value := .iface 109 (.agg #[])
structure Cx.Ok (x : Cx) : Prop where
  len : x.T.length ≤ 1000000000
  d : x.B ≤ x.d
  br : x.B ≤ x.br
  rb : x.B ≤ x.rb
  rd : x.B ≤ x.rd
  ne1 : x.d ≠ x.br
  ne2 : x.d ≠ x.rb
  ne3 : x.d ≠ x.rd
  ne4 : x.br ≠ x.rb
  ne5 : x.br ≠ x.rd
  ne6 : x.rb ≠ x.rd
  eof : x.W0.cell? ⟨0, 0, none⟩ = some x.eofV
  eofL : x.eofA.block < x.B
  gB : 0 < x.B
  pcN : x.pcN ≤ 9223372036854775807
  pcL : x.pcN ≤ x.pcC
  pc : 0 < x.pcN → ∃ pb po : Nat, x.pcA = some ⟨pb, po, none⟩ ∧ pb < x.B ∧ ∀ j, j < x.pcN → x.W0.cell? ⟨pb, po + j, none⟩ = some (.int .i64 (x.pcs.getD j 0))
/-- The blocks that reading may turn. -/
def Cx.S0 (x : Cx) (k : Nat) : Prop := k = x.d ∨ k = x.br ∨ k = x.rb ∨ k = x.rd
end Go.Proofs.YtkjnockljapnbaaGreatDoor
