/- Part of the proof that laws.FnLooseReferences returns true for every text (the claim of laws.FnLooseReferences: Buf, Shelf, Bw). No condition of its own. -/
import Derived.Test.YtkjnockljapnbaaGreatDoorJGd
import Derived.Shelf.Small.Strs
import Derived.Shelf.Strconv.Itoa0
import Derived.Shelf.LaysM
import Derived.Shelf.Bytes.Len
import Derived.Shelf.Bytes.TryGrow
import Derived.Shelf.Bytes.GrowSliceCatch
import Derived.Shelf.Bytes.GrowSlice
import Derived.Shelf.Bytes.GrowRow0
import Derived.Shelf.Bytes.GrowRow
import Derived.Shelf.Strings.Search1
import Derived.Shelf.Unicode.DecodeSlow
import Derived.Shelf.Unicode.DecodeAny
import Derived.Shelf.Unicode.Is16White
import Derived.Shelf.Unicode.CaseLookup
import Derived.Shelf.Unicode.CaseConvert
import Derived.Shelf.Unicode.Is16Any
import Derived.Shelf.Unicode.Is32Any
import Derived.Ground.GgnProg
import Derived.Shelf.Unicode.PredsGn
import Derived.Test.YtkjnockljapnbaaGreatDoorProg
set_option linter.all false
/- bytes.Buffer, within the decoder. -/
namespace Go.Proofs.YtkjnockljapnbaaGreatDoor
open Go Go.RowKit

/-- A step that turns the buffer alone. -/
theorem RdS.buf {x : Cx} (hx : x.Ok) {c : DC} {w w' : World} {v v' : DV} {rest : Bs} {e : Option EK} {buf buf' : Bs} (h : RdS x c w v rest e buf) (dec : DecAt w' x.d c v') (hm : Mod (fun k => k = x.d ∨ bufBlk v.bufv k) w w')
    (h1 : v'.nb = v.nb) (h2 : v'.err = v.err) (h3 : v'.line = v.line) (h4 : v'.lstart = v.lstart) (h5 : v'.off = v.off) (bf : BufAt x w' v'.bufv buf') : RdS x c w' v' rest e buf' := by
  have hs : ∀ k, x.Sio k → ¬ (k = x.d ∨ bufBlk v.bufv k) := by
    intro k hk hk'
    rcases hk' with hk' | hk'
    · subst hk'
      rcases hk with h | h | h
      · exact hx.ne1 h
      · exact hx.ne2 h
      · exact hx.ne3 h
    · exact h.bf.notS0 k hk' (Or.inr hk)
  refine ⟨Mod.below h.base h.base.size hm ?_, dec, ?_, ?_, by rw [h2]; exact h.err, h.fin, bf⟩
  · intro i hi
    rcases hi with hi | hi
    · subst hi; exact hx.d
    · rcases h.bf with ⟨hv, _⟩ | ⟨g, cap, arr, hv, _, _, _, _, hg, _, _⟩
      · rw [hv] at hi; exact hi.elim
      · rw [hv] at hi
        have : i = g := hi
        omega
  · obtain ⟨un, hb, hun⟩ := h.inp
    exact ⟨un, hb.mod hm (hs _ (Or.inl rfl)) (hs _ (Or.inr (Or.inl rfl))) (hs _ (Or.inr (Or.inr rfl))), by rw [h1]; exact hun⟩
  · obtain ⟨pre, a, b, c', d⟩ := h.pos
    exact ⟨pre, a, by rw [h5]; exact b, by rw [h3]; exact c', by rw [h1, h4]; exact d⟩

set_option maxHeartbeats 1000000 in
theorem reset_c (x : Cx) (hx : x.Ok) (c : DC) (w : World) (v : DV) (rest : Bs) (e : Option EK) (buf : Bs) (h : RdS x c w v rest e buf) :
    Calls Tryz.prog 42 #[.pointer (some ⟨x.d, 7, none⟩)] w fun en w' => en = .returned (.tuple #[]) ∧ ∃ v', RdS x c w' v' rest e [] ∧ v'.nb = v.nb ∧ (∀ k, bufBlk v'.bufv k ↔ bufBlk v.bufv k) ∧ Mod x.S0 w w' ∧ w'.heap.size = w.heap.size := by
  have hc := h.dec.cell
  have hf := h.dec.frozen
  have HX := Lib.hid hx
  have H := Lib.hid h
  obtain ⟨sb, sl, snb, serr, sline, sls, soff⟩ := v
  have hbf := h.bf
  clear h hx
  rcases hbf with ⟨hv, hb⟩ | ⟨g, cap, arr, hv, hg, hsz, hl, hcp, hBg, hnS, hel⟩
  · simp only at hv
    subst hv
    go_enter Tryz.func42, Tryz.ntmps42
    go_wp2
    go_end0
    have hd := ((H.out.dec.set 7 (.slice none 0 0)).set 8 (.int .i64 0)).set 9 (.int .i8 0)
    have hm := (((Mod.refl (fun k => k = x.d) w).setCell (p := ⟨x.d, 7, none⟩) (Or.inl rfl) (.slice none 0 0)).setCell (p := ⟨x.d, 8, none⟩) (Or.inl rfl) (.int .i64 0)).setCell (p := ⟨x.d, 9, none⟩) (Or.inl rfl) (.int .i8 0)
    exact ⟨rfl, ⟨.slice none 0 0, 0, snb, serr, sline, sls, soff⟩, H.out.buf HX.out hd (hm.mono (fun _ _ h => Or.inl h)) rfl rfl rfl rfl rfl (Or.inl ⟨rfl, rfl⟩), rfl, fun k => Iff.rfl, hm.mono (fun _ _ h => Or.inl h), by simp [World.setCell]⟩
  · simp only at hv
    subst hv
    have HG := Lib.hid hg
    have HEL := Lib.hid hel
    clear hg hel
    go_enter Tryz.func42, Tryz.ntmps42
    go_wp2
    go_end0
    have hd := ((H.out.dec.set 7 (.slice (some ⟨g, 0, none⟩) 0 cap)).set 8 (.int .i64 0)).set 9 (.int .i8 0)
    have hm := (((Mod.refl (fun k => k = x.d) w).setCell (p := ⟨x.d, 7, none⟩) (Or.inl rfl) (.slice (some ⟨g, 0, none⟩) 0 cap)).setCell (p := ⟨x.d, 8, none⟩) (Or.inl rfl) (.int .i64 0)).setCell (p := ⟨x.d, 9, none⟩) (Or.inl rfl) (.int .i8 0)
    have hgd : g ≠ x.d := fun h => hnS (Or.inl h)
    exact ⟨rfl, ⟨.slice (some ⟨g, 0, none⟩) 0 cap, 0, snb, serr, sline, sls, soff⟩, H.out.buf HX.out hd (hm.mono (fun _ _ h => Or.inl h)) rfl rfl rfl rfl rfl
      (Or.inr ⟨g, cap, arr, rfl, ((HG.out.set_ne hgd _).set_ne hgd _).set_ne hgd _, hsz, Nat.zero_le _, hcp, hBg, hnS, fun j hj => by simp at hj⟩), rfl, fun k => Iff.rfl, hm.mono (fun _ _ h => Or.inl h), by simp [World.setCell]⟩

/-- The bytes: the buffer's own slice. -/
theorem bytes_c (x : Cx) (c : DC) (w : World) (v : DV) (rest : Bs) (e : Option EK) (buf : Bs) (h : RdS x c w v rest e buf) :
    Calls Tryz.prog 44 #[.pointer (some ⟨x.d, 7, none⟩)] w fun en w' => en = .returned v.bufv ∧ ∃ k, w' = w.drewN k := by
  have hc := h.dec.cell
  have hf := h.dec.frozen
  have hbf := h.bf
  obtain ⟨sb, sl, snb, serr, sline, sls, soff⟩ := v
  clear h
  rcases hbf with ⟨hv, hb⟩ | ⟨g, cap, arr, hv, hg, hsz, hl, hcp, hBg, hnS, hel⟩
  all_goals
    simp only at hv
    subst hv
    try clear hg hel hBg hnS
    go_enter Tryz.func44, Tryz.ntmps44
    go_wp2
    go_quiet (fail)
    go_wp2
    go_ret
    exact ⟨rfl, _, rfl⟩
theorem len_c (x : Cx) (c : DC) (w : World) (v : DV) (rest : Bs) (e : Option EK) (buf : Bs) (h : RdS x c w v rest e buf) :
    Calls Tryz.prog 49 #[.pointer (some ⟨x.d, 7, none⟩)] w fun en w' => en = .returned (.int .i64 buf.length) ∧ ∃ k, w' = w.drewN k := by
  have hc := h.dec.cell
  have hf := h.dec.frozen
  have hbf := h.bf
  obtain ⟨sb, sl, snb, serr, sline, sls, soff⟩ := v
  clear h
  rcases hbf with ⟨hv, hb⟩ | ⟨g, cap, arr, hv, hg, hsz, hl, hcp, hBg, hnS, hel⟩
  · simp only at hv
    subst hv hb
    go_enter Tryz.func49, Tryz.ntmps49
    go_wp2
    go_quiet (fail)
    go_wp2
    go_ret
    exact ⟨rfl, _, rfl⟩
  · simp only at hv
    subst hv
    have hl2 : (buf.length : Int) ≤ 9223372036854775807 := by omega
    clear hg hel hBg hnS
    go_enter Tryz.func49, Tryz.ntmps49
    go_wp2
    go_quiet (fail)
    go_wp2
    go_ret
    exact ⟨by simp, _, rfl⟩

/-- There is room. -/
theorem tryGrow_yes (d : Nat) (c : DC) (v : DV) (w : World) (h : DecAt w d c v) (g len cap n : Nat) (hv : v.bufv = .slice (some ⟨g, 0, none⟩) len cap) (hn : len + n ≤ cap) (hc : cap ≤ 9223372036854775807) :
    Calls Tryz.prog 69 #[.pointer (some ⟨d, 7, none⟩), .int .i64 n] w fun en w' => en = .returned (.tuple #[.int .i64 len, .bool true]) ∧ w' = w.setCell ⟨d, 7, none⟩ (.slice (some ⟨g, 0, none⟩) (len + n) cap) := by
  have hce := h.cell
  have hf := h.frozen
  obtain ⟨sb, sl, snb, serr, sline, sls, soff⟩ := v
  simp only at hv
  subst hv
  clear h
  have h1 : (n : Int) ≤ (cap : Int) - (len : Int) := by omega
  have h2 : (len : Int) + (n : Int) ≤ (cap : Int) := by omega
  go_enter Tryz.func69, Tryz.ntmps69
  go_wp2
  go_ret2
  exact ⟨rfl, rfl⟩
/-- There is none. -/
theorem tryGrow_no (d : Nat) (c : DC) (v : DV) (w : World) (h : DecAt w d c v) (a : Option Addr) (len cap n : Nat) (hv : v.bufv = .slice a len cap) (hl : len ≤ cap) (hn : cap < len + n) (hc : cap ≤ 9223372036854775807) :
    Calls Tryz.prog 69 #[.pointer (some ⟨d, 7, none⟩), .int .i64 n] w fun en w' => en = .returned (.tuple #[.int .i64 0, .bool false]) ∧ w = w' := by
  have hce := h.cell
  have hf := h.frozen
  obtain ⟨sb, sl, snb, serr, sline, sls, soff⟩ := v
  simp only at hv
  subst hv
  clear h
  have h1 : ¬ ((n : Int) ≤ (cap : Int) - (len : Int)) := by omega
  go_enter Tryz.func69, Tryz.ntmps69
  go_wp2
  go_ret2
  exact ⟨rfl, rfl⟩
end Go.Proofs.YtkjnockljapnbaaGreatDoor

/-
  DERIVED: THE SHELF's CONTRACTS AT THIS DUMP, IN PLAIN WORDS (tools/lay-plain.mjs out of 'TryzShelf.lean', which tools/lay-shelf.mjs wrote): THE SAME DECLARATIONS UNDER THE SAME NAMES: 'import', 'namespace', 'open', 'def', 'theorem' AND NOTHING ELSE: no command of the shelf's: FOR A HAND-IN. Each laying: the table of numbers ('.._ren') and one theorem, a field a fact of the dump's own or the kernel's comparison; each contract: ONE APPLICATION.
-/
namespace Go.Proofs
open Go.Shelf
def Tryz.lays137_ren : Go.Shelf.Ren := ⟨fun | 137 => 72 | 217 => 86 | 266 => 100 | n => n, fun | 9 => 9 | 5 => 5 | 3 => 3 | n => n, fun | n => n⟩
theorem Tryz.lays137 : Go.Proofs.Lays.n137 Tryz.prog Tryz.lays137_ren := {
  mixed := by kernel_rfl
  f137 := Tryz.func72.trans (congrArg some (by kernel_rfl))
  f217 := Tryz.func86.trans (congrArg some (by kernel_rfl))
  f266 := Tryz.func100.trans (congrArg some (by kernel_rfl))
  t3 := Tryz.underlying3
  a3 := Tryz.isAgg3
  z3 := Tryz.sizeOf3
  v3 := Tryz.zeroValue3
  t5 := Tryz.underlying5
  a5 := Tryz.isAgg5
  z5 := Tryz.sizeOf5
  v5 := Tryz.zeroValue5
  t9 := Tryz.underlying9
  a9 := Tryz.isAgg9
  z9 := Tryz.sizeOf9
  v9 := Tryz.zeroValue9 }
open Go.RowKit in
/-- strings.IndexByte: "IndexByte returns the index of the first instance of c in s, or -1 if c is not present in s.": IT RETURNS 'Lib.indexByte s c'; the world is as it was. (LAID: no walk: one application.) -/
theorem Tryz.strings_IndexByte (s : ByteArray) (c : Int) (w : World) :
    Calls Tryz.prog 72 #[.string s, .int .u8 c] w fun e w' => e = .returned (.int .i64 (Lib.indexByte s.data.toList c.toNat.toUInt8)) ∧ w' = w := Any.strings_IndexByte Tryz.lays137 s c w
def Tryz.lays129_ren : Go.Shelf.Ren := ⟨fun | 129 => 110 | n => n, fun | 53 => 159 | 3 => 3 | 4 => 4 | 46 => 119 | 5 => 5 | 9 => 9 | n => n, fun | n => n⟩
theorem Tryz.lays129 : Go.Proofs.Lays.n129 Tryz.prog Tryz.lays129_ren := {
  mixed := by kernel_rfl
  f129 := Tryz.func110.trans (congrArg some (by kernel_rfl))
  t3 := Tryz.underlying3
  a3 := Tryz.isAgg3
  z3 := Tryz.sizeOf3
  v3 := Tryz.zeroValue3
  t4 := Tryz.underlying4
  a4 := Tryz.isAgg4
  z4 := Tryz.sizeOf4
  v4 := Tryz.zeroValue4
  t5 := Tryz.underlying5
  a5 := Tryz.isAgg5
  z5 := Tryz.sizeOf5
  v5 := Tryz.zeroValue5
  t9 := Tryz.underlying9
  a9 := Tryz.isAgg9
  z9 := Tryz.sizeOf9
  v9 := Tryz.zeroValue9
  t46 := Tryz.underlying119
  a46 := Tryz.isAgg119
  z46 := Tryz.sizeOf119
  v46 := Tryz.zeroValue119
  t53 := Tryz.underlying159
  a53 := Tryz.isAgg159
  z53 := Tryz.sizeOf159
  v53 := Tryz.zeroValue159 }
/-- bits.Len64: "Len64 returns the minimum number of bits required to represent x; the result is 0 for x == 0.": IT RETURNS 'Lib.bitLen x'; the world is as it was. ('h0', 'h1': x is a uint64.) (LAID: no walk: one application.) -/
theorem Tryz.bits_Len64 (x : Int) (w : World) (h0 : 0 ≤ x) (h1 : x ≤ 18446744073709551615) :
    Calls Tryz.prog 110 #[.int .u64 x] w fun e w' => e = .returned (.int .i64 (Lib.bitLen x.toNat)) ∧ w' = w := Any.bits_Len64 Tryz.lays129 x w h0 h1
def Tryz.laysM181_ren : Go.Shelf.Ren := ⟨fun | 181 => 49 | n => n, fun | 130 => 79 | 3 => 3 | 0 => 0 | 93 => 78 | 37 => 74 | 91 => 76 | 5 => 5 | n => n, fun | n => n⟩
theorem Tryz.laysM181 : Go.Proofs.LaysM.n181 Tryz.prog Tryz.laysM181_ren := {
  mixed := by kernel_rfl
  f181 := Tryz.func49.trans (congrArg some (by kernel_rfl))
  t0 := Tryz.underlying0
  a0 := Tryz.isAgg0
  z0 := Tryz.sizeOf0
  v0 := Tryz.zeroValue0
  t3 := Tryz.underlying3
  a3 := Tryz.isAgg3
  z3 := Tryz.sizeOf3
  v3 := Tryz.zeroValue3
  t37 := Tryz.underlying74
  a37 := Tryz.isAgg74
  z37 := Tryz.sizeOf74
  v37 := Tryz.zeroValue74
  t93 := Tryz.underlying78
  a93 := Tryz.isAgg78
  z93 := Tryz.sizeOf78
  v93 := Tryz.zeroValue78
  t130 := Tryz.underlying79
  a130 := Tryz.isAgg79
  z130 := Tryz.sizeOf79
  v130 := Tryz.zeroValue79
  t5 := Tryz.underlying5
  a5 := Tryz.isAgg5
  z5 := Tryz.sizeOf5
  v5 := Tryz.zeroValue5
  t91 := Tryz.underlying76
  a91 := Tryz.isAgg76
  z91 := Tryz.sizeOf76
  v91 := Tryz.zeroValue76
  i0 := by kernel_rfl
  i3 := by kernel_rfl
  i5 := by kernel_rfl
  i37 := by kernel_rfl
  i91 := by kernel_rfl
  i93 := by kernel_rfl
  i130 := by kernel_rfl }
open Go.RowKit in
/-- (*bytes.Buffer).Len: "Len returns the number of bytes of the unread portion of the buffer; b.Len() == len(b.Bytes()).": the world is as it was but for the count of draws (the statement has two reads: its order is drawn). (LAID: no walk: one application.) -/
theorem Tryz.Buffer_Len (B b : Nat) (bs : List Value) (w : World) (h : Lib.IsBuffer 78 5 B b bs w) :
    Calls Tryz.prog 49 #[.pointer (some ⟨b, 0, none⟩)] w fun e w' => e = .returned (.int .i64 bs.length) ∧ ∃ n, w' = w.drewN n := Any.Buffer_Len Tryz.laysM181 B b bs w h
def Tryz.laysM251_ren : Go.Shelf.Ren := ⟨fun | 251 => 69 | n => n, fun | 130 => 79 | 3 => 3 | 4 => 4 | 0 => 0 | 93 => 78 | 37 => 74 | 91 => 76 | 5 => 5 | n => n, fun | n => n⟩
theorem Tryz.laysM251 : Go.Proofs.LaysM.n251 Tryz.prog Tryz.laysM251_ren := {
  mixed := by kernel_rfl
  f251 := Tryz.func69.trans (congrArg some (by kernel_rfl))
  t0 := Tryz.underlying0
  a0 := Tryz.isAgg0
  z0 := Tryz.sizeOf0
  v0 := Tryz.zeroValue0
  t3 := Tryz.underlying3
  a3 := Tryz.isAgg3
  z3 := Tryz.sizeOf3
  v3 := Tryz.zeroValue3
  t4 := Tryz.underlying4
  a4 := Tryz.isAgg4
  z4 := Tryz.sizeOf4
  v4 := Tryz.zeroValue4
  t37 := Tryz.underlying74
  a37 := Tryz.isAgg74
  z37 := Tryz.sizeOf74
  v37 := Tryz.zeroValue74
  t93 := Tryz.underlying78
  a93 := Tryz.isAgg78
  z93 := Tryz.sizeOf78
  v93 := Tryz.zeroValue78
  t130 := Tryz.underlying79
  a130 := Tryz.isAgg79
  z130 := Tryz.sizeOf79
  v130 := Tryz.zeroValue79
  t5 := Tryz.underlying5
  a5 := Tryz.isAgg5
  z5 := Tryz.sizeOf5
  v5 := Tryz.zeroValue5
  t91 := Tryz.underlying76
  a91 := Tryz.isAgg76
  z91 := Tryz.sizeOf76
  v91 := Tryz.zeroValue76
  i0 := by kernel_rfl
  i3 := by kernel_rfl
  i4 := by kernel_rfl
  i5 := by kernel_rfl
  i37 := by kernel_rfl
  i91 := by kernel_rfl
  i93 := by kernel_rfl
  i130 := by kernel_rfl }
open Go.RowKit in
/-- (*bytes.Buffer).tryGrowByReslice: "tryGrowByReslice is an inlineable version of grow for the fast-case where the internal buffer only needs to be resliced. It returns the index where bytes should be written and whether it succeeded.": THERE IS ROOM: 'buf' is resliced to l + n. (LAID: no walk: one application.) -/
theorem Tryz.Buffer_tryGrow_room (b : Nat) (ao : Option Addr) (l cap n : Nat) (w : World) (c0 : w.cell? ⟨b, 0, none⟩ = some (.slice ao l cap)) (f0 : w.frozen? ⟨b, 0, none⟩ = false) (hlc : l ≤ cap) (hcap : cap ≤ maxLen) (hn : n ≤ cap - l) :
    Calls Tryz.prog 69 #[.pointer (some ⟨b, 0, none⟩), .int .i64 n] w fun e w' => e = .returned (.tuple #[.int .i64 l, .bool true]) ∧ w' = w.setCell ⟨b, 0, none⟩ (.slice ao (l + n) cap) := Any.Buffer_tryGrow_room Tryz.laysM251 b ao l cap n w c0 f0 hlc hcap hn
open Go.RowKit in
/-- .. THERE IS NONE: nothing turns. (LAID: no walk: one application.) -/
theorem Tryz.Buffer_tryGrow_none (b : Nat) (ao : Option Addr) (l cap n : Nat) (w : World) (c0 : w.cell? ⟨b, 0, none⟩ = some (.slice ao l cap)) (hlc : l ≤ cap) (hcap : cap ≤ maxLen) (hn : cap - l < n) :
    Calls Tryz.prog 69 #[.pointer (some ⟨b, 0, none⟩), .int .i64 n] w fun e w' => e = .returned (.tuple #[.int .i64 0, .bool false]) ∧ w' = w := Any.Buffer_tryGrow_none Tryz.laysM251 b ao l cap n w c0 hlc hcap hn
def Tryz.laysM324_ren : Go.Shelf.Ren := ⟨fun | 324 => 99 | n => n, fun | 20 => 20 | 4 => 4 | 75 => 55 | 0 => 0 | 80 => 262 | 9 => 9 | n => n, fun | 14 => 2 | n => n⟩
theorem Tryz.laysM324 : Go.Proofs.LaysM.n324 Tryz.prog Tryz.laysM324_ren := {
  mixed := by kernel_rfl
  f324 := Tryz.func99.trans (congrArg some (by kernel_rfl))
  t0 := Tryz.underlying0
  a0 := Tryz.isAgg0
  z0 := Tryz.sizeOf0
  v0 := Tryz.zeroValue0
  t4 := Tryz.underlying4
  a4 := Tryz.isAgg4
  z4 := Tryz.sizeOf4
  v4 := Tryz.zeroValue4
  t20 := Tryz.underlying20
  a20 := Tryz.isAgg20
  z20 := Tryz.sizeOf20
  v20 := Tryz.zeroValue20
  t75 := Tryz.underlying55
  a75 := Tryz.isAgg55
  z75 := Tryz.sizeOf55
  v75 := Tryz.zeroValue55
  g14 := by kernel_rfl
  t9 := Tryz.underlying9
  a9 := Tryz.isAgg9
  z9 := Tryz.sizeOf9
  v9 := Tryz.zeroValue9
  t80 := Tryz.underlying262
  a80 := Tryz.isAgg262
  z80 := Tryz.sizeOf262
  v80 := Tryz.zeroValue262
  i0 := by kernel_rfl
  i4 := by kernel_rfl
  i9 := by kernel_rfl
  i20 := by kernel_rfl
  i75 := by kernel_rfl
  i80 := by kernel_rfl
  m14 := by kernel_rfl }
theorem Tryz.growSlice_catch_idle (w : World) :
    CallsD Tryz.prog 99 #[] .returning w fun e u' w' => e = .returned (.tuple #[]) ∧ u' = .returning ∧ w' = w := Any.growSlice_catch_idle Tryz.laysM324 w
def Tryz.laysM290_ren : Go.Shelf.Ren := ⟨fun | 290 => 85 | 324 => 99 | n => n, fun | 37 => 74 | 3 => 3 | 0 => 0 | 4 => 4 | 20 => 20 | 75 => 55 | 5 => 5 | 80 => 262 | 9 => 9 | n => n, fun | 14 => 2 | n => n⟩
theorem Tryz.laysM290 : Go.Proofs.LaysM.n290 Tryz.prog Tryz.laysM290_ren := {
  mixed := by kernel_rfl
  f290 := Tryz.func85.trans (congrArg some (by kernel_rfl))
  f324 := Tryz.func99.trans (congrArg some (by kernel_rfl))
  t0 := Tryz.underlying0
  a0 := Tryz.isAgg0
  z0 := Tryz.sizeOf0
  v0 := Tryz.zeroValue0
  t3 := Tryz.underlying3
  a3 := Tryz.isAgg3
  z3 := Tryz.sizeOf3
  v3 := Tryz.zeroValue3
  t4 := Tryz.underlying4
  a4 := Tryz.isAgg4
  z4 := Tryz.sizeOf4
  v4 := Tryz.zeroValue4
  t20 := Tryz.underlying20
  a20 := Tryz.isAgg20
  z20 := Tryz.sizeOf20
  v20 := Tryz.zeroValue20
  t37 := Tryz.underlying74
  a37 := Tryz.isAgg74
  z37 := Tryz.sizeOf74
  v37 := Tryz.zeroValue74
  t75 := Tryz.underlying55
  a75 := Tryz.isAgg55
  z75 := Tryz.sizeOf55
  v75 := Tryz.zeroValue55
  g14 := by kernel_rfl
  t5 := Tryz.underlying5
  a5 := Tryz.isAgg5
  z5 := Tryz.sizeOf5
  v5 := Tryz.zeroValue5
  t9 := Tryz.underlying9
  a9 := Tryz.isAgg9
  z9 := Tryz.sizeOf9
  v9 := Tryz.zeroValue9
  t80 := Tryz.underlying262
  a80 := Tryz.isAgg262
  z80 := Tryz.sizeOf262
  v80 := Tryz.zeroValue262
  i0 := by kernel_rfl
  i3 := by kernel_rfl
  i4 := by kernel_rfl
  i5 := by kernel_rfl
  i9 := by kernel_rfl
  i20 := by kernel_rfl
  i37 := by kernel_rfl
  i75 := by kernel_rfl
  i80 := by kernel_rfl
  m14 := by kernel_rfl }
open Go.RowKit in
/-- bytes.growSlice: "growSlice grows b by n, preserving the original content of b.": OF A SLICE THAT LIES AT THE HEAD OF A ROW: a new row, number 'w.heap.size': it begins with b's l cells; its capacity has room for n more; whatever lay below is as it was. (LAID: no walk: one application.) -/
theorem Tryz.bytes_growSlice_row (g l c n : Nat) (cur : Array Value) (w : World) (hg : w.heap[g]? = some (.cells cur 5 (0, 0))) (hcs : cur.size = c) (hlc : l ≤ c) (hn : 1 ≤ n) (hlim : l + n ≤ 140737488355328) (hc2 : c ≤ 140737488355328) (h1 : ∀ v ∈ cur.toList.take l, v.oneCell' = true) :
    Calls Tryz.prog 85 #[.slice (some ⟨g, 0, none⟩) l c, .int .i64 n] w fun e w' => ∃ cap2 cells, e = .returned (.slice (some ⟨w.heap.size, 0, none⟩) l cap2) ∧ w'.heap[w.heap.size]? = some (.cells cells 5 (0, 0)) ∧
      cells.size = cap2 ∧ cells.toList.take l = cur.toList.take l ∧ l + n ≤ cap2 ∧ cap2 ≤ maxLen ∧ Below w.heap.size w w' := Any.bytes_growSlice_row Tryz.laysM290 g l c n cur w hg hcs hlc hn hlim hc2 h1
open Go.RowKit in
/-- .. OF THE NIL SLICE: a new row with room for n. (LAID: no walk: one application.) -/
theorem Tryz.bytes_growSlice_nil (n : Nat) (w : World) (hn : 1 ≤ n) (hlim : n ≤ 140737488355328) :
    Calls Tryz.prog 85 #[.slice none 0 0, .int .i64 n] w fun e w' => ∃ cap2 cells, e = .returned (.slice (some ⟨w.heap.size, 0, none⟩) 0 cap2) ∧ w'.heap[w.heap.size]? = some (.cells cells 5 (0, 0)) ∧
      cells.size = cap2 ∧ n ≤ cap2 ∧ cap2 ≤ maxLen ∧ Below w.heap.size w w' := Any.bytes_growSlice_nil Tryz.laysM290 n w hn hlim
def Tryz.laysM252_ren : Go.Shelf.Ren := ⟨fun | 252 => 70 | 181 => 49 | 184 => 42 | 251 => 69 | 290 => 85 | 324 => 99 | n => n, fun | 130 => 79 | 3 => 3 | 4 => 4 | 0 => 0 | 93 => 78 | 131 => 173 | 37 => 74 | 75 => 55 | 91 => 76 | 20 => 20 | 5 => 5 | 80 => 262 | 9 => 9 | n => n, fun | 14 => 2 | n => n⟩
theorem Tryz.laysM252 : Go.Proofs.LaysM.n252 Tryz.prog Tryz.laysM252_ren := {
  mixed := by kernel_rfl
  f181 := Tryz.func49.trans (congrArg some (by kernel_rfl))
  f184 := Tryz.func42.trans (congrArg some (by kernel_rfl))
  f251 := Tryz.func69.trans (congrArg some (by kernel_rfl))
  f252 := Tryz.func70.trans (congrArg some (by kernel_rfl))
  f290 := Tryz.func85.trans (congrArg some (by kernel_rfl))
  f324 := Tryz.func99.trans (congrArg some (by kernel_rfl))
  t0 := Tryz.underlying0
  a0 := Tryz.isAgg0
  z0 := Tryz.sizeOf0
  v0 := Tryz.zeroValue0
  t3 := Tryz.underlying3
  a3 := Tryz.isAgg3
  z3 := Tryz.sizeOf3
  v3 := Tryz.zeroValue3
  t4 := Tryz.underlying4
  a4 := Tryz.isAgg4
  z4 := Tryz.sizeOf4
  v4 := Tryz.zeroValue4
  t20 := Tryz.underlying20
  a20 := Tryz.isAgg20
  z20 := Tryz.sizeOf20
  v20 := Tryz.zeroValue20
  t37 := Tryz.underlying74
  a37 := Tryz.isAgg74
  z37 := Tryz.sizeOf74
  v37 := Tryz.zeroValue74
  t75 := Tryz.underlying55
  a75 := Tryz.isAgg55
  z75 := Tryz.sizeOf55
  v75 := Tryz.zeroValue55
  t91 := Tryz.underlying76
  a91 := Tryz.isAgg76
  z91 := Tryz.sizeOf76
  v91 := Tryz.zeroValue76
  t93 := Tryz.underlying78
  a93 := Tryz.isAgg78
  z93 := Tryz.sizeOf78
  v93 := Tryz.zeroValue78
  t130 := Tryz.underlying79
  a130 := Tryz.isAgg79
  z130 := Tryz.sizeOf79
  v130 := Tryz.zeroValue79
  t131 := Tryz.underlying173
  a131 := Tryz.isAgg173
  z131 := Tryz.sizeOf173
  v131 := Tryz.zeroValue173
  g14 := by kernel_rfl
  t5 := Tryz.underlying5
  a5 := Tryz.isAgg5
  z5 := Tryz.sizeOf5
  v5 := Tryz.zeroValue5
  t9 := Tryz.underlying9
  a9 := Tryz.isAgg9
  z9 := Tryz.sizeOf9
  v9 := Tryz.zeroValue9
  t80 := Tryz.underlying262
  a80 := Tryz.isAgg262
  z80 := Tryz.sizeOf262
  v80 := Tryz.zeroValue262
  i0 := by kernel_rfl
  i3 := by kernel_rfl
  i4 := by kernel_rfl
  i5 := by kernel_rfl
  i9 := by kernel_rfl
  i20 := by kernel_rfl
  i37 := by kernel_rfl
  i75 := by kernel_rfl
  i80 := by kernel_rfl
  i91 := by kernel_rfl
  i93 := by kernel_rfl
  i130 := by kernel_rfl
  i131 := by kernel_rfl
  m14 := by kernel_rfl }
open Go.RowKit in
/-- grow, WHERE THE BUFFER HOLDS A ROW, NO BYTE IN IT (behind a Reset), AND THE ROW HAS NO ROOM: growSlice. (THE TEXT OF 'Buffer_grow_row' WITH 0 FOR l, BY PROGRAM: the walk parts on 'm == 0' and writes 0 for l throughout the goal: facts that still say l then do not strike: so l is laid in ahead of the walk.) (LAID: no walk: one application.) -/
theorem Tryz.Buffer_grow_row0 (B b g cap n : Nat) (lr : Int) (cur : Array Value) (bs : List Value) (w : World) (hB : B ≤ b) (hBw : B ≤ w.heap.size) (hbk : w.heap[b]? = some (.cells #[.slice (some ⟨g, 0, none⟩) 0 cap, .int .i64 0, .int .i8 lr] 78 (0, 0))) (hl : bs.length = 0) (hBg : B ≤ g) (hg : w.heap[g]? = some (.cells cur 5 (0, 0))) (hlc : 0 ≤ cap) (hcm : cap ≤ maxLen) (hcs : cur.size = cap) (htake : cur.toList.take 0 = bs) (hgb : g ≠ b) (h1 : ∀ v ∈ bs, v.oneCell' = true) (hn : 1 ≤ n) (hroom : cap - 0 < n) (hlim : 0 + n ≤ 140737488355328) :
    Calls Tryz.prog 70 #[.pointer (some ⟨b, 0, none⟩), .int .i64 n] w fun e w' => e = .returned (.int .i64 0) ∧ ∃ xs, xs.length = n ∧ Lib.IsBuffer 78 5 B b (bs ++ xs) w' ∧ Below B w w' := Any.Buffer_grow_row0 Tryz.laysM252 B b g cap n lr cur bs w hB hBw hbk hl hBg hg hlc hcm hcs htake hgb h1 hn hroom hlim
open Go.RowKit in
/-- grow, WHERE THE BUFFER HOLDS A ROW THAT HAS NO ROOM: growSlice. (LAID: no walk: one application.) -/
theorem Tryz.Buffer_grow_row (B b g l cap n : Nat) (lr : Int) (cur : Array Value) (bs : List Value) (w : World) (hB : B ≤ b) (hBw : B ≤ w.heap.size) (hbk : w.heap[b]? = some (.cells #[.slice (some ⟨g, 0, none⟩) l cap, .int .i64 0, .int .i8 lr] 78 (0, 0))) (hl : bs.length = l) (hBg : B ≤ g) (hg : w.heap[g]? = some (.cells cur 5 (0, 0))) (hlc : l ≤ cap) (hcm : cap ≤ maxLen) (hcs : cur.size = cap) (htake : cur.toList.take l = bs) (hgb : g ≠ b) (h1 : ∀ v ∈ bs, v.oneCell' = true) (hn : 1 ≤ n) (hroom : cap - l < n) (hlim : l + n ≤ 140737488355328) :
    Calls Tryz.prog 70 #[.pointer (some ⟨b, 0, none⟩), .int .i64 n] w fun e w' => e = .returned (.int .i64 l) ∧ ∃ xs, xs.length = n ∧ Lib.IsBuffer 78 5 B b (bs ++ xs) w' ∧ Below B w w' := Any.Buffer_grow_row Tryz.laysM252 B b g l cap n lr cur bs w hB hBw hbk hl hBg hg hlc hcm hcs htake hgb h1 hn hroom hlim
def Tryz.lays217_ren : Go.Shelf.Ren := ⟨fun | 217 => 86 | 266 => 100 | n => n, fun | 9 => 9 | 5 => 5 | 3 => 3 | n => n, fun | n => n⟩
theorem Tryz.lays217 : Go.Proofs.Lays.n217 Tryz.prog Tryz.lays217_ren := {
  mixed := by kernel_rfl
  f217 := Tryz.func86.trans (congrArg some (by kernel_rfl))
  f266 := Tryz.func100.trans (congrArg some (by kernel_rfl))
  t3 := Tryz.underlying3
  a3 := Tryz.isAgg3
  z3 := Tryz.sizeOf3
  v3 := Tryz.zeroValue3
  t5 := Tryz.underlying5
  a5 := Tryz.isAgg5
  z5 := Tryz.sizeOf5
  v5 := Tryz.zeroValue5
  t9 := Tryz.underlying9
  a9 := Tryz.isAgg9
  z9 := Tryz.sizeOf9
  v9 := Tryz.zeroValue9 }
open Go.RowKit Go.Lib in
/-- internal/stringslite.IndexByte (what strings.IndexByte calls): IT RETURNS 'Lib.indexByte s c'; the world is as it was. (LAID: no walk: one application.) -/
theorem Tryz.stringslite_IndexByte (s : ByteArray) (c : Int) (w : World) :
    Calls Tryz.prog 86 #[.string s, .int .u8 c] w fun e w' => e = .returned (.int .i64 (Lib.indexByte s.data.toList c.toNat.toUInt8)) ∧ w' = w := Any.stringslite_IndexByte Tryz.lays217 s c w
def Tryz.lays260_ren : Go.Shelf.Ren := ⟨fun | 260 => 87 | n => n, fun | 9 => 9 | 21 => 21 | 3 => 3 | 4 => 4 | 5 => 5 | 119 => 234 | 0 => 0 | 46 => 119 | 139 => 237 | 138 => 236 | n => n, fun | 3 => 6 | 4 => 7 | n => n⟩
theorem Tryz.lays260 : Go.Proofs.Lays.n260 Tryz.prog Tryz.lays260_ren := {
  mixed := by kernel_rfl
  f260 := Tryz.func87.trans (congrArg some (by kernel_rfl))
  t0 := Tryz.underlying0
  a0 := Tryz.isAgg0
  z0 := Tryz.sizeOf0
  v0 := Tryz.zeroValue0
  t3 := Tryz.underlying3
  a3 := Tryz.isAgg3
  z3 := Tryz.sizeOf3
  v3 := Tryz.zeroValue3
  t4 := Tryz.underlying4
  a4 := Tryz.isAgg4
  z4 := Tryz.sizeOf4
  v4 := Tryz.zeroValue4
  t5 := Tryz.underlying5
  a5 := Tryz.isAgg5
  z5 := Tryz.sizeOf5
  v5 := Tryz.zeroValue5
  t9 := Tryz.underlying9
  a9 := Tryz.isAgg9
  z9 := Tryz.sizeOf9
  v9 := Tryz.zeroValue9
  t21 := Tryz.underlying21
  a21 := Tryz.isAgg21
  z21 := Tryz.sizeOf21
  v21 := Tryz.zeroValue21
  t46 := Tryz.underlying119
  a46 := Tryz.isAgg119
  z46 := Tryz.sizeOf119
  v46 := Tryz.zeroValue119
  t119 := Tryz.underlying234
  a119 := Tryz.isAgg234
  z119 := Tryz.sizeOf234
  t138 := Tryz.underlying236
  a138 := Tryz.isAgg236
  z138 := Tryz.sizeOf236
  v138 := Tryz.zeroValue236
  t139 := Tryz.underlying237
  a139 := Tryz.isAgg237
  z139 := Tryz.sizeOf237
  v139 := Tryz.zeroValue237
  g3 := by kernel_rfl
  g4 := by kernel_rfl }
open Go.RowKit Go.Lib in
theorem Tryz.utf8_decodeRuneInStringSlow (s : ByteArray) (w : World) (hT : Lib.Utf8Tabs 6 7 w) :
    Calls Tryz.prog 87 #[.string s] w fun e w' => e = .returned (.tuple #[.int .i32 (Lib.decodeGo s).1, .int .i64 (Lib.decodeGo s).2]) ∧ Below w.heap.size w w' := Any.utf8_decodeRuneInStringSlow Tryz.lays260 s w hT
def Tryz.lays197_ren : Go.Shelf.Ren := ⟨fun | 197 => 73 | 260 => 87 | n => n, fun | 9 => 9 | 21 => 21 | 3 => 3 | 4 => 4 | 5 => 5 | 105 => 167 | 119 => 234 | 0 => 0 | 46 => 119 | 139 => 237 | 138 => 236 | n => n, fun | 3 => 6 | 4 => 7 | n => n⟩
theorem Tryz.lays197 : Go.Proofs.Lays.n197 Tryz.prog Tryz.lays197_ren := {
  mixed := by kernel_rfl
  f197 := Tryz.func73.trans (congrArg some (by kernel_rfl))
  f260 := Tryz.func87.trans (congrArg some (by kernel_rfl))
  t0 := Tryz.underlying0
  a0 := Tryz.isAgg0
  z0 := Tryz.sizeOf0
  v0 := Tryz.zeroValue0
  t3 := Tryz.underlying3
  a3 := Tryz.isAgg3
  z3 := Tryz.sizeOf3
  v3 := Tryz.zeroValue3
  t4 := Tryz.underlying4
  a4 := Tryz.isAgg4
  z4 := Tryz.sizeOf4
  v4 := Tryz.zeroValue4
  t5 := Tryz.underlying5
  a5 := Tryz.isAgg5
  z5 := Tryz.sizeOf5
  v5 := Tryz.zeroValue5
  t9 := Tryz.underlying9
  a9 := Tryz.isAgg9
  z9 := Tryz.sizeOf9
  v9 := Tryz.zeroValue9
  t21 := Tryz.underlying21
  a21 := Tryz.isAgg21
  z21 := Tryz.sizeOf21
  v21 := Tryz.zeroValue21
  t46 := Tryz.underlying119
  a46 := Tryz.isAgg119
  z46 := Tryz.sizeOf119
  v46 := Tryz.zeroValue119
  t105 := Tryz.underlying167
  a105 := Tryz.isAgg167
  z105 := Tryz.sizeOf167
  v105 := Tryz.zeroValue167
  t119 := Tryz.underlying234
  a119 := Tryz.isAgg234
  z119 := Tryz.sizeOf234
  t138 := Tryz.underlying236
  a138 := Tryz.isAgg236
  z138 := Tryz.sizeOf236
  v138 := Tryz.zeroValue236
  t139 := Tryz.underlying237
  a139 := Tryz.isAgg237
  z139 := Tryz.sizeOf237
  v139 := Tryz.zeroValue237
  g3 := by kernel_rfl
  g4 := by kernel_rfl }
open Go.RowKit Go.Lib in
/-- **unicode/utf8.DecodeRuneInString AT EVERY STRING.** (LAID: no walk: one application.) -/
theorem Tryz.utf8_DecodeRuneInString (s : ByteArray) (w : World) (hT : Lib.Utf8Tabs 6 7 w) :
    Calls Tryz.prog 73 #[.string s] w fun e w' => e = .returned (.tuple #[.int .i32 (Lib.decodeGo s).1, .int .i64 (Lib.decodeGo s).2]) ∧ Below w.heap.size w w' := Any.utf8_DecodeRuneInString Tryz.lays197 s w hT
def Tryz.lays311_ren : Go.Shelf.Ren := ⟨fun | 311 => 97 | n => n, fun | 193 => 223 | 49 => 205 | 4 => 4 | 3 => 3 | 0 => 0 | 226 => 246 | 198 => 229 | 46 => 119 | n => n, fun | n => n⟩
theorem Tryz.lays311 : Go.Proofs.Lays.n311 Tryz.prog Tryz.lays311_ren := {
  mixed := by kernel_rfl
  f311 := Tryz.func97.trans (congrArg some (by kernel_rfl))
  t0 := Tryz.underlying0
  a0 := Tryz.isAgg0
  z0 := Tryz.sizeOf0
  v0 := Tryz.zeroValue0
  t3 := Tryz.underlying3
  a3 := Tryz.isAgg3
  z3 := Tryz.sizeOf3
  v3 := Tryz.zeroValue3
  t4 := Tryz.underlying4
  a4 := Tryz.isAgg4
  z4 := Tryz.sizeOf4
  v4 := Tryz.zeroValue4
  t46 := Tryz.underlying119
  a46 := Tryz.isAgg119
  z46 := Tryz.sizeOf119
  v46 := Tryz.zeroValue119
  t49 := Tryz.underlying205
  a49 := Tryz.isAgg205
  z49 := Tryz.sizeOf205
  v49 := Tryz.zeroValue205
  t193 := Tryz.underlying223
  a193 := Tryz.isAgg223
  z193 := Tryz.sizeOf223
  v193 := Tryz.zeroValue223
  t198 := Tryz.underlying229
  a198 := Tryz.isAgg229
  z198 := Tryz.sizeOf229
  v198 := Tryz.zeroValue229
  t226 := Tryz.underlying246
  a226 := Tryz.isAgg246
  z226 := Tryz.sizeOf246
  v226 := Tryz.zeroValue246 }
open Go.RowKit Go.Lib in
theorem Tryz.unicode_is16_white (R oR : Nat) (z : Nat) (w : World) (hz : z < 65536) (hz0 : 255 < z) (c6 : w.cell? ⟨R, oR + 6, none⟩ = some (.int .u16 160)) (c7 : w.cell? ⟨R, oR + 7, none⟩ = some (.int .u16 5760)) (c8 : w.cell? ⟨R, oR + 8, none⟩ = some (.int .u16 5600)) (c9 : w.cell? ⟨R, oR + 9, none⟩ = some (.int .u16 8192)) (c10 : w.cell? ⟨R, oR + 10, none⟩ = some (.int .u16 8202)) (c11 : w.cell? ⟨R, oR + 11, none⟩ = some (.int .u16 1)) (c12 : w.cell? ⟨R, oR + 12, none⟩ = some (.int .u16 8232)) (c13 : w.cell? ⟨R, oR + 13, none⟩ = some (.int .u16 8233)) (c14 : w.cell? ⟨R, oR + 14, none⟩ = some (.int .u16 1)) (c15 : w.cell? ⟨R, oR + 15, none⟩ = some (.int .u16 8239)) (c16 : w.cell? ⟨R, oR + 16, none⟩ = some (.int .u16 8287)) (c17 : w.cell? ⟨R, oR + 17, none⟩ = some (.int .u16 48)) (c18 : w.cell? ⟨R, oR + 18, none⟩ = some (.int .u16 12288)) (c19 : w.cell? ⟨R, oR + 19, none⟩ = some (.int .u16 12288)) (c20 : w.cell? ⟨R, oR + 20, none⟩ = some (.int .u16 1)) :
    Calls Tryz.prog 97 #[.slice (some ⟨R, oR + 6, none⟩) 5 5, .int .u16 z] w fun e w' => e = .returned (.bool (Lib.isSpaceR z)) ∧ Below w.heap.size w w' := Any.unicode_is16_white Tryz.lays311 R oR z w hz hz0 c6 c7 c8 c9 c10 c11 c12 c13 c14 c15 c16 c17 c18 c19 c20
def Tryz.lays274_ren : Go.Shelf.Ren := ⟨fun | 274 => 88 | n => n, fun | 21 => 21 | 162 => 212 | 160 => 210 | 3 => 3 | 4 => 4 | 46 => 119 | 0 => 0 | 208 => 241 | 51 => 227 | 206 => 239 | n => n, fun | n => n⟩
theorem Tryz.lays274 : Go.Proofs.Lays.n274 Tryz.prog Tryz.lays274_ren := {
  mixed := by kernel_rfl
  f274 := Tryz.func88.trans (congrArg some (by kernel_rfl))
  t0 := Tryz.underlying0
  a0 := Tryz.isAgg0
  z0 := Tryz.sizeOf0
  v0 := Tryz.zeroValue0
  t3 := Tryz.underlying3
  a3 := Tryz.isAgg3
  z3 := Tryz.sizeOf3
  v3 := Tryz.zeroValue3
  t4 := Tryz.underlying4
  a4 := Tryz.isAgg4
  z4 := Tryz.sizeOf4
  v4 := Tryz.zeroValue4
  t21 := Tryz.underlying21
  a21 := Tryz.isAgg21
  z21 := Tryz.sizeOf21
  v21 := Tryz.zeroValue21
  t46 := Tryz.underlying119
  a46 := Tryz.isAgg119
  z46 := Tryz.sizeOf119
  v46 := Tryz.zeroValue119
  t51 := Tryz.underlying227
  a51 := Tryz.isAgg227
  z51 := Tryz.sizeOf227
  v51 := Tryz.zeroValue227
  t160 := Tryz.underlying210
  a160 := Tryz.isAgg210
  z160 := Tryz.sizeOf210
  v160 := Tryz.zeroValue210
  t162 := Tryz.underlying212
  a162 := Tryz.isAgg212
  z162 := Tryz.sizeOf212
  v162 := Tryz.zeroValue212
  t208 := Tryz.underlying241
  a208 := Tryz.isAgg241
  z208 := Tryz.sizeOf241
  v208 := Tryz.zeroValue241 }
open Go.RowKit Go.Lib in
theorem Tryz.unicode_lookupCaseRange (T : Array CaseRow) (R oR cap : Nat) (r : Int) (w : World) (hT : CaseTab R oR T w) (hok : CaseOk T) (hn : T.size ≤ 1000000000) :
    Calls Tryz.prog 88 #[.int .i32 r, .slice (some ⟨R, oR, none⟩) T.size cap] w fun e w' =>
      e = .returned (match lookupIdx T r (T.size + 1) 0 T.size with | some i => .pointer (some ⟨R, oR + i * 5, none⟩) | none => .pointer none) ∧ w' = w := Any.unicode_lookupCaseRange Tryz.lays274 T R oR cap r w hT hok hn
def Tryz.lays275_ren : Go.Shelf.Ren := ⟨fun | 275 => 89 | n => n, fun | 3 => 3 | 21 => 21 | 160 => 210 | 0 => 0 | 208 => 241 | 206 => 239 | 4 => 4 | 51 => 227 | n => n, fun | n => n⟩
theorem Tryz.lays275 : Go.Proofs.Lays.n275 Tryz.prog Tryz.lays275_ren := {
  mixed := by kernel_rfl
  f275 := Tryz.func89.trans (congrArg some (by kernel_rfl))
  t0 := Tryz.underlying0
  a0 := Tryz.isAgg0
  z0 := Tryz.sizeOf0
  v0 := Tryz.zeroValue0
  t3 := Tryz.underlying3
  a3 := Tryz.isAgg3
  z3 := Tryz.sizeOf3
  v3 := Tryz.zeroValue3
  t4 := Tryz.underlying4
  a4 := Tryz.isAgg4
  z4 := Tryz.sizeOf4
  v4 := Tryz.zeroValue4
  t21 := Tryz.underlying21
  a21 := Tryz.isAgg21
  z21 := Tryz.sizeOf21
  v21 := Tryz.zeroValue21
  t51 := Tryz.underlying227
  a51 := Tryz.isAgg227
  z51 := Tryz.sizeOf227
  v51 := Tryz.zeroValue227
  t160 := Tryz.underlying210
  a160 := Tryz.isAgg210
  z160 := Tryz.sizeOf210
  v160 := Tryz.zeroValue210
  t206 := Tryz.underlying239
  a206 := Tryz.isAgg239
  z206 := Tryz.sizeOf239
  v206 := Tryz.zeroValue239
  t208 := Tryz.underlying241
  a208 := Tryz.isAgg241
  z208 := Tryz.sizeOf241
  v208 := Tryz.zeroValue241 }
open Go.RowKit Go.Lib in
theorem Tryz.unicode_convertCase (c : Nat) (hc : c < 3) (r : Int) (A o : Nat) (x : CaseRow) (w : World) (hlo : (x.1 : Int) ≤ r) (hhi : r ≤ (x.2.1 : Int)) (hH : x.2.1 < 2147483647) (c0 : w.cell? ⟨A, o, none⟩ = some (.int .u32 x.1)) (cD : w.cell? ⟨A, o + 2 + c, none⟩ = some (.int .i32 (x.delta c))) :
    Calls Tryz.prog 89 #[.int .i64 c, .int .i32 r, .pointer (some ⟨A, o, none⟩)] w fun e w' => e = .returned (.int .i32 (wrap32 (convertR c r x))) ∧ ∃ q, w' = w.drewN q := Any.unicode_convertCase Tryz.lays275 c hc r A o x w hlo hhi hH c0 cD
open Go.RowKit Go.Lib in
theorem Tryz.unicode_is16_any (T : Array Rg) (R oR cap : Nat) (z : Nat) (w : World) (hz : z < 65536) (hT : RgTab .u16 R oR T w) (hok : RgOk 65536 T) (hn : T.size ≤ 1000000000) :
    Calls Tryz.prog 97 #[.slice (some ⟨R, oR, none⟩) T.size cap, .int .u16 z] w fun e w' => e = .returned (.bool (is16Go T z)) ∧ ∃ q, w' = w.drewN q := Any.unicode_is16_any Tryz.lays311 T R oR cap z w hz hT hok hn
def Tryz.lays312_ren : Go.Shelf.Ren := ⟨fun | 312 => 98 | n => n, fun | 194 => 224 | 51 => 227 | 4 => 4 | 3 => 3 | 0 => 0 | 227 => 247 | 201 => 232 | 46 => 119 | n => n, fun | n => n⟩
theorem Tryz.lays312 : Go.Proofs.Lays.n312 Tryz.prog Tryz.lays312_ren := {
  mixed := by kernel_rfl
  f312 := Tryz.func98.trans (congrArg some (by kernel_rfl))
  t0 := Tryz.underlying0
  a0 := Tryz.isAgg0
  z0 := Tryz.sizeOf0
  v0 := Tryz.zeroValue0
  t3 := Tryz.underlying3
  a3 := Tryz.isAgg3
  z3 := Tryz.sizeOf3
  v3 := Tryz.zeroValue3
  t4 := Tryz.underlying4
  a4 := Tryz.isAgg4
  z4 := Tryz.sizeOf4
  v4 := Tryz.zeroValue4
  t46 := Tryz.underlying119
  a46 := Tryz.isAgg119
  z46 := Tryz.sizeOf119
  v46 := Tryz.zeroValue119
  t51 := Tryz.underlying227
  a51 := Tryz.isAgg227
  z51 := Tryz.sizeOf227
  v51 := Tryz.zeroValue227
  t194 := Tryz.underlying224
  a194 := Tryz.isAgg224
  z194 := Tryz.sizeOf224
  v194 := Tryz.zeroValue224
  t201 := Tryz.underlying232
  a201 := Tryz.isAgg232
  z201 := Tryz.sizeOf232
  v201 := Tryz.zeroValue232
  t227 := Tryz.underlying247
  a227 := Tryz.isAgg247
  z227 := Tryz.sizeOf247
  v227 := Tryz.zeroValue247 }
open Go.RowKit Go.Lib in
theorem Tryz.unicode_is32_any (T : Array Rg) (R oR cap : Nat) (z : Nat) (w : World) (hz : z < 4294967296) (hT : RgTab .u32 R oR T w) (hok : RgOk 4294967296 T) (hn : T.size ≤ 1000000000) :
    Calls Tryz.prog 98 #[.slice (some ⟨R, oR, none⟩) T.size cap, .int .u32 z] w fun e w' => e = .returned (.bool (is32Go T z)) ∧ Below w.heap.size w w' := Any.unicode_is32_any Tryz.lays312 T R oR cap z w hz hT hok hn
def Tryz.laysGn14_ren : Go.Shelf.Ren := ⟨fun | 14 => 81 | 25 => 97 | 26 => 98 | n => n, fun | 22 => 202 | 21 => 21 | 4 => 4 | 0 => 0 | 31 => 226 | 28 => 223 | 3 => 3 | 32 => 227 | 35 => 229 | 33 => 205 | 29 => 224 | 38 => 232 | 41 => 246 | 42 => 119 | 43 => 247 | n => n, fun | n => n⟩
theorem Tryz.laysGn14 : Go.Proofs.LaysGn.n14 Tryz.prog Tryz.laysGn14_ren := {
  mixed := by kernel_rfl
  f14 := Tryz.func81.trans (congrArg some (by kernel_rfl))
  f25 := Tryz.func97.trans (congrArg some (by kernel_rfl))
  f26 := Tryz.func98.trans (congrArg some (by kernel_rfl))
  t0 := Tryz.underlying0
  a0 := Tryz.isAgg0
  z0 := Tryz.sizeOf0
  v0 := Tryz.zeroValue0
  i0 := by kernel_rfl
  t3 := Tryz.underlying3
  a3 := Tryz.isAgg3
  z3 := Tryz.sizeOf3
  v3 := Tryz.zeroValue3
  i3 := by kernel_rfl
  t4 := Tryz.underlying4
  a4 := Tryz.isAgg4
  z4 := Tryz.sizeOf4
  v4 := Tryz.zeroValue4
  i4 := by kernel_rfl
  t21 := Tryz.underlying21
  a21 := Tryz.isAgg21
  z21 := Tryz.sizeOf21
  v21 := Tryz.zeroValue21
  i21 := by kernel_rfl
  t22 := Tryz.underlying202
  a22 := Tryz.isAgg202
  z22 := Tryz.sizeOf202
  v22 := Tryz.zeroValue202
  i22 := by kernel_rfl
  t28 := Tryz.underlying223
  a28 := Tryz.isAgg223
  z28 := Tryz.sizeOf223
  v28 := Tryz.zeroValue223
  i28 := by kernel_rfl
  t29 := Tryz.underlying224
  a29 := Tryz.isAgg224
  z29 := Tryz.sizeOf224
  v29 := Tryz.zeroValue224
  i29 := by kernel_rfl
  t31 := Tryz.underlying226
  a31 := Tryz.isAgg226
  z31 := Tryz.sizeOf226
  v31 := Tryz.zeroValue226
  i31 := by kernel_rfl
  t32 := Tryz.underlying227
  a32 := Tryz.isAgg227
  z32 := Tryz.sizeOf227
  v32 := Tryz.zeroValue227
  i32 := by kernel_rfl
  t33 := Tryz.underlying205
  a33 := Tryz.isAgg205
  z33 := Tryz.sizeOf205
  v33 := Tryz.zeroValue205
  i33 := by kernel_rfl
  t35 := Tryz.underlying229
  a35 := Tryz.isAgg229
  z35 := Tryz.sizeOf229
  v35 := Tryz.zeroValue229
  i35 := by kernel_rfl
  t38 := Tryz.underlying232
  a38 := Tryz.isAgg232
  z38 := Tryz.sizeOf232
  v38 := Tryz.zeroValue232
  i38 := by kernel_rfl
  t41 := Tryz.underlying246
  a41 := Tryz.isAgg246
  z41 := Tryz.sizeOf246
  v41 := Tryz.zeroValue246
  i41 := by kernel_rfl
  t42 := Tryz.underlying119
  a42 := Tryz.isAgg119
  z42 := Tryz.sizeOf119
  v42 := Tryz.zeroValue119
  i42 := by kernel_rfl
  t43 := Tryz.underlying247
  a43 := Tryz.isAgg247
  z43 := Tryz.sizeOf247
  v43 := Tryz.zeroValue247
  i43 := by kernel_rfl }
open Go.RowKit Go.Lib in
/-- **unicode.Is(rangeTab, r) AT EVERY int32, OVER WHATEVER RangeTable.** (LAID: no walk: one application.) -/
theorem Tryz.unicode_Is_any (Tb oT : Nat) (T : RTab) (r : Int) (w : World) (hlo : -2147483648 ≤ r) (hhi : r ≤ 2147483647) (hA : RTabAt Tb oT T w) (hok : RTabOk T) :
    Calls Tryz.prog 81 #[.pointer (some ⟨Tb, oT, none⟩), .int .i32 r] w fun e w' => e = .returned (.bool (isGo T r)) ∧ Below w.heap.size w w' := Any.unicode_Is_any Tryz.laysGn14 Tb oT T r w hlo hhi hA hok
end Go.Proofs

/- bytes.Buffer, within the decoder: growing and writing. -/
namespace Go.Proofs.YtkjnockljapnbaaGreatDoor
open Go Go.RowKit

/-- What growing leaves: a new array. -/
structure GrowPost (x : Cx) (c : DC) (w : World) (v : DV) (buf : Bs) (n : Nat) (w' : World) (g cap : Nat) (arr : Array Value) : Prop where
  dec : DecAt w' x.d c { v with bufv := .slice (some ⟨g, 0, none⟩) (buf.length + n) cap }
  blk : Blk w' g arr 5
  sz : arr.size = cap
  cp : buf.length + n ≤ cap
  cm : cap ≤ 9223372036854775807
  new : w.heap.size ≤ g
  el : ∀ j, j < buf.length → arr[j]? = some (.int .u8 (buf.getD j 0).toNat)
  mod : Mod (fun k => k = x.d) w w'

theorem u8all : (Tryz.prog.info? 5).map (fun i => (i.zero, i.size, i.bytes)) = some (some (.int .u8 0), 1, 1) := by kernel_rfl
theorem mk64 (n : Nat) (hn : n ≤ 64) (w : World) : (Instr.makeSlice 74 (.int .i64 n) (.int .i64 64)).run Tryz.prog w = .ok (.slice (some ⟨w.heap.size, 0, none⟩) n 64) (w.alloc (.cells (madeCells #[.int .u8 0] 64) 5)) := by
  obtain ⟨i, hi, hz, h1, h2⟩ := info_parts u8all
  have := run_make w 74 5 i (.int .u8 0) Tryz.underlying74 hi hz .i64 .i64 n 64 (by omega) (by omega) (by rw [h2]; omega) (by omega)
  rw [h1] at this
  simpa [Value.cells] using this

set_option maxHeartbeats 2000000 in
set_option maxRecDepth 100000 in
/-- A first small array. -/
theorem grow_nil (x : Cx) (hx : x.Ok) (c : DC) (w : World) (v : DV) (rest : Bs) (e : Option EK) (h : RdS x c w v rest e []) (hv : v.bufv = .slice none 0 0) (n : Nat) (hn : 1 ≤ n) (hn2 : n ≤ 64) :
    Calls Tryz.prog 70 #[.pointer (some ⟨x.d, 7, none⟩), .int .i64 n] w fun en w' => en = .returned (.int .i64 0) ∧ ∃ g cap arr, GrowPost x c w v [] n w' g cap arr := by
  have hc := h.dec.cell
  have hf := h.dec.frozen
  have hlen := Lib.hid (len_c x c w v rest e [] h)
  have HX := Lib.hid hx
  have H := Lib.hid h
  have htry := Lib.hid (fun k => tryGrow_no x.d c v (w.drewN k) h.dec none 0 0 n hv (by omega) (by omega) (by omega))
  obtain ⟨sb, sl, snb, serr, sline, sls, soff⟩ := v
  simp only at hv
  subst hv
  clear h hx
  have h1 : (n : Int) ≤ 64 := by omega
  go_enter Tryz.func70, Tryz.ntmps70
  go_wp2_with fail
  refine hlen.out.mono ?_
  rintro e1 w1 ⟨rfl, k, rfl⟩
  go_wp2_with fail
  refine (htry.out _).mono ?_
  rintro e2 w2 ⟨rfl, rfl⟩
  have hc' : ∀ o, (w.drewN k).cell? ⟨x.d, o, none⟩ = (dcells c ⟨.slice none 0 0, sl, snb, serr, sline, sls, soff⟩)[o]? := hc
  have hf' : ∀ o, (w.drewN k).frozen? ⟨x.d, o, none⟩ = false := hf
  have heql := fun (w : World) (a : Option Addr) (n c : Nat) => Lib.run_eql_slice_nil (P := Tryz.prog) w 74 5 a n c 0 0 Tryz.underlying74
  have hmk := mk64 n hn2
  have hda : DecAt ((w.drewN k).alloc (.cells (madeCells #[.int .u8 0] 64) 5)) x.d c ⟨.slice none 0 0, sl, snb, serr, sline, sls, soff⟩ := Blk.alloc (show Blk (w.drewN k) _ _ _ from H.out.dec) _
  have hca := hda.cell
  have hfa := hda.frozen
  have HDA := Lib.hid hda
  clear hda
  go_wp2
  go_ret
  have hm := ((((Mod.refl (fun k => k = x.d) w).drewN k).alloc (.cells (madeCells #[.int .u8 0] 64) 5)).setCell (p := ⟨x.d, 7, none⟩) (Or.inl rfl) (.slice (some ⟨w.heap.size, 0, none⟩) n 64))
  have hgd : w.heap.size ≠ x.d := fun h => by have := H.out.dec.lt; omega
  refine ⟨rfl, w.heap.size, 64, madeCells #[.int .u8 0] 64, ?_, ?_, size_madeCells _ _, by simp; omega, by omega, Nat.le_refl _, fun j hj => by simp at hj, hm⟩
  · have := HDA.out.set 7 (.slice (some ⟨w.heap.size, 0, none⟩) n 64)
    rw [show ([] : Bs).length + n = n by simp]
    exact this
  · exact (show Blk ((w.drewN k).alloc (.cells (madeCells #[.int .u8 0] 64) 5)) w.heap.size _ _ from Blk.new (w.drewN k) _ _).set_ne hgd _

end Go.Proofs.YtkjnockljapnbaaGreatDoor
