/- Part of the proof that laws.FnLooseReferences returns true for every text (the claim of laws.FnLooseReferences: Rd2). No condition of its own. -/
import Derived.Test.YtkjnockljapnbaaGreatDoorJS
set_option linter.all false
/- The reader of the thin package: what a read hands out. -/
namespace Go.Proofs.YtkjnockljapnbaaGreatDoor
open Go Go.RowKit

@[go_sem] def rdC (x : Cx) (s : ByteArray) (n : Int) : Array Value := #[.string s, .slice x.pcA x.pcN x.pcC, .int .i64 n, .bool x.o.fails]
def endV (x : Cx) : Value := if x.o.fails then ownV else x.eofV

section
variable {P : Program}
/-- Bytes as cells. -/
def bytesV (l : Bs) : List Value := l.map fun b => Value.int .u8 b.toNat
theorem bytesV_length (l : Bs) : (bytesV l).length = l.length := by simp [bytesV]
/-- copy out of a string, into the beginning of a row. -/
theorem run_copy_str (w : World) (dT sT ty elem : TypeId) (g dLen dCap : Nat) (s : ByteArray) (cur : Array Value) (t : TypeId)
    (hu : P.underlying dT = some (.slice elem)) (hs : (P.info? elem).map (·.size) = some 1)
    (hg : w.heap[g]? = some (.cells cur t (0, 0))) (hfit : Nat.min s.size dLen ≤ cur.size) :
    (Builtin.copy_ #[dT, sT] ty #[.slice (some ⟨g, 0, none⟩) dLen dCap, .string s]).run P w =
      .ok (goInt (Nat.min s.size dLen)) (w.setRow g (bytesV (s.data.toList.take (Nat.min s.size dLen)) ++ cur.toList.drop (Nat.min s.size dLen)).toArray) := by
  have hle : Nat.min s.size dLen ≤ s.size := Nat.min_le_left _ _
  have hsz : s.data.toList.length = s.size := rfl
  have hst := run_storeCells_at P g 0 t ((s.data.toList.take (Nat.min s.size dLen)).map fun b => Value.int .u8 b.toNat) 0 cur w hg (by
    simp only [List.length_map, List.length_take, hsz]; omega) (by intro v hv; simp only [List.mem_map] at hv; obtain ⟨b, _, rfl⟩ := hv; rfl)
  have hl : ((s.data.toList.take (Nat.min s.size dLen)).map fun b => Value.int .u8 b.toNat).length = Nat.min s.size dLen := by
    simp only [List.length_map, List.length_take, hsz]; omega
  rw [hl] at hst
  simp only [Nat.zero_add, List.take_zero, List.nil_append] at hst
  cases hq : P.info? elem with
  | none => simp [hq] at hs
  | some i =>
    simp only [Builtin.copy_, Builtin.lenOf, Builtin.firstCells, sizeOf, typeInfo]
    simp only [List.getElem?_toArray, List.getElem?_cons_zero, List.getElem?_cons_succ, Sem.run_bind, run_underlying hu, Result.andThen_ok]
    rw [List.map_take] at hst
    unfold bytesV
    rw [List.map_take]
    simp [hq]
    rw [hst]
    rfl
end

/-- The same as one step of a region that draws. -/
theorem step_copy_str {P : Program} {ops : Array Oper} {o : Oper} {a : Act} {w : World} {K : Act → World → Prop} {Q : Exit → Act → World → Prop} {E : Prop} (hgd : o.guard = none) (d s : Operand) (dT sT : TypeId)
    (ho : o.op = .call { callee := .builtin .copy, args := #[d, s], argTypes := #[dT, sT] }) (elem : TypeId) (hu : P.underlying dT = some (.slice elem)) (hsz : (P.info? elem).map (·.size) = some 1)
    (g dLen dCap : Nat) (str : ByteArray) (hd : a.eval d = .slice (some ⟨g, 0, none⟩) dLen dCap) (hs : a.eval s = .string str)
    (cur : Array Value) (t : TypeId) (hg : w.heap[g]? = some (.cells cur t (0, 0))) (m : Nat) (hm : m = Nat.min str.size dLen) (hfit : m ≤ cur.size)
    (h : ∀ w', Hid (w' = w.setRow g (bytesV (str.data.toList.take m) ++ cur.toList.drop m).toArray) → K (a.put o.dst (.int .i64 m)) w') :
    if Region.wanted o (yielded ops a.tmps) = true then Oper.wp P o a w K Q else E := by
  have hw : Region.wanted o (yielded ops a.tmps) = true := by simp [Region.wanted, hgd]
  rw [if_pos hw]
  subst hm
  have hrun := run_copy_str (P := P) w dT sT o.type elem g dLen dCap str cur t hu hsz hg hfit
  unfold Oper.wp
  simp only [execOp, ho, resolve, invoke, builtin]
  simp [hd, hs, hrun, Result.andThen]
  exact h _ (show _ = _ from rfl)

theorem u8info : (Tryz.prog.info? 5).map (·.size) = some 1 := by kernel_rfl

set_option maxHeartbeats 400000 in
/-- At its end it hands out nothing. -/
theorem rd_end (x : Cx) (w : World) (n : Int) (s : ByteArray) (hs : s.toList.isEmpty = true) (hrd : Blk w x.rd (rdC x s n) 52)
   (heof : w.cell? ⟨0, 0, none⟩ = some x.eofV) :
    Calls Tryz.prog 134 #[.pointer (some ⟨x.rd, 0, none⟩), .slice (some ⟨x.rb, 0, none⟩) 4096 4096] w fun e w' => e = .returned (.tuple #[.int .i64 0, endV x]) ∧ ∃ k, w' = w.drewN k := by
  have hc := hrd.cell
  have hf := hrd.frozen
  clear hrd
  cases hfl : x.o.fails
  · go_enter Tryz.func134, Tryz.ntmps134
    go_wp2
    go_quiet (fail)
    go_wp2
    go_ret2
    exact ⟨by simp [endV, hfl], _, rfl⟩
  · go_enter Tryz.func134, Tryz.ntmps134
    go_wp2
    go_ret2
    exact ⟨by simp [endV, hfl], 0, rfl⟩

/-- What a read leaves: m bytes more lie at the beginning of the buffer. -/
structure RdPost (x : Cx) (w : World) (s : ByteArray) (n : Nat) (arr : Array Value) (m : Nat) (w' : World) : Prop where
  m1 : 1 ≤ m
  m2 : m ≤ 4096
  m3 : m ≤ s.size
  row : Blk w' x.rb (bytesV (s.data.toList.take m) ++ arr.toList.drop m).toArray 5
  rd : ∃ n', n' ≤ n + 1 ∧ Blk w' x.rd (rdC x (s.extract m s.size) n') 52
  mod : Mod (fun k => k = x.rb ∨ k = x.rd) w w'
  size : w'.heap.size = w.heap.size

set_option maxHeartbeats 400000 in
/-- Without pieces it hands out as much as fits. -/
theorem rd_whole (x : Cx) (w : World) (n : Nat) (s : ByteArray) (hs : s.toList.isEmpty = false) (arr : Array Value) (hrd : Blk w x.rd (rdC x s n) 52) (hrb : Blk w x.rb arr 5) (hsz : arr.size = 4096)
   (hpc : x.pcN = 0) (hsn : s.size ≤ 1000000000) (hne : x.rb ≠ x.rd) :
    Calls Tryz.prog 134 #[.pointer (some ⟨x.rd, 0, none⟩), .slice (some ⟨x.rb, 0, none⟩) 4096 4096] w fun e w' => ∃ m : Nat, e = .returned (.tuple #[.int .i64 m, .nilIface]) ∧ RdPost x w s n arr m w' := by
  have hc := hrd.cell
  have hf := hrd.frozen
  have h0 : decide ((0 : Int) < (x.pcN : Int)) = false := by simp [hpc]
  have h1 : 0 < s.size := by
    rcases Nat.eq_zero_or_pos s.size with h | h
    · have : s = ByteArray.empty := by simpa using h
      subst this
      simp at hs
    · exact h
  obtain ⟨m, hm⟩ : ∃ m, m = Nat.min s.size 4096 := ⟨_, rfl⟩
  have hm1 : m ≤ s.size := by rw [hm]; exact Nat.min_le_left _ _
  have hm2 : m ≤ 4096 := by rw [hm]; exact Nat.min_le_right _ _
  have hm3 : 1 ≤ m := by rw [hm]; exact Nat.le_min.2 ⟨h1, by omega⟩
  have hM : Hid (m = Nat.min s.size 4096) := hm
  clear hm
  have HRD := Lib.hid hrd
  have HRB := Lib.hid hrb
  clear hrd hrb
  go_enter Tryz.func134, Tryz.ntmps134
  go_wp2
  go_region_law (refine step_copy_str rfl (.tmp 55) (.tmp 59) 74 9 rfl 5 Tryz.underlying74 u8info x.rb 4096 4096 s rfl rfl arr 5 HRB.out m hM.out (by omega) ?_; intro w1 hw1)
  have hc1 : ∀ o, w1.cell? ⟨x.rd, o, none⟩ = (rdC x s n)[o]? := by
    rw [hw1.out]; exact (Blk.row_ne (show Blk _ x.rd _ _ from HRD.out) (fun h => hne h.symm) _).cell
  have hf1 : ∀ o, w1.frozen? ⟨x.rd, o, none⟩ = false := by
    rw [hw1.out]; exact (Blk.row_ne (show Blk _ x.rd _ _ from HRD.out) (fun h => hne h.symm) _).frozen
  clear hc hf
  go_wp2
  go_ret2
  have hr1 : Blk w1 x.rb (bytesV (s.data.toList.take m) ++ arr.toList.drop m).toArray 5 := by
    rw [hw1.out]; exact Blk.row (show Blk _ x.rb _ _ from HRB.out) _
  have hd1 : Blk w1 x.rd (rdC x s n) 52 := by
    rw [hw1.out]; exact Blk.row_ne (show Blk _ x.rd _ _ from HRD.out) (fun h => hne h.symm) _
  have hmod : Mod (fun k => k = x.rb ∨ k = x.rd) w w1 := by
    rw [hw1.out]; exact Mod.setRow (Mod.refl _ w).drew (Or.inl (Or.inl rfl)) _
  have hz : w1.heap.size = w.heap.size := by rw [hw1.out]; simp [World.setRow]
  exact ⟨m, rfl, hm3, hm2, hm1, hr1.set_ne (by simpa using hne) _, ⟨n, by omega, hd1.set 0 _⟩, hmod.setCell (Or.inl (Or.inr rfl)) _, by simp [hz]⟩

set_option maxHeartbeats 400000 in
/-- With pieces. -/
theorem rd_piece0 (x : Cx) (w : World) (n : Nat) (s : ByteArray) (hs : s.toList.isEmpty = false) (arr : Array Value) (hrd : Blk w x.rd (rdC x s n) 52) (hrb : Blk w x.rb arr 5) (hsz : arr.size = 4096)
   (pb po : Nat) (pc : 0 < x.pcN) (hpc : x.pcA = some ⟨pb, po, none⟩) (hpl : x.pcN ≤ 9223372036854775807) (p : Int) (hv : w.cell? ⟨pb, po + n % x.pcN, none⟩ = some (.int .i64 p))
   (q : Nat) (hq : (p ≤ 1 ∧ q = 1) ∨ (1 < p ∧ p < 4096 ∧ p = q) ∨ (4096 ≤ p ∧ q = 4096))
   (hsn : s.size ≤ 1000000000) (hn : n ≤ 1000000000) (hne : x.rb ≠ x.rd) :
    Calls Tryz.prog 134 #[.pointer (some ⟨x.rd, 0, none⟩), .slice (some ⟨x.rb, 0, none⟩) 4096 4096] w fun e w' => ∃ m : Nat, e = .returned (.tuple #[.int .i64 m, .nilIface]) ∧ RdPost x w s n arr m w' := by
  have hc := hrd.cell
  have hf := hrd.frozen
  have h0 : decide ((0 : Int) < (x.pcN : Int)) = true := by simpa using pc
  have h1 : 0 < s.size := by
    rcases Nat.eq_zero_or_pos s.size with h | h
    · have : s = ByteArray.empty := by simpa using h
      subst this
      simp at hs
    · exact h
  have hk : n % x.pcN < x.pcN := Nat.mod_lt _ pc
  have hq1 : 1 ≤ q := by omega
  have hq2 : q ≤ 4096 := by omega
  have hq3 : (q : Int) ≤ 4096 := by omega
  obtain ⟨m, hm⟩ : ∃ m, m = Nat.min s.size q := ⟨_, rfl⟩
  have hm1 : m ≤ s.size := by rw [hm]; exact Nat.min_le_left _ _
  have hm2 : m ≤ q := by rw [hm]; exact Nat.min_le_right _ _
  have hm3 : 1 ≤ m := by rw [hm]; exact Nat.le_min.2 ⟨h1, by omega⟩
  have hM : Hid (m = Nat.min s.size q) := hm
  clear hm
  have HRD := Lib.hid hrd
  have HRB := Lib.hid hrb
  clear hrd hrb
  rcases hq with ⟨hp, rfl⟩ | ⟨hp, hp', rfl⟩ | ⟨hp, rfl⟩
  all_goals
    go_enter Tryz.func134, Tryz.ntmps134
    go_wp2
    go_quiet (fail)
    go_wp2
    go_region_law (refine step_copy_str rfl (.tmp 55) (.tmp 59) 74 9 rfl 5 Tryz.underlying74 u8info x.rb _ _ s rfl rfl arr 5 (Blk.set_ne (show Blk _ x.rb _ _ from HRB.out) (by simpa using hne) _) m hM.out (by omega) ?_; intro w1 hw1)
    have hd0 : Blk ((w.drewN nq).setCell ⟨x.rd, 2, none⟩ (.int .i64 ((n : Int) + 1))) x.rd (rdC x s ((n : Int) + 1)) 52 := (show Blk (w.drewN nq) x.rd _ _ from HRD.out).set 2 _
    have hd1 : Blk w1 x.rd (rdC x s ((n : Int) + 1)) 52 := by
      rw [hw1.out]; exact Blk.row_ne (show Blk _ x.rd _ _ from hd0) (fun h => hne h.symm) _
    have hc1 := hd1.cell
    have hf1 := hd1.frozen
    clear hc hf
    have HD1 := Lib.hid hd1
    clear hd1 hd0
    go_wp2
    go_ret2
    have hr1 : Blk w1 x.rb (bytesV (s.data.toList.take m) ++ arr.toList.drop m).toArray 5 := by
      rw [hw1.out]; exact Blk.row (Blk.set_ne (show Blk _ x.rb _ _ from HRB.out) (by simpa using hne) _) _
    have hmod : Mod (fun k => k = x.rb ∨ k = x.rd) w w1 := by
      rw [hw1.out]; exact Mod.setRow ((Mod.refl _ w).drewN nq |>.setCell (Or.inl (Or.inr rfl)) _).drew (Or.inl (Or.inl rfl)) _
    have hz : w1.heap.size = w.heap.size := by rw [hw1.out]; simp [World.setRow]
    exact ⟨m, rfl, hm3, by omega, hm1, hr1.set_ne (by simpa using hne) _, ⟨n + 1, by omega, HD1.out.set 0 _⟩, hmod.setCell (Or.inl (Or.inr rfl)) _, by simp [hz]⟩
end Go.Proofs.YtkjnockljapnbaaGreatDoor
