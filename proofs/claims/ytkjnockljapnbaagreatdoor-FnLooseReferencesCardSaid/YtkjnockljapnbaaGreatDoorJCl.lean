/- Part of the proof that laws.FnLooseReferences returns true for every text (the claim of laws.FnLooseReferences: Cl). No condition of its own. -/
import Derived.Test.YtkjnockljapnbaaGreatDoorJPu
import Derived.Test.YtkjnockljapnbaaGreatDoorJNa
import Derived.Shelf.Pu.Clone
set_option linter.all false
/- stringslite.Clone, out of the shelf; strconv's errors; strconv.ParseUint. -/
namespace Go.Proofs.YtkjnockljapnbaaGreatDoor
open Go Go.RowKit

def cl_ren : Go.Shelf.Ren := ⟨fun | 25 => 101 | n => n,
  fun | 0 => 0 | 3 => 3 | 4 => 4 | 5 => 5 | 9 => 9 | 37 => 74 | 47 => 248 | n => n,
  fun | n => n⟩
set_option maxRecDepth 100000 in
theorem cl_lays : Go.Proofs.LaysPu.n25 Tryz.prog cl_ren := {
  mixed := by first | kernel_rfl | (intro w; kernel_rfl) | (intro w; rfl) | decide,
  f25 := by first | kernel_rfl | (intro w; kernel_rfl) | (intro w; rfl) | decide,
  t0 := by first | kernel_rfl | (intro w; kernel_rfl) | (intro w; rfl) | decide, a0 := by first | kernel_rfl | (intro w; kernel_rfl) | (intro w; rfl) | decide, z0 := by first | kernel_rfl | (intro w; kernel_rfl) | (intro w; rfl) | decide, v0 := by first | kernel_rfl | (intro w; kernel_rfl) | (intro w; rfl) | decide, i0 := by first | kernel_rfl | (intro w; kernel_rfl) | (intro w; rfl) | decide,
  t3 := by first | kernel_rfl | (intro w; kernel_rfl) | (intro w; rfl) | decide, a3 := by first | kernel_rfl | (intro w; kernel_rfl) | (intro w; rfl) | decide, z3 := by first | kernel_rfl | (intro w; kernel_rfl) | (intro w; rfl) | decide, v3 := by first | kernel_rfl | (intro w; kernel_rfl) | (intro w; rfl) | decide, i3 := by first | kernel_rfl | (intro w; kernel_rfl) | (intro w; rfl) | decide,
  t4 := by first | kernel_rfl | (intro w; kernel_rfl) | (intro w; rfl) | decide, a4 := by first | kernel_rfl | (intro w; kernel_rfl) | (intro w; rfl) | decide, z4 := by first | kernel_rfl | (intro w; kernel_rfl) | (intro w; rfl) | decide, v4 := by first | kernel_rfl | (intro w; kernel_rfl) | (intro w; rfl) | decide, i4 := by first | kernel_rfl | (intro w; kernel_rfl) | (intro w; rfl) | decide,
  t5 := by first | kernel_rfl | (intro w; kernel_rfl) | (intro w; rfl) | decide, a5 := by first | kernel_rfl | (intro w; kernel_rfl) | (intro w; rfl) | decide, z5 := by first | kernel_rfl | (intro w; kernel_rfl) | (intro w; rfl) | decide, v5 := by first | kernel_rfl | (intro w; kernel_rfl) | (intro w; rfl) | decide, i5 := by first | kernel_rfl | (intro w; kernel_rfl) | (intro w; rfl) | decide,
  t9 := by first | kernel_rfl | (intro w; kernel_rfl) | (intro w; rfl) | decide, a9 := by first | kernel_rfl | (intro w; kernel_rfl) | (intro w; rfl) | decide, z9 := by first | kernel_rfl | (intro w; kernel_rfl) | (intro w; rfl) | decide, v9 := by first | kernel_rfl | (intro w; kernel_rfl) | (intro w; rfl) | decide, i9 := by first | kernel_rfl | (intro w; kernel_rfl) | (intro w; rfl) | decide,
  t37 := by first | kernel_rfl | (intro w; kernel_rfl) | (intro w; rfl) | decide, a37 := by first | kernel_rfl | (intro w; kernel_rfl) | (intro w; rfl) | decide, z37 := by first | kernel_rfl | (intro w; kernel_rfl) | (intro w; rfl) | decide, v37 := by first | kernel_rfl | (intro w; kernel_rfl) | (intro w; rfl) | decide, i37 := by first | kernel_rfl | (intro w; kernel_rfl) | (intro w; rfl) | decide,
  t47 := by first | kernel_rfl | (intro w; kernel_rfl) | (intro w; rfl) | decide, a47 := by first | kernel_rfl | (intro w; kernel_rfl) | (intro w; rfl) | decide, z47 := by first | kernel_rfl | (intro w; kernel_rfl) | (intro w; rfl) | decide, v47 := by first | kernel_rfl | (intro w; kernel_rfl) | (intro w; rfl) | decide, i47 := by first | kernel_rfl | (intro w; kernel_rfl) | (intro w; rfl) | decide }
theorem clone_c (s : ByteArray) (w : World) (hlim : s.size ≤ 281474976710656) :
    Calls Tryz.prog 101 #[.string s] w fun e w' => e = .returned (.string s) ∧ Below w.heap.size w w' :=
  AnyPu.stringslite_Clone cl_lays s w hlim
/-- The sentinels of strconv are there. -/
abbrev errV (a : Addr) : Value := .iface 177 (.pointer (some a))
def NumErrs (w : World) : Prop := (∃ a, w.cell? ⟨8, 0, none⟩ = some (errV a)) ∧ ∃ a, w.cell? ⟨9, 0, none⟩ = some (errV a)
theorem NumErrs.below {w w' : World} {B : Nat} (h : NumErrs w) (h1 : 8 < B) (h2 : 9 < B) (hb : Below B w w') : NumErrs w' := by
  obtain ⟨⟨u, hu⟩, ⟨v, hv⟩⟩ := h
  exact ⟨⟨u, by rw [hb.cell (p := ⟨_, 0, none⟩) h1]; exact hu⟩, ⟨v, by rw [hb.cell (p := ⟨_, 0, none⟩) h2]; exact hv⟩⟩
/-- A pointer to a NumError. -/
def NumPtr (w : World) (e : Ending) (w' : World) : Prop := (∃ a, e = .returned (.pointer (some a))) ∧ Below w.heap.size w w'
set_option maxHeartbeats 1000000 in
theorem numSyn (fn s : ByteArray) (w : World) (hs : s.size ≤ 1000000000) (a : Addr) (hv : w.cell? ⟨8, 0, none⟩ = some (errV a)) (hg : 8 < w.heap.size) :
    Calls Tryz.prog 93 #[.string fn, .string s] w (NumPtr w) := by
  have hcl := Lib.hid (fun w => clone_c s w (by omega))
  have HV := Lib.hid hv
  go_enter Tryz.func93, Tryz.ntmps93
  go_wp2
  go_region_held3 (fun w' => w'.cell? ⟨8, 0, none⟩ = some (errV a))
    (first | go_keep | (show w1.cell? ⟨8, 0, none⟩ = some (errV a); rw [hb.cell (p := ⟨_, 0, none⟩) hg]; exact HV.out))
    (first | (go_at_call 101; refine (hcl.out _).mono ?_; rintro e w1 ⟨rfl, hb⟩))
  go_wp2
  go_ret
  exact ⟨⟨_, rfl⟩, (show Below w.heap.size w w1 from ⟨hb.os, hb.tape, hb.output, hb.size, hb.block⟩).alloc hb.size _⟩
set_option maxHeartbeats 1000000 in
theorem numRan (fn s : ByteArray) (w : World) (hs : s.size ≤ 1000000000) (a : Addr) (hv : w.cell? ⟨9, 0, none⟩ = some (errV a)) (hg : 9 < w.heap.size) :
    Calls Tryz.prog 94 #[.string fn, .string s] w (NumPtr w) := by
  have hcl := Lib.hid (fun w => clone_c s w (by omega))
  have HV := Lib.hid hv
  go_enter Tryz.func94, Tryz.ntmps94
  go_wp2
  go_region_held3 (fun w' => w'.cell? ⟨9, 0, none⟩ = some (errV a))
    (first | go_keep | (show w1.cell? ⟨9, 0, none⟩ = some (errV a); rw [hb.cell (p := ⟨_, 0, none⟩) hg]; exact HV.out))
    (first | (go_at_call 101; refine (hcl.out _).mono ?_; rintro e w1 ⟨rfl, hb⟩))
  go_wp2
  go_ret
  exact ⟨⟨_, rfl⟩, (show Below w.heap.size w w1 from ⟨hb.os, hb.tape, hb.output, hb.size, hb.block⟩).alloc hb.size _⟩
theorem eqNum22 (w : World) : (binOp .eql 55 (.iface 218 (.int .i64 2)) (.iface 218 (.int .i64 2))).run Tryz.prog w = .ok (.bool true) w := by kernel_rfl
theorem eqNum12 (w : World) : (binOp .eql 55 (.iface 218 (.int .i64 1)) (.iface 218 (.int .i64 2))).run Tryz.prog w = .ok (.bool false) w := by kernel_rfl
theorem eqNum11 (w : World) : (binOp .eql 55 (.iface 218 (.int .i64 1)) (.iface 218 (.int .i64 1))).run Tryz.prog w = .ok (.bool true) w := by kernel_rfl
/-- An error. -/
def AnErr (w : World) (e : Ending) (w' : World) : Prop := (∃ t v, e = .returned (.iface t v)) ∧ Below w.heap.size w w'
set_option maxRecDepth 100000 in
set_option maxHeartbeats 1000000 in
theorem toError_c (k : Int) (hk : k = 1 ∨ k = 2) (fn s : ByteArray) (base : Int) (w : World) (hs : s.size ≤ 1000000000) (hn : NumErrs w) (h1 : 8 < w.heap.size) (h2 : 9 < w.heap.size) :
    Calls Tryz.prog 79 #[.string fn, .string s, .int .i64 base, .int .i64 64, .iface 218 (.int .i64 k)] w (AnErr w) := by
  obtain ⟨⟨u, hu⟩, ⟨v, hv⟩⟩ := hn
  have ha := Lib.hid (numSyn fn s w hs u hu h1)
  have hb := Lib.hid (numRan fn s w hs v hv h2)
  clear hu hv h1 h2
  have q22 := eqNum22
  have q12 := eqNum12
  have q11 := eqNum11
  rcases hk with rfl | rfl
  · go_enter Tryz.func79, Tryz.ntmps79
    go_wp2_with fail
    refine hb.out.mono ?_
    rintro e w1 ⟨⟨a, rfl⟩, hw⟩
    have HW := Lib.hid hw
    clear hw
    go_wp2
    go_ret
    exact ⟨⟨_, _, rfl⟩, HW.out⟩
  · go_enter Tryz.func79, Tryz.ntmps79
    go_wp2_with fail
    refine ha.out.mono ?_
    rintro e w1 ⟨⟨a, rfl⟩, hw⟩
    have HW := Lib.hid hw
    clear hw
    go_wp2
    go_ret
    exact ⟨⟨_, _, rfl⟩, HW.out⟩
/-- A number, or an error: in public. -/
def PuFin (hex : Bool) (ds : Bs) (en : Ending) : Prop :=
  if ds = [] ∨ 18446744073709551616 ≤ numVal hex ds then ∃ n t u, en = .returned (.tuple #[.int .u64 n, .iface t u]) else en = .returned (.tuple #[.int .u64 (numVal hex ds), .nilIface])
set_option maxRecDepth 100000 in
set_option maxHeartbeats 1000000 in
theorem parseUint_c (hex : Bool) (ds : Bs) (hd : ∀ b ∈ ds, isDig hex b = true) (hl : ds.length ≤ 1000000000) (w : World) (hn : NumErrs w) (h1 : 8 < w.heap.size) (h2 : 9 < w.heap.size) :
    Calls Tryz.prog 60 #[strL ds, .int .i64 (if hex then 16 else 10), .int .i64 64] w fun en w' => PuFin hex ds en ∧ Below w.heap.size w w' := by
  have hin := Lib.hid (parseUintI_c hex ds hd hl w)
  have HT := Lib.hid (fun (k : Int) (hk : k = 1 ∨ k = 2) (fn : ByteArray) (base : Int) (w' : World) (hb : Below w.heap.size w w') => toError_c k hk fn ⟨ds.toArray⟩ base w' (by show ds.length ≤ _; omega) (hn.below h1 h2 hb) (Nat.lt_of_lt_of_le h1 hb.size) (Nat.lt_of_lt_of_le h2 hb.size))
  clear hn h1 h2 hd
  obtain ⟨base, hbase⟩ : ∃ base : Int, base = if hex then 16 else 10 := ⟨_, rfl⟩
  rw [← hbase] at hin ⊢
  clear hbase
  go_enter Tryz.func60, Tryz.ntmps60
  go_wp2_with fail
  refine hin.out.mono ?_
  rintro e w1 ⟨hp, hw⟩
  unfold PuPost at hp
  by_cases hc : ds = [] ∨ 18446744073709551616 ≤ numVal hex ds
  · rw [if_pos hc] at hp
    obtain ⟨n, k, rfl, hk⟩ := hp
    have HC := Lib.hid hc
    have HW := Lib.hid hw
    have ht := Lib.hid (fun (fn : ByteArray) (base : Int) => HT.out k hk fn base w1 hw)
    clear hc hw hk
    go_wp2_with fail
    refine (ht.out _ _).mono ?_
    rintro e2 w2 ⟨⟨t, u, rfl⟩, hw2⟩
    have HW2 := Lib.hid hw2
    clear hw2
    go_wp2
    go_ret2
    refine ⟨?_, HW.out.trans (HW2.out.mono HW.out.size)⟩
    unfold PuFin
    rw [if_pos HC.out]
    exact ⟨_, _, _, rfl⟩
  · rw [if_neg hc] at hp
    subst hp
    have HC := Lib.hid hc
    have HW := Lib.hid hw
    clear hc hw
    go_wp2
    go_ret2
    refine ⟨?_, HW.out⟩
    unfold PuFin
    rw [if_neg HC.out]
    rfl
end Go.Proofs.YtkjnockljapnbaaGreatDoor
