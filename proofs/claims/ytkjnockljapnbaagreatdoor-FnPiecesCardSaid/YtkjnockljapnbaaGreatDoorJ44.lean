/- Part of the proof that laws.FnPieces returns true for every argument (Iv, Cd, Ce). No condition of its own. -/
import Derived.Test.YtkjnockljapnbaaGreatDoorJ43
import Derived.Test.YtkjnockljapnbaaGreatDoorJ30
import Derived.Stop.Asserts
set_option linter.all false
namespace Go.Proofs.YtkjnockljapnbaaGreatDoor
open Go Go.RowKit
theorem PosAt.col' {x : Cx} {v : DV} {rest : Bs} (hx : x.Ok) (h : PosAt x v rest) : -1000000000000 ≤ v.off - v.lstart ∧ v.off - v.lstart ≤ 1000000000000 := by
  by_cases hn : v.nb = 10
  · obtain ⟨pre, hT, ho, _, _, hs⟩ := h
    have h1 := hs hn
    omega
  · exact h.col hx hn
theorem BufAt.lt {x : Cx} {w : World} {v : Value} {b : Bs} (h : BufAt x w v b) {g cap n : Nat} (hv : v = .slice (some ⟨g, 0, none⟩) n cap) : g < w.heap.size := by
  rcases h with ⟨h1, _⟩ | ⟨g', cap', arr, h1, hg, _⟩
  · rw [h1] at hv; cases hv
  · rw [h1] at hv
    simp only [Value.slice.injEq, Option.some.injEq, Addr.mk.injEq] at hv
    obtain ⟨⟨rfl, _⟩, _⟩ := hv
    exact hg.lt
theorem itok_c (x : Cx) (hx : x.Ok) (c : DC) (w : World) (v : DV) (rest : Bs) (e : Option EK) (buf : Bs) (hR : RdS x c w v rest e buf) (pre : Bs) (hpre : x.T = pre ++ rest) (B : Nat) (tv : Value) (tk : RTok) (ht : TokAt w v.bufv B tv tk) (hle : ∀ nm ats, tk = .start nm ats → ats.length ≤ 1000000000) :
    Calls Tryz.prog 19 #[tv, decP x] w (ItOut w (tk.itok pre) v.line (v.off - v.lstart + 1)) := by
  obtain ⟨b1, b2⟩ := hR.pos.col' hx
  have ho : v.off = (pre.length : Int) := by
    obtain ⟨p, hT, ho, _⟩ := hR.pos
    have : p = pre := List.append_cancel_right (by rw [← hT, ← hpre])
    rw [← this]; exact ho
  refine itBegin x c w v hR.dec b1 b2 tv _ (fun f w' hbl hz hb hsz => ?_)
  have hb' : Blk w' (w.heap.size + 1) #[.int .i64 0, .string ⟨#[]⟩, .string ⟨#[]⟩, .slice none 0 0, .string ⟨#[]⟩, .int .i64 (pre.length : Nat), .int .i64 v.line, .int .i64 (v.off - v.lstart + 1)] 33 := by
    rw [← ho]; exact hb
  cases tk with
  | text d =>
    obtain ⟨sv, rfl, ⟨g, cap, n, rfl, hbv, hby, _⟩⟩ := ht
    exact itText w w' pre.length _ _ hbl hz hb' d g cap (hby.below hbl) (hR.bf.lt hbv) f
  | comment d =>
    obtain ⟨sv, rfl, ⟨g, cap, n, rfl, hbv, hby, _⟩⟩ := ht
    exact itCom w w' pre.length _ _ hbl hz hb' d g cap (hby.below hbl) (hR.bf.lt hbv) f
  | dir d =>
    obtain ⟨sv, rfl, ⟨g, cap, n, rfl, hbv, hby, _⟩⟩ := ht
    exact itDir w w' pre.length _ _ hbl hz hb' d g cap (hby.below hbl) (hR.bf.lt hbv) f
  | proc tg d =>
    obtain ⟨sv, rfl, ⟨g, cap, n, rfl, hbv, hby, _⟩⟩ := ht
    exact itPro w w' pre.length _ _ hbl hsz hz hb' tg d g cap (hby.below hbl) (hR.bf.lt hbv) f
  | fin nm =>
    rw [show tv = enV nm from ht]
    exact itFin w w' pre.length _ _ hbl hsz hz hb' nm f
  | start nm ats =>
    obtain ⟨sv, rfl, hne, hrow⟩ := ht
    rcases hrow.2 with h9 | ⟨g, cap, cur, rfl, _, hgc, _, _, _, hcur⟩
    · exact absurd (h9.2 ▸ h9.1) hne
    · have hgw : Blk w g cur 96 := hgc
      exact itStart w w' pre.length _ _ hbl hsz hz hb' nm ats (hle nm ats rfl) g cap cur hgw.lt (Blk.mod (S := fun _ => False) hgw (mod_none hbl _) id) hcur f
end Go.Proofs.YtkjnockljapnbaaGreatDoor
namespace Go.Proofs.YtkjnockljapnbaaGreatDoor
open Go Go.RowKit Go.Extern.Stop Go.Stop Go.Extern
abbrev rtI (t : TypeId) : Value := .iface 183 (.agg #[.pointer (some ⟨16, t, none⟩)])
theorem cdTypeOfOwn (v : Value) (w : World) : (Extern.ReflectliteType.typeOf #[.iface 109 v]).run Tryz.prog w = .ok (rtI 109) w := by kernel_rfl
def cmpX : Array Value → Sem Value := ReflectliteType.method fun t => do Rtype.noPackHeld "Comparable" t; pure (.bool (← typeInfo t).comparable)
theorem cdComparable (w : World) : (cmpX #[.agg #[.pointer (some ⟨16, 109, none⟩)]]).run Tryz.prog w = .ok (.bool true) w := by kernel_rfl
theorem cdMethodComparable (v : Value) (w : World) : (Go.method 394 183 v "Comparable").run Tryz.prog w = .ok (157, v) w := by kernel_rfl
theorem cdNoIsS (v : Value) (xT : TypeId) (w : World) : (Instr.typeAssert (.iface 106 v) xT 185 true).run Tryz.prog w = .ok (.tuple #[.nilIface, .bool false]) w := run_typeAssert_lacksB Tryz.underlying185 (by kernel_rfl) (by kernel_rfl) v xT w
theorem cdNoUnS (v : Value) (xT : TypeId) (w : World) : (Instr.typeAssert (.iface 106 v) xT 188 true).run Tryz.prog w = .ok (.tuple #[.nilIface, .bool false]) w := run_typeAssert_lacksB Tryz.underlying188 (by kernel_rfl) (by kernel_rfl) v xT w
theorem cdNoUsS (v : Value) (xT : TypeId) (w : World) : (Instr.typeAssert (.iface 106 v) xT 190 true).run Tryz.prog w = .ok (.tuple #[.nilIface, .bool false]) w := run_typeAssert_lacksB Tryz.underlying190 (by kernel_rfl) (by kernel_rfl) v xT w
theorem cdNoIsE (v : Value) (xT : TypeId) (w : World) : (Instr.typeAssert (.iface 177 v) xT 185 true).run Tryz.prog w = .ok (.tuple #[.nilIface, .bool false]) w := run_typeAssert_lacksB Tryz.underlying185 (by kernel_rfl) (by kernel_rfl) v xT w
theorem cdNoUnE (v : Value) (xT : TypeId) (w : World) : (Instr.typeAssert (.iface 177 v) xT 188 true).run Tryz.prog w = .ok (.tuple #[.nilIface, .bool false]) w := run_typeAssert_lacksB Tryz.underlying188 (by kernel_rfl) (by kernel_rfl) v xT w
theorem cdNoUsE (v : Value) (xT : TypeId) (w : World) : (Instr.typeAssert (.iface 177 v) xT 190 true).run Tryz.prog w = .ok (.tuple #[.nilIface, .bool false]) w := run_typeAssert_lacksB Tryz.underlying190 (by kernel_rfl) (by kernel_rfl) v xT w
theorem cdNoAsE (v : Value) (xT : TypeId) (w : World) : (Instr.typeAssert (.iface 177 v) xT 195 true).run Tryz.prog w = .ok (.tuple #[.nilIface, .bool false]) w := run_typeAssert_lacksB Tryz.underlying195 (by kernel_rfl) (by kernel_rfl) v xT w
theorem eqlS_own (a b : Value) (w : World) : (binOp .eql 55 (.iface 106 a) (.iface 109 b)).run Tryz.prog w = .ok (.bool false) w :=
  run_eql_iface_types a b w Tryz.underlying55 (by decide)
theorem eqlE_own (a b : Value) (w : World) : (binOp .eql 55 (.iface 177 a) (.iface 109 b)).run Tryz.prog w = .ok (.bool false) w :=
  run_eql_iface_types a b w Tryz.underlying55 (by decide)
theorem eqlO_own (w : World) : (binOp .eql 55 (.iface 109 (.agg #[])) (.iface 109 (.agg #[]))).run Tryz.prog w = .ok (.bool true) w := by kernel_rfl
set_option maxHeartbeats 4000000 in
theorem isOwn_syn (a : Value) (w : World) : Calls Tryz.prog 30 #[.iface 106 a, ownV] w fun e w' => e = .returned (.bool false) ∧ w' = w := by
  have h8 := @run_callFunc_extern Tryz.prog 53 _ Extern.ReflectliteType.typeOf Tryz.func53 (by kernel_rfl) (by kernel_rfl) (by kernel_rfl) (by kernel_rfl)
  have h32 := @run_callFunc_extern Tryz.prog 157 _ cmpX Tryz.func157 (by kernel_rfl) (by kernel_rfl) (by kernel_rfl) (by kernel_rfl)
  have tT := cdTypeOfOwn
  have cT := cdComparable
  have mR := cdMethodComparable
  have nE := cdNoIsS
  have uE := cdNoUnS
  have vE := cdNoUsS
  have heq := eqlS_own
  go_enter Tryz.func30, Tryz.ntmps30
  go_wp2
  refine wp_loop_rounds 1 ?_
  rw [rounds_succ]
  go_wp2
  go_ret
  exact ⟨rfl, rfl⟩
set_option maxHeartbeats 4000000 in
theorem isOwn_err (a : Value) (w : World) : Calls Tryz.prog 30 #[.iface 177 a, ownV] w fun e w' => e = .returned (.bool false) ∧ w' = w := by
  have h8 := @run_callFunc_extern Tryz.prog 53 _ Extern.ReflectliteType.typeOf Tryz.func53 (by kernel_rfl) (by kernel_rfl) (by kernel_rfl) (by kernel_rfl)
  have h32 := @run_callFunc_extern Tryz.prog 157 _ cmpX Tryz.func157 (by kernel_rfl) (by kernel_rfl) (by kernel_rfl) (by kernel_rfl)
  have tT := cdTypeOfOwn
  have cT := cdComparable
  have mR := cdMethodComparable
  have nE := cdNoIsE
  have uE := cdNoUnE
  have vE := cdNoUsE
  have heq := eqlE_own
  go_enter Tryz.func30, Tryz.ntmps30
  go_wp2
  refine wp_loop_rounds 1 ?_
  rw [rounds_succ]
  go_wp2
  go_ret
  exact ⟨rfl, rfl⟩
set_option maxHeartbeats 4000000 in
theorem isOwn_own (w : World) : Calls Tryz.prog 30 #[ownV, ownV] w fun e w' => e = .returned (.bool true) ∧ w' = w := by
  have h8 := @run_callFunc_extern Tryz.prog 53 _ Extern.ReflectliteType.typeOf Tryz.func53 (by kernel_rfl) (by kernel_rfl) (by kernel_rfl) (by kernel_rfl)
  have h32 := @run_callFunc_extern Tryz.prog 157 _ cmpX Tryz.func157 (by kernel_rfl) (by kernel_rfl) (by kernel_rfl) (by kernel_rfl)
  have tT := cdTypeOfOwn
  have cT := cdComparable
  have mR := cdMethodComparable
  have heq := eqlO_own
  go_enter Tryz.func30, Tryz.ntmps30
  go_wp2
  refine wp_loop_rounds 1 ?_
  rw [rounds_succ]
  go_wp2
  go_ret
  exact ⟨rfl, rfl⟩
theorem rlmV (z : Sem Value) (f : TypeId → Addr → Nat → Nat → Sem Value) (v : Value) :
    ReflectliteValue.method z f #[v] = (do match ← ReflectliteValue.parts v with | none => z | some (t, a, fl) => f t a fl (fl % 32)) := rfl
theorem cdValueOf (t : Addr) (w : World) : (ReflectliteValue.unpack (.iface 111 (.pointer (some t)))).run Tryz.prog w
    = .ok (.agg #[.pointer (some ⟨16, 111, none⟩), .pointer (some ⟨w.heap.size, 0, none⟩), .int .u64 150]) (w.alloc (.cells #[.pointer (some t)] 111)) := by kernel_rfl
def typX : Array Value → Sem Value := ReflectliteValue.methodAny (ReflectliteValue.valueError "reflectlite.Value.Type" 0) (fun t _ _ _ => ReflectliteType.toType t)
theorem cdType (a : Addr) (w : World) : (typX #[.agg #[.pointer (some ⟨16, 111, none⟩), .pointer (some a), .int .u64 150]]).run Tryz.prog w = .ok (rtI 111) w := by kernel_rfl
theorem cdMethodKind (h : Value) (w : World) : (Go.method 394 183 (.agg #[h]) "Kind").run Tryz.prog w = .ok (130, h) w := by kernel_rfl
def kndX : Array Value → Sem Value := ReflectliteType.abiMethod fun t => do pure (.int .u8 (← Rtype.kind t))
theorem cdKind2 (w : World) : (kndX #[.pointer (some ⟨16, 111, none⟩)]).run Tryz.prog w = .ok (.int .u8 22) w := by kernel_rfl
theorem cdKind1 (w : World) : (kndX #[.pointer (some ⟨16, 106, none⟩)]).run Tryz.prog w = .ok (.int .u8 22) w := by kernel_rfl
theorem cdMethodElem (h : Value) (w : World) : (Go.method 394 183 (.agg #[h]) "Elem").run Tryz.prog w = .ok (158, .agg #[h]) w := by kernel_rfl
theorem cdMethodImpl (h : Value) (w : World) : (Go.method 394 183 (.agg #[h]) "Implements").run Tryz.prog w = .ok (159, .agg #[h]) w := by kernel_rfl
theorem cdMethodAssign (h : Value) (w : World) : (Go.method 394 183 (.agg #[h]) "AssignableTo").run Tryz.prog w = .ok (156, .agg #[h]) w := by kernel_rfl
def elmX : Array Value → Sem Value := ReflectliteType.method ReflectliteType.elem
theorem cdElem (w : World) : (elmX #[.agg #[.pointer (some ⟨16, 111, none⟩)]]).run Tryz.prog w = .ok (rtI 106) w := by kernel_rfl
def impX : Array Value → Sem Value := ReflectliteType.relation "Implements" ReflectliteType.implements_
theorem cdImpl (w : World) : (impX #[.agg #[.pointer (some ⟨16, 106, none⟩)], rtI 55]).run Tryz.prog w = .ok (.bool true) w := by kernel_rfl
def asgX : Array Value → Sem Value := ReflectliteType.relation "AssignableTo" ReflectliteType.assignableTo
theorem cdTypeOfS (v : Value) (w : World) : (ReflectliteType.typeOf #[.iface 106 v]).run Tryz.prog w = .ok (rtI 106) w := by kernel_rfl
theorem cdTypeOfE (v : Value) (w : World) : (ReflectliteType.typeOf #[.iface 177 v]).run Tryz.prog w = .ok (rtI 177) w := by kernel_rfl
theorem cdAssignS (w : World) : (asgX #[.agg #[.pointer (some ⟨16, 106, none⟩)], rtI 106]).run Tryz.prog w = .ok (.bool true) w := by kernel_rfl
theorem cdAssignE (w : World) : (asgX #[.agg #[.pointer (some ⟨16, 177, none⟩)], rtI 106]).run Tryz.prog w = .ok (.bool false) w := by kernel_rfl
theorem cdValueOfS (e : Addr) (w : World) : (ReflectliteValue.unpack (.iface 106 (.pointer (some e)))).run Tryz.prog w
    = .ok (.agg #[.pointer (some ⟨16, 106, none⟩), .pointer (some ⟨w.heap.size, 0, none⟩), .int .u64 150]) (w.alloc (.cells #[.pointer (some e)] 106)) := by kernel_rfl
theorem cdParts2 (a : Addr) (w : World) : (ReflectliteValue.parts (.agg #[.pointer (some ⟨16, 111, none⟩), .pointer (some a), .int .u64 150])).run Tryz.prog w = .ok (some (111, a, 150)) w := by kernel_rfl
def nilX : Array Value → Sem Value := ReflectliteValue.method (ReflectliteValue.valueError "reflectlite.Value.IsNil" 0) ReflectliteValue.isNil
theorem cdIsNil (a p : Addr) (W : World) (ha : W.cell? a = some (.pointer (some p))) : (nilX #[.agg #[.pointer (some ⟨16, 111, none⟩), .pointer (some a), .int .u64 150]]).run Tryz.prog W = .ok (.bool false) W := by
  unfold nilX
  rw [rlmV]
  simp only [Sem.run_bind, cdParts2, Result.andThen]
  simp [ReflectliteValue.isNil, loadVar, isAgg, underlying, Tryz.underlying111, ha, Result.andThen]
def eleX : Array Value → Sem Value := ReflectliteValue.method (ReflectliteValue.valueError "reflectlite.Value.Elem" 0) ReflectliteValue.elem
theorem cdElemOf (w : World) : (Rtype.elem? 111).run Tryz.prog w = .ok (some 106) w := by kernel_rfl
theorem cdMk (p : Addr) (w : World) : (ReflectliteValue.mk 106 p ReflectliteValue.flagAddr).run Tryz.prog w = .ok (.agg #[.pointer (some ⟨16, 106, none⟩), .pointer (some p), .int .u64 406]) w := by kernel_rfl
theorem cdElemV (a p : Addr) (W : World) (ha : W.cell? a = some (.pointer (some p))) : (eleX #[.agg #[.pointer (some ⟨16, 111, none⟩), .pointer (some a), .int .u64 150]]).run Tryz.prog W
      = .ok (.agg #[.pointer (some ⟨16, 106, none⟩), .pointer (some p), .int .u64 406]) W := by
  unfold eleX
  rw [rlmV]
  simp only [Sem.run_bind, cdParts2, Result.andThen]
  simp [ReflectliteValue.elem, loadVar, isAgg, underlying, Tryz.underlying111, ha, Result.andThen, cdElemOf, cdMk]
end Go.Proofs.YtkjnockljapnbaaGreatDoor
namespace Go.Proofs.YtkjnockljapnbaaGreatDoor
open Go Go.RowKit Go.Extern.Stop Go.Stop Go.Extern
abbrev S1 : TypeId := 106
theorem rlsV (v x : Value) : ReflectliteValue.set #[v, x] = (do
    let (some (dst, a, fl), some (src, b, _)) := (← ReflectliteValue.parts v, ← ReflectliteValue.parts x)
      | unsupported (.noEntry "extern/(internal/reflectlite.Value).Set.zeroValue")
    if fl / ReflectliteValue.flagAddr % 2 == 0 then unsupported (.noEntry "extern/(internal/reflectlite.Value).Set.unaddressable")
    let val ← loadVar src b
    if ← Rtype.directlyAssignable dst src then storeVar dst a val
    else if ← Rtype.implements dst src then
      if (← Rtype.kind src) == 20 then
        match val with
        | .nilIface => unsupported (.noEntry "extern/reflectlite: a nil value of one interface type handed on as a value of another")
        | _ => storeVar dst a val
      else storeVar dst a (.iface src val)
    else panicString ("reflectlite.Set: value of type " ++ (← Rtype.spelt src) ++ " is not assignable to type " ++ (← Rtype.spelt dst))
    pure (.tuple #[])) := rfl
theorem cdParts1a (a : Addr) (w : World) : (ReflectliteValue.parts (.agg #[.pointer (some ⟨16, 106, none⟩), .pointer (some a), .int .u64 406])).run Tryz.prog w = .ok (some (106, a, 406)) w := by kernel_rfl
theorem cdParts1 (a : Addr) (w : World) : (ReflectliteValue.parts (.agg #[.pointer (some ⟨16, 106, none⟩), .pointer (some a), .int .u64 150])).run Tryz.prog w = .ok (some (106, a, 150)) w := by kernel_rfl
theorem cdDirect (w : World) : (Rtype.directlyAssignable 106 106).run Tryz.prog w = .ok true w := by kernel_rfl
theorem cdSet (ta b e : Addr) (old : Value) (W : World) (hb : W.cell? b = some (.pointer (some e))) (ht : W.cell? ta = some old) (hf : W.frozen? ta = false) :
    (ReflectliteValue.set #[.agg #[.pointer (some ⟨16, 106, none⟩), .pointer (some ta), .int .u64 406], .agg #[.pointer (some ⟨16, 106, none⟩), .pointer (some b), .int .u64 150]]).run Tryz.prog W
      = .ok (.tuple #[]) (W.setCell ta (.pointer (some e))) := by
  rw [rlsV]
  simp only [Sem.run_bind, cdParts1a, cdParts1, Result.andThen]
  simp [ReflectliteValue.flagAddr, loadVar, isAgg, underlying, Tryz.underlying106, hb, Result.andThen, cdDirect, storeVar, Value.cells, storeCells, Addr.add]
  rw [run_store Tryz.prog W ta _ _ (by rfl)]
  simp [ht, hf]
set_option maxHeartbeats 8000000 in
theorem as_syn (e t : Addr) (old : Value) (w : World) (hg : w.cell? ⟨1, 0, none⟩ = some (rtI 55)) (hgl : 1 < w.heap.size) (ht0 : w.cell? t = some old) (hf0 : w.frozen? t = false) :
    Calls Tryz.prog 31 #[.iface 106 (.pointer (some e)), .iface 111 (.pointer (some t))] w fun ev w' => ev = .returned (.bool true) ∧ Mod (fun k => k = t.block) w w' := by
  have h6 := @run_callFunc_extern Tryz.prog 55 _ (fun args => ReflectliteValue.unpack (args.getD 0 (.tuple #[]))) Tryz.func55 (by kernel_rfl) (by kernel_rfl) (by kernel_rfl) (by kernel_rfl)
  have h7 := @run_callFunc_extern Tryz.prog 56 _ typX Tryz.func56 (by kernel_rfl) (by kernel_rfl) (by kernel_rfl) (by kernel_rfl)
  have h8 := @run_callFunc_extern Tryz.prog 57 _ nilX Tryz.func57 (by kernel_rfl) (by kernel_rfl) (by kernel_rfl) (by kernel_rfl)
  have h27 := @run_callFunc_extern Tryz.prog 130 _ kndX Tryz.func130 (by kernel_rfl) (by kernel_rfl) (by kernel_rfl) (by kernel_rfl)
  have h37 := @run_callFunc_extern Tryz.prog 158 _ elmX Tryz.func158 (by kernel_rfl) (by kernel_rfl) (by kernel_rfl) (by kernel_rfl)
  have h38 := @run_callFunc_extern Tryz.prog 159 _ impX Tryz.func159 (by kernel_rfl) (by kernel_rfl) (by kernel_rfl) (by kernel_rfl)
  have h10 := @run_callFunc_extern Tryz.prog 53 _ ReflectliteType.typeOf Tryz.func53 (by kernel_rfl) (by kernel_rfl) (by kernel_rfl) (by kernel_rfl)
  have h35 := @run_callFunc_extern Tryz.prog 156 _ asgX Tryz.func156 (by kernel_rfl) (by kernel_rfl) (by kernel_rfl) (by kernel_rfl)
  have h11 := @run_callFunc_extern Tryz.prog 75 _ eleX Tryz.func75 (by kernel_rfl) (by kernel_rfl) (by kernel_rfl) (by kernel_rfl)
  have h12 := @run_callFunc_extern Tryz.prog 76 _ ReflectliteValue.set Tryz.func76 (by kernel_rfl) (by kernel_rfl) (by kernel_rfl) (by kernel_rfl)
  have tO := cdTypeOfS
  have mA := cdMethodAssign
  have a25 := cdAssignS
  have v25 := cdValueOfS
  have f6 := cdValueOf
  have f7 := cdType
  have mK := cdMethodKind
  have mE := cdMethodElem
  have mI := cdMethodImpl
  have k27 := cdKind2
  have k25 := cdKind1
  have e27 := cdElem
  have i25 := cdImpl
  have htl : t.block < w.heap.size := by
    rcases Nat.lt_or_ge t.block w.heap.size with h | h
    · exact h
    · simp [World.cell?, Array.getElem?_eq_none h] at ht0
  have n8 := cdIsNil ⟨w.heap.size, 0, none⟩ t ((w.alloc (.cells #[.pointer (some t)] 111)).alloc (.cells #[.pointer (some ⟨16, 111, none⟩), .pointer (some ⟨w.heap.size, 0, none⟩), .int .u64 150] 147)) (by simp)
  have hg2 : ((w.alloc (.cells #[.pointer (some t)] 111)).alloc (.cells #[.pointer (some ⟨16, 111, none⟩), .pointer (some ⟨w.heap.size, 0, none⟩), .int .u64 150] 147)).cell? ⟨1, 0, none⟩ = some (rtI 55) := by
    rw [World.cell?_alloc_lt _ _ ⟨1, 0, none⟩ (by simp; omega), World.cell?_alloc_lt _ _ ⟨1, 0, none⟩ hgl]; exact hg
  have el := cdElemV ⟨w.heap.size, 0, none⟩ t (((w.alloc (.cells #[.pointer (some t)] 111)).alloc (.cells #[.pointer (some ⟨16, 111, none⟩), .pointer (some ⟨w.heap.size, 0, none⟩), .int .u64 150] 147)).alloc (.cells #[.pointer (some ⟨16, 111, none⟩), .pointer (some ⟨w.heap.size, 0, none⟩), .int .u64 150] 147)) (by rw [World.cell?_alloc_lt _ _ ⟨w.heap.size, 0, none⟩ (by simp; omega)]; simp)
  have st := cdSet t ⟨w.heap.size + 1 + 1 + 1, 0, none⟩ e old ((((w.alloc (.cells #[.pointer (some t)] 111)).alloc (.cells #[.pointer (some ⟨16, 111, none⟩), .pointer (some ⟨w.heap.size, 0, none⟩), .int .u64 150] 147)).alloc (.cells #[.pointer (some ⟨16, 111, none⟩), .pointer (some ⟨w.heap.size, 0, none⟩), .int .u64 150] 147)).alloc (.cells #[.pointer (some e)] 106))
    (by rw [World.cell?_alloc_at _ _ _ _ (by simp)]; rfl)
    (by rw [World.cell?_alloc_lt _ _ t (by simp; omega), World.cell?_alloc_lt _ _ t (by simp; omega), World.cell?_alloc_lt _ _ t (by simp; omega), World.cell?_alloc_lt _ _ t htl]; exact ht0)
    (by rw [World.frozen?_alloc_old _ _ t (by simp; omega), World.frozen?_alloc_old _ _ t (by simp; omega), World.frozen?_alloc_old _ _ t (by simp; omega), World.frozen?_alloc_old _ _ t (Nat.ne_of_lt htl)]; exact hf0)
  go_enter Tryz.func31, Tryz.ntmps31
  go_wp2
  refine wp_loop_rounds 1 ?_
  rw [rounds_succ]
  go_wp2
  go_ret
  refine ⟨rfl, ?_⟩
  refine Mod.setCell (S := fun k => k = t.block) (p := t) (mod_none ?_ _) (Or.inl rfl) _
  refine Below.alloc ?_ (by simp; omega) _
  refine Below.alloc ?_ (by simp; omega) _
  refine Below.alloc ?_ (by simp) _
  exact Below.alloc (Below.refl _ w) (Nat.le_refl _) _
set_option maxHeartbeats 8000000 in
theorem as_err (e : Value) (t : Addr) (old : Value) (w : World) (hg : w.cell? ⟨1, 0, none⟩ = some (rtI 55)) (hgl : 1 < w.heap.size) (ht0 : w.cell? t = some old) (hf0 : w.frozen? t = false) :
    Calls Tryz.prog 31 #[.iface 177 e, .iface 111 (.pointer (some t))] w fun ev w' => ev = .returned (.bool false) ∧ Below w.heap.size w w' := by
  have h6 := @run_callFunc_extern Tryz.prog 55 _ (fun args => ReflectliteValue.unpack (args.getD 0 (.tuple #[]))) Tryz.func55 (by kernel_rfl) (by kernel_rfl) (by kernel_rfl) (by kernel_rfl)
  have h7 := @run_callFunc_extern Tryz.prog 56 _ typX Tryz.func56 (by kernel_rfl) (by kernel_rfl) (by kernel_rfl) (by kernel_rfl)
  have h8 := @run_callFunc_extern Tryz.prog 57 _ nilX Tryz.func57 (by kernel_rfl) (by kernel_rfl) (by kernel_rfl) (by kernel_rfl)
  have h27 := @run_callFunc_extern Tryz.prog 130 _ kndX Tryz.func130 (by kernel_rfl) (by kernel_rfl) (by kernel_rfl) (by kernel_rfl)
  have h37 := @run_callFunc_extern Tryz.prog 158 _ elmX Tryz.func158 (by kernel_rfl) (by kernel_rfl) (by kernel_rfl) (by kernel_rfl)
  have h38 := @run_callFunc_extern Tryz.prog 159 _ impX Tryz.func159 (by kernel_rfl) (by kernel_rfl) (by kernel_rfl) (by kernel_rfl)
  have h10 := @run_callFunc_extern Tryz.prog 53 _ ReflectliteType.typeOf Tryz.func53 (by kernel_rfl) (by kernel_rfl) (by kernel_rfl) (by kernel_rfl)
  have h35 := @run_callFunc_extern Tryz.prog 156 _ asgX Tryz.func156 (by kernel_rfl) (by kernel_rfl) (by kernel_rfl) (by kernel_rfl)
  have tO := cdTypeOfE
  have mA := cdMethodAssign
  have a25 := cdAssignE
  have nE := cdNoAsE
  have uE := cdNoUnE
  have vE := cdNoUsE
  have f6 := cdValueOf
  have f7 := cdType
  have mK := cdMethodKind
  have mE := cdMethodElem
  have mI := cdMethodImpl
  have k27 := cdKind2
  have k25 := cdKind1
  have e27 := cdElem
  have i25 := cdImpl
  have htl : t.block < w.heap.size := by
    rcases Nat.lt_or_ge t.block w.heap.size with h | h
    · exact h
    · simp [World.cell?, Array.getElem?_eq_none h] at ht0
  have n8 := cdIsNil ⟨w.heap.size, 0, none⟩ t ((w.alloc (.cells #[.pointer (some t)] 111)).alloc (.cells #[.pointer (some ⟨16, 111, none⟩), .pointer (some ⟨w.heap.size, 0, none⟩), .int .u64 150] 147)) (by simp)
  have hg2 : ((w.alloc (.cells #[.pointer (some t)] 111)).alloc (.cells #[.pointer (some ⟨16, 111, none⟩), .pointer (some ⟨w.heap.size, 0, none⟩), .int .u64 150] 147)).cell? ⟨1, 0, none⟩ = some (rtI 55) := by
    rw [World.cell?_alloc_lt _ _ ⟨1, 0, none⟩ (by simp; omega), World.cell?_alloc_lt _ _ ⟨1, 0, none⟩ hgl]; exact hg
  go_enter Tryz.func31, Tryz.ntmps31
  go_wp2
  refine wp_loop_rounds 1 ?_
  rw [rounds_succ]
  go_wp2
  go_ret
  refine ⟨rfl, ?_⟩
  refine Below.alloc ?_ (by simp; omega) _
  refine Below.alloc ?_ (by simp) _
  exact Below.alloc (Below.refl _ w) (Nat.le_refl _) _
end Go.Proofs.YtkjnockljapnbaaGreatDoor
