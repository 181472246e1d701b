/- Part of the proof that laws.FnBalanced returns true for every argument (Cd). No condition of its own. -/
import Derived.Test.YtkjnockljapnbaaGreatDoorO26
import Derived.Stop.Asserts
set_option linter.all false
set_option maxHeartbeats 8000000
set_option maxRecDepth 100000
namespace Go.Proofs.YtkjnockljapnbaaGreatDoor
open Go Go.RowKit Go.Extern.Stop Go.Stop Go.Extern
abbrev rtI (t:TypeId):Value:=.iface 183 (.agg #[.pointer (some ⟨16,t,none⟩)])
theorem cdTypeOfOwn (v:Value) (w:World):(Extern.ReflectliteType.typeOf #[.iface 109 v]).run Tryz.prog w=.ok (rtI 109) w:=by kernel_rfl
def cmpX:Array Value → Sem Value:=ReflectliteType.method fun t=>do Rtype.noPackHeld "Comparable" t;pure (.bool (← typeInfo t).comparable)
theorem cdComparable (w:World):(cmpX #[.agg #[.pointer (some ⟨16,109,none⟩)]]).run Tryz.prog w=.ok (.bool true) w:=by kernel_rfl
theorem cdMethodComparable (v:Value) (w:World):(Go.method 394 183 v "Comparable").run Tryz.prog w=.ok (157,v) w:=by kernel_rfl
theorem cdNoIsS (v:Value) (xT:TypeId) (w:World):(Instr.typeAssert (.iface 106 v) xT 185 true).run Tryz.prog w=.ok (.tuple #[.nilIface,.bool false]) w:=run_typeAssert_lacksB Tryz.underlying185 (by kernel_rfl) (by kernel_rfl) v xT w
theorem cdNoUnS (v:Value) (xT:TypeId) (w:World):(Instr.typeAssert (.iface 106 v) xT 188 true).run Tryz.prog w=.ok (.tuple #[.nilIface,.bool false]) w:=run_typeAssert_lacksB Tryz.underlying188 (by kernel_rfl) (by kernel_rfl) v xT w
theorem cdNoUsS (v:Value) (xT:TypeId) (w:World):(Instr.typeAssert (.iface 106 v) xT 190 true).run Tryz.prog w=.ok (.tuple #[.nilIface,.bool false]) w:=run_typeAssert_lacksB Tryz.underlying190 (by kernel_rfl) (by kernel_rfl) v xT w
theorem cdNoIsE (v:Value) (xT:TypeId) (w:World):(Instr.typeAssert (.iface 177 v) xT 185 true).run Tryz.prog w=.ok (.tuple #[.nilIface,.bool false]) w:=run_typeAssert_lacksB Tryz.underlying185 (by kernel_rfl) (by kernel_rfl) v xT w
theorem cdNoUnE (v:Value) (xT:TypeId) (w:World):(Instr.typeAssert (.iface 177 v) xT 188 true).run Tryz.prog w=.ok (.tuple #[.nilIface,.bool false]) w:=run_typeAssert_lacksB Tryz.underlying188 (by kernel_rfl) (by kernel_rfl) v xT w
theorem cdNoUsE (v:Value) (xT:TypeId) (w:World):(Instr.typeAssert (.iface 177 v) xT 190 true).run Tryz.prog w=.ok (.tuple #[.nilIface,.bool false]) w:=run_typeAssert_lacksB Tryz.underlying190 (by kernel_rfl) (by kernel_rfl) v xT w
theorem cdNoAsE (v:Value) (xT:TypeId) (w:World):(Instr.typeAssert (.iface 177 v) xT 195 true).run Tryz.prog w=.ok (.tuple #[.nilIface,.bool false]) w:=run_typeAssert_lacksB Tryz.underlying195 (by kernel_rfl) (by kernel_rfl) v xT w
theorem eqlS_own (a b:Value) (w:World):(binOp .eql 55 (.iface 106 a) (.iface 109 b)).run Tryz.prog w=.ok (.bool false) w:=
  run_eql_iface_types a b w Tryz.underlying55 (by decide)
theorem eqlE_own (a b:Value) (w:World):(binOp .eql 55 (.iface 177 a) (.iface 109 b)).run Tryz.prog w=.ok (.bool false) w:=
  run_eql_iface_types a b w Tryz.underlying55 (by decide)
theorem eqlO_own (w:World):(binOp .eql 55 (.iface 109 (.agg #[])) (.iface 109 (.agg #[]))).run Tryz.prog w=.ok (.bool true) w:=by kernel_rfl
theorem isOwn_syn (a:Value) (w:World):Calls Tryz.prog 30 #[.iface 106 a,ownV] w fun e w'=>e=.returned (.bool false)∧w'=w:=by
  have h8:=@run_callFunc_extern Tryz.prog 53 _ Extern.ReflectliteType.typeOf Tryz.func53 (by kernel_rfl) (by kernel_rfl) (by kernel_rfl) (by kernel_rfl)
  have h32:=@run_callFunc_extern Tryz.prog 157 _ cmpX Tryz.func157 (by kernel_rfl) (by kernel_rfl) (by kernel_rfl) (by kernel_rfl)
  have tT:=cdTypeOfOwn
  have cT:=cdComparable
  have mR:=cdMethodComparable
  have nE:=cdNoIsS
  have uE:=cdNoUnS
  have vE:=cdNoUsS
  have heq:=eqlS_own
  go_enter Tryz.func30,Tryz.ntmps30
  go_wp2
  refine wp_loop_rounds 1 ?_
  rw [rounds_succ]
  go_wp2
  go_ret
  exact ⟨rfl,rfl⟩
theorem isOwn_err (a:Value) (w:World):Calls Tryz.prog 30 #[.iface 177 a,ownV] w fun e w'=>e=.returned (.bool false)∧w'=w:=by
  have h8:=@run_callFunc_extern Tryz.prog 53 _ Extern.ReflectliteType.typeOf Tryz.func53 (by kernel_rfl) (by kernel_rfl) (by kernel_rfl) (by kernel_rfl)
  have h32:=@run_callFunc_extern Tryz.prog 157 _ cmpX Tryz.func157 (by kernel_rfl) (by kernel_rfl) (by kernel_rfl) (by kernel_rfl)
  have tT:=cdTypeOfOwn
  have cT:=cdComparable
  have mR:=cdMethodComparable
  have nE:=cdNoIsE
  have uE:=cdNoUnE
  have vE:=cdNoUsE
  have heq:=eqlE_own
  go_enter Tryz.func30,Tryz.ntmps30
  go_wp2
  refine wp_loop_rounds 1 ?_
  rw [rounds_succ]
  go_wp2
  go_ret
  exact ⟨rfl,rfl⟩
theorem isOwn_own (w:World):Calls Tryz.prog 30 #[ownV,ownV] w fun e w'=>e=.returned (.bool true)∧w'=w:=by
  have h8:=@run_callFunc_extern Tryz.prog 53 _ Extern.ReflectliteType.typeOf Tryz.func53 (by kernel_rfl) (by kernel_rfl) (by kernel_rfl) (by kernel_rfl)
  have h32:=@run_callFunc_extern Tryz.prog 157 _ cmpX Tryz.func157 (by kernel_rfl) (by kernel_rfl) (by kernel_rfl) (by kernel_rfl)
  have tT:=cdTypeOfOwn
  have cT:=cdComparable
  have mR:=cdMethodComparable
  have heq:=eqlO_own
  go_enter Tryz.func30,Tryz.ntmps30
  go_wp2
  refine wp_loop_rounds 1 ?_
  rw [rounds_succ]
  go_wp2
  go_ret
  exact ⟨rfl,rfl⟩
theorem rlmV (z:Sem Value) (f:TypeId → Addr → Nat → Nat → Sem Value) (v:Value) :
    ReflectliteValue.method z f #[v]=(do match ← ReflectliteValue.parts v with|none=>z|some (t,a,fl)=>f t a fl (fl % 32)):=rfl
theorem cdValueOf (t:Addr) (w:World):(ReflectliteValue.unpack (.iface 111 (.pointer (some t)))).run Tryz.prog w
    = .ok (.agg #[.pointer (some ⟨16,111,none⟩),.pointer (some ⟨w.heap.size,0,none⟩),.int .u64 150]) (w.alloc (.cells #[.pointer (some t)] 111)):=by kernel_rfl
def typX:Array Value → Sem Value:=ReflectliteValue.methodAny (ReflectliteValue.valueError "reflectlite.Value.Type" 0) (fun t _ _ _=>ReflectliteType.toType t)
theorem cdType (a:Addr) (w:World):(typX #[.agg #[.pointer (some ⟨16,111,none⟩),.pointer (some a),.int .u64 150]]).run Tryz.prog w=.ok (rtI 111) w:=by kernel_rfl
theorem cdMethodKind (h:Value) (w:World):(Go.method 394 183 (.agg #[h]) "Kind").run Tryz.prog w=.ok (130,h) w:=by kernel_rfl
def kndX:Array Value → Sem Value:=ReflectliteType.abiMethod fun t=>do pure (.int .u8 (← Rtype.kind t))
theorem cdKind2 (w:World):(kndX #[.pointer (some ⟨16,111,none⟩)]).run Tryz.prog w=.ok (.int .u8 22) w:=by kernel_rfl
theorem cdKind1 (w:World):(kndX #[.pointer (some ⟨16,106,none⟩)]).run Tryz.prog w=.ok (.int .u8 22) w:=by kernel_rfl
theorem cdMethodElem (h:Value) (w:World):(Go.method 394 183 (.agg #[h]) "Elem").run Tryz.prog w=.ok (158,.agg #[h]) w:=by kernel_rfl
theorem cdMethodImpl (h:Value) (w:World):(Go.method 394 183 (.agg #[h]) "Implements").run Tryz.prog w=.ok (159,.agg #[h]) w:=by kernel_rfl
theorem cdMethodAssign (h:Value) (w:World):(Go.method 394 183 (.agg #[h]) "AssignableTo").run Tryz.prog w=.ok (156,.agg #[h]) w:=by kernel_rfl
def elmX:Array Value → Sem Value:=ReflectliteType.method ReflectliteType.elem
theorem cdElem (w:World):(elmX #[.agg #[.pointer (some ⟨16,111,none⟩)]]).run Tryz.prog w=.ok (rtI 106) w:=by kernel_rfl
def impX:Array Value → Sem Value:=ReflectliteType.relation "Implements" ReflectliteType.implements_
theorem cdImpl (w:World):(impX #[.agg #[.pointer (some ⟨16,106,none⟩)],rtI 55]).run Tryz.prog w=.ok (.bool true) w:=by kernel_rfl
def asgX:Array Value → Sem Value:=ReflectliteType.relation "AssignableTo" ReflectliteType.assignableTo
theorem cdTypeOfS (v:Value) (w:World):(ReflectliteType.typeOf #[.iface 106 v]).run Tryz.prog w=.ok (rtI 106) w:=by kernel_rfl
theorem cdTypeOfE (v:Value) (w:World):(ReflectliteType.typeOf #[.iface 177 v]).run Tryz.prog w=.ok (rtI 177) w:=by kernel_rfl
theorem cdAssignS (w:World):(asgX #[.agg #[.pointer (some ⟨16,106,none⟩)],rtI 106]).run Tryz.prog w=.ok (.bool true) w:=by kernel_rfl
theorem cdAssignE (w:World):(asgX #[.agg #[.pointer (some ⟨16,177,none⟩)],rtI 106]).run Tryz.prog w=.ok (.bool false) w:=by kernel_rfl
theorem cdValueOfS (e:Addr) (w:World):(ReflectliteValue.unpack (.iface 106 (.pointer (some e)))).run Tryz.prog w
    = .ok (.agg #[.pointer (some ⟨16,106,none⟩),.pointer (some ⟨w.heap.size,0,none⟩),.int .u64 150]) (w.alloc (.cells #[.pointer (some e)] 106)):=by kernel_rfl
theorem cdParts2 (a:Addr) (w:World):(ReflectliteValue.parts (.agg #[.pointer (some ⟨16,111,none⟩),.pointer (some a),.int .u64 150])).run Tryz.prog w=.ok (some (111,a,150)) w:=by kernel_rfl
def nilX:Array Value → Sem Value:=ReflectliteValue.method (ReflectliteValue.valueError "reflectlite.Value.IsNil" 0) ReflectliteValue.isNil
theorem cdIsNil (a p:Addr) (W:World) (ha:W.cell? a=some (.pointer (some p))):(nilX #[.agg #[.pointer (some ⟨16,111,none⟩),.pointer (some a),.int .u64 150]]).run Tryz.prog W=.ok (.bool false) W:=by
  unfold nilX
  rw [rlmV]
  simp only [Sem.run_bind,cdParts2,Result.andThen]
  simp [ReflectliteValue.isNil,loadVar,isAgg,underlying,Tryz.underlying111,ha,Result.andThen]
def eleX:Array Value → Sem Value:=ReflectliteValue.method (ReflectliteValue.valueError "reflectlite.Value.Elem" 0) ReflectliteValue.elem
theorem cdElemOf (w:World):(Rtype.elem? 111).run Tryz.prog w=.ok (some 106) w:=by kernel_rfl
theorem cdMk (p:Addr) (w:World):(ReflectliteValue.mk 106 p ReflectliteValue.flagAddr).run Tryz.prog w=.ok (.agg #[.pointer (some ⟨16,106,none⟩),.pointer (some p),.int .u64 406]) w:=by kernel_rfl
theorem cdElemV (a p : Addr) (W : World) (ha : W.cell? a = some (.pointer (some p))) : (eleX #[.agg #[.pointer (some ⟨16, 111, none⟩), .pointer (some a), .int .u64 150]]).run Tryz.prog W
      = .ok (.agg #[.pointer (some ⟨16,106,none⟩),.pointer (some p),.int .u64 406]) W:=by
  unfold eleX
  rw [rlmV]
  simp only [Sem.run_bind,cdParts2,Result.andThen]
  simp [ReflectliteValue.elem,loadVar,isAgg,underlying,Tryz.underlying111,ha,Result.andThen,cdElemOf,cdMk]
end Go.Proofs.YtkjnockljapnbaaGreatDoor
