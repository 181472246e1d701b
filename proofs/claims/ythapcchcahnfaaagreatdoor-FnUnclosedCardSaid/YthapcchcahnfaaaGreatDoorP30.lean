/- Part of the proof that laws.FnStrictIsLoose, laws.FnUnclosed, laws.FnReaderFails, laws.FnWithin, laws.FnSkip returns true for every argument. No conditions. -/
import Derived.Test.YthapcchcahnfaaaGreatDoorP24
import Derived.Stop.Asserts
set_option linter.all false
set_option maxHeartbeats 8000000
set_option maxRecDepth 100000
namespace Go.Proofs.YthapcchcahnfaaaGreatDoor
open Go Go.RowKit Go.Extern.Stop Go.Stop Go.Extern Tryz
abbrev DZ (t:TypeId):Value:=.iface 202 (.agg #[.pointer (some ⟨16,t,none⟩)])
theorem rO (v:Value) (w:World):(Extern.ReflectliteType.typeOf #[.iface 116 v]).run prog w=.ok (DZ 116) w:=by kernel_rfl
def VS:Array Value→Sem Value:=ReflectliteType.method fun t=>do Rtype.noPackHeld "Comparable" t;pure (.bool (←typeInfo t).comparable)
theorem qD (w:World):(VS #[.agg #[.pointer (some ⟨16,116,none⟩)]]).run prog w=.ok (.bool true) w:=by kernel_rfl
theorem kB (v:Value) (w:World):(Go.method 411 202 v "Comparable").run prog w=.ok (193,v) w:=by kernel_rfl
theorem VT (v:Value) (a:TypeId) (w:World):(Instr.typeAssert (.iface 113 v) a 204 true).run prog w=.ok (.tuple #[.nilIface,.bool false]) w:=run_typeAssert_lacksB underlying204 (by kernel_rfl) (by kernel_rfl) v a w
theorem VU (v:Value) (a:TypeId) (w:World):(Instr.typeAssert (.iface 113 v) a 207 true).run prog w=.ok (.tuple #[.nilIface,.bool false]) w:=run_typeAssert_lacksB underlying207 (by kernel_rfl) (by kernel_rfl) v a w
theorem VV (v:Value) (a:TypeId) (w:World):(Instr.typeAssert (.iface 113 v) a 208 true).run prog w=.ok (.tuple #[.nilIface,.bool false]) w:=run_typeAssert_lacksB underlying208 (by kernel_rfl) (by kernel_rfl) v a w
theorem VW (v:Value) (a:TypeId) (w:World):(Instr.typeAssert (.iface 196 v) a 204 true).run prog w=.ok (.tuple #[.nilIface,.bool false]) w:=run_typeAssert_lacksB underlying204 (by kernel_rfl) (by kernel_rfl) v a w
theorem LH (v:Value) (a:TypeId) (w:World):(Instr.typeAssert (.iface 196 v) a 207 true).run prog w=.ok (.tuple #[.nilIface,.bool false]) w:=run_typeAssert_lacksB underlying207 (by kernel_rfl) (by kernel_rfl) v a w
theorem LI (v:Value) (a:TypeId) (w:World):(Instr.typeAssert (.iface 196 v) a 208 true).run prog w=.ok (.tuple #[.nilIface,.bool false]) w:=run_typeAssert_lacksB underlying208 (by kernel_rfl) (by kernel_rfl) v a w
theorem VX (v:Value) (a:TypeId) (w:World):(Instr.typeAssert (.iface 196 v) a 213 true).run prog w=.ok (.tuple #[.nilIface,.bool false]) w:=run_typeAssert_lacksB underlying213 (by kernel_rfl) (by kernel_rfl) v a w
theorem RT (a b:Value) (w:World):(binOp .eql 59 (.iface 113 a) (.iface 116 b)).run prog w=.ok (.bool false) w:=
 gP a b w underlying59 (by decide)
theorem RU (a b:Value) (w:World):(binOp .eql 59 (.iface 196 a) (.iface 116 b)).run prog w=.ok (.bool false) w:=
 gP a b w underlying59 (by decide)
theorem RV (w:World):(binOp .eql 59 (.iface 116 (.agg #[])) (.iface 116 (.agg #[]))).run prog w=.ok (.bool true) w:=by kernel_rfl
theorem NQ (a:Value) (w:World):Calls prog 42 #[.iface 113 a,A2] w fun e w'=>e=.returned (.bool false)∧w'=w:=by
 have f:=@run_callFunc_extern prog 80 _ Extern.ReflectliteType.typeOf func80 (by kernel_rfl) (by kernel_rfl) (by kernel_rfl) (by kernel_rfl);have b:=@run_callFunc_extern prog 193 _ VS func193 (by kernel_rfl) (by kernel_rfl) (by kernel_rfl) (by kernel_rfl);have i:=rO;have d:=qD;have g:=kB;have h:=VT;have j:=VU;have k:=VV;have c:=RT;go_enter func42,ntmps42
 go_wp2;refine wp_loop_rounds 1 ?_;rw [rounds_succ];go_wp2;go_ret
 exact ⟨rfl,rfl⟩
theorem NR (a:Value) (w:World):Calls prog 42 #[.iface 196 a,A2] w fun e w'=>e=.returned (.bool false)∧w'=w:=by
 have f:=@run_callFunc_extern prog 80 _ Extern.ReflectliteType.typeOf func80 (by kernel_rfl) (by kernel_rfl) (by kernel_rfl) (by kernel_rfl);have b:=@run_callFunc_extern prog 193 _ VS func193 (by kernel_rfl) (by kernel_rfl) (by kernel_rfl) (by kernel_rfl);have i:=rO;have d:=qD;have g:=kB;have h:=VW;have j:=LH;have k:=LI;have c:=RU;go_enter func42,ntmps42
 go_wp2;refine wp_loop_rounds 1 ?_;rw [rounds_succ];go_wp2;go_ret
 exact ⟨rfl,rfl⟩
theorem NS (w:World):Calls prog 42 #[A2,A2] w fun e w'=>e=.returned (.bool true)∧w'=w:=by
 have d:=@run_callFunc_extern prog 80 _ Extern.ReflectliteType.typeOf func80 (by kernel_rfl) (by kernel_rfl) (by kernel_rfl) (by kernel_rfl);have a:=@run_callFunc_extern prog 193 _ VS func193 (by kernel_rfl) (by kernel_rfl) (by kernel_rfl) (by kernel_rfl);have g:=rO;have c:=qD;have f:=kB;have b:=RV;go_enter func42,ntmps42
 go_wp2;refine wp_loop_rounds 1 ?_;rw [rounds_succ];go_wp2;go_ret
 exact ⟨rfl,rfl⟩
theorem Cz (z:Sem Value) (f:TypeId→Addr→Nat→Nat→Sem Value) (v:Value) :
  ReflectliteValue.method z f #[v]=(do match ←ReflectliteValue.parts v with|none=>z|some (t,a,fl)=>f t a fl (fl % 32)):=rfl
theorem CC (t:Addr) (w:World):(ReflectliteValue.unpack (.iface 118 (.pointer (some t)))).run prog w
  = .ok (.agg #[.pointer (some ⟨16,118,none⟩),.pointer (some ⟨w.heap.size,0,none⟩),.int .u64 150]) (w.alloc (.cells #[.pointer (some t)] 118)):=by kernel_rfl
def ZP:Array Value→Sem Value:=ReflectliteValue.methodAny (ReflectliteValue.valueError "reflectlite.Value.Type" 0) (fun t _ _ _=>ReflectliteType.toType t)
theorem RW (a:Addr) (w:World):(ZP #[.agg #[.pointer (some ⟨16,118,none⟩),.pointer (some a),.int .u64 150]]).run prog w=.ok (DZ 118) w:=by kernel_rfl
theorem uV (h:Value) (w:World):(Go.method 411 202 (.agg #[h]) "Kind").run prog w=.ok (166,h) w:=by kernel_rfl
def VY:Array Value→Sem Value:=ReflectliteType.abiMethod fun t=>do pure (.int .u8 (←Rtype.kind t))
theorem LJ (w:World):(VY #[.pointer (some ⟨16,118,none⟩)]).run prog w=.ok (.int .u8 22) w:=by kernel_rfl
theorem LK (w:World):(VY #[.pointer (some ⟨16,113,none⟩)]).run prog w=.ok (.int .u8 22) w:=by kernel_rfl
theorem uW (h:Value) (w:World):(Go.method 411 202 (.agg #[h]) "Elem").run prog w=.ok (194,.agg #[h]) w:=by kernel_rfl
theorem uX (h:Value) (w:World):(Go.method 411 202 (.agg #[h]) "Implements").run prog w=.ok (195,.agg #[h]) w:=by kernel_rfl
theorem rP (h:Value) (w:World):(Go.method 411 202 (.agg #[h]) "AssignableTo").run prog w=.ok (192,.agg #[h]) w:=by kernel_rfl
def ZQ:Array Value→Sem Value:=ReflectliteType.method ReflectliteType.elem
theorem RX (w:World):(ZQ #[.agg #[.pointer (some ⟨16,118,none⟩)]]).run prog w=.ok (DZ 113) w:=by kernel_rfl
def ZR:Array Value→Sem Value:=ReflectliteType.relation "Implements" ReflectliteType.implements_
theorem RY (w:World):(ZR #[.agg #[.pointer (some ⟨16,113,none⟩)],DZ 59]).run prog w=.ok (.bool true) w:=by kernel_rfl
def VZ:Array Value→Sem Value:=ReflectliteType.relation "AssignableTo" ReflectliteType.assignableTo
theorem NT (v:Value) (w:World):(ReflectliteType.typeOf #[.iface 113 v]).run prog w=.ok (DZ 113) w:=by kernel_rfl
theorem NU (v:Value) (w:World):(ReflectliteType.typeOf #[.iface 196 v]).run prog w=.ok (DZ 196) w:=by kernel_rfl
theorem NV (w:World):(VZ #[.agg #[.pointer (some ⟨16,113,none⟩)],DZ 113]).run prog w=.ok (.bool true) w:=by kernel_rfl
theorem NW (w:World):(VZ #[.agg #[.pointer (some ⟨16,196,none⟩)],DZ 113]).run prog w=.ok (.bool false) w:=by kernel_rfl
theorem JJ (e:Addr) (w:World):(ReflectliteValue.unpack (.iface 113 (.pointer (some e)))).run prog w
  = .ok (.agg #[.pointer (some ⟨16,113,none⟩),.pointer (some ⟨w.heap.size,0,none⟩),.int .u64 150]) (w.alloc (.cells #[.pointer (some e)] 113)):=by kernel_rfl
theorem GB (a:Addr) (w:World):(ReflectliteValue.parts (.agg #[.pointer (some ⟨16,118,none⟩),.pointer (some a),.int .u64 150])).run prog w=.ok (some (118,a,150)) w:=by kernel_rfl
def V0:Array Value→Sem Value:=ReflectliteValue.method (ReflectliteValue.valueError "reflectlite.Value.IsNil" 0) ReflectliteValue.isNil
theorem LL (a p:Addr) (W:World) (b:W.cell? a=some (.pointer (some p))):(V0 #[.agg #[.pointer (some ⟨16,118,none⟩),.pointer (some a),.int .u64 150]]).run prog W=.ok (.bool false) W:=by
 unfold V0;rw [Cz];simp only [Sem.run_bind,GB,Result.andThen];simp [ReflectliteValue.isNil,loadVar,isAgg,underlying,underlying118,b,Result.andThen]
def ZS:Array Value→Sem Value:=ReflectliteValue.method (ReflectliteValue.valueError "reflectlite.Value.Elem" 0) ReflectliteValue.elem
theorem RZ (w:World):(Rtype.elem? 118).run prog w=.ok (some 113) w:=by kernel_rfl
theorem Fr (p:Addr) (w:World):(ReflectliteValue.mk 113 p ReflectliteValue.flagAddr).run prog w=.ok (.agg #[.pointer (some ⟨16,113,none⟩),.pointer (some p),.int .u64 406]) w:=by kernel_rfl
theorem V2 (a p : Addr) (W : World) (b : W.cell? a = some (.pointer (some p))) : (ZS #[.agg #[.pointer (some ⟨16, 118, none⟩), .pointer (some a), .int .u64 150]]).run prog W
      = .ok (.agg #[.pointer (some ⟨16,113,none⟩),.pointer (some p),.int .u64 406]) W:=by
  unfold ZS;rw [Cz];simp only [Sem.run_bind,GB,Result.andThen];simp [ReflectliteValue.elem,loadVar,isAgg,underlying,underlying118,b,Result.andThen,RZ,Fr]
end Go.Proofs.YthapcchcahnfaaaGreatDoor
