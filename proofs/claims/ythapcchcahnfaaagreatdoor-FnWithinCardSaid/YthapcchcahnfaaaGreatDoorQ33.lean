/- Part of the proof that laws.FnWithin returns true for every argument. No conditions. -/
import Derived.Test.YthapcchcahnfaaaGreatDoorQ24
import Derived.Stop.Asserts
set_option linter.all false
set_option maxHeartbeats 8000000
set_option maxRecDepth 100000
namespace Go.Proofs.YthapcchcahnfaaaGreatDoor
open Go Go.RowKit Go.Extern.Stop Go.Stop Go.Extern Go.Proofs.Tryz
abbrev CX (t:TypeId):Value:=.iface 202 (.agg #[.pointer (some ⟨16,t,none⟩)])
theorem qN (v:Value) (w:World):(Extern.ReflectliteType.typeOf #[.iface 116 v]).run prog w=.ok (CX 116) w:=by kernel_rfl
def TH:Array Value→Sem Value:=ReflectliteType.method fun t=>do Rtype.noPackHeld "Comparable" t;pure (.bool (←typeInfo t).comparable)
theorem pE (w:World):(TH #[.agg #[.pointer (some ⟨16,116,none⟩)]]).run prog w=.ok (.bool true) w:=by kernel_rfl
theorem jK (v:Value) (w:World):(Go.method 411 202 v "Comparable").run prog w=.ok (193,v) w:=by kernel_rfl
theorem TI (v:Value) (a:TypeId) (w:World):(Instr.typeAssert (.iface 113 v) a 204 true).run prog w=.ok (.tuple #[.nilIface,.bool false]) w:=run_typeAssert_lacksB underlying204 (by kernel_rfl) (by kernel_rfl) v a w
theorem TJ (v:Value) (a:TypeId) (w:World):(Instr.typeAssert (.iface 113 v) a 207 true).run prog w=.ok (.tuple #[.nilIface,.bool false]) w:=run_typeAssert_lacksB underlying207 (by kernel_rfl) (by kernel_rfl) v a w
theorem TK (v:Value) (a:TypeId) (w:World):(Instr.typeAssert (.iface 113 v) a 208 true).run prog w=.ok (.tuple #[.nilIface,.bool false]) w:=run_typeAssert_lacksB underlying208 (by kernel_rfl) (by kernel_rfl) v a w
theorem TL (v:Value) (a:TypeId) (w:World):(Instr.typeAssert (.iface 196 v) a 204 true).run prog w=.ok (.tuple #[.nilIface,.bool false]) w:=run_typeAssert_lacksB underlying204 (by kernel_rfl) (by kernel_rfl) v a w
theorem JH (v:Value) (a:TypeId) (w:World):(Instr.typeAssert (.iface 196 v) a 207 true).run prog w=.ok (.tuple #[.nilIface,.bool false]) w:=run_typeAssert_lacksB underlying207 (by kernel_rfl) (by kernel_rfl) v a w
theorem JI (v:Value) (a:TypeId) (w:World):(Instr.typeAssert (.iface 196 v) a 208 true).run prog w=.ok (.tuple #[.nilIface,.bool false]) w:=run_typeAssert_lacksB underlying208 (by kernel_rfl) (by kernel_rfl) v a w
theorem TM (v:Value) (a:TypeId) (w:World):(Instr.typeAssert (.iface 196 v) a 213 true).run prog w=.ok (.tuple #[.nilIface,.bool false]) w:=run_typeAssert_lacksB underlying213 (by kernel_rfl) (by kernel_rfl) v a w
theorem PQ (a b:Value) (w:World):(binOp .eql 59 (.iface 113 a) (.iface 116 b)).run prog w=.ok (.bool false) w:=
 gG a b w underlying59 (by decide)
theorem PR (a b:Value) (w:World):(binOp .eql 59 (.iface 196 a) (.iface 116 b)).run prog w=.ok (.bool false) w:=
 gG a b w underlying59 (by decide)
theorem PS (w:World):(binOp .eql 59 (.iface 116 (.agg #[])) (.iface 116 (.agg #[]))).run prog w=.ok (.bool true) w:=by kernel_rfl
theorem LR (a:Value) (w:World):Calls prog 42 #[.iface 113 a,zH] w fun e w'=>e=.returned (.bool false)∧w'=w:=by
 have f:=@run_callFunc_extern prog 80 _ Extern.ReflectliteType.typeOf func80 (by kernel_rfl) (by kernel_rfl) (by kernel_rfl) (by kernel_rfl);have b:=@run_callFunc_extern prog 193 _ TH func193 (by kernel_rfl) (by kernel_rfl) (by kernel_rfl) (by kernel_rfl);have i:=qN;have d:=pE;have g:=jK;have h:=TI;have j:=TJ;have k:=TK;have c:=PQ;go_enter func42,ntmps42
 go_wp2;refine wp_loop_rounds 1 ?_;rw [rounds_succ];go_wp2;go_ret
 exact ⟨rfl,rfl⟩
theorem LS (a:Value) (w:World):Calls prog 42 #[.iface 196 a,zH] w fun e w'=>e=.returned (.bool false)∧w'=w:=by
 have f:=@run_callFunc_extern prog 80 _ Extern.ReflectliteType.typeOf func80 (by kernel_rfl) (by kernel_rfl) (by kernel_rfl) (by kernel_rfl);have b:=@run_callFunc_extern prog 193 _ TH func193 (by kernel_rfl) (by kernel_rfl) (by kernel_rfl) (by kernel_rfl);have i:=qN;have d:=pE;have g:=jK;have h:=TL;have j:=JH;have k:=JI;have c:=PR;go_enter func42,ntmps42
 go_wp2;refine wp_loop_rounds 1 ?_;rw [rounds_succ];go_wp2;go_ret
 exact ⟨rfl,rfl⟩
theorem LT (w:World):Calls prog 42 #[zH,zH] w fun e w'=>e=.returned (.bool true)∧w'=w:=by
 have d:=@run_callFunc_extern prog 80 _ Extern.ReflectliteType.typeOf func80 (by kernel_rfl) (by kernel_rfl) (by kernel_rfl) (by kernel_rfl);have a:=@run_callFunc_extern prog 193 _ TH func193 (by kernel_rfl) (by kernel_rfl) (by kernel_rfl) (by kernel_rfl);have g:=qN;have c:=pE;have f:=jK;have b:=PS;go_enter func42,ntmps42
 go_wp2;refine wp_loop_rounds 1 ?_;rw [rounds_succ];go_wp2;go_ret
 exact ⟨rfl,rfl⟩
theorem ZU (z:Sem Value) (f:TypeId→Addr→Nat→Nat→Sem Value) (v:Value) :
  ReflectliteValue.method z f #[v]=(do match ←ReflectliteValue.parts v with|none=>z|some (t,a,fl)=>f t a fl (fl % 32)):=rfl
theorem A5 (t:Addr) (w:World):(ReflectliteValue.unpack (.iface 118 (.pointer (some t)))).run prog w
  = .ok (.agg #[.pointer (some ⟨16,118,none⟩),.pointer (some ⟨w.heap.size,0,none⟩),.int .u64 150]) (w.alloc (.cells #[.pointer (some t)] 118)):=by kernel_rfl
def XC:Array Value→Sem Value:=ReflectliteValue.methodAny (ReflectliteValue.valueError "reflectlite.Value.Type" 0) (fun t _ _ _=>ReflectliteType.toType t)
theorem PU (a:Addr) (w:World):(XC #[.agg #[.pointer (some ⟨16,118,none⟩),.pointer (some a),.int .u64 150]]).run prog w=.ok (CX 118) w:=by kernel_rfl
theorem tI (h:Value) (w:World):(Go.method 411 202 (.agg #[h]) "Kind").run prog w=.ok (166,h) w:=by kernel_rfl
def TN:Array Value→Sem Value:=ReflectliteType.abiMethod fun t=>do pure (.int .u8 (←Rtype.kind t))
theorem JJ (w:World):(TN #[.pointer (some ⟨16,118,none⟩)]).run prog w=.ok (.int .u8 22) w:=by kernel_rfl
theorem JK (w:World):(TN #[.pointer (some ⟨16,113,none⟩)]).run prog w=.ok (.int .u8 22) w:=by kernel_rfl
theorem tJ (h:Value) (w:World):(Go.method 411 202 (.agg #[h]) "Elem").run prog w=.ok (194,.agg #[h]) w:=by kernel_rfl
theorem tK (h:Value) (w:World):(Go.method 411 202 (.agg #[h]) "Implements").run prog w=.ok (195,.agg #[h]) w:=by kernel_rfl
theorem qO (h:Value) (w:World):(Go.method 411 202 (.agg #[h]) "AssignableTo").run prog w=.ok (192,.agg #[h]) w:=by kernel_rfl
def XD:Array Value→Sem Value:=ReflectliteType.method ReflectliteType.elem
theorem PV (w:World):(XD #[.agg #[.pointer (some ⟨16,118,none⟩)]]).run prog w=.ok (CX 113) w:=by kernel_rfl
def XE:Array Value→Sem Value:=ReflectliteType.relation "Implements" ReflectliteType.implements_
theorem PW (w:World):(XE #[.agg #[.pointer (some ⟨16,113,none⟩)],CX 59]).run prog w=.ok (.bool true) w:=by kernel_rfl
def TO:Array Value→Sem Value:=ReflectliteType.relation "AssignableTo" ReflectliteType.assignableTo
theorem LU (v:Value) (w:World):(ReflectliteType.typeOf #[.iface 113 v]).run prog w=.ok (CX 113) w:=by kernel_rfl
theorem LV (v:Value) (w:World):(ReflectliteType.typeOf #[.iface 196 v]).run prog w=.ok (CX 196) w:=by kernel_rfl
theorem LW (w:World):(TO #[.agg #[.pointer (some ⟨16,113,none⟩)],CX 113]).run prog w=.ok (.bool true) w:=by kernel_rfl
theorem LX (w:World):(TO #[.agg #[.pointer (some ⟨16,196,none⟩)],CX 113]).run prog w=.ok (.bool false) w:=by kernel_rfl
theorem G0 (e:Addr) (w:World):(ReflectliteValue.unpack (.iface 113 (.pointer (some e)))).run prog w
  = .ok (.agg #[.pointer (some ⟨16,113,none⟩),.pointer (some ⟨w.heap.size,0,none⟩),.int .u64 150]) (w.alloc (.cells #[.pointer (some e)] 113)):=by kernel_rfl
theorem EP (a:Addr) (w:World):(ReflectliteValue.parts (.agg #[.pointer (some ⟨16,118,none⟩),.pointer (some a),.int .u64 150])).run prog w=.ok (some (118,a,150)) w:=by kernel_rfl
def TP:Array Value→Sem Value:=ReflectliteValue.method (ReflectliteValue.valueError "reflectlite.Value.IsNil" 0) ReflectliteValue.isNil
theorem JL (a p:Addr) (W:World) (b:W.cell? a=some (.pointer (some p))):(TP #[.agg #[.pointer (some ⟨16,118,none⟩),.pointer (some a),.int .u64 150]]).run prog W=.ok (.bool false) W:=by
 unfold TP;rw [ZU];simp only [Sem.run_bind,EP,Result.andThen];simp [ReflectliteValue.isNil,loadVar,isAgg,underlying,underlying118,b,Result.andThen]
def XF:Array Value→Sem Value:=ReflectliteValue.method (ReflectliteValue.valueError "reflectlite.Value.Elem" 0) ReflectliteValue.elem
theorem PY (w:World):(Rtype.elem? 118).run prog w=.ok (some 113) w:=by kernel_rfl
theorem Bk (p:Addr) (w:World):(ReflectliteValue.mk 113 p ReflectliteValue.flagAddr).run prog w=.ok (.agg #[.pointer (some ⟨16,113,none⟩),.pointer (some p),.int .u64 406]) w:=by kernel_rfl
theorem TQ (a p : Addr) (W : World) (b : W.cell? a = some (.pointer (some p))) : (XF #[.agg #[.pointer (some ⟨16, 118, none⟩), .pointer (some a), .int .u64 150]]).run prog W
      = .ok (.agg #[.pointer (some ⟨16,113,none⟩),.pointer (some p),.int .u64 406]) W:=by
  unfold XF;rw [ZU];simp only [Sem.run_bind,EP,Result.andThen];simp [ReflectliteValue.elem,loadVar,isAgg,underlying,underlying118,b,Result.andThen,PY,Bk]
end Go.Proofs.YthapcchcahnfaaaGreatDoor
