/- Part of the proof that laws.FnSkip returns true for every argument. No conditions. -/
import Derived.Test.YthapcchcahnfaaaGreatDoorS23
import Derived.Stop.Asserts
import Derived.Test.YthapcchcahnfaaaGreatDoorS13
set_option linter.all false
set_option maxHeartbeats 8000000
set_option maxRecDepth 100000
namespace Go.Proofs.YthapcchcahnfaaaGreatDoor
open Go Go.RowKit Go.Extern.Stop Go.Stop Go.Extern Go.Proofs.Tryz
abbrev D6 (t:TypeId):Value:=.iface 202 (.agg #[.pointer (some ⟨16,t,none⟩)])
theorem qK (v:Value) (w:World):(Extern.ReflectliteType.typeOf #[.iface 116 v]).run prog w=.ok (D6 116) w:=by kernel_rfl
def SR:Array Value→Sem Value:=ReflectliteType.method fun t=>do Rtype.noPackHeld "Comparable" t;pure (.bool (←typeInfo t).comparable)
theorem o8 (w:World):(SR #[.agg #[.pointer (some ⟨16,116,none⟩)]]).run prog w=.ok (.bool true) w:=by kernel_rfl
theorem jG (v:Value) (w:World):(Go.method 411 202 v "Comparable").run prog w=.ok (193,v) w:=by kernel_rfl
theorem SS (v:Value) (a:TypeId) (w:World):(Instr.typeAssert (.iface 113 v) a 204 true).run prog w=.ok (.tuple #[.nilIface,.bool false]) w:=run_typeAssert_lacksB underlying204 (by kernel_rfl) (by kernel_rfl) v a w
theorem ST (v:Value) (a:TypeId) (w:World):(Instr.typeAssert (.iface 113 v) a 207 true).run prog w=.ok (.tuple #[.nilIface,.bool false]) w:=run_typeAssert_lacksB underlying207 (by kernel_rfl) (by kernel_rfl) v a w
theorem SU (v:Value) (a:TypeId) (w:World):(Instr.typeAssert (.iface 113 v) a 208 true).run prog w=.ok (.tuple #[.nilIface,.bool false]) w:=run_typeAssert_lacksB underlying208 (by kernel_rfl) (by kernel_rfl) v a w
theorem SW (v:Value) (a:TypeId) (w:World):(Instr.typeAssert (.iface 196 v) a 204 true).run prog w=.ok (.tuple #[.nilIface,.bool false]) w:=run_typeAssert_lacksB underlying204 (by kernel_rfl) (by kernel_rfl) v a w
theorem JA (v:Value) (a:TypeId) (w:World):(Instr.typeAssert (.iface 196 v) a 207 true).run prog w=.ok (.tuple #[.nilIface,.bool false]) w:=run_typeAssert_lacksB underlying207 (by kernel_rfl) (by kernel_rfl) v a w
theorem JB (v:Value) (a:TypeId) (w:World):(Instr.typeAssert (.iface 196 v) a 208 true).run prog w=.ok (.tuple #[.nilIface,.bool false]) w:=run_typeAssert_lacksB underlying208 (by kernel_rfl) (by kernel_rfl) v a w
theorem SX (v:Value) (a:TypeId) (w:World):(Instr.typeAssert (.iface 196 v) a 213 true).run prog w=.ok (.tuple #[.nilIface,.bool false]) w:=run_typeAssert_lacksB underlying213 (by kernel_rfl) (by kernel_rfl) v a w
theorem O0 (a b:Value) (w:World):(binOp .eql 59 (.iface 113 a) (.iface 116 b)).run prog w=.ok (.bool false) w:=
 gA a b w underlying59 (by decide)
theorem O1 (a b:Value) (w:World):(binOp .eql 59 (.iface 196 a) (.iface 116 b)).run prog w=.ok (.bool false) w:=
 gA a b w underlying59 (by decide)
theorem O2 (w:World):(binOp .eql 59 (.iface 116 (.agg #[])) (.iface 116 (.agg #[]))).run prog w=.ok (.bool true) w:=by kernel_rfl
theorem LD (a:Value) (w:World):Calls prog 42 #[.iface 113 a,y6] w fun e w'=>e=.returned (.bool false)∧w'=w:=by
 have f:=@run_callFunc_extern prog 80 _ Extern.ReflectliteType.typeOf func80 (by kernel_rfl) (by kernel_rfl) (by kernel_rfl) (by kernel_rfl);have b:=@run_callFunc_extern prog 193 _ SR func193 (by kernel_rfl) (by kernel_rfl) (by kernel_rfl) (by kernel_rfl);have i:=qK;have d:=o8;have g:=jG;have h:=SS;have j:=ST;have k:=SU;have c:=O0;go_enter func42,ntmps42
 go_wp2;refine wp_loop_rounds 1 ?_;rw [rounds_succ];go_wp2;go_ret
 exact ⟨rfl,rfl⟩
theorem LE (a:Value) (w:World):Calls prog 42 #[.iface 196 a,y6] w fun e w'=>e=.returned (.bool false)∧w'=w:=by
 have f:=@run_callFunc_extern prog 80 _ Extern.ReflectliteType.typeOf func80 (by kernel_rfl) (by kernel_rfl) (by kernel_rfl) (by kernel_rfl);have b:=@run_callFunc_extern prog 193 _ SR func193 (by kernel_rfl) (by kernel_rfl) (by kernel_rfl) (by kernel_rfl);have i:=qK;have d:=o8;have g:=jG;have h:=SW;have j:=JA;have k:=JB;have c:=O1;go_enter func42,ntmps42
 go_wp2;refine wp_loop_rounds 1 ?_;rw [rounds_succ];go_wp2;go_ret
 exact ⟨rfl,rfl⟩
theorem LF (w:World):Calls prog 42 #[y6,y6] w fun e w'=>e=.returned (.bool true)∧w'=w:=by
 have d:=@run_callFunc_extern prog 80 _ Extern.ReflectliteType.typeOf func80 (by kernel_rfl) (by kernel_rfl) (by kernel_rfl) (by kernel_rfl);have a:=@run_callFunc_extern prog 193 _ SR func193 (by kernel_rfl) (by kernel_rfl) (by kernel_rfl) (by kernel_rfl);have g:=qK;have c:=o8;have f:=jG;have b:=O2;go_enter func42,ntmps42
 go_wp2;refine wp_loop_rounds 1 ?_;rw [rounds_succ];go_wp2;go_ret
 exact ⟨rfl,rfl⟩
theorem ZA (z:Sem Value) (f:TypeId→Addr→Nat→Nat→Sem Value) (v:Value) :
  ReflectliteValue.method z f #[v]=(do match ←ReflectliteValue.parts v with|none=>z|some (t,a,fl)=>f t a fl (fl % 32)):=rfl
theorem AO (t:Addr) (w:World):(ReflectliteValue.unpack (.iface 118 (.pointer (some t)))).run prog w
  = .ok (.agg #[.pointer (some ⟨16,118,none⟩),.pointer (some ⟨w.heap.size,0,none⟩),.int .u64 150]) (w.alloc (.cells #[.pointer (some t)] 118)):=by kernel_rfl
def WI:Array Value→Sem Value:=ReflectliteValue.methodAny (ReflectliteValue.valueError "reflectlite.Value.Type" 0) (fun t _ _ _=>ReflectliteType.toType t)
theorem O3 (a:Addr) (w:World):(WI #[.agg #[.pointer (some ⟨16,118,none⟩),.pointer (some a),.int .u64 150]]).run prog w=.ok (D6 118) w:=by kernel_rfl
theorem s9 (h:Value) (w:World):(Go.method 411 202 (.agg #[h]) "Kind").run prog w=.ok (166,h) w:=by kernel_rfl
def SY:Array Value→Sem Value:=ReflectliteType.abiMethod fun t=>do pure (.int .u8 (←Rtype.kind t))
theorem JC (w:World):(SY #[.pointer (some ⟨16,118,none⟩)]).run prog w=.ok (.int .u8 22) w:=by kernel_rfl
theorem JD (w:World):(SY #[.pointer (some ⟨16,113,none⟩)]).run prog w=.ok (.int .u8 22) w:=by kernel_rfl
theorem tA (h:Value) (w:World):(Go.method 411 202 (.agg #[h]) "Elem").run prog w=.ok (194,.agg #[h]) w:=by kernel_rfl
theorem tC (h:Value) (w:World):(Go.method 411 202 (.agg #[h]) "Implements").run prog w=.ok (195,.agg #[h]) w:=by kernel_rfl
theorem qL (h:Value) (w:World):(Go.method 411 202 (.agg #[h]) "AssignableTo").run prog w=.ok (192,.agg #[h]) w:=by kernel_rfl
def WJ:Array Value→Sem Value:=ReflectliteType.method ReflectliteType.elem
theorem O4 (w:World):(WJ #[.agg #[.pointer (some ⟨16,118,none⟩)]]).run prog w=.ok (D6 113) w:=by kernel_rfl
def WK:Array Value→Sem Value:=ReflectliteType.relation "Implements" ReflectliteType.implements_
theorem O5 (w:World):(WK #[.agg #[.pointer (some ⟨16,113,none⟩)],D6 59]).run prog w=.ok (.bool true) w:=by kernel_rfl
def SZ:Array Value→Sem Value:=ReflectliteType.relation "AssignableTo" ReflectliteType.assignableTo
theorem LG (v:Value) (w:World):(ReflectliteType.typeOf #[.iface 113 v]).run prog w=.ok (D6 113) w:=by kernel_rfl
theorem LH (v:Value) (w:World):(ReflectliteType.typeOf #[.iface 196 v]).run prog w=.ok (D6 196) w:=by kernel_rfl
theorem LI (w:World):(SZ #[.agg #[.pointer (some ⟨16,113,none⟩)],D6 113]).run prog w=.ok (.bool true) w:=by kernel_rfl
theorem LJ (w:World):(SZ #[.agg #[.pointer (some ⟨16,196,none⟩)],D6 113]).run prog w=.ok (.bool false) w:=by kernel_rfl
theorem GM (e:Addr) (w:World):(ReflectliteValue.unpack (.iface 113 (.pointer (some e)))).run prog w
  = .ok (.agg #[.pointer (some ⟨16,113,none⟩),.pointer (some ⟨w.heap.size,0,none⟩),.int .u64 150]) (w.alloc (.cells #[.pointer (some e)] 113)):=by kernel_rfl
theorem D7 (a:Addr) (w:World):(ReflectliteValue.parts (.agg #[.pointer (some ⟨16,118,none⟩),.pointer (some a),.int .u64 150])).run prog w=.ok (some (118,a,150)) w:=by kernel_rfl
def S2:Array Value→Sem Value:=ReflectliteValue.method (ReflectliteValue.valueError "reflectlite.Value.IsNil" 0) ReflectliteValue.isNil
theorem JE (a p:Addr) (W:World) (b:W.cell? a=some (.pointer (some p))):(S2 #[.agg #[.pointer (some ⟨16,118,none⟩),.pointer (some a),.int .u64 150]]).run prog W=.ok (.bool false) W:=by
 unfold S2;rw [ZA];simp only [Sem.run_bind,D7,Result.andThen];simp [ReflectliteValue.isNil,loadVar,isAgg,underlying,underlying118,b,Result.andThen]
def WL:Array Value→Sem Value:=ReflectliteValue.method (ReflectliteValue.valueError "reflectlite.Value.Elem" 0) ReflectliteValue.elem
theorem O6 (w:World):(Rtype.elem? 118).run prog w=.ok (some 113) w:=by kernel_rfl
theorem Av (p:Addr) (w:World):(ReflectliteValue.mk 113 p ReflectliteValue.flagAddr).run prog w=.ok (.agg #[.pointer (some ⟨16,113,none⟩),.pointer (some p),.int .u64 406]) w:=by kernel_rfl
theorem S3 (a p : Addr) (W : World) (b : W.cell? a = some (.pointer (some p))) : (WL #[.agg #[.pointer (some ⟨16, 118, none⟩), .pointer (some a), .int .u64 150]]).run prog W
      = .ok (.agg #[.pointer (some ⟨16,113,none⟩),.pointer (some p),.int .u64 406]) W:=by
  unfold WL;rw [ZA];simp only [Sem.run_bind,D7,Result.andThen];simp [ReflectliteValue.elem,loadVar,isAgg,underlying,underlying118,b,Result.andThen,O6,Av]
end Go.Proofs.YthapcchcahnfaaaGreatDoor
namespace Go.Proofs.YthapcchcahnfaaaGreatDoor
open Go Go.Proofs.Tryz
def kO:Nat→List (aP×St)→Option Nat
 | _,[]=>none
 | d,(t,_)::l=>match t with
  | .start _ _=>(kO (d+1) l).map (·+1)
  | .fin _=>match d with
   | 0=>some 1
   | d+1=>(kO d l).map (·+1)
  | _=>(kO d l).map (·+1)
theorem lB (a:Bool):∀ (l:List (aP×St)) (b:List (Bs×Bs)) (d:Nat),jC a b l=some []→d<b.length→∃ k,kO d l=some k∧0<k∧k≤l.length
 | [],b,d,h,e=>by
  unfold jC at h;simp only [jW] at h;subst h;simp at e
 | (t,s)::l,b,d,h,e=>by
  unfold jC at h;unfold kO;cases t with
  | start nm ats=>
   obtain ⟨k,c,f,g⟩:=lB a l (nm::b) (d+1) h (by simpa using e);exact ⟨k+1,by simp [c],by omega,by simp;omega⟩
  | fin nm=>
   cases b with
   | nil=>simp [iZ] at h
   | cons q b=>
    unfold iZ at h;by_cases i:(a=true∧q.1≠nm.1)∨q.2≠nm.2
    ·simp only [aY i] at h;cases h
    ·simp only [aQ i] at h;cases d with
     | zero=>exact ⟨1,rfl,by omega,by simp⟩
     | succ d=>
      obtain ⟨k,c,f,g⟩:=lB a l b d h (by simpa using e);exact ⟨k+1,by simp [c],by omega,by simp;omega⟩
  | text x=>
   obtain ⟨k,c,f,g⟩:=lB a l b d h e;exact ⟨k+1,by simp [c],by omega,by simp;omega⟩
  | comment x=>
   obtain ⟨k,c,f,g⟩:=lB a l b d h e;exact ⟨k+1,by simp [c],by omega,by simp;omega⟩
  | dir x=>
   obtain ⟨k,c,f,g⟩:=lB a l b d h e;exact ⟨k+1,by simp [c],by omega,by simp;omega⟩
  | proc x y=>
   obtain ⟨k,c,f,g⟩:=lB a l b d h e;exact ⟨k+1,by simp [c],by omega,by simp;omega⟩
theorem x6 (a:Bool):∀ (l d:List (aP×St)) (c:List (Bs×Bs)),jC a c (l++d)=(jC a c l).bind fun b=>jC a b d
 | [],d,c=>rfl
 | (t,s)::l,d,c=>by
  have e:∀ l',jC a c ((t,s)::l')=(iZ a c t).bind fun b=>jC a b l':=fun l'=>by
   conv=>lhs;unfold jC
   cases iZ a c t<;>rfl
  rw [rH,e,e];cases iZ a c t with
  | none=>rfl
  | some b=>exact x6 a l d b
theorem LK {fold:Bs→Bs→Bool} {o:cV} (m:o.raw=false) (T:Bs) {l:List (aP×St)} (h:jV fold o (St.init T) l .eof) {n:Nat} {nm:Bs×Bs} {b:List cO} {s:St} (d:l[n]?=some (.start nm b,s)):∃ k,kO 0 (l.drop (n+1))=some k∧0<k∧k≤(l.drop (n+1)).length:=by
 obtain ⟨p,a,f⟩:=BP m T h;rw [f rfl] at a;have j:=(A9.1 d).1;have e:l=l.take n++(.start nm b,s)::l.drop (n+1):=by
  have g:=(A9.1 d).2;rw [←g,←CN j,List.take_append_drop]
 rw [e,x6] at a;cases c:jC o.strict [] (l.take n) with
 | none=>rw [c] at a;cases a
 | some op1=>
  rw [c] at a;have i:jC o.strict (nm::op1) (l.drop (n+1))=some []:=a;exact lB o.strict _ _ 0 i (by simp)
end Go.Proofs.YthapcchcahnfaaaGreatDoor
