/- Part of the proof that laws.FnBalanced returns true for every argument (Ce). No condition of its own. -/
import Derived.Test.YtkjnockljapnbaaGreatDoorO46
set_option linter.all false
set_option maxHeartbeats 8000000
set_option maxRecDepth 100000
namespace Go.Proofs.YtkjnockljapnbaaGreatDoor
open Go Go.RowKit Go.Extern.Stop Go.Stop Go.Extern
abbrev S1:TypeId:=106
theorem rlsV (v x:Value):ReflectliteValue.set #[v,x]=(do
    let (some (dst,a,fl),some (src,b,_)):=(← ReflectliteValue.parts v,← ReflectliteValue.parts x)
      | unsupported (.noEntry "extern/(internal/reflectlite.Value).Set.zeroValue")
    if fl / ReflectliteValue.flagAddr % 2 == 0 then unsupported (.noEntry "extern/(internal/reflectlite.Value).Set.unaddressable")
    let val ← loadVar src b
    if ← Rtype.directlyAssignable dst src then storeVar dst a val
    else if ← Rtype.implements dst src then
      if (← Rtype.kind src) == 20 then
        match val with
        | .nilIface=>unsupported (.noEntry "extern/reflectlite: a nil value of one interface type handed on as a value of another")
        | _=>storeVar dst a val
      else storeVar dst a (.iface src val)
    else panicString ("reflectlite.Set: value of type " ++ (← Rtype.spelt src) ++ " is not assignable to type " ++ (← Rtype.spelt dst))
    pure (.tuple #[])):=rfl
theorem cdParts1a (a:Addr) (w:World):(ReflectliteValue.parts (.agg #[.pointer (some ⟨16,106,none⟩),.pointer (some a),.int .u64 406])).run Tryz.prog w=.ok (some (106,a,406)) w:=by kernel_rfl
theorem cdParts1 (a:Addr) (w:World):(ReflectliteValue.parts (.agg #[.pointer (some ⟨16,106,none⟩),.pointer (some a),.int .u64 150])).run Tryz.prog w=.ok (some (106,a,150)) w:=by kernel_rfl
theorem cdDirect (w:World):(Rtype.directlyAssignable 106 106).run Tryz.prog w=.ok true w:=by kernel_rfl
theorem cdSet (ta b e:Addr) (old:Value) (W:World) (hb:W.cell? b=some (.pointer (some e))) (ht:W.cell? ta=some old) (hf:W.frozen? ta=false) :
    (ReflectliteValue.set #[.agg #[.pointer (some ⟨16,106,none⟩),.pointer (some ta),.int .u64 406],.agg #[.pointer (some ⟨16,106,none⟩),.pointer (some b),.int .u64 150]]).run Tryz.prog W
      = .ok (.tuple #[]) (W.setCell ta (.pointer (some e))):=by
  rw [rlsV]
  simp only [Sem.run_bind,cdParts1a,cdParts1,Result.andThen]
  simp [ReflectliteValue.flagAddr,loadVar,isAgg,underlying,Tryz.underlying106,hb,Result.andThen,cdDirect,storeVar,Value.cells,storeCells,Addr.add]
  rw [run_store Tryz.prog W ta _ _ (by rfl)]
  simp [ht,hf]
theorem as_syn (e t:Addr) (old:Value) (w:World) (hg:w.cell? ⟨1,0,none⟩=some (rtI 55)) (hgl:1 < w.heap.size) (ht0:w.cell? t=some old) (hf0:w.frozen? t=false) :
    Calls Tryz.prog 31 #[.iface 106 (.pointer (some e)),.iface 111 (.pointer (some t))] w fun ev w'=>ev=.returned (.bool true)∧Mod (fun k=>k=t.block) w w':=by
  have h6:=@run_callFunc_extern Tryz.prog 55 _ (fun args=>ReflectliteValue.unpack (args.getD 0 (.tuple #[]))) Tryz.func55 (by kernel_rfl) (by kernel_rfl) (by kernel_rfl) (by kernel_rfl)
  have h7:=@run_callFunc_extern Tryz.prog 56 _ typX Tryz.func56 (by kernel_rfl) (by kernel_rfl) (by kernel_rfl) (by kernel_rfl)
  have h8:=@run_callFunc_extern Tryz.prog 57 _ nilX Tryz.func57 (by kernel_rfl) (by kernel_rfl) (by kernel_rfl) (by kernel_rfl)
  have h27:=@run_callFunc_extern Tryz.prog 130 _ kndX Tryz.func130 (by kernel_rfl) (by kernel_rfl) (by kernel_rfl) (by kernel_rfl)
  have h37:=@run_callFunc_extern Tryz.prog 158 _ elmX Tryz.func158 (by kernel_rfl) (by kernel_rfl) (by kernel_rfl) (by kernel_rfl)
  have h38:=@run_callFunc_extern Tryz.prog 159 _ impX Tryz.func159 (by kernel_rfl) (by kernel_rfl) (by kernel_rfl) (by kernel_rfl)
  have h10:=@run_callFunc_extern Tryz.prog 53 _ ReflectliteType.typeOf Tryz.func53 (by kernel_rfl) (by kernel_rfl) (by kernel_rfl) (by kernel_rfl)
  have h35:=@run_callFunc_extern Tryz.prog 156 _ asgX Tryz.func156 (by kernel_rfl) (by kernel_rfl) (by kernel_rfl) (by kernel_rfl)
  have h11:=@run_callFunc_extern Tryz.prog 75 _ eleX Tryz.func75 (by kernel_rfl) (by kernel_rfl) (by kernel_rfl) (by kernel_rfl)
  have h12:=@run_callFunc_extern Tryz.prog 76 _ ReflectliteValue.set Tryz.func76 (by kernel_rfl) (by kernel_rfl) (by kernel_rfl) (by kernel_rfl)
  have tO:=cdTypeOfS
  have mA:=cdMethodAssign
  have a25:=cdAssignS
  have v25:=cdValueOfS
  have f6:=cdValueOf
  have f7:=cdType
  have mK:=cdMethodKind
  have mE:=cdMethodElem
  have mI:=cdMethodImpl
  have k27:=cdKind2
  have k25:=cdKind1
  have e27:=cdElem
  have i25:=cdImpl
  have htl:t.block < w.heap.size:=by
    rcases Nat.lt_or_ge t.block w.heap.size with h|h
    · exact h
    · simp [World.cell?,Array.getElem?_eq_none h] at ht0
  have n8:=cdIsNil ⟨w.heap.size,0,none⟩ t ((w.alloc (.cells #[.pointer (some t)] 111)).alloc (.cells #[.pointer (some ⟨16,111,none⟩),.pointer (some ⟨w.heap.size,0,none⟩),.int .u64 150] 147)) (by simp)
  have hg2:((w.alloc (.cells #[.pointer (some t)] 111)).alloc (.cells #[.pointer (some ⟨16,111,none⟩),.pointer (some ⟨w.heap.size,0,none⟩),.int .u64 150] 147)).cell? ⟨1,0,none⟩=some (rtI 55):=by
    rw [World.cell?_alloc_lt _ _ ⟨1,0,none⟩ (by simp;omega),World.cell?_alloc_lt _ _ ⟨1,0,none⟩ hgl];exact hg
  have el:=cdElemV ⟨w.heap.size,0,none⟩ t (((w.alloc (.cells #[.pointer (some t)] 111)).alloc (.cells #[.pointer (some ⟨16,111,none⟩),.pointer (some ⟨w.heap.size,0,none⟩),.int .u64 150] 147)).alloc (.cells #[.pointer (some ⟨16,111,none⟩),.pointer (some ⟨w.heap.size,0,none⟩),.int .u64 150] 147)) (by rw [World.cell?_alloc_lt _ _ ⟨w.heap.size,0,none⟩ (by simp;omega)];simp)
  have st:=cdSet t ⟨w.heap.size + 1 + 1 + 1,0,none⟩ e old ((((w.alloc (.cells #[.pointer (some t)] 111)).alloc (.cells #[.pointer (some ⟨16,111,none⟩),.pointer (some ⟨w.heap.size,0,none⟩),.int .u64 150] 147)).alloc (.cells #[.pointer (some ⟨16,111,none⟩),.pointer (some ⟨w.heap.size,0,none⟩),.int .u64 150] 147)).alloc (.cells #[.pointer (some e)] 106))
    (by rw [World.cell?_alloc_at _ _ _ _ (by simp)];rfl)
    (by rw [World.cell?_alloc_lt _ _ t (by simp;omega),World.cell?_alloc_lt _ _ t (by simp;omega),World.cell?_alloc_lt _ _ t (by simp;omega),World.cell?_alloc_lt _ _ t htl];exact ht0)
    (by rw [World.frozen?_alloc_old _ _ t (by simp;omega),World.frozen?_alloc_old _ _ t (by simp;omega),World.frozen?_alloc_old _ _ t (by simp;omega),World.frozen?_alloc_old _ _ t (Nat.ne_of_lt htl)];exact hf0)
  go_enter Tryz.func31,Tryz.ntmps31
  go_wp2
  refine wp_loop_rounds 1 ?_
  rw [rounds_succ]
  go_wp2
  go_ret
  refine ⟨rfl,?_⟩
  refine Mod.setCell (S:=fun k=>k=t.block) (p:=t) (mod_none ?_ _) (Or.inl rfl) _
  refine Below.alloc ?_ (by simp;omega) _
  refine Below.alloc ?_ (by simp;omega) _
  refine Below.alloc ?_ (by simp) _
  exact Below.alloc (Below.refl _ w) (Nat.le_refl _) _
theorem as_err (e:Value) (t:Addr) (old:Value) (w:World) (hg:w.cell? ⟨1,0,none⟩=some (rtI 55)) (hgl:1 < w.heap.size) (ht0:w.cell? t=some old) (hf0:w.frozen? t=false) :
    Calls Tryz.prog 31 #[.iface 177 e,.iface 111 (.pointer (some t))] w fun ev w'=>ev=.returned (.bool false)∧Below w.heap.size w w':=by
  have h6:=@run_callFunc_extern Tryz.prog 55 _ (fun args=>ReflectliteValue.unpack (args.getD 0 (.tuple #[]))) Tryz.func55 (by kernel_rfl) (by kernel_rfl) (by kernel_rfl) (by kernel_rfl)
  have h7:=@run_callFunc_extern Tryz.prog 56 _ typX Tryz.func56 (by kernel_rfl) (by kernel_rfl) (by kernel_rfl) (by kernel_rfl)
  have h8:=@run_callFunc_extern Tryz.prog 57 _ nilX Tryz.func57 (by kernel_rfl) (by kernel_rfl) (by kernel_rfl) (by kernel_rfl)
  have h27:=@run_callFunc_extern Tryz.prog 130 _ kndX Tryz.func130 (by kernel_rfl) (by kernel_rfl) (by kernel_rfl) (by kernel_rfl)
  have h37:=@run_callFunc_extern Tryz.prog 158 _ elmX Tryz.func158 (by kernel_rfl) (by kernel_rfl) (by kernel_rfl) (by kernel_rfl)
  have h38:=@run_callFunc_extern Tryz.prog 159 _ impX Tryz.func159 (by kernel_rfl) (by kernel_rfl) (by kernel_rfl) (by kernel_rfl)
  have h10:=@run_callFunc_extern Tryz.prog 53 _ ReflectliteType.typeOf Tryz.func53 (by kernel_rfl) (by kernel_rfl) (by kernel_rfl) (by kernel_rfl)
  have h35:=@run_callFunc_extern Tryz.prog 156 _ asgX Tryz.func156 (by kernel_rfl) (by kernel_rfl) (by kernel_rfl) (by kernel_rfl)
  have tO:=cdTypeOfE
  have mA:=cdMethodAssign
  have a25:=cdAssignE
  have nE:=cdNoAsE
  have uE:=cdNoUnE
  have vE:=cdNoUsE
  have f6:=cdValueOf
  have f7:=cdType
  have mK:=cdMethodKind
  have mE:=cdMethodElem
  have mI:=cdMethodImpl
  have k27:=cdKind2
  have k25:=cdKind1
  have e27:=cdElem
  have i25:=cdImpl
  have htl:t.block < w.heap.size:=by
    rcases Nat.lt_or_ge t.block w.heap.size with h|h
    · exact h
    · simp [World.cell?,Array.getElem?_eq_none h] at ht0
  have n8:=cdIsNil ⟨w.heap.size,0,none⟩ t ((w.alloc (.cells #[.pointer (some t)] 111)).alloc (.cells #[.pointer (some ⟨16,111,none⟩),.pointer (some ⟨w.heap.size,0,none⟩),.int .u64 150] 147)) (by simp)
  have hg2:((w.alloc (.cells #[.pointer (some t)] 111)).alloc (.cells #[.pointer (some ⟨16,111,none⟩),.pointer (some ⟨w.heap.size,0,none⟩),.int .u64 150] 147)).cell? ⟨1,0,none⟩=some (rtI 55):=by
    rw [World.cell?_alloc_lt _ _ ⟨1,0,none⟩ (by simp;omega),World.cell?_alloc_lt _ _ ⟨1,0,none⟩ hgl];exact hg
  go_enter Tryz.func31,Tryz.ntmps31
  go_wp2
  refine wp_loop_rounds 1 ?_
  rw [rounds_succ]
  go_wp2
  go_ret
  refine ⟨rfl,?_⟩
  refine Below.alloc ?_ (by simp;omega) _
  refine Below.alloc ?_ (by simp) _
  exact Below.alloc (Below.refl _ w) (Nat.le_refl _) _
end Go.Proofs.YtkjnockljapnbaaGreatDoor
