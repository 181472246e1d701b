/- Part of the proof that laws.FnSkip returns true for every argument. No conditions. -/
import Derived.Test.YthapcchcahnfaaaGreatDoorS31
set_option linter.all false
set_option maxHeartbeats 8000000
set_option maxRecDepth 100000
namespace Go.Proofs.YthapcchcahnfaaaGreatDoor
open Go Go.RowKit Go.Extern.Stop Go.Stop Go.Extern Go.Proofs.Tryz
theorem Aw (v x:Value):ReflectliteValue.set #[v,x]=(do
  let (some (dst,a,fl),some (src,b,_)):=(←ReflectliteValue.parts v,←ReflectliteValue.parts x)
   | unsupported (.noEntry "extern/(internal/reflectlite.Value).Set.zeroValue")
  if fl / ReflectliteValue.flagAddr % 2==0 then unsupported (.noEntry "extern/(internal/reflectlite.Value).Set.unaddressable")
  let val ←loadVar src b
  if ←Rtype.directlyAssignable dst src then storeVar dst a val
  else if ←Rtype.implements dst src then
   if (←Rtype.kind src)==20 then
    match val with
    | .nilIface=>unsupported (.noEntry "extern/reflectlite: a nil value of one interface type handed on as a value of another")
    | _=>storeVar dst a val
   else storeVar dst a (.iface src val)
  else panicString ("reflectlite.Set: value of type " ++ (←Rtype.spelt src) ++ " is not assignable to type " ++ (←Rtype.spelt dst))
  pure (.tuple #[])):=rfl
theorem LL (a:Addr) (w:World):(ReflectliteValue.parts (.agg #[.pointer (some ⟨16,113,none⟩),.pointer (some a),.int .u64 406])).run prog w=.ok (some (113,a,406)) w:=by kernel_rfl
theorem O7 (a:Addr) (w:World):(ReflectliteValue.parts (.agg #[.pointer (some ⟨16,113,none⟩),.pointer (some a),.int .u64 150])).run prog w=.ok (some (113,a,150)) w:=by kernel_rfl
theorem O8 (w:World):(Rtype.directlyAssignable 113 113).run prog w=.ok true w:=by kernel_rfl
theorem ZB (a b e:Addr) (c:Value) (W:World) (d:W.cell? b=some (.pointer (some e))) (g:W.cell? a=some c) (f:W.frozen? a=false) :
  (ReflectliteValue.set #[.agg #[.pointer (some ⟨16,113,none⟩),.pointer (some a),.int .u64 406],.agg #[.pointer (some ⟨16,113,none⟩),.pointer (some b),.int .u64 150]]).run prog W
   = .ok (.tuple #[]) (W.setCell a (.pointer (some e))):=by
 rw [Aw];simp only [Sem.run_bind,LL,O7,Result.andThen];simp [ReflectliteValue.flagAddr,loadVar,isAgg,underlying,underlying113,d,Result.andThen,O8,storeVar,Value.cells,storeCells,Addr.add];rw [run_store prog W a _ _ (by rfl)];simp [g,f]
theorem WM (e t:Addr) (d:Value) (w:World) (v:w.cell? ⟨1,0,none⟩=some (D6 59)) (g:1<w.heap.size) (b:w.cell? t=some d) (f:w.frozen? t=false) :
  Calls prog 43 #[.iface 113 (.pointer (some e)),.iface 118 (.pointer (some t))] w fun l w'=>l=.returned (.bool true)∧aJ (fun k=>k=t.block) w w':=by
 have F:=@run_callFunc_extern prog 82 _ (fun a=>ReflectliteValue.unpack (a.getD 0 (.tuple #[]))) func82 (by kernel_rfl) (by kernel_rfl) (by kernel_rfl) (by kernel_rfl);have G:=@run_callFunc_extern prog 83 _ WI func83 (by kernel_rfl) (by kernel_rfl) (by kernel_rfl) (by kernel_rfl);have H:=@run_callFunc_extern prog 84 _ S2 func84 (by kernel_rfl) (by kernel_rfl) (by kernel_rfl) (by kernel_rfl);have q:=@run_callFunc_extern prog 166 _ SY func166 (by kernel_rfl) (by kernel_rfl) (by kernel_rfl) (by kernel_rfl);have s:=@run_callFunc_extern prog 194 _ WJ func194 (by kernel_rfl) (by kernel_rfl) (by kernel_rfl) (by kernel_rfl);have u:=@run_callFunc_extern prog 195 _ WK func195 (by kernel_rfl) (by kernel_rfl) (by kernel_rfl) (by kernel_rfl);have m:=@run_callFunc_extern prog 80 _ ReflectliteType.typeOf func80 (by kernel_rfl) (by kernel_rfl) (by kernel_rfl) (by kernel_rfl);have r:=@run_callFunc_extern prog 192 _ SZ func192 (by kernel_rfl) (by kernel_rfl) (by kernel_rfl) (by kernel_rfl);have n:=@run_callFunc_extern prog 109 _ WL func109 (by kernel_rfl) (by kernel_rfl) (by kernel_rfl) (by kernel_rfl);have o:=@run_callFunc_extern prog 110 _ ReflectliteValue.set func110 (by kernel_rfl) (by kernel_rfl) (by kernel_rfl) (by kernel_rfl);have O:=LG;have I:=qL;have i:=LI;have B:=GM;have D:=AO;have E:=O3;have M:=s9;have J:=tA;have L:=tC;have A:=JC;have z:=JD;have j:=O4;have y:=O5;have c:t.block<w.heap.size:=by
  rcases Nat.lt_or_ge t.block w.heap.size with h|h
  ·exact h
  ·simp [World.cell?,Array.getElem?_eq_none h] at b
 have N:=JE ⟨w.heap.size,0,none⟩ t ((w.alloc (.cells #[.pointer (some t)] 118)).alloc (.cells #[.pointer (some ⟨16,118,none⟩),.pointer (some ⟨w.heap.size,0,none⟩),.int .u64 150] 163)) (by simp);have x:((w.alloc (.cells #[.pointer (some t)] 118)).alloc (.cells #[.pointer (some ⟨16,118,none⟩),.pointer (some ⟨w.heap.size,0,none⟩),.int .u64 150] 163)).cell? ⟨1,0,none⟩=some (D6 59):=by
  rw [World.cell?_alloc_lt _ _ ⟨1,0,none⟩ (by simp;omega),World.cell?_alloc_lt _ _ ⟨1,0,none⟩ g];exact v
 have C:=S3 ⟨w.heap.size,0,none⟩ t (((w.alloc (.cells #[.pointer (some t)] 118)).alloc (.cells #[.pointer (some ⟨16,118,none⟩),.pointer (some ⟨w.heap.size,0,none⟩),.int .u64 150] 163)).alloc (.cells #[.pointer (some ⟨16,118,none⟩),.pointer (some ⟨w.heap.size,0,none⟩),.int .u64 150] 163)) (by rw [World.cell?_alloc_lt _ _ ⟨w.heap.size,0,none⟩ (by simp;omega)];simp)
 have st:=ZB t ⟨w.heap.size+1+1+1,0,none⟩ e d ((((w.alloc (.cells #[.pointer (some t)] 118)).alloc (.cells #[.pointer (some ⟨16,118,none⟩),.pointer (some ⟨w.heap.size,0,none⟩),.int .u64 150] 163)).alloc (.cells #[.pointer (some ⟨16,118,none⟩),.pointer (some ⟨w.heap.size,0,none⟩),.int .u64 150] 163)).alloc (.cells #[.pointer (some e)] 113))
  (by rw [World.cell?_alloc_at _ _ _ _ (by simp)];rfl)
  (by rw [World.cell?_alloc_lt _ _ t (by simp;omega),World.cell?_alloc_lt _ _ t (by simp;omega),World.cell?_alloc_lt _ _ t (by simp;omega),World.cell?_alloc_lt _ _ t c];exact b)
  (by rw [World.frozen?_alloc_old _ _ t (by simp;omega),World.frozen?_alloc_old _ _ t (by simp;omega),World.frozen?_alloc_old _ _ t (by simp;omega),World.frozen?_alloc_old _ _ t (Nat.ne_of_lt c)];exact f)
 go_enter func43,ntmps43
 go_wp2;refine wp_loop_rounds 1 ?_;rw [rounds_succ];go_wp2;go_ret
 refine ⟨rfl,?_⟩;refine aJ.setCell (S:=fun k=>k=t.block) (p:=t) (aH ?_ _) (aG rfl) _;refine Below.alloc ?_ (by simp;omega) _;refine Below.alloc ?_ (by simp;omega) _;refine Below.alloc ?_ (by simp) _;exact Below.alloc (Below.refl _ w) (dF _) _
theorem WN (e:Value) (t:Addr) (d:Value) (w:World) (p:w.cell? ⟨1,0,none⟩=some (D6 59)) (b:1<w.heap.size) (c:w.cell? t=some d) (o:w.frozen? t=false) :
  Calls prog 43 #[.iface 196 e,.iface 118 (.pointer (some t))] w fun i w'=>i=.returned (.bool false)∧Below w.heap.size w w':=by
 have z:=@run_callFunc_extern prog 82 _ (fun a=>ReflectliteValue.unpack (a.getD 0 (.tuple #[]))) func82 (by kernel_rfl) (by kernel_rfl) (by kernel_rfl) (by kernel_rfl);have A:=@run_callFunc_extern prog 83 _ WI func83 (by kernel_rfl) (by kernel_rfl) (by kernel_rfl) (by kernel_rfl);have B:=@run_callFunc_extern prog 84 _ S2 func84 (by kernel_rfl) (by kernel_rfl) (by kernel_rfl) (by kernel_rfl);have k:=@run_callFunc_extern prog 166 _ SY func166 (by kernel_rfl) (by kernel_rfl) (by kernel_rfl) (by kernel_rfl);have m:=@run_callFunc_extern prog 194 _ WJ func194 (by kernel_rfl) (by kernel_rfl) (by kernel_rfl) (by kernel_rfl);have n:=@run_callFunc_extern prog 195 _ WK func195 (by kernel_rfl) (by kernel_rfl) (by kernel_rfl) (by kernel_rfl);have j:=@run_callFunc_extern prog 80 _ ReflectliteType.typeOf func80 (by kernel_rfl) (by kernel_rfl) (by kernel_rfl) (by kernel_rfl);have l:=@run_callFunc_extern prog 192 _ SZ func192 (by kernel_rfl) (by kernel_rfl) (by kernel_rfl) (by kernel_rfl);have I:=LH;have C:=qL;have f:=LJ;have H:=SX;have J:=JA;have L:=JB;have x:=AO;have y:=O3;have F:=s9;have D:=tA;have E:=tC;have v:=JC;have u:=JD;have g:=O4;have s:=O5;have r:t.block<w.heap.size:=by
  rcases Nat.lt_or_ge t.block w.heap.size with h|h
  ·exact h
  ·simp [World.cell?,Array.getElem?_eq_none h] at c
 have G:=JE ⟨w.heap.size,0,none⟩ t ((w.alloc (.cells #[.pointer (some t)] 118)).alloc (.cells #[.pointer (some ⟨16,118,none⟩),.pointer (some ⟨w.heap.size,0,none⟩),.int .u64 150] 163)) (by simp);have q:((w.alloc (.cells #[.pointer (some t)] 118)).alloc (.cells #[.pointer (some ⟨16,118,none⟩),.pointer (some ⟨w.heap.size,0,none⟩),.int .u64 150] 163)).cell? ⟨1,0,none⟩=some (D6 59):=by
  rw [World.cell?_alloc_lt _ _ ⟨1,0,none⟩ (by simp;omega),World.cell?_alloc_lt _ _ ⟨1,0,none⟩ b];exact p
 go_enter func43,ntmps43
 go_wp2;refine wp_loop_rounds 1 ?_;rw [rounds_succ];go_wp2;go_ret
 refine ⟨rfl,?_⟩;refine Below.alloc ?_ (by simp;omega) _;refine Below.alloc ?_ (by simp) _;exact Below.alloc (Below.refl _ w) (dF _) _
end Go.Proofs.YthapcchcahnfaaaGreatDoor
