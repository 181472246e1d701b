/- Part of the proof that laws.FnRawTokens returns true for every argument. No conditions. -/
import Derived.Test.YtdjdjbpnbjdaaaaGreatDoorP24
set_option linter.all false
set_option maxHeartbeats 8000000
set_option maxRecDepth 100000
namespace Go.Proofs.YtdjdjbpnbjdaaaaGreatDoor
open Go Go.RowKit Go.Extern.Stop Go.Stop Go.Extern Tryz
theorem a4W (v x:Value):ReflectliteValue.set #[v,x]=(do
  let (some (dst,a,fl),some (src,b,_)):=(←ReflectliteValue.parts v,←ReflectliteValue.parts x)
   | unsupported (.noEntry "extern/(internal/reflectlite.Value).Set.zeroValue")
  if fl / ReflectliteValue.flagAddr % 2==0 then unsupported (.noEntry "extern/(internal/reflectlite.Value).Set.unaddressable")
  let val ←loadVar src b
  if ←Rtype.directlyAssignable dst src then storeVar dst a val
  else if ←Rtype.implements dst src then
   if (←Rtype.kind src)==20 then
    match val with
    | .nilIface=>unsupported (.noEntry "extern/reflectlite: a nil value of one interface type handed on as a value of another")
    | _=>storeVar dst a val
   else storeVar dst a (.iface src val)
  else panicString ("reflectlite.Set: value of type " ++ (←Rtype.spelt src) ++ " is not assignable to type " ++ (←Rtype.spelt dst))
  pure (.tuple #[])):=rfl
theorem VW (a:Addr) (w:World):(ReflectliteValue.parts (.agg #[.pointer (some ⟨16,109,none⟩),.pointer (some a),.int .u64 406])).run prog w=.ok (some (109,a,406)) w:=by kernel_rfl
theorem Bt (a:Addr) (w:World):(ReflectliteValue.parts (.agg #[.pointer (some ⟨16,109,none⟩),.pointer (some a),.int .u64 150])).run prog w=.ok (some (109,a,150)) w:=by kernel_rfl
theorem Bu (w:World):(Rtype.directlyAssignable 109 109).run prog w=.ok true w:=by kernel_rfl
theorem a1m (ta b e:Addr) (old:Value) (W:World) (hb:W.cell? b=some (.pointer (some e))) (ht:W.cell? ta=some old) (hf:W.frozen? ta=false) :
  (ReflectliteValue.set #[.agg #[.pointer (some ⟨16,109,none⟩),.pointer (some ta),.int .u64 406],.agg #[.pointer (some ⟨16,109,none⟩),.pointer (some b),.int .u64 150]]).run prog W
   = .ok (.tuple #[]) (W.setCell ta (.pointer (some e))):=by
 rw [a4W]
 simp only [Sem.run_bind,VW,Bt,Result.andThen]
 simp [ReflectliteValue.flagAddr,loadVar,isAgg,underlying,underlying109,hb,Result.andThen,Bu,storeVar,Value.cells,storeCells,Addr.add]
 rw [run_store prog W ta _ _ (by rfl)]
 simp [ht,hf]
theorem Us (e t:Addr) (old:Value) (w:World) (hg:w.cell? ⟨1,0,none⟩=some (KR 49)) (FA:1<w.heap.size) (ht0:w.cell? t=some old) (hf0:w.frozen? t=false) :
  Calls prog 37 #[.iface 109 (.pointer (some e)),.iface 114 (.pointer (some t))] w fun ev w'=>ev=.returned (.bool true)∧aK (fun k=>k=t.block) w w':=by
 have h6:=@run_callFunc_extern prog 76 _ (fun args=>ReflectliteValue.unpack (args.getD 0 (.tuple #[]))) func76 (by kernel_rfl) (by kernel_rfl) (by kernel_rfl) (by kernel_rfl)
 have h7:=@run_callFunc_extern prog 77 _ Uo func77 (by kernel_rfl) (by kernel_rfl) (by kernel_rfl) (by kernel_rfl)
 have h8:=@run_callFunc_extern prog 78 _ Kl func78 (by kernel_rfl) (by kernel_rfl) (by kernel_rfl) (by kernel_rfl)
 have h27:=@run_callFunc_extern prog 160 _ Ki func160 (by kernel_rfl) (by kernel_rfl) (by kernel_rfl) (by kernel_rfl)
 have h37:=@run_callFunc_extern prog 188 _ Up func188 (by kernel_rfl) (by kernel_rfl) (by kernel_rfl) (by kernel_rfl)
 have FT:=@run_callFunc_extern prog 189 _ Uq func189 (by kernel_rfl) (by kernel_rfl) (by kernel_rfl) (by kernel_rfl)
 have gN:=@run_callFunc_extern prog 74 _ ReflectliteType.typeOf func74 (by kernel_rfl) (by kernel_rfl) (by kernel_rfl) (by kernel_rfl)
 have Ut:=@run_callFunc_extern prog 186 _ Kj func186 (by kernel_rfl) (by kernel_rfl) (by kernel_rfl) (by kernel_rfl)
 have h11:=@run_callFunc_extern prog 103 _ Ur func103 (by kernel_rfl) (by kernel_rfl) (by kernel_rfl) (by kernel_rfl)
 have E8:=@run_callFunc_extern prog 104 _ ReflectliteValue.set func104 (by kernel_rfl) (by kernel_rfl) (by kernel_rfl) (by kernel_rfl)
 have tO:=VS
 have mA:=uQ
 have a25:=VU
 have v25:=QU
 have f6:=GT
 have f7:=Bo
 have mK:=yE
 have mE:=yF
 have mI:=yG
 have k27:=S3
 have k25:=S4
 have e27:=Bp
 have i25:=Bq
 have Od:t.block<w.heap.size:=by
  rcases Nat.lt_or_ge t.block w.heap.size with h|h
  ·exact h
  ·simp [World.cell?,Array.getElem?_eq_none h] at ht0
 have n8:=S5 ⟨w.heap.size,0,none⟩ t ((w.alloc (.cells #[.pointer (some t)] 114)).alloc (.cells #[.pointer (some ⟨16,114,none⟩),.pointer (some ⟨w.heap.size,0,none⟩),.int .u64 150] 159)) (by simp)
 have CU:((w.alloc (.cells #[.pointer (some t)] 114)).alloc (.cells #[.pointer (some ⟨16,114,none⟩),.pointer (some ⟨w.heap.size,0,none⟩),.int .u64 150] 159)).cell? ⟨1,0,none⟩=some (KR 49):=by
  rw [World.cell?_alloc_lt _ _ ⟨1,0,none⟩ (by simp;omega),World.cell?_alloc_lt _ _ ⟨1,0,none⟩ FA];exact hg
 have el:=Km ⟨w.heap.size,0,none⟩ t (((w.alloc (.cells #[.pointer (some t)] 114)).alloc (.cells #[.pointer (some ⟨16,114,none⟩),.pointer (some ⟨w.heap.size,0,none⟩),.int .u64 150] 159)).alloc (.cells #[.pointer (some ⟨16,114,none⟩),.pointer (some ⟨w.heap.size,0,none⟩),.int .u64 150] 159)) (by rw [World.cell?_alloc_lt _ _ ⟨w.heap.size,0,none⟩ (by simp;omega)];simp)
 have st:=a1m t ⟨w.heap.size+1+1+1,0,none⟩ e old ((((w.alloc (.cells #[.pointer (some t)] 114)).alloc (.cells #[.pointer (some ⟨16,114,none⟩),.pointer (some ⟨w.heap.size,0,none⟩),.int .u64 150] 159)).alloc (.cells #[.pointer (some ⟨16,114,none⟩),.pointer (some ⟨w.heap.size,0,none⟩),.int .u64 150] 159)).alloc (.cells #[.pointer (some e)] 109))
  (by rw [World.cell?_alloc_at _ _ _ _ (by simp)];rfl)
  (by rw [World.cell?_alloc_lt _ _ t (by simp;omega),World.cell?_alloc_lt _ _ t (by simp;omega),World.cell?_alloc_lt _ _ t (by simp;omega),World.cell?_alloc_lt _ _ t Od];exact ht0)
  (by rw [World.frozen?_alloc_old _ _ t (by simp;omega),World.frozen?_alloc_old _ _ t (by simp;omega),World.frozen?_alloc_old _ _ t (by simp;omega),World.frozen?_alloc_old _ _ t (Nat.ne_of_lt Od)];exact hf0)
 go_enter func37,ntmps37
 go_wp2
 refine wp_loop_rounds 1 ?_
 rw [rounds_succ]
 go_wp2
 go_ret
 refine ⟨rfl,?_⟩
 refine aK.setCell (S:=fun k=>k=t.block) (p:=t) (aH ?_ _) (Or.inl rfl) _
 refine Below.alloc ?_ (by simp;omega) _
 refine Below.alloc ?_ (by simp;omega) _
 refine Below.alloc ?_ (by simp) _
 exact Below.alloc (Below.refl _ w) (Nat.le_refl _) _
theorem Uu (e:Value) (t:Addr) (old:Value) (w:World) (hg:w.cell? ⟨1,0,none⟩=some (KR 49)) (FA:1<w.heap.size) (ht0:w.cell? t=some old) (hf0:w.frozen? t=false) :
  Calls prog 37 #[.iface 192 e,.iface 114 (.pointer (some t))] w fun ev w'=>ev=.returned (.bool false)∧Below w.heap.size w w':=by
 have h6:=@run_callFunc_extern prog 76 _ (fun args=>ReflectliteValue.unpack (args.getD 0 (.tuple #[]))) func76 (by kernel_rfl) (by kernel_rfl) (by kernel_rfl) (by kernel_rfl)
 have h7:=@run_callFunc_extern prog 77 _ Uo func77 (by kernel_rfl) (by kernel_rfl) (by kernel_rfl) (by kernel_rfl)
 have h8:=@run_callFunc_extern prog 78 _ Kl func78 (by kernel_rfl) (by kernel_rfl) (by kernel_rfl) (by kernel_rfl)
 have h27:=@run_callFunc_extern prog 160 _ Ki func160 (by kernel_rfl) (by kernel_rfl) (by kernel_rfl) (by kernel_rfl)
 have h37:=@run_callFunc_extern prog 188 _ Up func188 (by kernel_rfl) (by kernel_rfl) (by kernel_rfl) (by kernel_rfl)
 have FT:=@run_callFunc_extern prog 189 _ Uq func189 (by kernel_rfl) (by kernel_rfl) (by kernel_rfl) (by kernel_rfl)
 have gN:=@run_callFunc_extern prog 74 _ ReflectliteType.typeOf func74 (by kernel_rfl) (by kernel_rfl) (by kernel_rfl) (by kernel_rfl)
 have Ut:=@run_callFunc_extern prog 186 _ Kj func186 (by kernel_rfl) (by kernel_rfl) (by kernel_rfl) (by kernel_rfl)
 have tO:=VT
 have mA:=uQ
 have a25:=VV
 have nE:=Kh
 have uE:=SZ
 have vE:=S2
 have f6:=GT
 have f7:=Bo
 have mK:=yE
 have mE:=yF
 have mI:=yG
 have k27:=S3
 have k25:=S4
 have e27:=Bp
 have i25:=Bq
 have Od:t.block<w.heap.size:=by
  rcases Nat.lt_or_ge t.block w.heap.size with h|h
  ·exact h
  ·simp [World.cell?,Array.getElem?_eq_none h] at ht0
 have n8:=S5 ⟨w.heap.size,0,none⟩ t ((w.alloc (.cells #[.pointer (some t)] 114)).alloc (.cells #[.pointer (some ⟨16,114,none⟩),.pointer (some ⟨w.heap.size,0,none⟩),.int .u64 150] 159)) (by simp)
 have CU:((w.alloc (.cells #[.pointer (some t)] 114)).alloc (.cells #[.pointer (some ⟨16,114,none⟩),.pointer (some ⟨w.heap.size,0,none⟩),.int .u64 150] 159)).cell? ⟨1,0,none⟩=some (KR 49):=by
  rw [World.cell?_alloc_lt _ _ ⟨1,0,none⟩ (by simp;omega),World.cell?_alloc_lt _ _ ⟨1,0,none⟩ FA];exact hg
 go_enter func37,ntmps37
 go_wp2
 refine wp_loop_rounds 1 ?_
 rw [rounds_succ]
 go_wp2
 go_ret
 refine ⟨rfl,?_⟩
 refine Below.alloc ?_ (by simp;omega) _
 refine Below.alloc ?_ (by simp) _
 exact Below.alloc (Below.refl _ w) (Nat.le_refl _) _
end Go.Proofs.YtdjdjbpnbjdaaaaGreatDoor
