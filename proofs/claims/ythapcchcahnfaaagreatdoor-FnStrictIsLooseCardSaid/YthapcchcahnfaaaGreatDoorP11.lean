/- Part of the proof that laws.FnStrictIsLoose, laws.FnUnclosed, laws.FnReaderFails, laws.FnWithin, laws.FnSkip returns true for every argument. No conditions. -/
import Derived.Test.YthapcchcahnfaaaGreatDoorP03
import Derived.Test.YthapcchcahnfaaaGreatDoorP04
import Derived.Shelf.Small.Strs
import Derived.Shelf.Strconv.Itoa0
import Derived.Shelf.LaysM
import Derived.Shelf.Bytes.Len
import Derived.Shelf.Bytes.TryGrow
import Derived.Shelf.Bytes.GrowSliceCatch
import Derived.Shelf.Bytes.GrowSlice
import Derived.Shelf.Bytes.GrowRow0
import Derived.Shelf.Bytes.GrowRow
import Derived.Shelf.Strings.Search1
import Derived.Shelf.Strings.Fold
import Derived.Shelf.Unicode.DecodeSlow
import Derived.Shelf.Unicode.DecodeAny
import Derived.Shelf.Unicode.Is16White
import Derived.Shelf.Unicode.CaseLookup
import Derived.Shelf.Unicode.CaseConvert
import Derived.Shelf.Unicode.Is16Any
import Derived.Shelf.Unicode.Is32Any
import Derived.Ground.GgnProg
import Derived.Shelf.Unicode.PredsGn
import Derived.Test.YthapcchcahnfaaaGreatDoorProg
import Derived.Deep.Quiet
import Derived.Deep.QuietTactic
import Derived.Deep.RegionHeld3
import Derived.NoCompiler
import Derived.OrdersHeld
set_option linter.all false
set_option maxHeartbeats 8000000
set_option maxRecDepth 100000
namespace Go.Proofs.YthapcchcahnfaaaGreatDoor
open Go Go.RowKit Tryz
theorem IK (x:Cx) (Y:x.Ok) (w:World) (W:Below x.B x.W0 w) (n:Nat) (s:ByteArray) (hs:s.toList.isEmpty=false) (g:Array Value) (C:aJ w x.rd (vM x s n) 56) (B:aJ w x.rb g 5) (S:g.size=4096)
   (R:s.size ≤ 1000000000) (hn:n ≤ 1000000000) (E:Int) (j:aJ w x.br (iT x 4096 4096 .nilIface E) 235) :
    Calls prog 187 #[.pointer (some ⟨x.br,0,none⟩)] w fun e w'=>e=.returned (.tuple #[])∧t7 x w s n g E w':=by
  have F:=j.cell;have hf:=j.frozen;have f:=Lib.hid Y;have V:=Lib.hid W;have J:=Lib.hid C;have I:=Lib.hid B;have H:=Lib.hid j;clear Y W C B j;have T:w.cell? ⟨x.br,0,none⟩=some (.slice (some ⟨x.rb,0,none⟩) 4096 4096):=F 0;have k2:w.cell? ⟨x.br,2,none⟩=some (.int .i64 4096):=F 2;have U:w.cell? ⟨x.br,3,none⟩=some (.int .i64 4096):=F 3;clear F;go_enter func187,ntmps187
  go_wp2
  go_region_held3 (fun w'=>w'.cell? ⟨x.br,0,none⟩=some (.slice (some ⟨x.rb,0,none⟩) 4096 4096)∧w'.cell? ⟨x.br,2,none⟩=some (.int .i64 4096)∧w'.cell? ⟨x.br,3,none⟩=some (.int .i64 4096))
    (go_keep)
    (first
      | (refine kT rfl (.tmp 13) (.tmp 26) 81 81 rfl 5 underlying81 qW _ _ _ _ _ _ rfl rfl (by simp) ?_))
  go_wp2;go_region
  go_wp2;go_quiet (fail);obtain ⟨w0,d⟩:∃ w0,w0=((w.setCell ⟨x.br,3,none⟩ (.int .i64 0)).setCell ⟨x.br,2,none⟩ (.int .i64 0)).drew.drew.drewN nq:=⟨_,rfl⟩;have u:aM (fun k=>k=x.br) w w0:=by
    rw [d];exact ((((aM.refl (fun k=>k=x.br) w).setCell (p:=⟨x.br,3,none⟩) (aH rfl) _).setCell (p:=⟨x.br,2,none⟩) (aH rfl) _).drew.drew.drewN nq)
  have b:aJ w0 x.br (iT x 0 0 .nilIface E) 235:=by
    rw [d];exact (H.out.set 3 _).set 2 _
  have D:w0.heap.size=w.heap.size:=by rw [d];simp [World.setCell]
  rw [show (((w.setCell ⟨x.br,3,none⟩ (.int .i64 0)).setCell ⟨x.br,2,none⟩ (.int .i64 0)).drew.drew.drewN nq)=w0 from d.symm];clear d hf T k2 U;have T:w0.cell? ⟨x.br,0,none⟩=some (.slice (some ⟨x.rb,0,none⟩) 4096 4096):=b.cell 0;have k1:w0.cell? ⟨x.br,1,none⟩=some (.iface 54 (.pointer (some ⟨x.rd,0,none⟩))):=b.cell 1;have U:w0.cell? ⟨x.br,3,none⟩=some (.int .i64 0):=b.cell 3;have t:=Lib.hid (J.out.mod u (fun h=>f.out.ne5 h.symm));have r:=Lib.hid (I.out.mod u (fun h=>f.out.ne4 h.symm));have y:=Lib.hid (fun k=>CZ x f.out (w0.drewN k) (bP (aM.below V.out V.out.size u (fun i hi=>by subst hi;exact f.out.br)) k) n s hs g t.out r.out S R hn);have q:=Lib.hid b;have L:=Lib.hid u;have M:=Lib.hid D;clear b u D;go_wp2;refine wp_loop_once ?_;go_wp2;have P:=fun a w=>oZ a w;have X:=fun a w=>sE a w
  go_region_held3 (fun w'=>w'.cell? ⟨x.br,0,none⟩=some (.slice (some ⟨x.rb,0,none⟩) 4096 4096)∧w'.cell? ⟨x.br,1,none⟩=some (.iface 54 (.pointer (some ⟨x.rd,0,none⟩)))∧w'.cell? ⟨x.br,3,none⟩=some (.int .i64 0))
    (first
      | go_keep
      | (go_split_ands
         have Q:=((show aJ (w0.drewN 1) x.br _ _ from q.out).mod o.mod (by intro h;rcases h with h|h;exact f.out.ne4 h;exact f.out.ne5 h)).cell;exact ⟨Q 0,Q 1,Q 3⟩))
    (first
      | (go_at_call 170;refine (y.out 1).mono ?_;rintro e w1 ⟨m,rfl,o⟩))
  have c:aJ w1 x.br (iT x 0 0 .nilIface E) 235:=(show aJ (w0.drewN 1) x.br _ _ from q.out).mod o.mod (by intro h;rcases h with h|h;exact f.out.ne4 h;exact f.out.ne5 h);have Z:=c.cell;have aA:=c.frozen;have G:=Lib.hid c;have l:=Lib.hid o;have aC:(m:Int) ≤ 4096:=by have:=o.m2;omega
  have aL:¬ ((m:Int) < 0):=by omega
  have a0:(0:Int) < (m:Int):=by have:=o.m1;omega
  clear c o T k1 U;go_wp2;(try simp only [Exit.inBlock,Exit.then]);refine bodyPost_ret (results_none rfl _ _ _) rfl ?_
  have v:aJ (w1.setCell ⟨x.br,3,none⟩ (.int .i64 m)) x.br (iT x 0 m .nilIface E) 235:=G.out.set 3 _;have z:x.rb ≠ x.br:=fun h=>f.out.ne4 h.symm;have A:x.rd ≠ x.br:=fun h=>f.out.ne5 h.symm;refine ⟨rfl,m,l.out.m1,l.out.m2,l.out.m3,v,l.out.row.set_ne z _,?_,?_,?_⟩
  · obtain ⟨n',N,O⟩:=l.out.rd
    exact ⟨n',N,O.set_ne A _⟩
  · have N:aM (fun k=>k=x.br ∨ k=x.rb ∨ k=x.rd) (w0.drewN 1) w1:=l.out.mod.mono (fun i _ h=>by rcases h with h|h <;> simp [h])
    have O:aM (fun k=>k=x.br ∨ k=x.rb ∨ k=x.rd) w (w0.drewN 1):=(L.out.mono (fun i _ h=>aH h)).drewN 1;exact (O.trans N (fun _ _ h=>h)).setCell (aH (aH rfl)) _
  · have:=l.out.size
    simp [World.setCell];rw [this];exact M.out
end Go.Proofs.YthapcchcahnfaaaGreatDoor
namespace Go.Proofs
open Go.Shelf Tryz
def Tryz.lays137_ren:Go.Shelf.Ren:=⟨fun|137=>106|217=>122|266=>136|n=>n,fun|9=>9|5=>5|3=>3|n=>n,fun|n=>n⟩
theorem Tryz.lays137:Go.Proofs.Lays.n137 prog Tryz.lays137_ren:={
 mixed:=by kernel_rfl
 f137:=func106.trans (congrArg some (by kernel_rfl))
 f217:=func122.trans (congrArg some (by kernel_rfl))
 f266:=func136.trans (congrArg some (by kernel_rfl))
 t3:=underlying3
 a3:=isAgg3
 z3:=sizeOf3
 v3:=zeroValue3
 t5:=underlying5
 a5:=isAgg5
 z5:=sizeOf5
 v5:=zeroValue5
 t9:=underlying9
 a9:=isAgg9
 z9:=sizeOf9
 v9:=zeroValue9 }
open Go.RowKit in
theorem Tryz.strings_IndexByte (s:ByteArray) (c:Int) (w:World) :
  Calls prog 106 #[.string s,.int .u8 c] w fun e w'=>e=.returned (.int .i64 (Lib.indexByte s.data.toList c.toNat.toUInt8))∧w'=w:=Any.strings_IndexByte Tryz.lays137 s c w
def Tryz.laysM290_ren:Go.Shelf.Ren:=⟨fun|290=>121|324=>135|n=>n,fun|37=>81|3=>3|0=>0|4=>4|20=>20|75=>59|5=>5|80=>133|9=>9|n=>n,fun|14=>2|n=>n⟩
theorem Tryz.laysM290:Go.Proofs.LaysM.n290 prog Tryz.laysM290_ren:={
 mixed:=by kernel_rfl
 f290:=func121.trans (congrArg some (by kernel_rfl))
 f324:=func135.trans (congrArg some (by kernel_rfl))
 t0:=underlying0
 a0:=isAgg0
 z0:=sizeOf0
 v0:=zeroValue0
 t3:=underlying3
 a3:=isAgg3
 z3:=sizeOf3
 v3:=zeroValue3
 t4:=underlying4
 a4:=isAgg4
 z4:=sizeOf4
 v4:=zeroValue4
 t20:=underlying20
 a20:=isAgg20
 z20:=sizeOf20
 v20:=zeroValue20
 t37:=underlying81
 a37:=isAgg81
 z37:=sizeOf81
 v37:=zeroValue81
 t75:=underlying59
 a75:=isAgg59
 z75:=sizeOf59
 v75:=zeroValue59
 g14:=by kernel_rfl
 t5:=underlying5
 a5:=isAgg5
 z5:=sizeOf5
 v5:=zeroValue5
 t9:=underlying9
 a9:=isAgg9
 z9:=sizeOf9
 v9:=zeroValue9
 t80:=underlying133
 a80:=isAgg133
 z80:=sizeOf133
 v80:=zeroValue133
 i0:=by kernel_rfl
 i3:=by kernel_rfl
 i4:=by kernel_rfl
 i5:=by kernel_rfl
 i9:=by kernel_rfl
 i20:=by kernel_rfl
 i37:=by kernel_rfl
 i75:=by kernel_rfl
 i80:=by kernel_rfl
 m14:=by kernel_rfl }
open Go.RowKit in
theorem Tryz.bytes_growSlice_row (g l c n:Nat) (d:Array Value) (w:World) (m:w.heap[g]?=some (.cells d 5 (0,0))) (i:d.size=c) (j:l≤c) (o:1≤n) (f:l+n≤140737488355328) (h:c≤140737488355328) (k:∀ v∈d.toList.take l,v.oneCell'=true) :
  Calls prog 121 #[.slice (some ⟨g,0,none⟩) l c,.int .i64 n] w fun e w'=>∃ b a,e=.returned (.slice (some ⟨w.heap.size,0,none⟩) l b)∧w'.heap[w.heap.size]?=some (.cells a 5 (0,0)) ∧
   a.size=b∧a.toList.take l=d.toList.take l∧l+n≤b∧b≤maxLen∧Below w.heap.size w w':=Any.bytes_growSlice_row Tryz.laysM290 g l c n d w m i j o f h k
def Tryz.lays164_ren:Go.Shelf.Ren:=⟨fun|164=>74|197=>107|239=>108|260=>123|274=>124|275=>125|n=>n,fun|9=>9|4=>4|3=>3|5=>5|0=>0|21=>21|105=>188|156=>225|49=>224|157=>226|46=>176|159=>228|162=>231|160=>229|119=>253|139=>256|138=>255|208=>260|51=>246|206=>258|n=>n,fun|11=>3|12=>4|13=>5|3=>6|4=>7|n=>n⟩
theorem Tryz.lays164:Go.Proofs.Lays.n164 prog Tryz.lays164_ren:={
 mixed:=by kernel_rfl
 f164:=func74.trans (congrArg some (by kernel_rfl))
 f197:=func107.trans (congrArg some (by kernel_rfl))
 f239:=func108.trans (congrArg some (by kernel_rfl))
 f260:=func123.trans (congrArg some (by kernel_rfl))
 f274:=func124.trans (congrArg some (by kernel_rfl))
 f275:=func125.trans (congrArg some (by kernel_rfl))
 t0:=underlying0
 a0:=isAgg0
 z0:=sizeOf0
 v0:=zeroValue0
 t3:=underlying3
 a3:=isAgg3
 z3:=sizeOf3
 v3:=zeroValue3
 t4:=underlying4
 a4:=isAgg4
 z4:=sizeOf4
 v4:=zeroValue4
 t5:=underlying5
 a5:=isAgg5
 z5:=sizeOf5
 v5:=zeroValue5
 t9:=underlying9
 a9:=isAgg9
 z9:=sizeOf9
 v9:=zeroValue9
 t21:=underlying21
 a21:=isAgg21
 z21:=sizeOf21
 v21:=zeroValue21
 t46:=underlying176
 a46:=isAgg176
 z46:=sizeOf176
 v46:=zeroValue176
 t49:=underlying224
 a49:=isAgg224
 z49:=sizeOf224
 v49:=zeroValue224
 t51:=underlying246
 a51:=isAgg246
 z51:=sizeOf246
 v51:=zeroValue246
 t105:=underlying188
 a105:=isAgg188
 z105:=sizeOf188
 v105:=zeroValue188
 t119:=underlying253
 a119:=isAgg253
 z119:=sizeOf253
 t138:=underlying255
 a138:=isAgg255
 z138:=sizeOf255
 v138:=zeroValue255
 t139:=underlying256
 a139:=isAgg256
 z139:=sizeOf256
 v139:=zeroValue256
 t156:=underlying225
 a156:=isAgg225
 z156:=sizeOf225
 t157:=underlying226
 a157:=isAgg226
 z157:=sizeOf226
 v157:=zeroValue226
 t159:=underlying228
 a159:=isAgg228
 z159:=sizeOf228
 v159:=zeroValue228
 t160:=underlying229
 a160:=isAgg229
 z160:=sizeOf229
 v160:=zeroValue229
 t162:=underlying231
 a162:=isAgg231
 z162:=sizeOf231
 v162:=zeroValue231
 t206:=underlying258
 a206:=isAgg258
 z206:=sizeOf258
 v206:=zeroValue258
 t208:=underlying260
 a208:=isAgg260
 z208:=sizeOf260
 v208:=zeroValue260
 g3:=by kernel_rfl
 g4:=by kernel_rfl
 g11:=by kernel_rfl
 g12:=by kernel_rfl
 g13:=by kernel_rfl }
open Go.RowKit Go.Lib in
theorem Tryz.strings_EqualFold (s t:ByteArray) (w:World) (d:s.size<4294967281) (a:∀ (j:Nat) b,s.data.toList[j]?=some b→b.toNat<128) (c:∀ (j:Nat) b,t.data.toList[j]?=some b→b.toNat<128) :
  Calls prog 74 #[.string s,.string t] w fun e w'=>e=.returned (.bool (Lib.equalFold s.data.toList t.data.toList))∧w'=w:=Any.strings_EqualFold Tryz.lays164 s t w d a c
def Tryz.lays197_ren:Go.Shelf.Ren:=⟨fun|197=>107|260=>123|n=>n,fun|9=>9|21=>21|3=>3|4=>4|5=>5|105=>188|119=>253|0=>0|46=>176|139=>256|138=>255|n=>n,fun|3=>6|4=>7|n=>n⟩
theorem Tryz.lays197:Go.Proofs.Lays.n197 prog Tryz.lays197_ren:={
 mixed:=by kernel_rfl
 f197:=func107.trans (congrArg some (by kernel_rfl))
 f260:=func123.trans (congrArg some (by kernel_rfl))
 t0:=underlying0
 a0:=isAgg0
 z0:=sizeOf0
 v0:=zeroValue0
 t3:=underlying3
 a3:=isAgg3
 z3:=sizeOf3
 v3:=zeroValue3
 t4:=underlying4
 a4:=isAgg4
 z4:=sizeOf4
 v4:=zeroValue4
 t5:=underlying5
 a5:=isAgg5
 z5:=sizeOf5
 v5:=zeroValue5
 t9:=underlying9
 a9:=isAgg9
 z9:=sizeOf9
 v9:=zeroValue9
 t21:=underlying21
 a21:=isAgg21
 z21:=sizeOf21
 v21:=zeroValue21
 t46:=underlying176
 a46:=isAgg176
 z46:=sizeOf176
 v46:=zeroValue176
 t105:=underlying188
 a105:=isAgg188
 z105:=sizeOf188
 v105:=zeroValue188
 t119:=underlying253
 a119:=isAgg253
 z119:=sizeOf253
 t138:=underlying255
 a138:=isAgg255
 z138:=sizeOf255
 v138:=zeroValue255
 t139:=underlying256
 a139:=isAgg256
 z139:=sizeOf256
 v139:=zeroValue256
 g3:=by kernel_rfl
 g4:=by kernel_rfl }
open Go.RowKit Go.Lib in
theorem Tryz.utf8_DecodeRuneInString (s:ByteArray) (w:World) (a:Lib.Utf8Tabs 6 7 w) :
  Calls prog 107 #[.string s] w fun e w'=>e=.returned (.tuple #[.int .i32 (Lib.decodeGo s).1,.int .i64 (Lib.decodeGo s).2])∧Below w.heap.size w w':=Any.utf8_DecodeRuneInString Tryz.lays197 s w a
def Tryz.laysGn14_ren:Go.Shelf.Ren:=⟨fun|14=>117|25=>133|26=>134|n=>n,fun|22=>221|21=>21|4=>4|0=>0|31=>245|28=>242|3=>3|32=>246|35=>248|33=>224|29=>243|38=>251|41=>264|42=>176|43=>265|n=>n,fun|n=>n⟩
theorem Tryz.laysGn14:Go.Proofs.LaysGn.n14 prog Tryz.laysGn14_ren:={
 mixed:=by kernel_rfl
 f14:=func117.trans (congrArg some (by kernel_rfl))
 f25:=func133.trans (congrArg some (by kernel_rfl))
 f26:=func134.trans (congrArg some (by kernel_rfl))
 t0:=underlying0
 a0:=isAgg0
 z0:=sizeOf0
 v0:=zeroValue0
 i0:=by kernel_rfl
 t3:=underlying3
 a3:=isAgg3
 z3:=sizeOf3
 v3:=zeroValue3
 i3:=by kernel_rfl
 t4:=underlying4
 a4:=isAgg4
 z4:=sizeOf4
 v4:=zeroValue4
 i4:=by kernel_rfl
 t21:=underlying21
 a21:=isAgg21
 z21:=sizeOf21
 v21:=zeroValue21
 i21:=by kernel_rfl
 t22:=underlying221
 a22:=isAgg221
 z22:=sizeOf221
 v22:=zeroValue221
 i22:=by kernel_rfl
 t28:=underlying242
 a28:=isAgg242
 z28:=sizeOf242
 v28:=zeroValue242
 i28:=by kernel_rfl
 t29:=underlying243
 a29:=isAgg243
 z29:=sizeOf243
 v29:=zeroValue243
 i29:=by kernel_rfl
 t31:=underlying245
 a31:=isAgg245
 z31:=sizeOf245
 v31:=zeroValue245
 i31:=by kernel_rfl
 t32:=underlying246
 a32:=isAgg246
 z32:=sizeOf246
 v32:=zeroValue246
 i32:=by kernel_rfl
 t33:=underlying224
 a33:=isAgg224
 z33:=sizeOf224
 v33:=zeroValue224
 i33:=by kernel_rfl
 t35:=underlying248
 a35:=isAgg248
 z35:=sizeOf248
 v35:=zeroValue248
 i35:=by kernel_rfl
 t38:=underlying251
 a38:=isAgg251
 z38:=sizeOf251
 v38:=zeroValue251
 i38:=by kernel_rfl
 t41:=underlying264
 a41:=isAgg264
 z41:=sizeOf264
 v41:=zeroValue264
 i41:=by kernel_rfl
 t42:=underlying176
 a42:=isAgg176
 z42:=sizeOf176
 v42:=zeroValue176
 i42:=by kernel_rfl
 t43:=underlying265
 a43:=isAgg265
 z43:=sizeOf265
 v43:=zeroValue265
 i43:=by kernel_rfl }
open Go.RowKit Go.Lib in
theorem Tryz.unicode_Is_any (a f:Nat) (T:RTab) (r:Int) (w:World) (c:-2147483648≤r) (b:r≤2147483647) (g:RTabAt a f T w) (d:RTabOk T) :
  Calls prog 117 #[.pointer (some ⟨a,f,none⟩),.int .i32 r] w fun e w'=>e=.returned (.bool (isGo T r))∧Below w.heap.size w w':=Any.unicode_Is_any Tryz.laysGn14 a f T r w c b g d
end Go.Proofs
namespace Go.Proofs.YthapcchcahnfaaaGreatDoor
open Go Tryz
section
variable {P:Program} {ops:Array Oper} {md:Region.Mode} {L:List Nat}
theorem nU {a:Array Bool} {i:Nat} (h:a.getD i true=false):a.getD i false=false:=by
 rcases Nat.lt_or_ge i a.size with h'|h'
 ·simp [h'] at h ⊢;exact h
 ·simp [Array.getElem?_eq_none h'] at h
def l8 (w:World) (v:Value):Result Next→Prop
 | .ok (.value u) w'=>w'=w∧u=v
 | _=>False
def tH (P:Program) (o:Oper) (a:Act) (w:World) (v:Value):Prop:=l8 w v ((execOp a.eval o).run P w)
def IL (P:Program) (o:Oper) (a:Act) (next:Act→Prop):Prop:=∃ v,(∀ w,tH P o a w v)∧next (a.put o.dst v)
attribute [go_sem] l8 tH IL
def KR (P:Program) (ops:Array Oper) (L:List Nat) (Q:Exit→Act→World→Prop) (i:Nat) (K:Act→(World→Prop)→Prop) (a:Act) (C:World→Prop):Prop:=
 match ops[i]? with
 | none=>False
 | some o=>match L.getD i 2 with
  | 0=>∃ v,Yields P ops o v a∧K (a.put o.dst v) C
  | 1=>∃ v,YieldsIn P ops C o v a∧K (a.put o.dst v) C
  | _=>∀ w,C w→wpOp P ops Q i (fun c w'=>∃ b,b w'∧K c b) a w
theorem PR {Q:Exit→Act→World→Prop} {i:Nat} {K f:Act→(World→Prop)→Prop} {a:Act} {C:World→Prop} (h:∀ a C,K a C→f a C) (c:KR P ops L Q i K a C):KR P ops L Q i f a C:=by
 unfold KR at *;split
 ·simp_all
 ·rename_i o g;simp only [g] at c;split
  ·rename_i d;simp only [d] at c;obtain ⟨v,b,e⟩:=c;exact ⟨v,b,h _ _ e⟩
  ·rename_i d;simp only [d] at c;obtain ⟨v,b,e⟩:=c;exact ⟨v,b,h _ _ e⟩
  ·rename_i d b;split at c
   ·exact absurd (by assumption) d
   ·exact absurd (by assumption) b
   ·exact fun w j=>wpOp_mono (fun a' w' ⟨C',b,e⟩=>⟨C',b,h _ _ e⟩) (c w j)
def pS (P:Program) (md:Region.Mode) (ops:Array Oper) (L:List Nat) (Q:Exit→Act→World→Prop):Nat→Array Bool→Act→(World→Prop)→Prop
 | 0,listed,a,C=>Region.ready md ops listed=[]∧∀ w,C w→Q .normal a w
 | fuel+1,listed,a,C=>
  (Region.ready md ops listed=[]→∀ w,C w→Q .normal a w) ∧
  ∀ i∈Region.ready md ops listed,KR P ops L Q i (pS P md ops L Q fuel (listed.setIfInBounds i true)) a C
theorem pT {Q:Exit→Act→World→Prop}:∀ (b:Nat) (c:Array Bool) (a:Act) (C:World→Prop) (w:World),C w→pS P md ops L Q b c a C→wpAny P md ops Q b c a w
 | 0,_,_,_,w,e,h=>⟨h.1,h.2 w e⟩
 | b+1,_,_,C,w,e,h=>⟨fun m=>h.1 m w e,fun i p=>by
  have d:=h.2 i p;unfold KR at d;split at d
  ·exact d.elim
  ·rename_i o k;split at d
   ·obtain ⟨v,j,hK⟩:=d;exact j.wpOp k (pT b _ _ C w e hK)
   ·obtain ⟨v,j,hK⟩:=d;exact wpOp_of_qOp (C:=C) (K:=fun f=>pS P md ops L Q b _ f C) e (fun f w' g l=>pT b _ _ C w' g l) (j.qOp k hK)
   ·exact wpOp_mono (fun f w' ⟨C',d,n⟩=>pT b _ _ C' w' d n) (d w e)⟩
structure nV (md:Region.Mode) (ops:Array Oper) (L:List Nat) (i:Nat) (wt:Nat→Bool) (a:Array Bool):Prop where
 out:∀ j,wt j=true→a.getD j false=false
 cov:∀ j,j≠i→a.getD j true=false→2≤L.getD j 2→wt j=true
def m6 (md:Region.Mode) (ops:Array Oper) (i:Nat) (b:Nat→Bool):Prop:=∀ j,b j=true→∃ a,ops[j]?=some a∧∃ e∈a.after,Region.binds md e=true∧(e.on=i∨b e.on=true)
theorem nV.not_ready {i j:Nat} {f:Nat→Bool} {a:Array Bool} (q:m6 md ops i f) (h:nV md ops L i f a) (n:a.getD i true=false) (p:j∈Region.ready md ops a):f j=false:=by
 cases r:f j with
 | false=>rfl
 | true=>
  obtain ⟨s,k,e,m,l,c⟩:=q j r;obtain ⟨_,o,g,b⟩:=mem_ready.1 p;have:o=s:=Option.some.inj (g.symm.trans k);subst this;have d:=b e m l;rcases c with c|c
  ·rw [c,nU n] at d;cases d
  ·rw [h.out _ c] at d;cases d
theorem nV.set {i j:Nat} {f:Nat→Bool} {a:Array Bool} (h:nV md ops L i f a) (g:f j=false):nV md ops L i f (a.setIfInBounds j true):=by
 refine ⟨fun k c=>?_,fun k c d l=>?_⟩
 ·have:j≠k:=fun e=>by subst e;rw [g] at c;cases c
  rw [getD_set_ne false this];exact h.out k c
 ·by_cases b:j=k
  ·subst b;rcases Nat.lt_or_ge j a.size with h'|h'
   ·simp [h'] at d
   ·simp at d
  ·rw [getD_set_ne true b] at d;exact h.cov k c d l
theorem uF {Q:Exit→Act→World→Prop} {i:Nat} {l:Oper} {v:Value} (hi:ops[i]?=some l) (G:∀ (j:Nat) (o:Oper) cs b,ops[j]?=some o→o.op≠.select cs b)
  (hQ:∀ c a w,Q (.panic c) (a.put l.dst v) w→Q (.panic c) a w) (wt:Nat→Bool) (aA:L.getD i 2=1→m6 md ops i wt) (p:L.getD i 2=0∨L.getD i 2=1) :
  ∀ (f:Nat) (d:Array Bool) (a:Act) (C:World→Prop),
   (∀ j n,ops[j]?=some n→j≠i→d.getD j true=false→(∀ e∈n.after,Region.binds md e=true→e.on≠i)→l.apart ops n=true) →
   (L.getD i 2=1→nV md ops L i wt d) →
   i∈Region.ready md ops d→(L.getD i 2=0→Yields P ops l v a)→(L.getD i 2=1→YieldsIn P ops C l v a) →
   pS P md ops L Q f (d.setIfInBounds i true) (a.put l.dst v) C→pS P md ops L Q (f+1) d a C:=by
 intro f
 have I:∀ (f:Nat) (d:Array Bool) (a:Act) (C:World→Prop),(L.getD i 2=0→Yields P ops l v a)→(L.getD i 2=1→YieldsIn P ops C l v a) →
   pS P md ops L Q f (d.setIfInBounds i true) (a.put l.dst v) C→KR P ops L Q i (pS P md ops L Q f (d.setIfInBounds i true)) a C:=by
  intro f d a C E z H;unfold KR;simp only [hi];rcases p with p|p
  ·simp only [p];exact ⟨v,E p,H⟩
  ·simp only [p];exact ⟨v,z p,H⟩
 induction f with
 | zero=>
  intro d a C _ _ M E z H;refine ⟨fun h=>(by rw [h] at M;cases M),fun j S=>?_⟩;by_cases g:j=i
  ·subst g;exact I _ _ _ _ E z H
  ·have:=ready_mono S g;rw [H.1] at this;cases this
 | succ f ih=>
  intro d a C q B M E z H;refine ⟨fun h=>(by rw [h] at M;cases M),fun j S=>?_⟩;by_cases g:j=i
  ·subst g;exact I _ _ _ _ E z H
  ·have F:=H.2 j (ready_mono S g);obtain ⟨s,n,A,T⟩:=mem_ready.1 S;have r:=(mem_ready.1 M).1;have Y:∀ e∈n.after,Region.binds md e=true→e.on≠i:=fun e he hb aL=>by
    have z:=T e he hb;rw [aL,nU r] at z;cases z
   have U:=q j n A g s Y
   have m:∀ k ok,ops[k]?=some ok→k≠i→(d.setIfInBounds j true).getD k true=false →
     (∀ e∈ok.after,Region.binds md e=true→e.on≠i)→l.apart ops ok=true:=fun k ok hk a0 Z a1=>by
    refine q k ok hk a0 ?_ a1;by_cases X:j=k
    ·subst X;exact s
    ·rw [getD_set_ne true X] at Z;exact Z
   have t:L.getD i 2=1→nV md ops L i wt (d.setIfInBounds j true):=fun h=>(B h).set ((B h).not_ready (aA h) r S);have N:=ready_mono M (Ne.symm g);obtain ⟨p1,p2,p3⟩:=Oper.apart_spec U;have O:=fun cs b=>G i l cs b hi;have R:=fun cs b=>G j n cs b A;have x:∀ (a:Act),(L.getD i 2=0→Yields P ops l v a)→∀ u,(L.getD i 2=0→Yields P ops l v (a.put n.dst u)):=fun a D u h=>
    (D h).of_same (execOp_put l O a n.dst u p3) (wanted_put l a n.dst u p3)
   have y:∀ (a:Act),(L.getD i 2=1→YieldsIn P ops C l v a)→∀ u,(L.getD i 2=1→YieldsIn P ops C l v (a.put n.dst u)):=fun a D u h=>
    (D h).of_same (execOp_put l O a n.dst u p3) (wanted_put l a n.dst u p3)
   unfold KR at F ⊢;simp only [A] at F ⊢;split
   ·rename_i J;simp only [J] at F;obtain ⟨u,D,hK⟩:=F;refine ⟨u,D.of_same (execOp_put n R a l.dst v p1).symm (wanted_put n a l.dst v p1).symm,ih _ _ _ m t N (x a E u) (y a z u) ?_⟩;rw [Array.setIfInBounds_comm _ _ g,←Act.put_comm a v u p2];exact hK
   ·rename_i J;simp only [J] at F;obtain ⟨u,D,hK⟩:=F;refine ⟨u,D.of_same (execOp_put n R a l.dst v p1).symm (wanted_put n a l.dst v p1).symm,ih _ _ _ m t N (x a E u) (y a z u) ?_⟩;rw [Array.setIfInBounds_comm _ _ g,←Act.put_comm a v u p2];exact hK
   ·rename_i V W;rcases p with p|p
    ·split at F
     ·exact absurd (by assumption) V
     ·exact absurd (by assumption) W
     ·intro w hw;have h2:=wpOp_put A U O R hQ (E p) (F w hw);refine wpOp_mono (fun a' w' h3=>?_) h2;obtain ⟨D,C',aC,hK⟩:=h3;refine ⟨C',aC,ih _ _ _ m t N (fun _=>D) (fun h=>by rw [p] at h;cases h) ?_⟩;rw [Array.setIfInBounds_comm _ _ g];exact hK
    ·have h2:=(B p).not_ready (aA p) r S;rw [(B p).cov j g s (by
      rcases Nat.lt_or_ge (L.getD j 2) 2 with hl|hl
      ·have:L.getD j 2=0∨L.getD j 2=1:=by omega
       rcases this with h|h
       ·exact absurd h V
       ·exact absurd h W
      ·exact hl)] at h2
     cases h2
def lW (md:Region.Mode) (ops:Array Oper) (i:Nat):Array Bool:=
 ops.foldl (fun acc o=>acc.push (o.after.any fun e=>Region.binds md e&&(e.on==i||acc.getD e.on false))) #[]
def IM (md:Region.Mode) (ops:Array Oper) (L:List Nat) (a:Array Bool) (i:Nat):Bool:=
 let wt:=lW md ops i
 decide (wt.size=ops.size)&&(List.range ops.size).all fun j=>
  (j==i||a.getD j true||decide (L.getD j 2<2)||wt.getD j false) &&
  (!wt.getD j false||(!a.getD j false&&match ops[j]? with
   | some oj=>oj.after.any fun e=>Region.binds md e&&(e.on==i||wt.getD e.on false)
   | none=>false))
theorem EZ {a:Array Bool} {i:Nat} (r:a.size=ops.size) (h:IM md ops L a i=true):m6 md ops i (fun j=>(lW md ops i).getD j false)∧nV md ops L i (fun j=>(lW md ops i).getD j false) a:=by
 simp only [IM,Bool.and_eq_true,decide_eq_true_eq,List.all_eq_true,List.mem_range] at h;obtain ⟨q,h⟩:=h;have f:∀ j,(lW md ops i).getD j false=true→j<ops.size:=fun j c=>by
  rcases Nat.lt_or_ge j (lW md ops i).size with h'|h'
  ·omega
  ·simp [Array.getElem?_eq_none h'] at c
 refine ⟨fun j c=>?_,fun j c=>?_,fun j l d p=>?_⟩
 ·have b:=(h j (f j c)).2;simp only [c,Bool.not_true,Bool.false_or,Bool.and_eq_true] at b;have g:=b.2;split at g
  ·rename_i o m;obtain ⟨e,n,k⟩:=Array.any_eq_true'.1 g;simp only [Bool.and_eq_true,Bool.or_eq_true,beq_iff_eq] at k;exact ⟨o,m,e,n,k.1,k.2⟩
  ·cases g
 ·have b:=(h j (f j c)).2;simp only [c,Bool.not_true,Bool.false_or,Bool.and_eq_true,Bool.not_eq_true'] at b;exact b.1
 ·have c:j<ops.size:=by
   rcases Nat.lt_or_ge j a.size with h'|h'
   ·omega
   ·simp [Array.getElem?_eq_none h'] at d
  have b:=(h j c).1;simp only [Bool.or_eq_true,beq_iff_eq,l,d,decide_eq_true_eq] at b;rcases b with ((b|b)|b)|b
  ·exact b.elim
  ·cases b
  ·omega
  ·exact b
def vY (md:Region.Mode) (ops:Array Oper) (L:List Nat):List Nat→Array Bool→Bool
 | [],listed=>(Region.ready md ops listed).isEmpty
 | k::π,listed=>(Region.ready md ops listed).contains k&&(match L.getD k 2 with
   | 0=>Region.free md ops listed k
   | 1=>Region.free md ops listed k&&IM md ops L listed k
   | _=>Region.ready md ops listed==[k])&&vY md ops L π (listed.setIfInBounds k true)
def sW (P:Program) (ops:Array Oper) (L:List Nat) (Q:Exit→Act→World→Prop):List Nat→Act→(World→Prop)→Prop
 | [],a,C=>∀ w,C w→Q .normal a w
 | k::π,a,C=>KR P ops L Q k (sW P ops L Q π) a C
theorem BR {Q:Exit→Act→World→Prop} (s:Region.noSelect ops=true) (r:∀ c a w,¬ Q (.panic c) a w):∀ (π:List Nat) (b:Array Bool) (a:Act) (C:World→Prop),b.size=ops.size →
  vY md ops L π b=true→sW P ops L Q π a C→pS P md ops L Q π.length b a C
 | [],_,_,_,_,n,h=>⟨by simpa [vY] using n,h⟩
 | k::π,b,a,C,z,n,h=>by
  simp only [vY,Bool.and_eq_true] at n;obtain ⟨⟨F,g⟩,q⟩:=n;have l:k∈Region.ready md ops b:=by simpa using F
  have u:(b.setIfInBounds k true).size=ops.size:=by simpa using z
  have m:=fun B A=>BR s r π (b.setIfInBounds k true) B A u q;have x:KR P ops L Q k (pS P md ops L Q π.length (b.setIfInBounds k true)) a C:=PR m h;have j:=x;unfold KR at j;split at j
  ·exact j.elim
  ·rename_i o p;split at j
   ·rename_i e;simp only [e] at g;obtain ⟨v,t,hK⟩:=j
    exact uF p (Region.noSelect_spec s) (fun c a w d=>(r _ _ _ d).elim) (fun _=>false) (fun d=>by rw [e] at d;cases d) (.inl e) _ _ _ _ (Region.free_spec p g)
     (fun d=>by rw [e] at d;cases d) l (fun _=>t) (fun d=>by rw [e] at d;cases d) hK
   ·rename_i e;simp only [e,Bool.and_eq_true] at g;obtain ⟨v,t,hK⟩:=j;obtain ⟨w1,G⟩:=EZ z g.2
    exact uF p (Region.noSelect_spec s) (fun c a w d=>(r _ _ _ d).elim) _ (fun _=>w1) (.inr e) _ _ _ _ (Region.free_spec p g.1)
     (fun _=>G) l (fun d=>by rw [e] at d;cases d) (fun _=>t) hK
   ·rename_i D E;have f:Region.ready md ops b=[k]:=by
     split at g
     ·exact absurd (by assumption) D
     ·exact absurd (by assumption) E
     ·simpa using g
    refine ⟨fun d=>(by rw [f] at d;cases d),fun i y=>?_⟩;rw [f] at y;have:i=k:=by simpa using y
    subst this;exact x
theorem DA {k:Nat} {Q:Exit→Act→World→Prop} {a:Act} {w:World} {l:List Oper} (L π:List Nat) (g:P.follows .mixedOrders=true)
  (b:(Region.noSelect l.toArray&&vY .any l.toArray L π (Array.replicate l.length false)&&π.length==l.length)=true)
  (h:sW P l.toArray L (NoPanic Q) π a (fun w'=>∃ n,w'=w.drewN n)):(Code.region k l.toArray true).wp P Q a w:=by
 simp only [Bool.and_eq_true,beq_iff_eq] at b;obtain ⟨⟨j,i⟩,f⟩:=b;refine wp_region_noPanic (wp_region_any g ?_);have:=BR (md:=.any) j (fun c a w e=>e) π (Array.replicate l.length false) a _ (by simp) i h;rw [f] at this;have d:=pT (md:=.any) _ _ _ _ { w with drawn:=w.drawn+1 } ⟨1,rfl⟩ this;simpa using d
theorem PS {Q:Exit→Act→World→Prop} {a:Act} {w:World} (h:∀ n,Q .normal a (w.drewN n)):sW P ops L (NoPanic Q) [] a (fun w'=>∃ n,w'=w.drewN n):=by
 rintro _ ⟨n,rfl⟩;exact NoPanic.normal (h n)
theorem MF {Q:Exit→Act→World→Prop} {a:Act} {C:World→Prop} {k:Nat} {π:List Nat} {o:Oper} (i:ops[k]?=some o) (g:L.getD k 2=0)
  (h:∀ K:Act→Prop,(∀ a,sW P ops L Q π a C→K a)→if Region.wanted o (yielded ops a.tmps) then IL P o a K else K (a.put o.dst undef)):sW P ops L Q (k::π) a C:=by
 have:=h (fun d=>sW P ops L Q π d C) (fun _ h=>h);simp only [sW,KR,i,g];split at this
 ·rename_i c;obtain ⟨v,e,f⟩:=this;refine ⟨v,.inl ⟨c,fun w=>?_⟩,f⟩;have b:=e w;unfold tH at b;generalize (execOp a.eval o).run P w=r at *;cases r with
  | ok n w'=>cases n<;>simp only [l8] at b;rw [b.1,b.2]
  | halt x w'=>simp only [l8] at b
 ·rename_i c;exact ⟨undef,.inr ⟨by simpa using c,rfl⟩,this⟩
theorem IN {Q:Exit→Act→World→Prop} {a:Act} {C:World→Prop} {k:Nat} {π:List Nat} {o:Oper} (g:ops[k]?=some o) (f:L.getD k 2=1)
  (h:∀ K:Act→Prop,(∀ a,sW P ops L Q π a C→K a)→if Region.wanted o (yielded ops a.tmps) then o.quiet P a C K else K (a.put o.dst undef)):sW P ops L Q (k::π) a C:=by
 have:=h (fun c=>sW P ops L Q π c C) (fun _ h=>h);simp only [sW,KR,g,f];split at this
 ·rename_i b;obtain ⟨v,d,e⟩:=this;exact ⟨v,.inl ⟨b,d⟩,e⟩
 ·rename_i b;exact ⟨undef,.inr ⟨by simpa using b,rfl⟩,this⟩
theorem bK {Q:Exit→Act→World→Prop} {a:Act} {w:World} {k:Nat} {π:List Nat} {o:Oper} (d:ops[k]?=some o) (g:L.getD k 2=2)
  (h:∀ (n:Nat) (K:Act→World→Prop),Shut (∀ c w',sW P ops L Q π c (fun b=>∃ n,b=w'.drewN n)→K c w')→if Region.wanted o (yielded ops a.tmps)=true then Oper.wp P o a (w.drewN n) K Q else K (a.put o.dst undef) (w.drewN n)) :
  sW P ops L Q (k::π) a (fun w'=>∃ n,w'=w.drewN n):=by
 simp only [sW,KR,d,g];rintro _ ⟨n,rfl⟩;refine wpOp_mono (fun c w' f=>⟨fun b=>∃ n,b=w'.drewN n,⟨0,rfl⟩,f⟩) (wpOp_step d fun e hK=>h n e hK)
end
theorem lX {P:Program} {b:Nat} {Q:Exit→Act→World→Prop} {a:Act} {w:World} {l:List Oper} (L π:List Nat) (h:sW P l.toArray L (NoPanic Q) π a (fun w'=>∃ n,w'=w.drewN n)) (H:P.follows .mixedOrders=true ∧ (Region.noSelect l.toArray&&vY .any l.toArray L π (Array.replicate l.length false)&&π.length==l.length)=true:=by exact ⟨by kernel_rfl,by kernel_rfl⟩):(Code.region b l.toArray true).wp P Q a w:=DA L π H.1 H.2 h
theorem vP {p q:Prop} (h:q) (H:Et p q:=by constructor;intro hEnd;replace hEnd:=Lib.hid hEnd;(repeat (first|(with_reducible refine PS (fun nz=>?_))|((with_reducible refine MF rfl rfl (fun K hK=>?_));go_simp;refine hK _ ?_;clear hK K)|((with_reducible refine IN rfl rfl (fun K hK=>?_));go_simp;refine hK _ ?_;clear hK K)|((with_reducible refine bK rfl rfl (fun nz K hK=>?_));go_simp;refine hK.out _ _ ?_;clear hK K)));(repeat revert nz);exact hEnd.out):p:=H.of h
end Go.Proofs.YthapcchcahnfaaaGreatDoor
namespace Go.Proofs.YthapcchcahnfaaaGreatDoor
open Go Tryz
section
variable {P:Program} {ops:Array Oper} {md:Region.Mode} {L:List Nat} {D:World→Prop}
def E0 (P:Program) (ops:Array Oper) (L:List Nat) (D:World→Prop) (Q:Exit→Act→World→Prop) (i:Nat) (K:Act→World→Prop) (a:Act) (w:World):Prop:=
 match ops[i]? with
 | none=>False
 | some o=>match L.getD i 2 with
  | 0=>∃ v,Yields P ops o v a∧K (a.put o.dst v) w
  | 1=>D w∧∃ v,YieldsIf P ops D o v a∧K (a.put o.dst v) w
  | 2=>wpOp P ops Q i K a w
  | _=>wpOp P ops Q i (fun b w'=>D w'∧K b w') a w
theorem yZ {Q:Exit→Act→World→Prop} {i:Nat} {K e:Act→World→Prop} {a:Act} {w:World} (h:∀ a w,K a w→e a w) (b:E0 P ops L D Q i K a w):E0 P ops L D Q i e a w:=by
 unfold E0 at *;split
 ·simp_all
 ·rename_i o j;simp only [j] at b;split at b
  ·obtain ⟨v,c,d⟩:=b;exact ⟨v,c,h _ _ d⟩
  ·obtain ⟨g,v,c,d⟩:=b;exact ⟨g,v,c,h _ _ d⟩
  ·exact wpOp_mono h b
  ·exact wpOp_mono (fun k w' f=>⟨f.1,h _ _ f.2⟩) b
def pU (P:Program) (md:Region.Mode) (ops:Array Oper) (L:List Nat) (D:World→Prop) (Q:Exit→Act→World→Prop):Nat→Array Bool→Act→World→Prop
 | 0,listed,a,w=>Region.ready md ops listed=[]∧Q .normal a w
 | fuel+1,listed,a,w=>
  (Region.ready md ops listed=[]→Q .normal a w) ∧
  ∀ i∈Region.ready md ops listed,E0 P ops L D Q i (pU P md ops L D Q fuel (listed.setIfInBounds i true)) a w
theorem nH {Q:Exit→Act→World→Prop}:∀ (b:Nat) (c:Array Bool) (a:Act) (w:World),pU P md ops L D Q b c a w→wpAny P md ops Q b c a w
 | 0,_,_,_,h=>h
 | b+1,_,_,w,h=>⟨h.1,fun i l=>by
  have d:=h.2 i l;unfold E0 at d;split at d
  ·exact d.elim
  ·rename_i o g;split at d
   ·obtain ⟨v,f,hK⟩:=d;exact f.wpOp g (nH b _ _ w hK)
   ·obtain ⟨k,v,f,hK⟩:=d;exact f.wpOp g k (nH b _ _ w hK)
   ·exact wpOp_mono (fun j w' e=>nH b _ _ w' e) d
   ·exact wpOp_mono (fun j w' e=>nH b _ _ w' e.2) d⟩
structure wX (md:Region.Mode) (ops:Array Oper) (L:List Nat) (i:Nat) (wt:Nat→Bool) (a:Array Bool):Prop where
 out:∀ j,wt j=true→a.getD j false=false
 cov:∀ j,j≠i→a.getD j true=false→L.getD j 2=2→wt j=true
theorem wX.not_ready {i j:Nat} {f:Nat→Bool} {a:Array Bool} (q:m6 md ops i f) (h:wX md ops L i f a) (n:a.getD i true=false) (p:j∈Region.ready md ops a):f j=false:=by
 cases r:f j with
 | false=>rfl
 | true=>
  obtain ⟨s,k,e,m,l,c⟩:=q j r;obtain ⟨_,o,g,b⟩:=mem_ready.1 p;have:o=s:=Option.some.inj (g.symm.trans k);subst this;have d:=b e m l;rcases c with c|c
  ·rw [c,nU n] at d;cases d
  ·rw [h.out _ c] at d;cases d
theorem wX.set {i j:Nat} {f:Nat→Bool} {a:Array Bool} (h:wX md ops L i f a) (g:f j=false):wX md ops L i f (a.setIfInBounds j true):=by
 refine ⟨fun k c=>?_,fun k c d l=>?_⟩
 ·have:j≠k:=fun e=>by subst e;rw [g] at c;cases c
  rw [getD_set_ne false this];exact h.out k c
 ·by_cases b:j=k
  ·subst b;rcases Nat.lt_or_ge j a.size with h'|h'
   ·simp [h'] at d
   ·simp at d
  ·rw [getD_set_ne true b] at d;exact h.cov k c d l
theorem uG {Q:Exit→Act→World→Prop} {i:Nat} {n:Oper} {v:Value} (hi:ops[i]?=some n) (O:∀ (j:Nat) (o:Oper) cs b,ops[j]?=some o→o.op≠.select cs b)
  (hQ:∀ c a w,Q (.panic c) (a.put n.dst v) w→Q (.panic c) a w) (wt:Nat→Bool) (Z:L.getD i 2=1→m6 md ops i wt) (m:L.getD i 2=0∨L.getD i 2=1) :
  ∀ (f:Nat) (d:Array Bool) (a:Act) (w:World),
   (∀ j q,ops[j]?=some q→j≠i→d.getD j true=false→(∀ e∈q.after,Region.binds md e=true→e.on≠i)→n.apart ops q=true) →
   (L.getD i 2=1→wX md ops L i wt d) →
   i∈Region.ready md ops d→(L.getD i 2=0→Yields P ops n v a)→(L.getD i 2=1→D w∧YieldsIf P ops D n v a) →
   pU P md ops L D Q f (d.setIfInBounds i true) (a.put n.dst v) w→pU P md ops L D Q (f+1) d a w:=by
 intro f
 have S:∀ (f:Nat) (d:Array Bool) (a:Act) (w:World),(L.getD i 2=0→Yields P ops n v a)→(L.getD i 2=1→D w∧YieldsIf P ops D n v a) →
   pU P md ops L D Q f (d.setIfInBounds i true) (a.put n.dst v) w→E0 P ops L D Q i (pU P md ops L D Q f (d.setIfInBounds i true)) a w:=by
  intro f d a w J t H;unfold E0;simp only [hi];rcases m with m|m
  ·simp only [m];exact ⟨v,J m,H⟩
  ·simp only [m];exact ⟨(t m).1,v,(t m).2,H⟩
 induction f with
 | zero=>
  intro d a w _ _ T J t H;refine ⟨fun h=>(by rw [h] at T;cases T),fun j U=>?_⟩;by_cases l:j=i
  ·subst l;exact S _ _ _ _ J t H
  ·have:=ready_mono U l;rw [H.1] at this;cases this
 | succ f ih=>
  intro d a w y N T J t H;refine ⟨fun h=>(by rw [h] at T;cases T),fun j U=>?_⟩;by_cases l:j=i
  ·subst l;exact S _ _ _ _ J t H
  ·have z:=H.2 j (ready_mono U l);obtain ⟨B,q,s,V⟩:=mem_ready.1 U;have A:=(mem_ready.1 T).1;have X:∀ e∈q.after,Region.binds md e=true→e.on≠i:=fun e he hb aA=>by
    have t:=V e he hb;rw [aA,nU A] at t;cases t
   have M:=y j q s l B X
   have g:∀ k ok,ops[k]?=some ok→k≠i→(d.setIfInBounds j true).getD k true=false →
     (∀ e∈ok.after,Region.binds md e=true→e.on≠i)→n.apart ops ok=true:=fun k ok hk aC Y aL=>by
    refine y k ok hk aC ?_ aL;by_cases W:j=k
    ·subst W;exact B
    ·rw [getD_set_ne true W] at Y;exact Y
   have p:L.getD i 2=1→wX md ops L i wt (d.setIfInBounds j true):=fun h=>(N h).set ((N h).not_ready (Z h) A U);have C:=ready_mono T (Ne.symm l);obtain ⟨p1,p2,p3⟩:=Oper.apart_spec M;have E:=fun cs b=>O i n cs b hi;have F:=fun cs b=>O j q cs b s;have G:∀ (a:Act),(L.getD i 2=0→Yields P ops n v a)→∀ u,(L.getD i 2=0→Yields P ops n v (a.put q.dst u)):=fun a R u h=>
    (R h).of_same (execOp_put n E a q.dst u p3) (wanted_put n a q.dst u p3)
   have I:∀ (a:Act),(L.getD i 2=1→D w∧YieldsIf P ops D n v a)→∀ u,(L.getD i 2=1→D w∧YieldsIf P ops D n v (a.put q.dst u)):=fun a R u h=>
    ⟨(R h).1,(R h).2.of_same (execOp_put n E a q.dst u p3) (wanted_put n a q.dst u p3)⟩
   unfold E0 at z ⊢;simp only [s] at z ⊢;split
   ·rename_i r;simp only [r] at z;obtain ⟨u,R,hK⟩:=z;refine ⟨u,R.of_same (execOp_put q F a n.dst v p1).symm (wanted_put q a n.dst v p1).symm,ih _ _ _ g p C (G a J u) (I a t u) ?_⟩;rw [Array.setIfInBounds_comm _ _ l,←Act.put_comm a v u p2];exact hK
   ·rename_i r;simp only [r] at z;obtain ⟨hD,u,R,hK⟩:=z;refine ⟨hD,u,R.of_same (execOp_put q F a n.dst v p1).symm (wanted_put q a n.dst v p1).symm,ih _ _ _ g p C (G a J u) (I a t u) ?_⟩;rw [Array.setIfInBounds_comm _ _ l,←Act.put_comm a v u p2];exact hK
   ·rename_i r;simp only [r] at z;rcases m with m|m
    ·refine wpOp_mono (fun a' w' x=>?_) (wpOp_put s M E F hQ (J m) z);refine ih _ _ _ g p C (fun _=>x.1) (fun h=>by rw [m] at h;cases h) ?_;rw [Array.setIfInBounds_comm _ _ l];exact x.2
    ·have h2:=(N m).not_ready (Z m) A U;rw [(N m).cov j l B r] at h2;cases h2
   ·rename_i n0 n1 n2;split at z
    ·exact absurd (by assumption) n0
    ·exact absurd (by assumption) n1
    ·exact absurd (by assumption) n2
    ·rcases m with m|m
     ·refine wpOp_mono (fun a' w' x=>?_) (wpOp_put s M E F hQ (J m) z);refine ⟨x.2.1,ih _ _ _ g p C (fun _=>x.1) (fun h=>by rw [m] at h;cases h) ?_⟩;rw [Array.setIfInBounds_comm _ _ l];exact x.2.2
     ·refine wpOp_mono (fun a' w' x=>?_) (wpOp_putIf s M E F hQ (t m).2 z);refine ⟨x.2.1,ih _ _ _ g p C (fun h=>by rw [m] at h;cases h) (fun _=>⟨x.2.1,x.1⟩) ?_⟩;rw [Array.setIfInBounds_comm _ _ l];exact x.2.2
inductive PT where
 | nil
 | one (k:Nat) (t:PT)
 | two (i j:Nat) (a b:PT)
def DB (md:Region.Mode) (ops:Array Oper) (L:List Nat) (a:Array Bool) (i:Nat):Bool:=
 let wt:=lW md ops i
 decide (wt.size=ops.size)&&(List.range ops.size).all fun j=>
  (j==i||a.getD j true||!(L.getD j 2==2)||wt.getD j false) &&
  (!wt.getD j false||(!a.getD j false&&match ops[j]? with
   | some oj=>oj.after.any fun e=>Region.binds md e&&(e.on==i||wt.getD e.on false)
   | none=>false))
theorem DD {a:Array Bool} {i:Nat} (h:DB md ops L a i=true):m6 md ops i (fun j=>(lW md ops i).getD j false)∧(a.size=ops.size→wX md ops L i (fun j=>(lW md ops i).getD j false) a):=by
 simp only [DB,Bool.and_eq_true,decide_eq_true_eq,List.all_eq_true,List.mem_range] at h;obtain ⟨q,h⟩:=h;have f:∀ j,(lW md ops i).getD j false=true→j<ops.size:=fun j c=>by
  rcases Nat.lt_or_ge j (lW md ops i).size with h'|h'
  ·omega
  ·simp [Array.getElem?_eq_none h'] at c
 refine ⟨fun j c=>?_,fun r=>⟨fun j c=>?_,fun j l d o=>?_⟩⟩
 ·have b:=(h j (f j c)).2;simp only [c,Bool.not_true,Bool.false_or,Bool.and_eq_true] at b;have g:=b.2;split at g
  ·rename_i p m;obtain ⟨e,n,k⟩:=Array.any_eq_true'.1 g;simp only [Bool.and_eq_true,Bool.or_eq_true,beq_iff_eq] at k;exact ⟨p,m,e,n,k.1,k.2⟩
  ·cases g
 ·have b:=(h j (f j c)).2;simp only [c,Bool.not_true,Bool.false_or,Bool.and_eq_true,Bool.not_eq_true'] at b;exact b.1
 ·have c:j<ops.size:=by
   rcases Nat.lt_or_ge j a.size with h'|h'
   ·omega
   ·simp [Array.getElem?_eq_none h'] at d
  have b:=(h j c).1;rw [o] at b;simp only [Bool.or_eq_true,beq_iff_eq,l,d,BEq.rfl,Bool.not_true,Bool.false_eq_true,false_or,or_false] at b;exact b
def nW (md:Region.Mode) (ops:Array Oper) (L:List Nat):PT→Nat→Array Bool→Bool
 | .nil,n,listed=>n==0&&(Region.ready md ops listed).isEmpty
 | .one k t,n,listed=>decide (0<n)&&(Region.ready md ops listed).contains k&&(match L.getD k 2 with
   | 0=>Region.free md ops listed k
   | 1=>Region.free md ops listed k&&DB md ops L listed k
   | _=>Region.ready md ops listed==[k])&&nW md ops L t (n-1) (listed.setIfInBounds k true)
 | .two i j ti tj,n,listed=>decide (0<n)&&Region.ready md ops listed==[i,j]&&nW md ops L ti (n-1) (listed.setIfInBounds i true)&&nW md ops L tj (n-1) (listed.setIfInBounds j true)
def lA (P:Program) (ops:Array Oper) (L:List Nat) (D:World→Prop) (Q:Exit→Act→World→Prop):PT→Act→World→Prop
 | .nil,a,w=>Q .normal a w
 | .one k t,a,w=>E0 P ops L D Q k (lA P ops L D Q t) a w
 | .two i j ti tj,a,w=>E0 P ops L D Q i (lA P ops L D Q ti) a w∧E0 P ops L D Q j (lA P ops L D Q tj) a w
theorem sG {Q:Exit→Act→World→Prop} (y:Region.noSelect ops=true) (s:∀ c a w,¬ Q (.panic c) a w):∀ (t:PT) (n:Nat) (b:Array Bool) (a:Act) (w:World),b.size=ops.size →
  nW md ops L t n b=true→lA P ops L D Q t a w→pU P md ops L D Q n b a w
 | .nil,n,b,a,w,_,g,h=>by
  simp only [nW,Bool.and_eq_true,beq_iff_eq,List.isEmpty_iff] at g;obtain ⟨rfl,g⟩:=g;exact ⟨g,h⟩
 | .one k t,n,b,a,w,z,g,h=>by
  simp only [nW,Bool.and_eq_true,decide_eq_true_eq] at g;obtain ⟨⟨⟨O,B⟩,l⟩,C⟩:=g;obtain ⟨n,rfl⟩:∃ m,n=m+1:=⟨n-1,by omega⟩;have u:k∈Region.ready md ops b:=by simpa using B
  have I:(b.setIfInBounds k true).size=ops.size:=by simpa using z
  have x:=fun r w'=>sG y s t n (b.setIfInBounds k true) r w' I C;have J:E0 P ops L D Q k (pU P md ops L D Q n (b.setIfInBounds k true)) a w:=yZ x h;have e:Region.ready md ops b=[k]→pU P md ops L D Q (n+1) b a w:=fun p=>
   ⟨fun d=>(by rw [p] at d;cases d),fun i M=>by
    rw [p] at M;have:i=k:=by simpa using M
    subst this;exact J⟩
  have q:=J;unfold E0 at q;split at q
  ·exact q.elim
  ·rename_i o A;split at q
   ·rename_i f;simp only [f] at l;obtain ⟨v,H,hK⟩:=q
    exact uG A (Region.noSelect_spec y) (fun c a w d=>(s _ _ _ d).elim) (fun _=>false) (fun d=>by rw [f] at d;cases d) (.inl f) _ _ _ _ (Region.free_spec A l)
     (fun d=>by rw [f] at d;cases d) u (fun _=>H) (fun d=>by rw [f] at d;cases d) hK
   ·rename_i f;simp only [f,Bool.and_eq_true] at l;obtain ⟨N,v,H,hK⟩:=q;obtain ⟨w1,T⟩:=DD l.2
    exact uG A (Region.noSelect_spec y) (fun c a w d=>(s _ _ _ d).elim) _ (fun _=>w1) (.inr f) _ _ _ _ (Region.free_spec A l.1)
     (fun _=>T z) u (fun d=>by rw [f] at d;cases d) (fun _=>⟨N,H⟩) hK
   ·rename_i f;simp only [f] at l;exact e (by simpa using l)
   ·rename_i R S U;refine e ?_;split at l
    ·exact absurd (by assumption) R
    ·exact absurd (by assumption) S
    ·simpa using l
 | .two i j ti tj,n,b,a,w,z,g,h=>by
  simp only [nW,Bool.and_eq_true,decide_eq_true_eq,beq_iff_eq] at g;obtain ⟨⟨⟨O,B⟩,E⟩,F⟩:=g;obtain ⟨n,rfl⟩:∃ m,n=m+1:=⟨n-1,by omega⟩;refine ⟨fun d=>(by rw [B] at d;cases d),fun k G=>?_⟩;rw [B] at G;simp only [List.mem_cons,List.not_mem_nil,or_false] at G;rcases G with rfl|rfl
  ·exact yZ (fun r w'=>sG y s ti n _ r w' (by simpa using z) E) h.1
  ·exact yZ (fun r w'=>sG y s tj n _ r w' (by simpa using z) F) h.2
theorem uH {j:Nat} {Q:Exit→Act→World→Prop} {a:Act} {w:World} {l:List Oper} (L:List Nat) (t:PT) (D:World→Prop) (f:P.follows .mixedOrders=true)
  (b:(Region.noSelect l.toArray&&nW .any l.toArray L t l.length (Array.replicate l.length false))=true)
  (h:lA P l.toArray L D (NoPanic Q) t a w.drew):(Code.region j l.toArray true).wp P Q a w:=by
 simp only [Bool.and_eq_true] at b;obtain ⟨i,g⟩:=b;refine wp_region_noPanic (wp_region_any f ?_);have:=sG (md:=.any) i (fun c a w e=>e) t l.length (Array.replicate l.length false) a w.drew (by simp) g h;have d:=nH (md:=.any) _ _ _ _ this;simpa using d
theorem l9 {Q:Exit→Act→World→Prop} {a:Act} {w:World} (h:Q .normal a w):lA P ops L D (NoPanic Q) .nil a w:=NoPanic.normal h
theorem kH {Q:Exit→Act→World→Prop} {a:Act} {w:World} {k:Nat} {t:PT} {o:Oper} (i:ops[k]?=some o) (g:L.getD k 2=0)
  (h:∀ K:Act→Prop,(∀ a,lA P ops L D Q t a w→K a)→if Region.wanted o (yielded ops a.tmps) then IL P o a K else K (a.put o.dst undef)):lA P ops L D Q (.one k t) a w:=by
 have:=h (fun d=>lA P ops L D Q t d w) (fun _ h=>h);simp only [lA,E0,i,g];split at this
 ·rename_i c;obtain ⟨v,e,f⟩:=this;refine ⟨v,.inl ⟨c,fun w=>?_⟩,f⟩;have b:=e w;unfold tH at b;generalize (execOp a.eval o).run P w=r at *;cases r with
  | ok n w'=>cases n<;>simp only [l8] at b;rw [b.1,b.2]
  | halt x w'=>simp only [l8] at b
 ·rename_i c;exact ⟨undef,.inr ⟨by simpa using c,rfl⟩,this⟩
def YJ (P:Program) (D:World→Prop) (o:Oper) (a:Act) (next:Act→Prop):Prop:=∃ v,(∀ w,D w→tH P o a w v)∧next (a.put o.dst v)
theorem MG {Q:Exit→Act→World→Prop} {a:Act} {w:World} {k:Nat} {t:PT} {o:Oper} (j:ops[k]?=some o) (i:L.getD k 2=1) (g:D w)
  (h:if Region.wanted o (yielded ops a.tmps) then YJ P D o a (fun d=>lA P ops L D Q t d w) else lA P ops L D Q t (a.put o.dst undef) w):lA P ops L D Q (.one k t) a w:=by
 simp only [lA,E0,j,i];refine ⟨g,?_⟩;split at h
 ·rename_i c;obtain ⟨v,e,f⟩:=h;refine ⟨v,.inl ⟨c,fun w c=>?_⟩,f⟩;have b:=e w c;unfold tH at b;generalize (execOp a.eval o).run P w=r at *;cases r with
  | ok n w'=>cases n<;>simp only [l8] at b;rw [b.1,b.2]
  | halt x w'=>simp only [l8] at b
 ·rename_i c;exact ⟨undef,.inr ⟨by simpa using c,rfl⟩,h⟩
theorem lB {Q:Exit→Act→World→Prop} {a:Act} {w:World} {k:Nat} {t:PT} {o:Oper} (c:ops[k]?=some o) (f:L.getD k 2=2)
  (h:∀ (K:Act→World→Prop),Shut (∀ b w',lA P ops L D Q t b w'→K b w')→if Region.wanted o (yielded ops a.tmps)=true then Oper.wp P o a w K Q else K (a.put o.dst undef) w) :
  lA P ops L D Q (.one k t) a w:=by
 simp only [lA,E0,c,f];exact wpOp_mono (fun b w' e=>e) (wpOp_step c fun d hK=>h d hK)
theorem lP {Q:Exit→Act→World→Prop} {a:Act} {w:World} {k:Nat} {t:PT} {o:Oper} (c:ops[k]?=some o) (i:L.getD k 2=3)
  (h:∀ (K:Act→World→Prop),Shut (∀ b w',D w'→lA P ops L D Q t b w'→K b w')→if Region.wanted o (yielded ops a.tmps)=true then Oper.wp P o a w K Q else K (a.put o.dst undef) w) :
  lA P ops L D Q (.one k t) a w:=by
 simp only [lA,E0,c,i];exact wpOp_mono (fun b w' e=>e) (wpOp_step c fun d hK=>h d (fun b w' f g=>hK b w' ⟨f,g⟩))
theorem rA {o:Oper} (a:o.guard=none) (y:Nat→Option Bool):Region.wanted o y=true:=by
 unfold Region.wanted;rw [a]
theorem pV {Q:Exit→Act→World→Prop} {a:Act} {w:World} {k:Nat} {t:PT} {o:Oper} (g:ops[k]?=some o) (c:L.getD k 2=1) (b:D w) (f:o.guard=none) (d:Option Tmp) (e:o.dst=d) (v:Value) (i:∀ w',D w'→tH P o a w' v)
  (h:lA P ops L D Q t (a.put d v) w):lA P ops L D Q (.one k t) a w:=by
 subst e;refine MG g c b ?_;rw [if_pos (rA f _)];exact ⟨v,i,h⟩
theorem PU {Q:Exit→Act→World→Prop} {a:Act} {w w':World} {k:Nat} {t:PT} {o:Oper} (n:ops[k]?=some o) (j:L.getD k 2=2) (m:o.guard=none) (d:Option Tmp) (l:o.dst=d) (s x:Operand) (e f:TypeId) (c:o.op=.call { callee:=.builtin .append,args:=#[s,x],argTypes:=#[e,f] }) (g i v':Value)
  (p:a.eval s=g) (q:a.eval x=i) (b:(Builtin.append_ #[e,f] o.type #[g,i]).run P w=.ok v' w') (h:lA P ops L D Q t (a.put d v') w'):lA P ops L D Q (.one k t) a w:=by
 subst l;refine lB n j (fun K hK=>?_);rw [if_pos (rA m _)];unfold Oper.wp;simp only [execOp,c,resolve,invoke,builtin];simp [p,q,b,Result.andThen];exact hK.out _ _ h
theorem m7 {Q:Exit→Act→World→Prop} {a:Act} {w w':World} {k:Nat} {t:PT} {o:Oper} (p:ops[k]?=some o) (l:L.getD k 2=3) (n:o.guard=none) (d:Option Tmp) (m:o.dst=d) (s x:Operand) (e f:TypeId) (c:o.op=.call { callee:=.builtin .append,args:=#[s,x],argTypes:=#[e,f] }) (g i v':Value)
  (q:a.eval s=g) (r:a.eval x=i) (b:(Builtin.append_ #[e,f] o.type #[g,i]).run P w=.ok v' w') (j:D w') (h:lA P ops L D Q t (a.put d v') w'):lA P ops L D Q (.one k t) a w:=by
 subst m;refine lP p l (fun K hK=>?_);rw [if_pos (rA n _)];unfold Oper.wp;simp only [execOp,c,resolve,invoke,builtin];simp [q,r,b,Result.andThen];exact hK.out _ _ j h
theorem E1 {Q:Exit→Act→World→Prop} {a:Act} {w:World} {i j:Nat} {b c:PT} (d:lA P ops L D Q (.one i b) a w) (e:lA P ops L D Q (.one j c) a w):lA P ops L D Q (.two i j b c) a w:=⟨d,e⟩
end
end Go.Proofs.YthapcchcahnfaaaGreatDoor
