/- Part of the proof that laws.FnWithin returns true for every argument. No conditions. -/
import Derived.Test.YthapcchcahnfaaaGreatDoorQ03
import Derived.Shelf.Small.Strs
import Derived.Shelf.Strconv.Itoa0
import Derived.Shelf.LaysM
import Derived.Shelf.Bytes.Len
import Derived.Shelf.Bytes.TryGrow
import Derived.Shelf.Bytes.GrowSliceCatch
import Derived.Shelf.Bytes.GrowSlice
import Derived.Shelf.Bytes.GrowRow0
import Derived.Shelf.Bytes.GrowRow
import Derived.Shelf.Strings.Search1
import Derived.Shelf.Strings.Fold
import Derived.Shelf.Unicode.DecodeSlow
import Derived.Shelf.Unicode.DecodeAny
import Derived.Shelf.Unicode.Is16White
import Derived.Shelf.Unicode.CaseLookup
import Derived.Shelf.Unicode.CaseConvert
import Derived.Shelf.Unicode.Is16Any
import Derived.Shelf.Unicode.Is32Any
import Derived.Ground.GgnProg
import Derived.Shelf.Unicode.PredsGn
import Derived.Test.YthapcchcahnfaaaGreatDoorProg
set_option linter.all false
set_option maxHeartbeats 8000000
set_option maxRecDepth 100000
namespace Go.Proofs.YthapcchcahnfaaaGreatDoor
open Go Go.RowKit Tryz
theorem KC (x:Cx) (P:x.Ok) (w:World) (N:Below x.B x.W0 w) (n:Nat) (s:ByteArray) (X:s.toList.isEmpty=true) (o:aJ w x.rd (uY x s n) 56)
    (L:Int) (q:Nat) (G:0 < q) (H:¬ q=4096) (hq:q ≤ 4096) (f:aJ w x.br (iH x q q .nilIface L) 235) :
    Calls prog 187 #[.pointer (some ⟨x.br,0,none⟩)] w fun e w'=>e=.returned (.tuple #[])∧wK x w L w':=by
  have z:=f.cell;have R:=f.frozen;have v:=Lib.hid P;have M:=Lib.hid N;have C:=Lib.hid o;have A:=Lib.hid f;clear P N o f;have U:decide ((0:Int) < (q:Int))=true:=by simpa using G
  have V:(q:Int) ≤ 4096:=by omega
  have W:¬ (4096=q):=fun h=>H h.symm;have I:w.cell? ⟨x.br,0,none⟩=some (.slice (some ⟨x.rb,0,none⟩) 4096 4096):=z 0;have Z:w.cell? ⟨x.br,2,none⟩=some (.int .i64 q):=z 2;have J:w.cell? ⟨x.br,3,none⟩=some (.int .i64 q):=z 3;clear z;go_enter func187,ntmps187
  go_wp2
  go_region_held3 (fun w'=>w'.cell? ⟨x.br,0,none⟩=some (.slice (some ⟨x.rb,0,none⟩) 4096 4096)∧w'.cell? ⟨x.br,2,none⟩=some (.int .i64 q)∧w'.cell? ⟨x.br,3,none⟩=some (.int .i64 q))
    (go_keep)
    (first
      | (refine jY rfl (.tmp 13) (.tmp 26) 81 81 rfl 5 underlying81 pR _ _ _ _ _ _ rfl rfl (by simp) ?_))
  go_wp2;go_region
  go_wp2;go_quiet (fail);obtain ⟨w0,d⟩:∃ w0,w0=((w.setCell ⟨x.br,3,none⟩ (.int .i64 0)).setCell ⟨x.br,2,none⟩ (.int .i64 0)).drew.drew.drewN nq:=⟨_,rfl⟩;have y:aK (fun k=>k=x.br) w w0:=by
    rw [d];exact ((((aK.refl (fun k=>k=x.br) w).setCell (p:=⟨x.br,3,none⟩) (aG rfl) _).setCell (p:=⟨x.br,2,none⟩) (aG rfl) _).drew.drew.drewN nq)
  have b:aJ w0 x.br (iH x 0 0 .nilIface L) 235:=by
    rw [d];exact (A.out.set 3 _).set 2 _
  have r:w0.heap.size=w.heap.size:=by rw [d];simp [World.setCell]
  rw [show (((w.setCell ⟨x.br,3,none⟩ (.int .i64 0)).setCell ⟨x.br,2,none⟩ (.int .i64 0)).drew.drew.drewN nq)=w0 from d.symm];clear d R I Z J;have I:w0.cell? ⟨x.br,0,none⟩=some (.slice (some ⟨x.rb,0,none⟩) 4096 4096):=b.cell 0;have Y:w0.cell? ⟨x.br,1,none⟩=some (.iface 54 (.pointer (some ⟨x.rd,0,none⟩))):=b.cell 1;have J:w0.cell? ⟨x.br,3,none⟩=some (.int .i64 0):=b.cell 3;have m:=Lib.hid (C.out.mod y (fun h=>v.out.ne5 h.symm));have j:w0.cell? ⟨0,0,none⟩=some x.eofV:=by rw [← v.out.eof];exact (aK.below M.out M.out.size y (fun i T=>by subst T;exact v.out.br)).cell v.out.gB
  have g:=Lib.hid (fun k=>FQ x (w0.drewN k) n s X m.out j);clear j;have l:=Lib.hid b;have D:=Lib.hid y;have E:=Lib.hid r;clear b y r;go_wp2;refine wp_loop_once ?_;go_wp2;have F:=fun a w=>oE a w;have O:=fun a w=>qX a w;have c:(∃ u t,pM x=.iface u t):=by unfold pM;split <;> exact ⟨_,_,rfl⟩
  obtain ⟨u,t,c⟩:=c;have B:=Lib.hid c;rw [c] at g;clear c
  go_region_held3 (fun w'=>w'.cell? ⟨x.br,0,none⟩=some (.slice (some ⟨x.rb,0,none⟩) 4096 4096)∧w'.cell? ⟨x.br,1,none⟩=some (.iface 54 (.pointer (some ⟨x.rd,0,none⟩)))∧w'.cell? ⟨x.br,3,none⟩=some (.int .i64 0))
    (first
      | go_keep
      | (go_split_ands
         refine ⟨?_,?_,?_⟩ <;> assumption))
    (first
      | (go_at_call 170;refine (g.out 1).mono ?_;rintro e w1 ⟨rfl,kk,rfl⟩))
  have Q:=l.out.cell;have S:=l.out.frozen;clear I Y J;go_wp2;(try simp only [Exit.inBlock,Exit.then]);refine bodyPost_ret (results_none rfl _ _ _) rfl ?_
  refine ⟨rfl,?_,?_,?_⟩
  · rw [B.out]
    exact ((show aJ (w0.drewN (1 + kk)) x.br _ _ from l.out).set 3 _).set 4 _
  · exact (((D.out).drewN _).setCell (aG rfl) _).setCell (aG rfl) _
  · simp [World.setCell]
    exact E.out
end Go.Proofs.YthapcchcahnfaaaGreatDoor
namespace Go.Proofs
open Go.Shelf Tryz
def Tryz.lays137_ren:Go.Shelf.Ren:=⟨fun|137=>106|217=>122|266=>136|n=>n,fun|9=>9|5=>5|3=>3|n=>n,fun|n=>n⟩
theorem Tryz.lays137:Go.Proofs.Lays.n137 prog Tryz.lays137_ren:={
 mixed:=by kernel_rfl
 f137:=func106.trans (congrArg some (by kernel_rfl))
 f217:=func122.trans (congrArg some (by kernel_rfl))
 f266:=func136.trans (congrArg some (by kernel_rfl))
 t3:=underlying3
 a3:=isAgg3
 z3:=sizeOf3
 v3:=zeroValue3
 t5:=underlying5
 a5:=isAgg5
 z5:=sizeOf5
 v5:=zeroValue5
 t9:=underlying9
 a9:=isAgg9
 z9:=sizeOf9
 v9:=zeroValue9 }
open Go.RowKit in
theorem Tryz.strings_IndexByte (s:ByteArray) (c:Int) (w:World) :
  Calls prog 106 #[.string s,.int .u8 c] w fun e w'=>e=.returned (.int .i64 (Lib.indexByte s.data.toList c.toNat.toUInt8))∧w'=w:=Any.strings_IndexByte Tryz.lays137 s c w
def Tryz.laysM290_ren:Go.Shelf.Ren:=⟨fun|290=>121|324=>135|n=>n,fun|37=>81|3=>3|0=>0|4=>4|20=>20|75=>59|5=>5|80=>133|9=>9|n=>n,fun|14=>2|n=>n⟩
theorem Tryz.laysM290:Go.Proofs.LaysM.n290 prog Tryz.laysM290_ren:={
 mixed:=by kernel_rfl
 f290:=func121.trans (congrArg some (by kernel_rfl))
 f324:=func135.trans (congrArg some (by kernel_rfl))
 t0:=underlying0
 a0:=isAgg0
 z0:=sizeOf0
 v0:=zeroValue0
 t3:=underlying3
 a3:=isAgg3
 z3:=sizeOf3
 v3:=zeroValue3
 t4:=underlying4
 a4:=isAgg4
 z4:=sizeOf4
 v4:=zeroValue4
 t20:=underlying20
 a20:=isAgg20
 z20:=sizeOf20
 v20:=zeroValue20
 t37:=underlying81
 a37:=isAgg81
 z37:=sizeOf81
 v37:=zeroValue81
 t75:=underlying59
 a75:=isAgg59
 z75:=sizeOf59
 v75:=zeroValue59
 g14:=by kernel_rfl
 t5:=underlying5
 a5:=isAgg5
 z5:=sizeOf5
 v5:=zeroValue5
 t9:=underlying9
 a9:=isAgg9
 z9:=sizeOf9
 v9:=zeroValue9
 t80:=underlying133
 a80:=isAgg133
 z80:=sizeOf133
 v80:=zeroValue133
 i0:=by kernel_rfl
 i3:=by kernel_rfl
 i4:=by kernel_rfl
 i5:=by kernel_rfl
 i9:=by kernel_rfl
 i20:=by kernel_rfl
 i37:=by kernel_rfl
 i75:=by kernel_rfl
 i80:=by kernel_rfl
 m14:=by kernel_rfl }
open Go.RowKit in
theorem Tryz.bytes_growSlice_row (g l c n:Nat) (d:Array Value) (w:World) (m:w.heap[g]?=some (.cells d 5 (0,0))) (i:d.size=c) (j:l≤c) (o:1≤n) (f:l+n≤140737488355328) (h:c≤140737488355328) (k:∀ v∈d.toList.take l,v.oneCell'=true) :
  Calls prog 121 #[.slice (some ⟨g,0,none⟩) l c,.int .i64 n] w fun e w'=>∃ b a,e=.returned (.slice (some ⟨w.heap.size,0,none⟩) l b)∧w'.heap[w.heap.size]?=some (.cells a 5 (0,0)) ∧
   a.size=b∧a.toList.take l=d.toList.take l∧l+n≤b∧b≤maxLen∧Below w.heap.size w w':=Any.bytes_growSlice_row Tryz.laysM290 g l c n d w m i j o f h k
def Tryz.lays164_ren:Go.Shelf.Ren:=⟨fun|164=>74|197=>107|239=>108|260=>123|274=>124|275=>125|n=>n,fun|9=>9|4=>4|3=>3|5=>5|0=>0|21=>21|105=>188|156=>225|49=>224|157=>226|46=>176|159=>228|162=>231|160=>229|119=>253|139=>256|138=>255|208=>260|51=>246|206=>258|n=>n,fun|11=>3|12=>4|13=>5|3=>6|4=>7|n=>n⟩
theorem Tryz.lays164:Go.Proofs.Lays.n164 prog Tryz.lays164_ren:={
 mixed:=by kernel_rfl
 f164:=func74.trans (congrArg some (by kernel_rfl))
 f197:=func107.trans (congrArg some (by kernel_rfl))
 f239:=func108.trans (congrArg some (by kernel_rfl))
 f260:=func123.trans (congrArg some (by kernel_rfl))
 f274:=func124.trans (congrArg some (by kernel_rfl))
 f275:=func125.trans (congrArg some (by kernel_rfl))
 t0:=underlying0
 a0:=isAgg0
 z0:=sizeOf0
 v0:=zeroValue0
 t3:=underlying3
 a3:=isAgg3
 z3:=sizeOf3
 v3:=zeroValue3
 t4:=underlying4
 a4:=isAgg4
 z4:=sizeOf4
 v4:=zeroValue4
 t5:=underlying5
 a5:=isAgg5
 z5:=sizeOf5
 v5:=zeroValue5
 t9:=underlying9
 a9:=isAgg9
 z9:=sizeOf9
 v9:=zeroValue9
 t21:=underlying21
 a21:=isAgg21
 z21:=sizeOf21
 v21:=zeroValue21
 t46:=underlying176
 a46:=isAgg176
 z46:=sizeOf176
 v46:=zeroValue176
 t49:=underlying224
 a49:=isAgg224
 z49:=sizeOf224
 v49:=zeroValue224
 t51:=underlying246
 a51:=isAgg246
 z51:=sizeOf246
 v51:=zeroValue246
 t105:=underlying188
 a105:=isAgg188
 z105:=sizeOf188
 v105:=zeroValue188
 t119:=underlying253
 a119:=isAgg253
 z119:=sizeOf253
 t138:=underlying255
 a138:=isAgg255
 z138:=sizeOf255
 v138:=zeroValue255
 t139:=underlying256
 a139:=isAgg256
 z139:=sizeOf256
 v139:=zeroValue256
 t156:=underlying225
 a156:=isAgg225
 z156:=sizeOf225
 t157:=underlying226
 a157:=isAgg226
 z157:=sizeOf226
 v157:=zeroValue226
 t159:=underlying228
 a159:=isAgg228
 z159:=sizeOf228
 v159:=zeroValue228
 t160:=underlying229
 a160:=isAgg229
 z160:=sizeOf229
 v160:=zeroValue229
 t162:=underlying231
 a162:=isAgg231
 z162:=sizeOf231
 v162:=zeroValue231
 t206:=underlying258
 a206:=isAgg258
 z206:=sizeOf258
 v206:=zeroValue258
 t208:=underlying260
 a208:=isAgg260
 z208:=sizeOf260
 v208:=zeroValue260
 g3:=by kernel_rfl
 g4:=by kernel_rfl
 g11:=by kernel_rfl
 g12:=by kernel_rfl
 g13:=by kernel_rfl }
open Go.RowKit Go.Lib in
theorem Tryz.strings_EqualFold (s t:ByteArray) (w:World) (d:s.size<4294967281) (a:∀ (j:Nat) b,s.data.toList[j]?=some b→b.toNat<128) (c:∀ (j:Nat) b,t.data.toList[j]?=some b→b.toNat<128) :
  Calls prog 74 #[.string s,.string t] w fun e w'=>e=.returned (.bool (Lib.equalFold s.data.toList t.data.toList))∧w'=w:=Any.strings_EqualFold Tryz.lays164 s t w d a c
def Tryz.lays197_ren:Go.Shelf.Ren:=⟨fun|197=>107|260=>123|n=>n,fun|9=>9|21=>21|3=>3|4=>4|5=>5|105=>188|119=>253|0=>0|46=>176|139=>256|138=>255|n=>n,fun|3=>6|4=>7|n=>n⟩
theorem Tryz.lays197:Go.Proofs.Lays.n197 prog Tryz.lays197_ren:={
 mixed:=by kernel_rfl
 f197:=func107.trans (congrArg some (by kernel_rfl))
 f260:=func123.trans (congrArg some (by kernel_rfl))
 t0:=underlying0
 a0:=isAgg0
 z0:=sizeOf0
 v0:=zeroValue0
 t3:=underlying3
 a3:=isAgg3
 z3:=sizeOf3
 v3:=zeroValue3
 t4:=underlying4
 a4:=isAgg4
 z4:=sizeOf4
 v4:=zeroValue4
 t5:=underlying5
 a5:=isAgg5
 z5:=sizeOf5
 v5:=zeroValue5
 t9:=underlying9
 a9:=isAgg9
 z9:=sizeOf9
 v9:=zeroValue9
 t21:=underlying21
 a21:=isAgg21
 z21:=sizeOf21
 v21:=zeroValue21
 t46:=underlying176
 a46:=isAgg176
 z46:=sizeOf176
 v46:=zeroValue176
 t105:=underlying188
 a105:=isAgg188
 z105:=sizeOf188
 v105:=zeroValue188
 t119:=underlying253
 a119:=isAgg253
 z119:=sizeOf253
 t138:=underlying255
 a138:=isAgg255
 z138:=sizeOf255
 v138:=zeroValue255
 t139:=underlying256
 a139:=isAgg256
 z139:=sizeOf256
 v139:=zeroValue256
 g3:=by kernel_rfl
 g4:=by kernel_rfl }
open Go.RowKit Go.Lib in
theorem Tryz.utf8_DecodeRuneInString (s:ByteArray) (w:World) (a:Lib.Utf8Tabs 6 7 w) :
  Calls prog 107 #[.string s] w fun e w'=>e=.returned (.tuple #[.int .i32 (Lib.decodeGo s).1,.int .i64 (Lib.decodeGo s).2])∧Below w.heap.size w w':=Any.utf8_DecodeRuneInString Tryz.lays197 s w a
def Tryz.laysGn14_ren:Go.Shelf.Ren:=⟨fun|14=>117|25=>133|26=>134|n=>n,fun|22=>221|21=>21|4=>4|0=>0|31=>245|28=>242|3=>3|32=>246|35=>248|33=>224|29=>243|38=>251|41=>264|42=>176|43=>265|n=>n,fun|n=>n⟩
theorem Tryz.laysGn14:Go.Proofs.LaysGn.n14 prog Tryz.laysGn14_ren:={
 mixed:=by kernel_rfl
 f14:=func117.trans (congrArg some (by kernel_rfl))
 f25:=func133.trans (congrArg some (by kernel_rfl))
 f26:=func134.trans (congrArg some (by kernel_rfl))
 t0:=underlying0
 a0:=isAgg0
 z0:=sizeOf0
 v0:=zeroValue0
 i0:=by kernel_rfl
 t3:=underlying3
 a3:=isAgg3
 z3:=sizeOf3
 v3:=zeroValue3
 i3:=by kernel_rfl
 t4:=underlying4
 a4:=isAgg4
 z4:=sizeOf4
 v4:=zeroValue4
 i4:=by kernel_rfl
 t21:=underlying21
 a21:=isAgg21
 z21:=sizeOf21
 v21:=zeroValue21
 i21:=by kernel_rfl
 t22:=underlying221
 a22:=isAgg221
 z22:=sizeOf221
 v22:=zeroValue221
 i22:=by kernel_rfl
 t28:=underlying242
 a28:=isAgg242
 z28:=sizeOf242
 v28:=zeroValue242
 i28:=by kernel_rfl
 t29:=underlying243
 a29:=isAgg243
 z29:=sizeOf243
 v29:=zeroValue243
 i29:=by kernel_rfl
 t31:=underlying245
 a31:=isAgg245
 z31:=sizeOf245
 v31:=zeroValue245
 i31:=by kernel_rfl
 t32:=underlying246
 a32:=isAgg246
 z32:=sizeOf246
 v32:=zeroValue246
 i32:=by kernel_rfl
 t33:=underlying224
 a33:=isAgg224
 z33:=sizeOf224
 v33:=zeroValue224
 i33:=by kernel_rfl
 t35:=underlying248
 a35:=isAgg248
 z35:=sizeOf248
 v35:=zeroValue248
 i35:=by kernel_rfl
 t38:=underlying251
 a38:=isAgg251
 z38:=sizeOf251
 v38:=zeroValue251
 i38:=by kernel_rfl
 t41:=underlying264
 a41:=isAgg264
 z41:=sizeOf264
 v41:=zeroValue264
 i41:=by kernel_rfl
 t42:=underlying176
 a42:=isAgg176
 z42:=sizeOf176
 v42:=zeroValue176
 i42:=by kernel_rfl
 t43:=underlying265
 a43:=isAgg265
 z43:=sizeOf265
 v43:=zeroValue265
 i43:=by kernel_rfl }
open Go.RowKit Go.Lib in
theorem Tryz.unicode_Is_any (a f:Nat) (T:RTab) (r:Int) (w:World) (c:-2147483648≤r) (b:r≤2147483647) (g:RTabAt a f T w) (d:RTabOk T) :
  Calls prog 117 #[.pointer (some ⟨a,f,none⟩),.int .i32 r] w fun e w'=>e=.returned (.bool (isGo T r))∧Below w.heap.size w w':=Any.unicode_Is_any Tryz.laysGn14 a f T r w c b g d
end Go.Proofs
