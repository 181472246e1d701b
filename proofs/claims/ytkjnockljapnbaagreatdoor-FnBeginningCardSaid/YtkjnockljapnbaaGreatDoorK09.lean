/- Part of the proof that laws.FnBeginning, laws.FnPlaces returns true for every argument (Shelf, Bw, Pj). No condition of its own. -/
import Derived.Shelf.Small.Strs
import Derived.Shelf.Strconv.Itoa0
import Derived.Shelf.LaysM
import Derived.Shelf.Bytes.Len
import Derived.Shelf.Bytes.TryGrow
import Derived.Shelf.Bytes.GrowSliceCatch
import Derived.Shelf.Bytes.GrowSlice
import Derived.Shelf.Bytes.GrowRow0
import Derived.Shelf.Bytes.GrowRow
import Derived.Shelf.Strings.Search1
import Derived.Shelf.Strings.Fold
import Derived.Shelf.Unicode.DecodeSlow
import Derived.Shelf.Unicode.DecodeAny
import Derived.Shelf.Unicode.Is16White
import Derived.Shelf.Unicode.CaseLookup
import Derived.Shelf.Unicode.CaseConvert
import Derived.Shelf.Unicode.Is16Any
import Derived.Shelf.Unicode.Is32Any
import Derived.Ground.GgnProg
import Derived.Shelf.Unicode.PredsGn
import Derived.Test.YtkjnockljapnbaaGreatDoorProg
import Derived.Test.YtkjnockljapnbaaGreatDoorK08
import Derived.Deep.Quiet
import Derived.Deep.QuietTactic
import Derived.Deep.RegionHeld3
import Derived.NoCompiler
set_option linter.all false
set_option maxHeartbeats 8000000
set_option maxRecDepth 100000
namespace Go.Proofs
open Go.Shelf
def Tryz.lays137_ren:Go.Shelf.Ren:=⟨fun|137=>72|217=>86|266=>100|n=>n,fun|9=>9|5=>5|3=>3|n=>n,fun|n=>n⟩
theorem Tryz.lays137:Go.Proofs.Lays.n137 Tryz.prog Tryz.lays137_ren:={
  mixed:=by kernel_rfl
  f137:=Tryz.func72.trans (congrArg some (by kernel_rfl))
  f217:=Tryz.func86.trans (congrArg some (by kernel_rfl))
  f266:=Tryz.func100.trans (congrArg some (by kernel_rfl))
  t3:=Tryz.underlying3
  a3:=Tryz.isAgg3
  z3:=Tryz.sizeOf3
  v3:=Tryz.zeroValue3
  t5:=Tryz.underlying5
  a5:=Tryz.isAgg5
  z5:=Tryz.sizeOf5
  v5:=Tryz.zeroValue5
  t9:=Tryz.underlying9
  a9:=Tryz.isAgg9
  z9:=Tryz.sizeOf9
  v9:=Tryz.zeroValue9 }
open Go.RowKit in
theorem Tryz.strings_IndexByte (s:ByteArray) (c:Int) (w:World) :
    Calls Tryz.prog 72 #[.string s,.int .u8 c] w fun e w'=>e=.returned (.int .i64 (Lib.indexByte s.data.toList c.toNat.toUInt8))∧w'=w:=Any.strings_IndexByte Tryz.lays137 s c w
def Tryz.laysM290_ren:Go.Shelf.Ren:=⟨fun|290=>85|324=>99|n=>n,fun|37=>74|3=>3|0=>0|4=>4|20=>20|75=>55|5=>5|80=>262|9=>9|n=>n,fun|14=>2|n=>n⟩
theorem Tryz.laysM290:Go.Proofs.LaysM.n290 Tryz.prog Tryz.laysM290_ren:={
  mixed:=by kernel_rfl
  f290:=Tryz.func85.trans (congrArg some (by kernel_rfl))
  f324:=Tryz.func99.trans (congrArg some (by kernel_rfl))
  t0:=Tryz.underlying0
  a0:=Tryz.isAgg0
  z0:=Tryz.sizeOf0
  v0:=Tryz.zeroValue0
  t3:=Tryz.underlying3
  a3:=Tryz.isAgg3
  z3:=Tryz.sizeOf3
  v3:=Tryz.zeroValue3
  t4:=Tryz.underlying4
  a4:=Tryz.isAgg4
  z4:=Tryz.sizeOf4
  v4:=Tryz.zeroValue4
  t20:=Tryz.underlying20
  a20:=Tryz.isAgg20
  z20:=Tryz.sizeOf20
  v20:=Tryz.zeroValue20
  t37:=Tryz.underlying74
  a37:=Tryz.isAgg74
  z37:=Tryz.sizeOf74
  v37:=Tryz.zeroValue74
  t75:=Tryz.underlying55
  a75:=Tryz.isAgg55
  z75:=Tryz.sizeOf55
  v75:=Tryz.zeroValue55
  g14:=by kernel_rfl
  t5:=Tryz.underlying5
  a5:=Tryz.isAgg5
  z5:=Tryz.sizeOf5
  v5:=Tryz.zeroValue5
  t9:=Tryz.underlying9
  a9:=Tryz.isAgg9
  z9:=Tryz.sizeOf9
  v9:=Tryz.zeroValue9
  t80:=Tryz.underlying262
  a80:=Tryz.isAgg262
  z80:=Tryz.sizeOf262
  v80:=Tryz.zeroValue262
  i0:=by kernel_rfl
  i3:=by kernel_rfl
  i4:=by kernel_rfl
  i5:=by kernel_rfl
  i9:=by kernel_rfl
  i20:=by kernel_rfl
  i37:=by kernel_rfl
  i75:=by kernel_rfl
  i80:=by kernel_rfl
  m14:=by kernel_rfl }
open Go.RowKit in
theorem Tryz.bytes_growSlice_row (g l c n:Nat) (cur:Array Value) (w:World) (hg:w.heap[g]?=some (.cells cur 5 (0,0))) (hcs:cur.size=c) (hlc:l ≤ c) (hn:1 ≤ n) (hlim:l + n ≤ 140737488355328) (hc2:c ≤ 140737488355328) (h1:∀ v ∈ cur.toList.take l,v.oneCell'=true) :
    Calls Tryz.prog 85 #[.slice (some ⟨g,0,none⟩) l c,.int .i64 n] w fun e w'=>∃ cap2 cells,e=.returned (.slice (some ⟨w.heap.size,0,none⟩) l cap2)∧w'.heap[w.heap.size]?=some (.cells cells 5 (0,0)) ∧
      cells.size=cap2∧cells.toList.take l=cur.toList.take l∧l + n ≤ cap2∧cap2 ≤ maxLen∧Below w.heap.size w w':=Any.bytes_growSlice_row Tryz.laysM290 g l c n cur w hg hcs hlc hn hlim hc2 h1
def Tryz.lays164_ren:Go.Shelf.Ren:=⟨fun|164=>47|197=>73|239=>74|260=>87|274=>88|275=>89|n=>n,fun|9=>9|4=>4|3=>3|5=>5|0=>0|21=>21|105=>167|156=>206|49=>205|157=>207|46=>119|159=>209|162=>212|160=>210|119=>234|139=>237|138=>236|208=>241|51=>227|206=>239|n=>n,fun|11=>3|12=>4|13=>5|3=>6|4=>7|n=>n⟩
theorem Tryz.lays164:Go.Proofs.Lays.n164 Tryz.prog Tryz.lays164_ren:={
  mixed:=by kernel_rfl
  f164:=Tryz.func47.trans (congrArg some (by kernel_rfl))
  f197:=Tryz.func73.trans (congrArg some (by kernel_rfl))
  f239:=Tryz.func74.trans (congrArg some (by kernel_rfl))
  f260:=Tryz.func87.trans (congrArg some (by kernel_rfl))
  f274:=Tryz.func88.trans (congrArg some (by kernel_rfl))
  f275:=Tryz.func89.trans (congrArg some (by kernel_rfl))
  t0:=Tryz.underlying0
  a0:=Tryz.isAgg0
  z0:=Tryz.sizeOf0
  v0:=Tryz.zeroValue0
  t3:=Tryz.underlying3
  a3:=Tryz.isAgg3
  z3:=Tryz.sizeOf3
  v3:=Tryz.zeroValue3
  t4:=Tryz.underlying4
  a4:=Tryz.isAgg4
  z4:=Tryz.sizeOf4
  v4:=Tryz.zeroValue4
  t5:=Tryz.underlying5
  a5:=Tryz.isAgg5
  z5:=Tryz.sizeOf5
  v5:=Tryz.zeroValue5
  t9:=Tryz.underlying9
  a9:=Tryz.isAgg9
  z9:=Tryz.sizeOf9
  v9:=Tryz.zeroValue9
  t21:=Tryz.underlying21
  a21:=Tryz.isAgg21
  z21:=Tryz.sizeOf21
  v21:=Tryz.zeroValue21
  t46:=Tryz.underlying119
  a46:=Tryz.isAgg119
  z46:=Tryz.sizeOf119
  v46:=Tryz.zeroValue119
  t49:=Tryz.underlying205
  a49:=Tryz.isAgg205
  z49:=Tryz.sizeOf205
  v49:=Tryz.zeroValue205
  t51:=Tryz.underlying227
  a51:=Tryz.isAgg227
  z51:=Tryz.sizeOf227
  v51:=Tryz.zeroValue227
  t105:=Tryz.underlying167
  a105:=Tryz.isAgg167
  z105:=Tryz.sizeOf167
  v105:=Tryz.zeroValue167
  t119:=Tryz.underlying234
  a119:=Tryz.isAgg234
  z119:=Tryz.sizeOf234
  t138:=Tryz.underlying236
  a138:=Tryz.isAgg236
  z138:=Tryz.sizeOf236
  v138:=Tryz.zeroValue236
  t139:=Tryz.underlying237
  a139:=Tryz.isAgg237
  z139:=Tryz.sizeOf237
  v139:=Tryz.zeroValue237
  t156:=Tryz.underlying206
  a156:=Tryz.isAgg206
  z156:=Tryz.sizeOf206
  t157:=Tryz.underlying207
  a157:=Tryz.isAgg207
  z157:=Tryz.sizeOf207
  v157:=Tryz.zeroValue207
  t159:=Tryz.underlying209
  a159:=Tryz.isAgg209
  z159:=Tryz.sizeOf209
  v159:=Tryz.zeroValue209
  t160:=Tryz.underlying210
  a160:=Tryz.isAgg210
  z160:=Tryz.sizeOf210
  v160:=Tryz.zeroValue210
  t162:=Tryz.underlying212
  a162:=Tryz.isAgg212
  z162:=Tryz.sizeOf212
  v162:=Tryz.zeroValue212
  t206:=Tryz.underlying239
  a206:=Tryz.isAgg239
  z206:=Tryz.sizeOf239
  v206:=Tryz.zeroValue239
  t208:=Tryz.underlying241
  a208:=Tryz.isAgg241
  z208:=Tryz.sizeOf241
  v208:=Tryz.zeroValue241
  g3:=by kernel_rfl
  g4:=by kernel_rfl
  g11:=by kernel_rfl
  g12:=by kernel_rfl
  g13:=by kernel_rfl }
open Go.RowKit Go.Lib in
theorem Tryz.strings_EqualFold (s t:ByteArray) (w:World) (hs:s.size < 4294967281) (has:∀ (j:Nat) b,s.data.toList[j]?=some b → b.toNat < 128) (hat:∀ (j:Nat) b,t.data.toList[j]?=some b → b.toNat < 128) :
    Calls Tryz.prog 47 #[.string s,.string t] w fun e w'=>e=.returned (.bool (Lib.equalFold s.data.toList t.data.toList))∧w'=w:=Any.strings_EqualFold Tryz.lays164 s t w hs has hat
def Tryz.lays197_ren:Go.Shelf.Ren:=⟨fun|197=>73|260=>87|n=>n,fun|9=>9|21=>21|3=>3|4=>4|5=>5|105=>167|119=>234|0=>0|46=>119|139=>237|138=>236|n=>n,fun|3=>6|4=>7|n=>n⟩
theorem Tryz.lays197:Go.Proofs.Lays.n197 Tryz.prog Tryz.lays197_ren:={
  mixed:=by kernel_rfl
  f197:=Tryz.func73.trans (congrArg some (by kernel_rfl))
  f260:=Tryz.func87.trans (congrArg some (by kernel_rfl))
  t0:=Tryz.underlying0
  a0:=Tryz.isAgg0
  z0:=Tryz.sizeOf0
  v0:=Tryz.zeroValue0
  t3:=Tryz.underlying3
  a3:=Tryz.isAgg3
  z3:=Tryz.sizeOf3
  v3:=Tryz.zeroValue3
  t4:=Tryz.underlying4
  a4:=Tryz.isAgg4
  z4:=Tryz.sizeOf4
  v4:=Tryz.zeroValue4
  t5:=Tryz.underlying5
  a5:=Tryz.isAgg5
  z5:=Tryz.sizeOf5
  v5:=Tryz.zeroValue5
  t9:=Tryz.underlying9
  a9:=Tryz.isAgg9
  z9:=Tryz.sizeOf9
  v9:=Tryz.zeroValue9
  t21:=Tryz.underlying21
  a21:=Tryz.isAgg21
  z21:=Tryz.sizeOf21
  v21:=Tryz.zeroValue21
  t46:=Tryz.underlying119
  a46:=Tryz.isAgg119
  z46:=Tryz.sizeOf119
  v46:=Tryz.zeroValue119
  t105:=Tryz.underlying167
  a105:=Tryz.isAgg167
  z105:=Tryz.sizeOf167
  v105:=Tryz.zeroValue167
  t119:=Tryz.underlying234
  a119:=Tryz.isAgg234
  z119:=Tryz.sizeOf234
  t138:=Tryz.underlying236
  a138:=Tryz.isAgg236
  z138:=Tryz.sizeOf236
  v138:=Tryz.zeroValue236
  t139:=Tryz.underlying237
  a139:=Tryz.isAgg237
  z139:=Tryz.sizeOf237
  v139:=Tryz.zeroValue237
  g3:=by kernel_rfl
  g4:=by kernel_rfl }
open Go.RowKit Go.Lib in
theorem Tryz.utf8_DecodeRuneInString (s:ByteArray) (w:World) (hT:Lib.Utf8Tabs 6 7 w) :
    Calls Tryz.prog 73 #[.string s] w fun e w'=>e=.returned (.tuple #[.int .i32 (Lib.decodeGo s).1,.int .i64 (Lib.decodeGo s).2])∧Below w.heap.size w w':=Any.utf8_DecodeRuneInString Tryz.lays197 s w hT
def Tryz.laysGn14_ren:Go.Shelf.Ren:=⟨fun|14=>81|25=>97|26=>98|n=>n,fun|22=>202|21=>21|4=>4|0=>0|31=>226|28=>223|3=>3|32=>227|35=>229|33=>205|29=>224|38=>232|41=>246|42=>119|43=>247|n=>n,fun|n=>n⟩
theorem Tryz.laysGn14:Go.Proofs.LaysGn.n14 Tryz.prog Tryz.laysGn14_ren:={
  mixed:=by kernel_rfl
  f14:=Tryz.func81.trans (congrArg some (by kernel_rfl))
  f25:=Tryz.func97.trans (congrArg some (by kernel_rfl))
  f26:=Tryz.func98.trans (congrArg some (by kernel_rfl))
  t0:=Tryz.underlying0
  a0:=Tryz.isAgg0
  z0:=Tryz.sizeOf0
  v0:=Tryz.zeroValue0
  i0:=by kernel_rfl
  t3:=Tryz.underlying3
  a3:=Tryz.isAgg3
  z3:=Tryz.sizeOf3
  v3:=Tryz.zeroValue3
  i3:=by kernel_rfl
  t4:=Tryz.underlying4
  a4:=Tryz.isAgg4
  z4:=Tryz.sizeOf4
  v4:=Tryz.zeroValue4
  i4:=by kernel_rfl
  t21:=Tryz.underlying21
  a21:=Tryz.isAgg21
  z21:=Tryz.sizeOf21
  v21:=Tryz.zeroValue21
  i21:=by kernel_rfl
  t22:=Tryz.underlying202
  a22:=Tryz.isAgg202
  z22:=Tryz.sizeOf202
  v22:=Tryz.zeroValue202
  i22:=by kernel_rfl
  t28:=Tryz.underlying223
  a28:=Tryz.isAgg223
  z28:=Tryz.sizeOf223
  v28:=Tryz.zeroValue223
  i28:=by kernel_rfl
  t29:=Tryz.underlying224
  a29:=Tryz.isAgg224
  z29:=Tryz.sizeOf224
  v29:=Tryz.zeroValue224
  i29:=by kernel_rfl
  t31:=Tryz.underlying226
  a31:=Tryz.isAgg226
  z31:=Tryz.sizeOf226
  v31:=Tryz.zeroValue226
  i31:=by kernel_rfl
  t32:=Tryz.underlying227
  a32:=Tryz.isAgg227
  z32:=Tryz.sizeOf227
  v32:=Tryz.zeroValue227
  i32:=by kernel_rfl
  t33:=Tryz.underlying205
  a33:=Tryz.isAgg205
  z33:=Tryz.sizeOf205
  v33:=Tryz.zeroValue205
  i33:=by kernel_rfl
  t35:=Tryz.underlying229
  a35:=Tryz.isAgg229
  z35:=Tryz.sizeOf229
  v35:=Tryz.zeroValue229
  i35:=by kernel_rfl
  t38:=Tryz.underlying232
  a38:=Tryz.isAgg232
  z38:=Tryz.sizeOf232
  v38:=Tryz.zeroValue232
  i38:=by kernel_rfl
  t41:=Tryz.underlying246
  a41:=Tryz.isAgg246
  z41:=Tryz.sizeOf246
  v41:=Tryz.zeroValue246
  i41:=by kernel_rfl
  t42:=Tryz.underlying119
  a42:=Tryz.isAgg119
  z42:=Tryz.sizeOf119
  v42:=Tryz.zeroValue119
  i42:=by kernel_rfl
  t43:=Tryz.underlying247
  a43:=Tryz.isAgg247
  z43:=Tryz.sizeOf247
  v43:=Tryz.zeroValue247
  i43:=by kernel_rfl }
open Go.RowKit Go.Lib in
theorem Tryz.unicode_Is_any (Tb oT:Nat) (T:RTab) (r:Int) (w:World) (hlo:-2147483648 ≤ r) (hhi:r ≤ 2147483647) (hA:RTabAt Tb oT T w) (hok:RTabOk T) :
    Calls Tryz.prog 81 #[.pointer (some ⟨Tb,oT,none⟩),.int .i32 r] w fun e w'=>e=.returned (.bool (isGo T r))∧Below w.heap.size w w':=Any.unicode_Is_any Tryz.laysGn14 Tb oT T r w hlo hhi hA hok
end Go.Proofs
namespace Go.Proofs.YtkjnockljapnbaaGreatDoor
open Go Go.RowKit
structure GrowPost (x:Cx) (c:DC) (w:World) (v:DV) (buf:Bs) (n:Nat) (w':World) (g cap:Nat) (arr:Array Value):Prop where
  dec:DecAt w' x.d c { v with bufv:=.slice (some ⟨g,0,none⟩) (buf.length + n) cap }
  blk:Blk w' g arr 5
  sz:arr.size=cap
  cp:buf.length + n ≤ cap
  cm:cap ≤ 9223372036854775807
  new:w.heap.size ≤ g
  el:∀ j,j < buf.length → arr[j]?=some (.int .u8 (buf.getD j 0).toNat)
  mod:Mod (fun k=>k=x.d) w w'
theorem u8all:(Tryz.prog.info? 5).map (fun i=>(i.zero,i.size,i.bytes))=some (some (.int .u8 0),1,1):=by kernel_rfl
theorem mk64 (n:Nat) (hn:n ≤ 64) (w:World):(Instr.makeSlice 74 (.int .i64 n) (.int .i64 64)).run Tryz.prog w=.ok (.slice (some ⟨w.heap.size,0,none⟩) n 64) (w.alloc (.cells (madeCells #[.int .u8 0] 64) 5)):=by
  obtain ⟨i,hi,hz,h1,h2⟩:=info_parts u8all
  have:=run_make w 74 5 i (.int .u8 0) Tryz.underlying74 hi hz .i64 .i64 n 64 (by omega) (by omega) (by rw [h2];omega) (by omega)
  rw [h1] at this
  simpa [Value.cells] using this
theorem grow_nil (x:Cx) (hx:x.Ok) (c:DC) (w:World) (v:DV) (rest:Bs) (e:Option EK) (h:RdS x c w v rest e []) (hv:v.bufv=.slice none 0 0) (n:Nat) (hn:1 ≤ n) (hn2:n ≤ 64) :
    Calls Tryz.prog 70 #[.pointer (some ⟨x.d,7,none⟩),.int .i64 n] w fun en w'=>en=.returned (.int .i64 0)∧∃ g cap arr,GrowPost x c w v [] n w' g cap arr:=by
  have hc:=h.dec.cell
  have hf:=h.dec.frozen
  have hlen:=Lib.hid (len_c x c w v rest e [] h)
  have HX:=Lib.hid hx
  have H:=Lib.hid h
  have htry:=Lib.hid (fun k=>tryGrow_no x.d c v (w.drewN k) h.dec none 0 0 n hv (by omega) (by omega) (by omega))
  obtain ⟨sb,sl,snb,serr,sline,sls,soff⟩:=v
  simp only at hv
  subst hv
  clear h hx
  have h1:(n:Int) ≤ 64:=by omega
  go_enter Tryz.func70,Tryz.ntmps70
  go_wp2_with fail
  refine hlen.out.mono ?_
  rintro e1 w1 ⟨rfl,k,rfl⟩
  go_wp2_with fail
  refine (htry.out _).mono ?_
  rintro e2 w2 ⟨rfl,rfl⟩
  have hc':∀ o,(w.drewN k).cell? ⟨x.d,o,none⟩=(dcells c ⟨.slice none 0 0,sl,snb,serr,sline,sls,soff⟩)[o]?:=hc
  have hf':∀ o,(w.drewN k).frozen? ⟨x.d,o,none⟩=false:=hf
  have heql:=fun (w:World) (a:Option Addr) (n c:Nat)=>Lib.run_eql_slice_nil (P:=Tryz.prog) w 74 5 a n c 0 0 Tryz.underlying74
  have hmk:=mk64 n hn2
  have hda:DecAt ((w.drewN k).alloc (.cells (madeCells #[.int .u8 0] 64) 5)) x.d c ⟨.slice none 0 0,sl,snb,serr,sline,sls,soff⟩:=Blk.alloc (show Blk (w.drewN k) _ _ _ from H.out.dec) _
  have hca:=hda.cell
  have hfa:=hda.frozen
  have HDA:=Lib.hid hda
  clear hda
  go_wp2
  go_ret
  have hm:=((((Mod.refl (fun k=>k=x.d) w).drewN k).alloc (.cells (madeCells #[.int .u8 0] 64) 5)).setCell (p:=⟨x.d,7,none⟩) (Or.inl rfl) (.slice (some ⟨w.heap.size,0,none⟩) n 64))
  have hgd:w.heap.size ≠ x.d:=fun h=>by have:=H.out.dec.lt;omega
  refine ⟨rfl,w.heap.size,64,madeCells #[.int .u8 0] 64,?_,?_,size_madeCells _ _,by simp;omega,by omega,Nat.le_refl _,fun j hj=>by simp at hj,hm⟩
  · have:=HDA.out.set 7 (.slice (some ⟨w.heap.size,0,none⟩) n 64)
    rw [show ([]:Bs).length + n=n by simp]
    exact this
  · exact (show Blk ((w.drewN k).alloc (.cells (madeCells #[.int .u8 0] 64) 5)) w.heap.size _ _ from Blk.new (w.drewN k) _ _).set_ne hgd _
end Go.Proofs.YtkjnockljapnbaaGreatDoor
namespace Go.Proofs.YtkjnockljapnbaaGreatDoor
open Go
section
variable {P:Program} {ops:Array Oper} {md:Region.Mode} {L:List Nat}
theorem listed_none {listed:Array Bool} {i:Nat} (h:listed.getD i true=false):listed.getD i false=false:=by
  rcases Nat.lt_or_ge i listed.size with h'|h'
  · simp [h'] at h ⊢;exact h
  · simp [Array.getElem?_eq_none h'] at h
def freeUpon (w:World) (v:Value):Result Next → Prop
  | .ok (.value u) w'=>w'=w∧u=v
  | _=>False
def freeAt (P:Program) (o:Oper) (a:Act) (w:World) (v:Value):Prop:=freeUpon w v ((execOp a.eval o).run P w)
def freely (P:Program) (o:Oper) (a:Act) (next:Act → Prop):Prop:=∃ v,(∀ w,freeAt P o a w v)∧next (a.put o.dst v)
attribute [go_sem] freeUpon freeAt freely
def cOp (P:Program) (ops:Array Oper) (L:List Nat) (Q:Exit → Act → World → Prop) (i:Nat) (K:Act → (World → Prop) → Prop) (a:Act) (C:World → Prop):Prop:=
  match ops[i]? with
  | none=>False
  | some o=>match L.getD i 2 with
    | 0=>∃ v,Yields P ops o v a∧K (a.put o.dst v) C
    | 1=>∃ v,YieldsIn P ops C o v a∧K (a.put o.dst v) C
    | _=>∀ w,C w → wpOp P ops Q i (fun a' w'=>∃ C',C' w'∧K a' C') a w
theorem cOp_mono {Q:Exit → Act → World → Prop} {i:Nat} {K K':Act → (World → Prop) → Prop} {a:Act} {C:World → Prop} (h:∀ a C,K a C → K' a C) (hh:cOp P ops L Q i K a C):cOp P ops L Q i K' a C:=by
  unfold cOp at *
  split
  · simp_all
  · rename_i o ho
    simp only [ho] at hh
    split
    · rename_i h0;simp only [h0] at hh;obtain ⟨v,h1,h2⟩:=hh;exact ⟨v,h1,h _ _ h2⟩
    · rename_i h0;simp only [h0] at hh;obtain ⟨v,h1,h2⟩:=hh;exact ⟨v,h1,h _ _ h2⟩
    · rename_i h0 h1
      split at hh
      · exact absurd (by assumption) h0
      · exact absurd (by assumption) h1
      · exact fun w hw=>wpOp_mono (fun a' w' ⟨C',h1,h2⟩=>⟨C',h1,h _ _ h2⟩) (hh w hw)
def wpAnyM (P:Program) (md:Region.Mode) (ops:Array Oper) (L:List Nat) (Q:Exit → Act → World → Prop):Nat → Array Bool → Act → (World → Prop) → Prop
  | 0,listed,a,C=>Region.ready md ops listed=[]∧∀ w,C w → Q .normal a w
  | fuel + 1,listed,a,C=>
    (Region.ready md ops listed=[] → ∀ w,C w → Q .normal a w) ∧
    ∀ i ∈ Region.ready md ops listed,cOp P ops L Q i (wpAnyM P md ops L Q fuel (listed.setIfInBounds i true)) a C
theorem wpAny_of_M {Q:Exit → Act → World → Prop}:∀ (fuel:Nat) (listed:Array Bool) (a:Act) (C:World → Prop) (w:World),C w → wpAnyM P md ops L Q fuel listed a C → wpAny P md ops Q fuel listed a w
  | 0,_,_,_,w,hw,h=>⟨h.1,h.2 w hw⟩
  | fuel + 1,_,_,C,w,hw,h=>⟨fun h0=>h.1 h0 w hw,fun i hi=>by
    have h1:=h.2 i hi
    unfold cOp at h1
    split at h1
    · exact h1.elim
    · rename_i o ho
      split at h1
      · obtain ⟨v,hy,hK⟩:=h1
        exact hy.wpOp ho (wpAny_of_M fuel _ _ C w hw hK)
      · obtain ⟨v,hy,hK⟩:=h1
        exact wpOp_of_qOp (C:=C) (K:=fun a'=>wpAnyM P md ops L Q fuel _ a' C) hw (fun a' w' hw' h'=>wpAny_of_M fuel _ _ C w' hw' h') (hy.qOp ho hK)
      · exact wpOp_mono (fun a' w' ⟨C',h1,h2⟩=>wpAny_of_M fuel _ _ C' w' h1 h2) (h1 w hw)⟩
structure WaitInv (md:Region.Mode) (ops:Array Oper) (L:List Nat) (i:Nat) (wt:Nat → Bool) (listed:Array Bool):Prop where
  out:∀ j,wt j=true → listed.getD j false=false
  cov:∀ j,j ≠ i → listed.getD j true=false → 2 ≤ L.getD j 2 → wt j=true
def WaitSound (md:Region.Mode) (ops:Array Oper) (i:Nat) (wt:Nat → Bool):Prop:=∀ j,wt j=true → ∃ oj,ops[j]?=some oj∧∃ e ∈ oj.after,Region.binds md e=true∧(e.on=i ∨ wt e.on=true)
theorem WaitInv.not_ready {i j:Nat} {wt:Nat → Bool} {listed:Array Bool} (hs:WaitSound md ops i wt) (h:WaitInv md ops L i wt listed) (hi:listed.getD i true=false) (hj:j ∈ Region.ready md ops listed):wt j=false:=by
  cases hw:wt j with
  | false=>rfl
  | true=>
    obtain ⟨oj,hoj,e,he,hb,ho⟩:=hs j hw
    obtain ⟨_,o,ho',hall⟩:=mem_ready.1 hj
    have:o=oj:=Option.some.inj (ho'.symm.trans hoj)
    subst this
    have h1:=hall e he hb
    rcases ho with ho|ho
    · rw [ho,listed_none hi] at h1;cases h1
    · rw [h.out _ ho] at h1;cases h1
theorem WaitInv.set {i j:Nat} {wt:Nat → Bool} {listed:Array Bool} (h:WaitInv md ops L i wt listed) (hj:wt j=false):WaitInv md ops L i wt (listed.setIfInBounds j true):=by
  refine ⟨fun k hk=>?_,fun k hk hu hl=>?_⟩
  · have:j ≠ k:=fun e=>by subst e;rw [hj] at hk;cases hk
    rw [getD_set_ne false this];exact h.out k hk
  · by_cases hjk:j=k
    · subst hjk
      rcases Nat.lt_or_ge j listed.size with h'|h'
      · simp [h'] at hu
      · simp at hu
    · rw [getD_set_ne true hjk] at hu
      exact h.cov k hk hu hl
theorem wpAnyM_first {Q:Exit → Act → World → Prop} {i:Nat} {oi:Oper} {v:Value} (hi:ops[i]?=some oi) (hsel:∀ (j:Nat) (o:Oper) cs b,ops[j]?=some o → o.op ≠ .select cs b)
    (hQ:∀ c a w,Q (.panic c) (a.put oi.dst v) w → Q (.panic c) a w) (wt:Nat → Bool) (hws:L.getD i 2=1 → WaitSound md ops i wt) (hc:L.getD i 2=0 ∨ L.getD i 2=1) :
    ∀ (fuel:Nat) (listed:Array Bool) (a:Act) (C:World → Prop),
      (∀ j oj,ops[j]?=some oj → j ≠ i → listed.getD j true=false → (∀ e ∈ oj.after,Region.binds md e=true → e.on ≠ i) → oi.apart ops oj=true) →
      (L.getD i 2=1 → WaitInv md ops L i wt listed) →
      i ∈ Region.ready md ops listed → (L.getD i 2=0 → Yields P ops oi v a) → (L.getD i 2=1 → YieldsIn P ops C oi v a) →
      wpAnyM P md ops L Q fuel (listed.setIfInBounds i true) (a.put oi.dst v) C → wpAnyM P md ops L Q (fuel + 1) listed a C:=by
  intro fuel
  have self:∀ (fuel:Nat) (listed:Array Bool) (a:Act) (C:World → Prop),(L.getD i 2=0 → Yields P ops oi v a) → (L.getD i 2=1 → YieldsIn P ops C oi v a) →
      wpAnyM P md ops L Q fuel (listed.setIfInBounds i true) (a.put oi.dst v) C → cOp P ops L Q i (wpAnyM P md ops L Q fuel (listed.setIfInBounds i true)) a C:=by
    intro fuel listed a C h0 h1 H
    unfold cOp
    simp only [hi]
    rcases hc with hc|hc
    · simp only [hc];exact ⟨v,h0 hc,H⟩
    · simp only [hc];exact ⟨v,h1 hc,H⟩
  induction fuel with
  | zero=>
    intro listed a C _ _ hr h0 h1 H
    refine ⟨fun h=>(by rw [h] at hr;cases hr),fun j hj=>?_⟩
    by_cases hji:j=i
    · subst hji;exact self _ _ _ _ h0 h1 H
    · have:=ready_mono hj hji
      rw [H.1] at this
      cases this
  | succ fuel ih=>
    intro listed a C hfree hwi hr h0 h1 H
    refine ⟨fun h=>(by rw [h] at hr;cases hr),fun j hj=>?_⟩
    by_cases hji:j=i
    · subst hji;exact self _ _ _ _ h0 h1 H
    · have hh:=H.2 j (ready_mono hj hji)
      obtain ⟨hjun,oj,hoj,hall⟩:=mem_ready.1 hj
      have hiun:=(mem_ready.1 hr).1
      have hnot:∀ e ∈ oj.after,Region.binds md e=true → e.on ≠ i:=fun e he hb heq=>by
        have h1:=hall e he hb
        rw [heq,listed_none hiun] at h1
        cases h1
      have hap:=hfree j oj hoj hji hjun hnot
      have hfree':∀ k ok,ops[k]?=some ok → k ≠ i → (listed.setIfInBounds j true).getD k true=false →
          (∀ e ∈ ok.after,Region.binds md e=true → e.on ≠ i) → oi.apart ops ok=true:=fun k ok hk hki hun hno=>by
        refine hfree k ok hk hki ?_ hno
        by_cases hjk:j=k
        · subst hjk;exact hjun
        · rw [getD_set_ne true hjk] at hun;exact hun
      have hwi':L.getD i 2=1 → WaitInv md ops L i wt (listed.setIfInBounds j true):=fun h=>(hwi h).set ((hwi h).not_ready (hws h) hiun hj)
      have hr':=ready_mono hr (Ne.symm hji)
      obtain ⟨p1,p2,p3⟩:=Oper.apart_spec hap
      have hsi:=fun cs b=>hsel i oi cs b hi
      have hsj:=fun cs b=>hsel j oj cs b hoj
      have keep0:∀ (a:Act),(L.getD i 2=0 → Yields P ops oi v a) → ∀ u,(L.getD i 2=0 → Yields P ops oi v (a.put oj.dst u)):=fun a hy u h=>
        (hy h).of_same (execOp_put oi hsi a oj.dst u p3) (wanted_put oi a oj.dst u p3)
      have keep1:∀ (a:Act),(L.getD i 2=1 → YieldsIn P ops C oi v a) → ∀ u,(L.getD i 2=1 → YieldsIn P ops C oi v (a.put oj.dst u)):=fun a hy u h=>
        (hy h).of_same (execOp_put oi hsi a oj.dst u p3) (wanted_put oi a oj.dst u p3)
      unfold cOp at hh ⊢
      simp only [hoj] at hh ⊢
      split
      · rename_i hcj
        simp only [hcj] at hh
        obtain ⟨u,hy,hK⟩:=hh
        refine ⟨u,hy.of_same (execOp_put oj hsj a oi.dst v p1).symm (wanted_put oj a oi.dst v p1).symm,ih _ _ _ hfree' hwi' hr' (keep0 a h0 u) (keep1 a h1 u) ?_⟩
        rw [Array.setIfInBounds_comm _ _ hji,← Act.put_comm a v u p2]
        exact hK
      · rename_i hcj
        simp only [hcj] at hh
        obtain ⟨u,hy,hK⟩:=hh
        refine ⟨u,hy.of_same (execOp_put oj hsj a oi.dst v p1).symm (wanted_put oj a oi.dst v p1).symm,ih _ _ _ hfree' hwi' hr' (keep0 a h0 u) (keep1 a h1 u) ?_⟩
        rw [Array.setIfInBounds_comm _ _ hji,← Act.put_comm a v u p2]
        exact hK
      · rename_i hc0 hc1
        rcases hc with hc|hc
        · split at hh
          · exact absurd (by assumption) hc0
          · exact absurd (by assumption) hc1
          · intro w hw
            have h2:=wpOp_put hoj hap hsi hsj hQ (h0 hc) (hh w hw)
            refine wpOp_mono (fun a' w' h3=>?_) h2
            obtain ⟨hy,C',hC',hK⟩:=h3
            refine ⟨C',hC',ih _ _ _ hfree' hwi' hr' (fun _=>hy) (fun h=>by rw [hc] at h;cases h) ?_⟩
            rw [Array.setIfInBounds_comm _ _ hji]
            exact hK
        · have h2:=(hwi hc).not_ready (hws hc) hiun hj
          rw [(hwi hc).cov j hji hjun (by
            rcases Nat.lt_or_ge (L.getD j 2) 2 with hl|hl
            · have:L.getD j 2=0 ∨ L.getD j 2=1:=by omega
              rcases this with h|h
              · exact absurd h hc0
              · exact absurd h hc1
            · exact hl)] at h2
          cases h2
def waitTab (md:Region.Mode) (ops:Array Oper) (i:Nat):Array Bool:=
  ops.foldl (fun acc o=>acc.push (o.after.any fun e=>Region.binds md e && (e.on == i || acc.getD e.on false))) #[]
def waitOk (md:Region.Mode) (ops:Array Oper) (L:List Nat) (listed:Array Bool) (i:Nat):Bool:=
  let wt:=waitTab md ops i
  decide (wt.size=ops.size) && (List.range ops.size).all fun j=>
    (j == i || listed.getD j true || decide (L.getD j 2 < 2) || wt.getD j false) &&
    (!wt.getD j false || (!listed.getD j false && match ops[j]? with
      | some oj=>oj.after.any fun e=>Region.binds md e && (e.on == i || wt.getD e.on false)
      | none=>false))
theorem waitOk_spec {listed:Array Bool} {i:Nat} (hz:listed.size=ops.size) (h:waitOk md ops L listed i=true):WaitSound md ops i (fun j=>(waitTab md ops i).getD j false)∧WaitInv md ops L i (fun j=>(waitTab md ops i).getD j false) listed:=by
  simp only [waitOk,Bool.and_eq_true,decide_eq_true_eq,List.all_eq_true,List.mem_range] at h
  obtain ⟨hs,h⟩:=h
  have inr:∀ j,(waitTab md ops i).getD j false=true → j < ops.size:=fun j hj=>by
    rcases Nat.lt_or_ge j (waitTab md ops i).size with h'|h'
    · omega
    · simp [Array.getElem?_eq_none h'] at hj
  refine ⟨fun j hj=>?_,fun j hj=>?_,fun j hji hun hl=>?_⟩
  · have h1:=(h j (inr j hj)).2
    simp only [hj,Bool.not_true,Bool.false_or,Bool.and_eq_true] at h1
    have h2:=h1.2
    split at h2
    · rename_i oj hoj
      obtain ⟨e,he,hb⟩:=Array.any_eq_true'.1 h2
      simp only [Bool.and_eq_true,Bool.or_eq_true,beq_iff_eq] at hb
      exact ⟨oj,hoj,e,he,hb.1,hb.2⟩
    · cases h2
  · have h1:=(h j (inr j hj)).2
    simp only [hj,Bool.not_true,Bool.false_or,Bool.and_eq_true,Bool.not_eq_true'] at h1
    exact h1.1
  · have hj:j < ops.size:=by
      rcases Nat.lt_or_ge j listed.size with h'|h'
      · omega
      · simp [Array.getElem?_eq_none h'] at hun
    have h1:=(h j hj).1
    simp only [Bool.or_eq_true,beq_iff_eq,hji,hun,decide_eq_true_eq] at h1
    rcases h1 with ((h1|h1)|h1)|h1
    · exact h1.elim
    · cases h1
    · omega
    · exact h1
def planOk (md:Region.Mode) (ops:Array Oper) (L:List Nat):List Nat → Array Bool → Bool
  | [],listed=>(Region.ready md ops listed).isEmpty
  | k :: π,listed=>(Region.ready md ops listed).contains k && (match L.getD k 2 with
      | 0=>Region.free md ops listed k
      | 1=>Region.free md ops listed k && waitOk md ops L listed k
      | _=>Region.ready md ops listed == [k]) && planOk md ops L π (listed.setIfInBounds k true)
def wpPi (P:Program) (ops:Array Oper) (L:List Nat) (Q:Exit → Act → World → Prop):List Nat → Act → (World → Prop) → Prop
  | [],a,C=>∀ w,C w → Q .normal a w
  | k :: π,a,C=>cOp P ops L Q k (wpPi P ops L Q π) a C
theorem wpAnyM_pi {Q:Exit → Act → World → Prop} (hs:Region.noSelect ops=true) (hQ:∀ c a w,¬ Q (.panic c) a w):∀ (π:List Nat) (listed:Array Bool) (a:Act) (C:World → Prop),listed.size=ops.size →
    planOk md ops L π listed=true → wpPi P ops L Q π a C → wpAnyM P md ops L Q π.length listed a C
  | [],_,_,_,_,hB,h=>⟨by simpa [planOk] using hB,h⟩
  | k :: π,listed,a,C,hz,hB,h=>by
    simp only [planOk,Bool.and_eq_true] at hB
    obtain ⟨⟨hr,hf⟩,hB'⟩:=hB
    have hr':k ∈ Region.ready md ops listed:=by simpa using hr
    have hz':(listed.setIfInBounds k true).size=ops.size:=by simpa using hz
    have hrec:=fun a' C'=>wpAnyM_pi hs hQ π (listed.setIfInBounds k true) a' C' hz' hB'
    have h':cOp P ops L Q k (wpAnyM P md ops L Q π.length (listed.setIfInBounds k true)) a C:=cOp_mono hrec h
    have h2:=h'
    unfold cOp at h2
    split at h2
    · exact h2.elim
    · rename_i o ho
      split at h2
      · rename_i hc
        simp only [hc] at hf
        obtain ⟨v,hy,hK⟩:=h2
        exact wpAnyM_first ho (Region.noSelect_spec hs) (fun c a w hh=>(hQ _ _ _ hh).elim) (fun _=>false) (fun hh=>by rw [hc] at hh;cases hh) (.inl hc) _ _ _ _ (Region.free_spec ho hf)
          (fun hh=>by rw [hc] at hh;cases hh) hr' (fun _=>hy) (fun hh=>by rw [hc] at hh;cases hh) hK
      · rename_i hc
        simp only [hc,Bool.and_eq_true] at hf
        obtain ⟨v,hy,hK⟩:=h2
        obtain ⟨w1,w2⟩:=waitOk_spec hz hf.2
        exact wpAnyM_first ho (Region.noSelect_spec hs) (fun c a w hh=>(hQ _ _ _ hh).elim) _ (fun _=>w1) (.inr hc) _ _ _ _ (Region.free_spec ho hf.1)
          (fun _=>w2) hr' (fun hh=>by rw [hc] at hh;cases hh) (fun _=>hy) hK
      · rename_i h0 h1
        have hone:Region.ready md ops listed=[k]:=by
          split at hf
          · exact absurd (by assumption) h0
          · exact absurd (by assumption) h1
          · simpa using hf
        refine ⟨fun hh=>(by rw [hone] at hh;cases hh),fun i hi=>?_⟩
        rw [hone] at hi
        have:i=k:=by simpa using hi
        subst this
        exact h'
theorem wp_region_pi {id:Nat} {Q:Exit → Act → World → Prop} {a:Act} {w:World} {l:List Oper} (L π:List Nat) (hm:P.follows .mixedOrders=true)
    (hB:(Region.noSelect l.toArray && planOk .any l.toArray L π (Array.replicate l.length false) && π.length == l.length)=true)
    (h:wpPi P l.toArray L (NoPanic Q) π a (fun w'=>∃ n,w'=w.drewN n)):(Code.region id l.toArray true).wp P Q a w:=by
  simp only [Bool.and_eq_true,beq_iff_eq] at hB
  obtain ⟨⟨hs,hp⟩,hl⟩:=hB
  refine wp_region_noPanic (wp_region_any hm ?_)
  have:=wpAnyM_pi (md:=.any) hs (fun c a w hh=>hh) π (Array.replicate l.length false) a _ (by simp) hp h
  rw [hl] at this
  have h2:=wpAny_of_M (md:=.any) _ _ _ _ { w with drawn:=w.drawn + 1 } ⟨1,rfl⟩ this
  simpa using h2
theorem wpPi_nil {Q:Exit → Act → World → Prop} {a:Act} {w:World} (h:∀ n,Q .normal a (w.drewN n)):wpPi P ops L (NoPanic Q) [] a (fun w'=>∃ n,w'=w.drewN n):=by
  rintro _ ⟨n,rfl⟩
  exact NoPanic.normal (h n)
theorem wpPi_free {Q:Exit → Act → World → Prop} {a:Act} {C:World → Prop} {k:Nat} {π:List Nat} {o:Oper} (ho:ops[k]?=some o) (hc:L.getD k 2=0)
    (h:∀ K:Act → Prop,(∀ a,wpPi P ops L Q π a C → K a) → if Region.wanted o (yielded ops a.tmps) then freely P o a K else K (a.put o.dst undef)):wpPi P ops L Q (k :: π) a C:=by
  have:=h (fun a'=>wpPi P ops L Q π a' C) (fun _ h=>h)
  simp only [wpPi,cOp,ho,hc]
  split at this
  · rename_i hw
    obtain ⟨v,h1,h2⟩:=this
    refine ⟨v,.inl ⟨hw,fun w=>?_⟩,h2⟩
    have h3:=h1 w
    unfold freeAt at h3
    generalize (execOp a.eval o).run P w=r at *
    cases r with
    | ok n w'=>cases n <;> simp only [freeUpon] at h3;rw [h3.1,h3.2]
    | halt x w'=>simp only [freeUpon] at h3
  · rename_i hw
    exact ⟨undef,.inr ⟨by simpa using hw,rfl⟩,this⟩
theorem wpPi_quiet {Q:Exit → Act → World → Prop} {a:Act} {C:World → Prop} {k:Nat} {π:List Nat} {o:Oper} (ho:ops[k]?=some o) (hc:L.getD k 2=1)
    (h:∀ K:Act → Prop,(∀ a,wpPi P ops L Q π a C → K a) → if Region.wanted o (yielded ops a.tmps) then o.quiet P a C K else K (a.put o.dst undef)):wpPi P ops L Q (k :: π) a C:=by
  have:=h (fun a'=>wpPi P ops L Q π a' C) (fun _ h=>h)
  simp only [wpPi,cOp,ho,hc]
  split at this
  · rename_i hw
    obtain ⟨v,h1,h2⟩:=this
    exact ⟨v,.inl ⟨hw,h1⟩,h2⟩
  · rename_i hw
    exact ⟨undef,.inr ⟨by simpa using hw,rfl⟩,this⟩
theorem wpPi_eff {Q:Exit → Act → World → Prop} {a:Act} {w:World} {k:Nat} {π:List Nat} {o:Oper} (ho:ops[k]?=some o) (hc:L.getD k 2=2)
    (h:∀ (n:Nat) (K:Act → World → Prop),Shut (∀ a' w',wpPi P ops L Q π a' (fun w''=>∃ n,w''=w'.drewN n) → K a' w') → if Region.wanted o (yielded ops a.tmps)=true then Oper.wp P o a (w.drewN n) K Q else K (a.put o.dst undef) (w.drewN n)) :
    wpPi P ops L Q (k :: π) a (fun w'=>∃ n,w'=w.drewN n):=by
  simp only [wpPi,cOp,ho,hc]
  rintro _ ⟨n,rfl⟩
  refine wpOp_mono (fun a' w' h'=>⟨fun w''=>∃ n,w''=w'.drewN n,⟨0,rfl⟩,h'⟩) (wpOp_step ho fun K' hK=>h n K' hK)
end
end Go.Proofs.YtkjnockljapnbaaGreatDoor
