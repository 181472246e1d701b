/- Part of the proof that laws.FnBalanced returns true for every argument (It). No condition of its own. -/
import Derived.Test.YtkjnockljapnbaaGreatDoorO17
import Derived.Test.YtkjnockljapnbaaGreatDoorO43
set_option linter.all false
set_option maxHeartbeats 8000000
set_option maxRecDepth 100000
namespace Go.Proofs.YtkjnockljapnbaaGreatDoor
open Go Go.RowKit
noncomputable def itCode (n:Nat):Code:=((Tryz.f19.body).bind (Code.partAt n)).getD .skip
abbrev itZero:Array Value:=#[.int .i64 0,.string ⟨#[]⟩,.string ⟨#[]⟩,.slice none 0 0,.string ⟨#[]⟩,.int .i64 0,.int .i64 0,.int .i64 0]
abbrev itPost (R:Ending → World → Prop):Exit → Act → World → Prop:=bodyPost Tryz.prog Tryz.f19 R
theorem itBegin (x:Cx) (c:DC) (w:World) (v:DV) (h:DecAt w x.d c v) (h1:-1000000000000 ≤ v.off - v.lstart) (h2:v.off - v.lstart ≤ 1000000000000) (tv:Value) (R:Ending → World → Prop)
    (hR:∀ f w',Below w.heap.size w w' → Blk w' w.heap.size itZero 33 → Blk w' (w.heap.size + 1) #[.int .i64 0,.string ⟨#[]⟩,.string ⟨#[]⟩,.slice none 0 0,.string ⟨#[]⟩,.int .i64 v.off,.int .i64 v.line,.int .i64 (v.off - v.lstart + 1)] 33 → w.heap.size + 2 ≤ w'.heap.size →
      (itCode 3).wp Tryz.prog (itPost R) (fr 104 f [(0,tv),(4,.pointer (some ⟨w.heap.size,0,none⟩)),(5,.pointer (some ⟨w.heap.size + 1,0,none⟩))]) w') :
    Calls Tryz.prog 19 #[tv,decP x] w R:=by
  have hio:=Lib.hid (fun (w':World) (h:DecAt w' x.d c v)=>inputOffset_c x c w' v h)
  have hip:=Lib.hid (fun (w':World) (h:DecAt w' x.d c v)=>inputPos_c x c w' v h h1 h2)
  have HD:=Lib.hid h
  have HR:=Lib.hid hR
  clear h h1 h2 hR
  refine calls_fr (vs:=[_,_]) 104 Tryz.func19 rfl rfl (Nat.le_of_ble_eq_true rfl) fun f=>?_
  simp only [argSlots]
  (repeat (first|(with_reducible first|refine zA fun K hK=>?_|refine zB ?_|refine zC ?_)|((with_reducible first|refine zD rfl fun K hK=>?_|refine zE fun K hK=>?_);go_simp)|(with_reducible first|((repeat ((fail_if_success refine hK _ _ ?_);clear hK K));refine hK _ _ ?_;clear hK K)|refine zt ?_|refine zf ?_|refine zG ?_|refine zR ?_|refine zK ?_|refine zL ?_|refine zN ?_|refine zS ?_)|simp only [Exit.then,Exit.inBlock,Exit.noGoto,↓reduceIte,Nat.reduceEqDiff]|simp only [undef,reduceCtorEq,↓reduceIte]))
  refine (hio.out _ (show Blk _ x.d _ _ from Blk.alloc HD.out _)).mono ?_
  rintro e1 w1 ⟨rfl,rfl⟩
  go_simp
  (repeat (first|(with_reducible first|refine zA fun K hK=>?_|refine zB ?_|refine zC ?_)|((with_reducible first|refine zD rfl fun K hK=>?_|refine zE fun K hK=>?_);go_simp)|(with_reducible first|((repeat ((fail_if_success refine hK _ _ ?_);clear hK K));refine hK _ _ ?_;clear hK K)|refine zt ?_|refine zf ?_|refine zG ?_|refine zR ?_|refine zK ?_|refine zL ?_|refine zN ?_|refine zS ?_)|simp only [Exit.then,Exit.inBlock,Exit.noGoto,↓reduceIte,Nat.reduceEqDiff]|simp only [undef,reduceCtorEq,↓reduceIte]))
  obtain ⟨wA,hwA⟩:∃ wA,wA=(w.alloc (.cells itZero 33)).alloc (.cells #[.int .i64 0,.string ⟨#[]⟩,.string ⟨#[]⟩,.slice none 0 0,.string ⟨#[]⟩,.int .i64 v.off,.int .i64 0,.int .i64 0] 33):=⟨_,rfl⟩
  have HBw:=Lib.hid (show Below w.heap.size w wA by rw [hwA];exact ((Below.refl _ w).alloc (Nat.le_refl _) _).alloc (by simp) _)
  have HB1:=Lib.hid (show Blk wA w.heap.size itZero 33 by rw [hwA];exact (Blk.new w _ _).alloc _)
  have HB2:=Lib.hid (show Blk wA (w.heap.size + 1) #[.int .i64 0,.string ⟨#[]⟩,.string ⟨#[]⟩,.slice none 0 0,.string ⟨#[]⟩,.int .i64 v.off,.int .i64 0,.int .i64 0] 33 by
    have:=Blk.new (w.alloc (.cells itZero 33)) #[.int .i64 0,.string ⟨#[]⟩,.string ⟨#[]⟩,.slice none 0 0,.string ⟨#[]⟩,.int .i64 v.off,.int .i64 0,.int .i64 0] 33
    rw [hwA];simpa using this)
  have HSZ:=Lib.hid (show w.heap.size + 2 ≤ wA.heap.size by rw [hwA];simp)
  have HDA:=Lib.hid (show DecAt wA x.d c v from Blk.mod (S:=fun _=>False) HD.out (mod_none HBw.out _) id)
  rw [← hwA]
  clear hwA hio
  refine (hip.out _ HDA.out).mono ?_
  rintro e2 w2 ⟨rfl,n,rfl⟩
  clear hip
  have hb2:Blk (wA.drewN n) (w.heap.size + 1) _ _:=HB2.out
  have hc2:=hb2.cell
  have hf2:=hb2.frozen
  have hb1:Blk (wA.drewN n) w.heap.size _ _:=HB1.out
  have hc1:=hb1.cell
  have hf1:=hb1.frozen
  clear hb2 hb1
  go_simp
  (repeat ((fail_if_success with_reducible refine wp_stop 3 ?_);(fail_if_success with_reducible refine wp_stop2 3 ?_);(first|(with_reducible first|refine zA fun K hK=>?_|refine zB ?_|refine zC ?_)|((with_reducible first|refine zD rfl fun K hK=>?_|refine zE fun K hK=>?_);go_simp)|(with_reducible first|((repeat ((fail_if_success refine hK _ _ ?_);clear hK K));refine hK _ _ ?_;clear hK K)|refine zt ?_|refine zf ?_|refine zG ?_|refine zR ?_|refine zK ?_|refine zL ?_|refine zN ?_|refine zS ?_)|simp only [Exit.then,Exit.inBlock,Exit.noGoto,↓reduceIte,Nat.reduceEqDiff]|simp only [undef,reduceCtorEq,↓reduceIte])))
  (refine wp_keep [0,4,5] (fun f=>?_);simp only [keep_cons,keep_nil,lk_cons,lk_nil,Nat.reduceEqDiff,↓reduceIte])
  have h12:w.heap.size ≠ w.heap.size + 1:=by omega
  refine wp_code (HR.out f _ ?_ ?_ ?_ ?_) (by kernel_rfl)
  · refine Below.setCell ?_ (by simp) _
    refine Below.setCell ?_ (by simp) _
    exact Below_drewN HBw.out n
  · exact ((show Blk (wA.drewN n) w.heap.size _ _ from HB1.out).set_ne (a:=⟨w.heap.size + 1,6,none⟩) h12 (.int .i64 v.line)).set_ne (a:=⟨w.heap.size + 1,7,none⟩) h12 (.int .i64 (v.off - v.lstart + 1))
  · exact ((show Blk (wA.drewN n) (w.heap.size + 1) _ _ from HB2.out).set 6 (.int .i64 v.line)).set 7 (.int .i64 (v.off - v.lstart + 1))
  · have:=HSZ.out
    simpa [World.setCell,World.drewN] using this
theorem itEnd (w:World) (b:Nat) (k:Int) (s1 s2 s4:Bs) (sa:Option Addr) (sl sc:Nat) (i5 i6 i7:Int) (hz:Blk w b itZero 33) (hb:Blk w (b + 1) #[.int .i64 k,strV s1,strV s2,.slice sa sl sc,strV s4,.int .i64 i5,.int .i64 i6,.int .i64 i7] 33)
    (R:Ending → World → Prop) (hR:∀ w',Mod (fun i=>i=b) w w' → R (.returned (.agg #[.int .i64 k,strV s1,strV s2,.slice sa sl sc,strV s4,.int .i64 i5,.int .i64 i6,.int .i64 i7])) w') (f:Nat → Value) :
    (itCode 27).wp Tryz.prog (itPost R) (fr 104 f [(4,.pointer (some ⟨b,0,none⟩)),(5,.pointer (some ⟨b + 1,0,none⟩))]) w:=by
  have hc:=hb.cell
  have hf:=hb.frozen
  have hcz:=hz.cell
  have hfz:=hz.frozen
  have HZ:=Lib.hid hz
  have HR:=Lib.hid hR
  clear hb hz hR
  conv=>arg 2;unfold itCode;whnf
  (repeat (first|(with_reducible first|refine zA fun K hK=>?_|refine zB ?_|refine zC ?_)|((with_reducible first|refine zD rfl fun K hK=>?_|refine zE fun K hK=>?_);go_simp)|(with_reducible first|((repeat ((fail_if_success refine hK _ _ ?_);clear hK K));refine hK _ _ ?_;clear hK K)|refine zt ?_|refine zf ?_|refine zG ?_|refine zR ?_|refine zK ?_|refine zL ?_|refine zN ?_|refine zS ?_)|simp only [Exit.then,Exit.inBlock,Exit.noGoto,↓reduceIte,Nat.reduceEqDiff]|simp only [undef,reduceCtorEq,↓reduceIte]))
  refine bodyPost_ret (v:=.agg #[.int .i64 k,strV s1,strV s2,.slice sa sl sc,strV s4,.int .i64 i5,.int .i64 i6,.int .i64 i7]) ?_ (fr_defers _ _ _) ?_
  · refine results_cell_row (fn:=Tryz.f19) (p:=4) (ty:=33) (by rfl) _ _ b 33 _ (0,0) _ (by rw [fr_getD (by decide)];simp only [keep_cons,keep_nil,lk_cons,lk_nil,Nat.reduceEqDiff,↓reduceIte]) ?_ Tryz.underlying33 rfl (by kernel_rfl)
    have hB:=((((((((show Blk w b _ _ from HZ.out).set 0 (.int .i64 k)).set 1 (strV s1)).set 2 (strV s2)).set 3 (.slice sa sl sc)).set 4 (strV s4)).set 5 (.int .i64 i5)).set 6 (.int .i64 i6)).set 7 (.int .i64 i7)
    simp only [List.setIfInBounds_toArray,List.set_cons_zero,List.set_cons_succ] at hB
    exact hB
  · refine HR.out _ ?_
    repeat (refine Mod.setCell (S:=fun i=>i=b) ?_ (Or.inl rfl) _)
    exact Mod.refl _ _
theorem taCmC (v:Value) (w:World):(Instr.typeAssert (cmV v) 53 114 true).run Tryz.prog w=.ok (.tuple #[.slice none 0 0,.bool false]) w:=by kernel_rfl
theorem taCmM (v:Value) (w:World):(Instr.typeAssert (cmV v) 53 115 true).run Tryz.prog w=.ok (.tuple #[v,.bool true]) w:=by kernel_rfl
theorem taPvC (tg:Bs) (v:Value) (w:World):(Instr.typeAssert (pvV tg v) 53 114 true).run Tryz.prog w=.ok (.tuple #[.slice none 0 0,.bool false]) w:=by kernel_rfl
theorem taPvM (tg:Bs) (v:Value) (w:World):(Instr.typeAssert (pvV tg v) 53 115 true).run Tryz.prog w=.ok (.tuple #[.slice none 0 0,.bool false]) w:=by kernel_rfl
theorem taPvP (tg:Bs) (v:Value) (w:World):(Instr.typeAssert (pvV tg v) 53 117 true).run Tryz.prog w=.ok (.tuple #[.agg #[strV tg,v],.bool true]) w:=by kernel_rfl
theorem taDvC (v:Value) (w:World):(Instr.typeAssert (dvV v) 53 114 true).run Tryz.prog w=.ok (.tuple #[.slice none 0 0,.bool false]) w:=by kernel_rfl
theorem taDvM (v:Value) (w:World):(Instr.typeAssert (dvV v) 53 115 true).run Tryz.prog w=.ok (.tuple #[.slice none 0 0,.bool false]) w:=by kernel_rfl
theorem taDvP (v:Value) (w:World):(Instr.typeAssert (dvV v) 53 117 true).run Tryz.prog w=.ok (.tuple #[.agg #[zStr,.slice none 0 0],.bool false]) w:=by kernel_rfl
theorem taDvD (v:Value) (w:World):(Instr.typeAssert (dvV v) 53 118 true).run Tryz.prog w=.ok (.tuple #[v,.bool true]) w:=by kernel_rfl
theorem conv_cm (l:Bs) (w:World) (b off cap:Nat) (h:BytesAt w b off l):(convert 115 9 (.slice (some ⟨b,off,none⟩) l.length cap)).run Tryz.prog w=.ok (strV l) w:=
  Lib.run_convert_whole (P:=Tryz.prog) w 115 5 9 Tryz.underlying115 Tryz.underlying5 Tryz.underlying9 b off ⟨l.toArray⟩ h.toBytes cap
theorem conv_dv (l:Bs) (w:World) (b off cap:Nat) (h:BytesAt w b off l):(convert 118 9 (.slice (some ⟨b,off,none⟩) l.length cap)).run Tryz.prog w=.ok (strV l) w:=
  Lib.run_convert_whole (P:=Tryz.prog) w 118 5 9 Tryz.underlying118 Tryz.underlying5 Tryz.underlying9 b off ⟨l.toArray⟩ h.toBytes cap
theorem conv_by (l:Bs) (w:World) (b off cap:Nat) (h:BytesAt w b off l):(convert 74 9 (.slice (some ⟨b,off,none⟩) l.length cap)).run Tryz.prog w=.ok (strV l) w:=
  Lib.run_convert_whole (P:=Tryz.prog) w 74 5 9 Tryz.underlying74 Tryz.underlying5 Tryz.underlying9 b off ⟨l.toArray⟩ h.toBytes cap
structure ItOut (w0:World) (p:ITok) (i6 i7:Int) (en:Ending) (w':World):Prop where
  ex:∃ sa sl sc,en=.returned (.agg #[.int .i64 p.kind,strV p.space,strV p.loc,.slice sa sl sc,strV p.text,.int .i64 p.at',.int .i64 i6,.int .i64 i7])∧w'.ownsRow w0.heap.size 61 3 (.slice sa sl sc) p.attrs.length (atCells p.attrs)
  below:Below w0.heap.size w0 w'
theorem noRow (w:World) (b:Nat):w.ownsRow b 61 3 (.slice none 0 0) ([]:List At3).length (atCells []):=⟨rfl,Or.inl ⟨rfl,rfl⟩⟩
theorem itText {li co:Nat} (w0 w:World) (i5:Nat) (i6 i7:Int) (hbl:Below w0.heap.size w0 w) (hz:Blk w w0.heap.size itZero 33) (hb:Blk w (w0.heap.size + 1) #[.int .i64 0,.string ⟨#[]⟩,.string ⟨#[]⟩,.slice none 0 0,.string ⟨#[]⟩,.int .i64 i5,.int .i64 i6,.int .i64 i7] 33)
    (d:Bs) (g cap:Nat) (hby:BytesAt w g 0 d) (hg:g < w0.heap.size) (f:Nat → Value):(itCode 3).wp Tryz.prog (itPost (ItOut w0 ⟨3,[],[],[],d,i5,li,co⟩ i6 i7)) (fr 104 f [(0,chV (.slice (some ⟨g,0,none⟩) d.length cap)),(4,.pointer (some ⟨w0.heap.size,0,none⟩)),(5,.pointer (some ⟨w0.heap.size + 1,0,none⟩))]) w:=by
  have t0:=fun v w=>taChS v w
  have t1:=fun v w=>taChE v w
  have t2:=fun v w=>taChC v w
  have hne:g ≠ w0.heap.size + 1:=by omega
  have hc:=hb.cell
  have hf:=hb.frozen
  have HB:=Lib.hid hb
  have HZ:=Lib.hid hz
  have HL:=Lib.hid hbl
  have HY:=Lib.hid hby
  have h12:w0.heap.size ≠ w0.heap.size + 1:=by omega
  clear hbl hz hb hby
  conv=>arg 2;unfold itCode;whnf
  (repeat (first|(with_reducible first|refine zA fun K hK=>?_|refine zB ?_|refine zC ?_)|((with_reducible first|refine zD rfl fun K hK=>?_|refine zE fun K hK=>?_);go_simp)|(with_reducible first|((repeat ((fail_if_success refine hK _ _ ?_);clear hK K));refine hK _ _ ?_;clear hK K)|refine zt ?_|refine zf ?_|refine zG ?_|refine zR ?_|refine zK ?_|refine zL ?_|refine zN ?_|refine zS ?_)|simp only [Exit.then,Exit.inBlock,Exit.noGoto,↓reduceIte,Nat.reduceEqDiff]|simp only [undef,reduceCtorEq,↓reduceIte]))
  (refine wp_keep [4,5,10] (fun f=>?_);simp only [keep_cons,keep_nil,lk_cons,lk_nil,Nat.reduceEqDiff,↓reduceIte])
  go_region_held3 (fun w'=>(convert 114 9 (.slice (some ⟨g,0,none⟩) d.length cap)).run Tryz.prog w'=.ok (strV d) w')
    (exact conv_ch d _ g 0 cap (by repeat (first|exact HY.out|refine BytesAt.setCell ?_ hne _|refine BytesAt.drew ?_)))
    (fail)
  (repeat ((fail_if_success with_reducible refine wp_stop 27 ?_);(fail_if_success with_reducible refine wp_stop2 27 ?_);(first|(with_reducible first|refine zA fun K hK=>?_|refine zB ?_|refine zC ?_)|((with_reducible first|refine zD rfl fun K hK=>?_|refine zE fun K hK=>?_);go_simp)|(with_reducible first|((repeat ((fail_if_success refine hK _ _ ?_);clear hK K));refine hK _ _ ?_;clear hK K)|refine zt ?_|refine zf ?_|refine zG ?_|refine zR ?_|refine zK ?_|refine zL ?_|refine zN ?_|refine zS ?_)|simp only [Exit.then,Exit.inBlock,Exit.noGoto,↓reduceIte,Nat.reduceEqDiff]|simp only [undef,reduceCtorEq,↓reduceIte])))
  (refine wp_keep [4,5] (fun f=>?_);simp only [keep_cons,keep_nil,lk_cons,lk_nil,Nat.reduceEqDiff,↓reduceIte])
  refine wp_code (itEnd _ w0.heap.size 3 [] [] d none 0 0 i5 i6 i7 ?_ ?_ _ (fun w' hm=>⟨⟨none,0,0,rfl,noRow _ _⟩,?_⟩) f) (by kernel_rfl)
  · exact (((show Blk w w0.heap.size _ _ from HZ.out).set_ne (a:=⟨w0.heap.size + 1,0,none⟩) h12 (.int .i64 3)).set_ne (a:=⟨w0.heap.size + 1,4,none⟩) h12 (strV d)).drew
  · exact (((show Blk w (w0.heap.size + 1) _ _ from HB.out).set 0 (.int .i64 3)).set 4 (strV d)).drew
  · refine Mod.below (B:=w0.heap.size) ?_ ?_ hm (fun k hk=>by rw [hk];exact Nat.le_refl _)
    · refine Below.drew ?_
      repeat (refine Below.setCell ?_ (by simp) _)
      exact HL.out
    · have:=HL.out.size
      simpa [World.setCell,World.drew] using this
theorem itCom {li co:Nat} (w0 w:World) (i5:Nat) (i6 i7:Int) (hbl:Below w0.heap.size w0 w) (hz:Blk w w0.heap.size itZero 33) (hb:Blk w (w0.heap.size + 1) #[.int .i64 0,.string ⟨#[]⟩,.string ⟨#[]⟩,.slice none 0 0,.string ⟨#[]⟩,.int .i64 i5,.int .i64 i6,.int .i64 i7] 33)
    (d:Bs) (g cap:Nat) (hby:BytesAt w g 0 d) (hg:g < w0.heap.size) (f:Nat → Value):(itCode 3).wp Tryz.prog (itPost (ItOut w0 ⟨4,[],[],[],d,i5,li,co⟩ i6 i7)) (fr 104 f [(0,cmV (.slice (some ⟨g,0,none⟩) d.length cap)),(4,.pointer (some ⟨w0.heap.size,0,none⟩)),(5,.pointer (some ⟨w0.heap.size + 1,0,none⟩))]) w:=by
  have t0:=fun v w=>taCmS v w
  have t1:=fun v w=>taCmE v w
  have t2:=fun v w=>taCmC v w
  have t3:=fun v w=>taCmM v w
  have hne:g ≠ w0.heap.size + 1:=by omega
  have hc:=hb.cell
  have hf:=hb.frozen
  have HB:=Lib.hid hb
  have HZ:=Lib.hid hz
  have HL:=Lib.hid hbl
  have HY:=Lib.hid hby
  have h12:w0.heap.size ≠ w0.heap.size + 1:=by omega
  clear hbl hz hb hby
  conv=>arg 2;unfold itCode;whnf
  (repeat (first|(with_reducible first|refine zA fun K hK=>?_|refine zB ?_|refine zC ?_)|((with_reducible first|refine zD rfl fun K hK=>?_|refine zE fun K hK=>?_);go_simp)|(with_reducible first|((repeat ((fail_if_success refine hK _ _ ?_);clear hK K));refine hK _ _ ?_;clear hK K)|refine zt ?_|refine zf ?_|refine zG ?_|refine zR ?_|refine zK ?_|refine zL ?_|refine zN ?_|refine zS ?_)|simp only [Exit.then,Exit.inBlock,Exit.noGoto,↓reduceIte,Nat.reduceEqDiff]|simp only [undef,reduceCtorEq,↓reduceIte]))
  (refine wp_keep [4,5,11] (fun f=>?_);simp only [keep_cons,keep_nil,lk_cons,lk_nil,Nat.reduceEqDiff,↓reduceIte])
  go_region_held3 (fun w'=>(convert 115 9 (.slice (some ⟨g,0,none⟩) d.length cap)).run Tryz.prog w'=.ok (strV d) w')
    (exact conv_cm d _ g 0 cap (by repeat (first|exact HY.out|refine BytesAt.setCell ?_ hne _|refine BytesAt.drew ?_)))
    (fail)
  (repeat ((fail_if_success with_reducible refine wp_stop 27 ?_);(fail_if_success with_reducible refine wp_stop2 27 ?_);(first|(with_reducible first|refine zA fun K hK=>?_|refine zB ?_|refine zC ?_)|((with_reducible first|refine zD rfl fun K hK=>?_|refine zE fun K hK=>?_);go_simp)|(with_reducible first|((repeat ((fail_if_success refine hK _ _ ?_);clear hK K));refine hK _ _ ?_;clear hK K)|refine zt ?_|refine zf ?_|refine zG ?_|refine zR ?_|refine zK ?_|refine zL ?_|refine zN ?_|refine zS ?_)|simp only [Exit.then,Exit.inBlock,Exit.noGoto,↓reduceIte,Nat.reduceEqDiff]|simp only [undef,reduceCtorEq,↓reduceIte])))
  (refine wp_keep [4,5] (fun f=>?_);simp only [keep_cons,keep_nil,lk_cons,lk_nil,Nat.reduceEqDiff,↓reduceIte])
  refine wp_code (itEnd _ w0.heap.size 4 [] [] d none 0 0 i5 i6 i7 ?_ ?_ _ (fun w' hm=>⟨⟨none,0,0,rfl,noRow _ _⟩,?_⟩) f) (by kernel_rfl)
  · exact (((show Blk w w0.heap.size _ _ from HZ.out).set_ne (a:=⟨w0.heap.size + 1,0,none⟩) h12 (.int .i64 4)).set_ne (a:=⟨w0.heap.size + 1,4,none⟩) h12 (strV d)).drew
  · exact (((show Blk w (w0.heap.size + 1) _ _ from HB.out).set 0 (.int .i64 4)).set 4 (strV d)).drew
  · refine Mod.below (B:=w0.heap.size) ?_ ?_ hm (fun k hk=>by rw [hk];exact Nat.le_refl _)
    · refine Below.drew ?_
      repeat (refine Below.setCell ?_ (by simp) _)
      exact HL.out
    · have:=HL.out.size
      simpa [World.setCell,World.drew] using this
theorem itDir {li co:Nat} (w0 w:World) (i5:Nat) (i6 i7:Int) (hbl:Below w0.heap.size w0 w) (hz:Blk w w0.heap.size itZero 33) (hb:Blk w (w0.heap.size + 1) #[.int .i64 0,.string ⟨#[]⟩,.string ⟨#[]⟩,.slice none 0 0,.string ⟨#[]⟩,.int .i64 i5,.int .i64 i6,.int .i64 i7] 33)
    (d:Bs) (g cap:Nat) (hby:BytesAt w g 0 d) (hg:g < w0.heap.size) (f:Nat → Value):(itCode 3).wp Tryz.prog (itPost (ItOut w0 ⟨6,[],[],[],d,i5,li,co⟩ i6 i7)) (fr 104 f [(0,dvV (.slice (some ⟨g,0,none⟩) d.length cap)),(4,.pointer (some ⟨w0.heap.size,0,none⟩)),(5,.pointer (some ⟨w0.heap.size + 1,0,none⟩))]) w:=by
  have t0:=fun v w=>taDvS v w
  have t1:=fun v w=>taDvE v w
  have t2:=fun v w=>taDvC v w
  have t3:=fun v w=>taDvM v w
  have t4:=fun v w=>taDvP v w
  have t5:=fun v w=>taDvD v w
  have hne:g ≠ w0.heap.size + 1:=by omega
  have hc:=hb.cell
  have hf:=hb.frozen
  have HB:=Lib.hid hb
  have HZ:=Lib.hid hz
  have HL:=Lib.hid hbl
  have HY:=Lib.hid hby
  have h12:w0.heap.size ≠ w0.heap.size + 1:=by omega
  clear hbl hz hb hby
  conv=>arg 2;unfold itCode;whnf
  (repeat (first|(with_reducible first|refine zA fun K hK=>?_|refine zB ?_|refine zC ?_)|((with_reducible first|refine zD rfl fun K hK=>?_|refine zE fun K hK=>?_);go_simp)|(with_reducible first|((repeat ((fail_if_success refine hK _ _ ?_);clear hK K));refine hK _ _ ?_;clear hK K)|refine zt ?_|refine zf ?_|refine zG ?_|refine zR ?_|refine zK ?_|refine zL ?_|refine zN ?_|refine zS ?_)|simp only [Exit.then,Exit.inBlock,Exit.noGoto,↓reduceIte,Nat.reduceEqDiff]|simp only [undef,reduceCtorEq,↓reduceIte]))
  (refine wp_keep [4,5,13] (fun f=>?_);simp only [keep_cons,keep_nil,lk_cons,lk_nil,Nat.reduceEqDiff,↓reduceIte])
  go_region_held3 (fun w'=>(convert 118 9 (.slice (some ⟨g,0,none⟩) d.length cap)).run Tryz.prog w'=.ok (strV d) w')
    (exact conv_dv d _ g 0 cap (by repeat (first|exact HY.out|refine BytesAt.setCell ?_ hne _|refine BytesAt.drew ?_)))
    (fail)
  (repeat ((fail_if_success with_reducible refine wp_stop 27 ?_);(fail_if_success with_reducible refine wp_stop2 27 ?_);(first|(with_reducible first|refine zA fun K hK=>?_|refine zB ?_|refine zC ?_)|((with_reducible first|refine zD rfl fun K hK=>?_|refine zE fun K hK=>?_);go_simp)|(with_reducible first|((repeat ((fail_if_success refine hK _ _ ?_);clear hK K));refine hK _ _ ?_;clear hK K)|refine zt ?_|refine zf ?_|refine zG ?_|refine zR ?_|refine zK ?_|refine zL ?_|refine zN ?_|refine zS ?_)|simp only [Exit.then,Exit.inBlock,Exit.noGoto,↓reduceIte,Nat.reduceEqDiff]|simp only [undef,reduceCtorEq,↓reduceIte])))
  (refine wp_keep [4,5] (fun f=>?_);simp only [keep_cons,keep_nil,lk_cons,lk_nil,Nat.reduceEqDiff,↓reduceIte])
  refine wp_code (itEnd _ w0.heap.size 6 [] [] d none 0 0 i5 i6 i7 ?_ ?_ _ (fun w' hm=>⟨⟨none,0,0,rfl,noRow _ _⟩,?_⟩) f) (by kernel_rfl)
  · exact (((show Blk w w0.heap.size _ _ from HZ.out).set_ne (a:=⟨w0.heap.size + 1,0,none⟩) h12 (.int .i64 6)).set_ne (a:=⟨w0.heap.size + 1,4,none⟩) h12 (strV d)).drew
  · exact (((show Blk w (w0.heap.size + 1) _ _ from HB.out).set 0 (.int .i64 6)).set 4 (strV d)).drew
  · refine Mod.below (B:=w0.heap.size) ?_ ?_ hm (fun k hk=>by rw [hk];exact Nat.le_refl _)
    · refine Below.drew ?_
      repeat (refine Below.setCell ?_ (by simp) _)
      exact HL.out
    · have:=HL.out.size
      simpa [World.setCell,World.drew] using this
theorem itPro {li co:Nat} (w0 w:World) (i5:Nat) (i6 i7:Int) (hbl:Below w0.heap.size w0 w) (hsz:w0.heap.size + 2 ≤ w.heap.size) (hz:Blk w w0.heap.size itZero 33) (hb:Blk w (w0.heap.size + 1) #[.int .i64 0,.string ⟨#[]⟩,.string ⟨#[]⟩,.slice none 0 0,.string ⟨#[]⟩,.int .i64 i5,.int .i64 i6,.int .i64 i7] 33)
    (tg d:Bs) (g cap:Nat) (hby:BytesAt w g 0 d) (hg:g < w0.heap.size) (f:Nat → Value):(itCode 3).wp Tryz.prog (itPost (ItOut w0 ⟨5,[],tg,[],d,i5,li,co⟩ i6 i7)) (fr 104 f [(0,pvV tg (.slice (some ⟨g,0,none⟩) d.length cap)),(4,.pointer (some ⟨w0.heap.size,0,none⟩)),(5,.pointer (some ⟨w0.heap.size + 1,0,none⟩))]) w:=by
  have t0:=fun tg v w=>taPvS tg v w
  have t1:=fun tg v w=>taPvE tg v w
  have t2:=fun tg v w=>taPvC tg v w
  have t3:=fun tg v w=>taPvM tg v w
  have t4:=fun tg v w=>taPvP tg v w
  have hne:g ≠ w0.heap.size + 1:=by omega
  have hn2:w.heap.size ≠ w0.heap.size + 1:=by omega
  have hn3:w0.heap.size + 1 ≠ w.heap.size:=by omega
  have hal:Below w.heap.size w (w.alloc (.cells #[strV tg,.slice (some ⟨g,0,none⟩) d.length cap] 117)):=(Below.refl _ w).alloc (Nat.le_refl _) _
  obtain ⟨wn,hwn⟩:∃ wn,wn=w.alloc (.cells #[strV tg,.slice (some ⟨g,0,none⟩) d.length cap] 117):=⟨_,rfl⟩
  have hnb:Blk wn w.heap.size #[strV tg,.slice (some ⟨g,0,none⟩) d.length cap] 117:=by rw [hwn];exact Blk.new w _ _
  rw [← hwn] at hal
  have hb1:Blk wn (w0.heap.size + 1) _ _:=Blk.mod (S:=fun _=>False) hb (mod_none hal _) id
  have hz1:Blk wn w0.heap.size _ _:=Blk.mod (S:=fun _=>False) hz (mod_none hal _) id
  have HB:=Lib.hid hb1
  have HZ:=Lib.hid hz1
  have HL:=Lib.hid (hbl.trans (hal.mono hbl.size))
  have HY:=Lib.hid (hby.below hal)
  have h12:w0.heap.size ≠ w0.heap.size + 1:=by omega
  have hc:=hb1.cell
  have hf:=hb1.frozen
  have hcn:=hnb.cell
  clear hbl hz hb hby hnb hal hb1 hz1 hsz
  conv=>arg 2;unfold itCode;whnf
  (repeat ((fail_if_success with_reducible refine wp_stop 23 ?_);(fail_if_success with_reducible refine wp_stop2 23 ?_);(first|(with_reducible first|refine zA fun K hK=>?_|refine zB ?_|refine zC ?_)|((with_reducible first|refine zD rfl fun K hK=>?_|refine zE fun K hK=>?_);go_simp)|(with_reducible first|((repeat ((fail_if_success refine hK _ _ ?_);clear hK K));refine hK _ _ ?_;clear hK K)|refine zt ?_|refine zf ?_|refine zG ?_|refine zR ?_|refine zK ?_|refine zL ?_|refine zN ?_|refine zS ?_)|simp only [Exit.then,Exit.inBlock,Exit.noGoto,↓reduceIte,Nat.reduceEqDiff]|simp only [undef,reduceCtorEq,↓reduceIte])))
  rw [← hwn]
  clear hwn
  (refine wp_keep [4,5,12] (fun f=>?_);simp only [keep_cons,keep_nil,lk_cons,lk_nil,Nat.reduceEqDiff,↓reduceIte])
  go_region_held3 (fun w'=>w'.cell? ⟨w.heap.size,0,none⟩=some (strV tg)∧w'.cell? ⟨w.heap.size,1,none⟩=some (.slice (some ⟨g,0,none⟩) d.length cap)∧(convert 74 9 (.slice (some ⟨g,0,none⟩) d.length cap)).run Tryz.prog w'=.ok (strV d) w')
    (refine ⟨?_,?_,?_⟩ <;> first|(exact conv_by d _ g 0 cap (by repeat (first|exact HY.out|refine BytesAt.setCell ?_ hne _|refine BytesAt.drew ?_)))|go_keep)
    (fail)
  (repeat ((fail_if_success with_reducible refine wp_stop 27 ?_);(fail_if_success with_reducible refine wp_stop2 27 ?_);(first|(with_reducible first|refine zA fun K hK=>?_|refine zB ?_|refine zC ?_)|((with_reducible first|refine zD rfl fun K hK=>?_|refine zE fun K hK=>?_);go_simp)|(with_reducible first|((repeat ((fail_if_success refine hK _ _ ?_);clear hK K));refine hK _ _ ?_;clear hK K)|refine zt ?_|refine zf ?_|refine zG ?_|refine zR ?_|refine zK ?_|refine zL ?_|refine zN ?_|refine zS ?_)|simp only [Exit.then,Exit.inBlock,Exit.noGoto,↓reduceIte,Nat.reduceEqDiff]|simp only [undef,reduceCtorEq,↓reduceIte])))
  (refine wp_keep [4,5] (fun f=>?_);simp only [keep_cons,keep_nil,lk_cons,lk_nil,Nat.reduceEqDiff,↓reduceIte])
  refine wp_code (itEnd _ w0.heap.size 5 [] tg d none 0 0 i5 i6 i7 ?_ ?_ _ (fun w' hm=>⟨⟨none,0,0,rfl,noRow _ _⟩,?_⟩) f) (by kernel_rfl)
  · exact ((((show Blk wn w0.heap.size _ _ from HZ.out).set_ne (a:=⟨w0.heap.size + 1,0,none⟩) h12 (.int .i64 5)).set_ne (a:=⟨w0.heap.size + 1,2,none⟩) h12 (strV tg)).set_ne (a:=⟨w0.heap.size + 1,4,none⟩) h12 (strV d)).drew
  · exact ((((show Blk wn (w0.heap.size + 1) _ _ from HB.out).set 0 (.int .i64 5)).set 2 (strV tg)).set 4 (strV d)).drew
  · refine Mod.below (B:=w0.heap.size) ?_ ?_ hm (fun k hk=>by rw [hk];exact Nat.le_refl _)
    · refine Below.drew ?_
      repeat (refine Below.setCell ?_ (by simp) _)
      exact HL.out
    · have:=HL.out.size
      simpa [World.setCell,World.drew] using this
theorem itFin {li co:Nat} (w0 w:World) (i5:Nat) (i6 i7:Int) (hbl:Below w0.heap.size w0 w) (hsz:w0.heap.size + 2 ≤ w.heap.size) (hz:Blk w w0.heap.size itZero 33) (hb:Blk w (w0.heap.size + 1) #[.int .i64 0,.string ⟨#[]⟩,.string ⟨#[]⟩,.slice none 0 0,.string ⟨#[]⟩,.int .i64 i5,.int .i64 i6,.int .i64 i7] 33)
    (nm:Bs × Bs) (f:Nat → Value):(itCode 3).wp Tryz.prog (itPost (ItOut w0 ⟨2,nm.1,nm.2,[],[],i5,li,co⟩ i6 i7)) (fr 104 f [(0,enV nm),(4,.pointer (some ⟨w0.heap.size,0,none⟩)),(5,.pointer (some ⟨w0.heap.size + 1,0,none⟩))]) w:=by
  have t0:=fun a b w=>taEnS a b w
  have t1:=fun a b w=>taEnE a b w
  have hn2:w.heap.size ≠ w0.heap.size + 1:=by omega
  have hn3:w0.heap.size + 1 ≠ w.heap.size:=by omega
  have hal:Below w.heap.size w (w.alloc (.cells #[strV nm.1,strV nm.2] 103)):=(Below.refl _ w).alloc (Nat.le_refl _) _
  obtain ⟨wn,hwn⟩:∃ wn,wn=w.alloc (.cells #[strV nm.1,strV nm.2] 103):=⟨_,rfl⟩
  have hnb:Blk wn w.heap.size #[strV nm.1,strV nm.2] 103:=by rw [hwn];exact Blk.new w _ _
  rw [← hwn] at hal
  have hb1:Blk wn (w0.heap.size + 1) _ _:=Blk.mod (S:=fun _=>False) hb (mod_none hal _) id
  have hz1:Blk wn w0.heap.size _ _:=Blk.mod (S:=fun _=>False) hz (mod_none hal _) id
  have HB:=Lib.hid hb1
  have HZ:=Lib.hid hz1
  have HL:=Lib.hid (hbl.trans (hal.mono hbl.size))
  have h12:w0.heap.size ≠ w0.heap.size + 1:=by omega
  have hc:=hb1.cell
  have hf:=hb1.frozen
  have hcn:=hnb.cell
  clear hbl hz hb hnb hal hb1 hz1 hsz
  conv=>arg 2;unfold itCode;whnf
  (repeat ((fail_if_success with_reducible refine wp_stop 14 ?_);(fail_if_success with_reducible refine wp_stop2 14 ?_);(first|(with_reducible first|refine zA fun K hK=>?_|refine zB ?_|refine zC ?_)|((with_reducible first|refine zD rfl fun K hK=>?_|refine zE fun K hK=>?_);go_simp)|(with_reducible first|((repeat ((fail_if_success refine hK _ _ ?_);clear hK K));refine hK _ _ ?_;clear hK K)|refine zt ?_|refine zf ?_|refine zG ?_|refine zR ?_|refine zK ?_|refine zL ?_|refine zN ?_|refine zS ?_)|simp only [Exit.then,Exit.inBlock,Exit.noGoto,↓reduceIte,Nat.reduceEqDiff]|simp only [undef,reduceCtorEq,↓reduceIte])))
  rw [← hwn]
  clear hwn
  (refine wp_keep [4,5,9] (fun f=>?_);simp only [keep_cons,keep_nil,lk_cons,lk_nil,Nat.reduceEqDiff,↓reduceIte])
  go_region_held3 (fun w'=>w'.cell? ⟨w.heap.size,0,none⟩=some (strV nm.1)∧w'.cell? ⟨w.heap.size,1,none⟩=some (strV nm.2))
    (go_keep)
    (fail)
  (repeat ((fail_if_success with_reducible refine wp_stop 27 ?_);(fail_if_success with_reducible refine wp_stop2 27 ?_);(first|(with_reducible first|refine zA fun K hK=>?_|refine zB ?_|refine zC ?_)|((with_reducible first|refine zD rfl fun K hK=>?_|refine zE fun K hK=>?_);go_simp)|(with_reducible first|((repeat ((fail_if_success refine hK _ _ ?_);clear hK K));refine hK _ _ ?_;clear hK K)|refine zt ?_|refine zf ?_|refine zG ?_|refine zR ?_|refine zK ?_|refine zL ?_|refine zN ?_|refine zS ?_)|simp only [Exit.then,Exit.inBlock,Exit.noGoto,↓reduceIte,Nat.reduceEqDiff]|simp only [undef,reduceCtorEq,↓reduceIte])))
  (refine wp_keep [4,5] (fun f=>?_);simp only [keep_cons,keep_nil,lk_cons,lk_nil,Nat.reduceEqDiff,↓reduceIte])
  refine wp_code (itEnd _ w0.heap.size 2 nm.1 nm.2 [] none 0 0 i5 i6 i7 ?_ ?_ _ (fun w' hm=>⟨⟨none,0,0,rfl,noRow _ _⟩,?_⟩) f) (by kernel_rfl)
  · exact ((((show Blk wn w0.heap.size _ _ from HZ.out).set_ne (a:=⟨w0.heap.size + 1,0,none⟩) h12 (.int .i64 2)).set_ne (a:=⟨w0.heap.size + 1,1,none⟩) h12 (strV nm.1)).set_ne (a:=⟨w0.heap.size + 1,2,none⟩) h12 (strV nm.2)).drew
  · exact ((((show Blk wn (w0.heap.size + 1) _ _ from HB.out).set 0 (.int .i64 2)).set 1 (strV nm.1)).set 2 (strV nm.2)).drew
  · refine Mod.below (B:=w0.heap.size) ?_ ?_ hm (fun k hk=>by rw [hk];exact Nat.le_refl _)
    · refine Below.drew ?_
      repeat (refine Below.setCell ?_ (by simp) _)
      exact HL.out
    · have:=HL.out.size
      simpa [World.setCell,World.drew] using this
end Go.Proofs.YtkjnockljapnbaaGreatDoor
