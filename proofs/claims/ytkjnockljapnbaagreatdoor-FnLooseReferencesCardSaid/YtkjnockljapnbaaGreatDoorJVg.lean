/- Part of the proof that laws.FnLooseReferences returns true for every text (the claim of laws.FnLooseReferences: Vg). No condition of its own. -/
import Derived.Test.YtkjnockljapnbaaGreatDoorJVf
import Derived.LoopN
import Derived.Maps.AppendAt
set_option linter.all false
/- Tokens: a text without markup, not read strictly. -/
namespace Go.Proofs.YtkjnockljapnbaaGreatDoor
open Go Go.RowKit

theorem RdS.nbEnd {x : Cx} {c : DC} {w : World} {v : DV} {e : Option EK} {buf : Bs} (h : RdS x c w v [] e buf) : v.nb = -1 := by
  obtain ⟨un, _, hu⟩ := h.inp
  rcases hu with ⟨h1, _⟩ | ⟨b, _, h2⟩
  · exact h1
  · cases h2
theorem PosAt.col {x : Cx} {v : DV} {rest : Bs} (hx : x.Ok) (h : PosAt x v rest) (hn : v.nb ≠ 10) : -1000000000000 ≤ v.off - v.lstart ∧ v.off - v.lstart ≤ 1000000000000 := by
  obtain ⟨pre, hT, ho, _, hs⟩ := h
  have h1 := hs hn
  have h2 := colOf_le pre
  have h3 : pre.length ≤ x.T.length := by rw [hT]; simp
  have h4 := hx.len
  omega
theorem BufAt.part {x : Cx} {w : World} {v : Value} {b d : Bs} {g cap : Nat} (h : BufAt x w v b) (hv : v = .slice (some ⟨g, 0, none⟩) b.length cap) (hd : d = b.take d.length) (hl : d.length ≤ b.length) : BytesAt w g 0 d ∧ g < w.heap.size := by
  rcases h with ⟨h1, _⟩ | ⟨g', cap', arr, h1, hg, _, _, _, _, _, hel⟩
  · rw [h1] at hv; cases hv
  · rw [h1] at hv
    simp only [Value.slice.injEq, Option.some.injEq, Addr.mk.injEq] at hv
    obtain ⟨⟨rfl, _⟩, _⟩ := hv
    refine ⟨fun j hj => ?_, hg.lt⟩
    rw [Nat.zero_add, hg.cell, hel j (by omega)]
    have : d.getD j 0 = b.getD j 0 := by
      rw [hd]
      simp only [List.getD_eq_getElem?_getD, List.getElem?_take]
      rw [if_pos hj]
    rw [this]
theorem tokInfo : (Tryz.prog.info? 33).map (fun i => (i.zero, i.size, i.bytes)) = some (some (tokV 0 [] [] (.slice none 0 0) [] 0 0 0), 8, 104) := by kernel_rfl
theorem wpList_app {P : Program} {ops : Array Oper} {rest : List Oper} {o : Oper} {a : Act} {w w' : World} {Q : Exit → Act → World → Prop} (hg : o.guard = none) (s x : Operand) (t u : TypeId) (ho : o.op = .call { callee := .builtin .append, args := #[s, x], argTypes := #[t, u] }) (vs vx v' : Value)
    (hs : a.eval s = vs) (hx : a.eval x = vx) (hrun : (Builtin.append_ #[t, u] o.type #[vs, vx]).run P w = .ok v' w') (h : wpList P ops Q rest (a.put o.dst v') w') : wpList P ops Q (o :: rest) a w := by
  refine wpList_plain hg fun K hK => ?_
  have h2 := hK _ _ h
  unfold Oper.wp
  simp only [execOp, ho, resolve, invoke, builtin]
  simp [hs, hx, hrun, Result.andThen]
  exact h2
/-- The cells of a token. -/
def tokCells (kind : Int) (space loc : Bs) (attrs : Value) (text : Bs) (a l c : Int) : List Value := [.int .i64 kind, strV space, strV loc, attrs, strV text, .int .i64 a, .int .i64 l, .int .i64 c]
/-- One token more. -/
theorem tok_append (w3 : World) (base : Nat) (hb : base ≤ w3.heap.size) (v : Value) (n : Nat) (hn : n ≤ 1000000000) (xs : List Value) (h : w3.ownsRow base 33 8 v n xs) (kind : Int) (space loc : Bs) (attrs : Value) (ha : attrs.oneCell' = true) (text : Bs) (a l c : Int) :
    ∃ v' w4, (Builtin.append_ #[25, 25] 25 #[v, .slice (some ⟨w3.heap.size, 0, none⟩) 1 1]).run Tryz.prog (w3.alloc (.cells #[.int .i64 kind, strV space, strV loc, attrs, strV text, .int .i64 a, .int .i64 l, .int .i64 c] 33)) = .ok v' w4 ∧
      w4.ownsRow base 33 8 v' (n + 1) (xs ++ tokCells kind space loc attrs text a l c) ∧ (w3.alloc (.cells #[.int .i64 kind, strV space, strV loc, attrs, strV text, .int .i64 a, .int .i64 l, .int .i64 c] 33)).grownBy w4 v.ownBlock := by
  obtain ⟨i, hi, hz, h1, h2⟩ := info_parts tokInfo
  obtain ⟨v', w4, hr, ho, hg, _⟩ := run_append_own_at (P := Tryz.prog) (w3.alloc (.cells #[.int .i64 kind, strV space, strV loc, attrs, strV text, .int .i64 a, .int .i64 l, .int .i64 c] 33)) base 25 25 33 i _ 8 104 Tryz.underlying25 hi hz h1 h2 rfl (by omega) v n xs (h.alloc _) ⟨w3.heap.size, 0, none⟩ 1 1 (tokCells kind space loc attrs text a l c) rfl
    (by
      intro j u hj
      have hb := Blk.new w3 #[.int .i64 kind, strV space, strV loc, attrs, strV text, .int .i64 a, .int .i64 l, .int .i64 c] 33
      rw [show ((⟨w3.heap.size, 0, none⟩ : Addr).add j) = ⟨w3.heap.size, j, none⟩ by cases j <;> simp [Addr.add], hb.cell]
      simpa [tokCells] using hj)
    (by
      intro u hu
      simp only [tokCells, List.mem_cons, List.not_mem_nil, or_false] at hu
      rcases hu with rfl | rfl | rfl | rfl | rfl | rfl | rfl | rfl <;> first | rfl | exact ha)
    (by unfold maxLen; omega) (by omega) (by simp; omega)
  exact ⟨v', w4, hr, ho, hg⟩
def loOpt : Opt := ⟨false, false, none, [], [], false⟩
/-- One token, a text. -/
def OneText (T : Bs) (w : World) (e : Ending) (w' : World) : Prop :=
  ∃ tb cap a l cl, e = .returned (.tuple #[.slice (some ⟨tb, 0, none⟩) 1 cap, .int .i64 0]) ∧ Below w.heap.size w w' ∧ w.heap.size ≤ tb ∧ (∀ j v, #[Value.int .i64 3, strV [], strV [], .slice none 0 0, strV T, .int .i64 a, .int .i64 l, .int .i64 cl][j]? = some v → w'.cell? ⟨tb, j, none⟩ = some v)
set_option maxHeartbeats 8000000 in
set_option maxRecDepth 100000 in
theorem tokensOne (T : Bs) (hT : T.length ≤ 1000000000) (b : UInt8) (r : Bs) (hTb : T = b :: r) (hb : b ≠ 60) (hres : textL loOpt none false T 0 0 [] = .ok (T, [])) (w : World) (hE : Env w) :
    Calls Tryz.prog 9 #[strV T, .slice none 0 0, .bool false, optV false true (.slice none 0 0) []] w (OneText T w) := by
  obtain ⟨eofA, he, hl⟩ := hE.eof
  obtain ⟨x, hx⟩ : ∃ x, x = mkCx w T loOpt eofA none 0 0 [] := ⟨_, rfl⟩
  have HALL := Lib.hid (show x.All by rw [hx]; exact mkCx_all hE hT loOpt he hl ⟨by omega, by omega, fun h => by omega⟩)
  have hrdx : x.rd = w.heap.size + 1 := by rw [hx]; rfl
  have hdx : x.d = w.heap.size + 4 := by rw [hx]; rfl
  have hbx : x.br = w.heap.size + 5 := by rw [hx]; rfl
  have hrbx : x.rb = w.heap.size + 6 := by rw [hx]; rfl
  have HX := Lib.hid hx
  have HT := Lib.hid hTb
  have HRES := Lib.hid hres
  have HB := Lib.hid hb
  have HTL := Lib.hid hT
  have HE := Lib.hid hE
  have HDX := Lib.hid hdx
  have HRDX := Lib.hid hrdx
  clear hx hTb hb hres hT hE he hl
  have hdec := Lib.hid (fun (w' : World) (hs : w'.heap.size = w.heap.size + 2) => decoder_c x w' false true none 0 0 [] (by omega) (by omega) (by omega))
  clear hdx hbx hrbx hrdx
  refine calls_fr (vs := [_, _, _, _]) 45 Tryz.func9 rfl rfl (Nat.le_of_ble_eq_true rfl) fun f => ?_
  simp only [argSlots]
  (repeat (first | with_reducible refine wp_seq_k (fun K hK => ?_) | with_reducible refine wp_region_lit ?_ | with_reducible refine wpList_nil ?_ | ((with_reducible refine wpList_plain rfl (fun K hK => ?_)); go_simp) | ((with_reducible refine wpList_step (fun K hK => ?_)); go_simp) | (with_reducible ((first | refine hK _ _ ?_ | (clear hK K; refine hK _ _ ?_) | (clear hK K; clear hK K; refine hK _ _ ?_) | (clear hK K; clear hK K; clear hK K; refine hK _ _ ?_) | (clear hK K; clear hK K; clear hK K; clear hK K; refine hK _ _ ?_) | (clear hK K; clear hK K; clear hK K; clear hK K; clear hK K; refine hK _ _ ?_)); clear hK K)) | with_reducible refine wp_cond_true (by first | (go_simp; done) | (go_simp; omega)) ?_ | with_reducible refine wp_cond_false (by first | (go_simp; done) | (go_simp; omega)) ?_ | with_reducible refine wp_exit ?_ | with_reducible refine wp_ret ?_ | with_reducible refine wp_block ?_ | with_reducible refine wp_label ?_ | with_reducible refine wp_skip ?_ | with_reducible refine wp_scope_straight ?_ | simp only [Exit.then, Exit.inBlock, Exit.noGoto, ↓reduceIte, Nat.reduceEqDiff] | simp only [undef, reduceCtorEq, ↓reduceIte]))
  rw [show (w.heap.size + 1) = x.rd from HRDX.out.symm]
  have hrd0 : Blk ((w.alloc (.cells #[.bool false, .bool true, .slice none 0 0, .slice none 0 0, strV []] 30)).alloc (.cells #[strV T, .slice none 0 0, .int .i64 0, .bool false] 52)) x.rd #[strV T, .slice none 0 0, .int .i64 0, .bool false] 52 := by
    have := Blk.new (w.alloc (.cells #[.bool false, .bool true, .slice none 0 0, .slice none 0 0, strV []] 30)) #[strV T, .slice none 0 0, .int .i64 0, .bool false] 52
    rw [HRDX.out]; simpa using this
  have hop0 : Blk ((w.alloc (.cells #[.bool false, .bool true, .slice none 0 0, .slice none 0 0, strV []] 30)).alloc (.cells #[strV T, .slice none 0 0, .int .i64 0, .bool false] 52)) w.heap.size #[.bool false, .bool true, .slice none 0 0, .slice none 0 0, strV []] 30 := (Blk.new w _ _).alloc _
  have hbl0 : Below w.heap.size w ((w.alloc (.cells #[.bool false, .bool true, .slice none 0 0, .slice none 0 0, strV []] 30)).alloc (.cells #[strV T, .slice none 0 0, .int .i64 0, .bool false] 52)) := ((Below.refl _ w).alloc (Nat.le_refl _) _).alloc (by simp) _
  refine (hdec.out _ (by simp)).mono ?_
  rintro e1 w1 ⟨rfl, hb1, hd1, hbr, hrb, hm⟩
  have HB1 := Lib.hid (hbl0.trans (hb1.mono (by simp; omega)))
  obtain ⟨c, hdc, hc1, hc2, hc3, hc4, hc5, hc6⟩ : ∃ c : DC, DecAt w1 x.d c v0 ∧ c.r = .iface 155 (.pointer (some ⟨x.br, 0, none⟩)) ∧ c.strict = false ∧ c.ent = .map none ∧ c.stk = .pointer none ∧ c.nextTok = .nilIface ∧ c.needClose = false := ⟨_, hd1, rfl, rfl, rfl, rfl, rfl, rfl⟩
  have HOK := Lib.hid (show DcOk x c from ⟨hc1, by rw [hc2, HX.out]; rfl⟩)
  have HNO := Lib.hid (show NoEnt x c from ⟨hc3, by rw [HX.out]; rfl⟩)
  have HI := Lib.hid (show Idle c from ⟨hc4, hc5, hc6⟩)
  have hrd1 : Blk w1 x.rd _ _ := Blk.mod (S := fun _ => False) hrd0 (mod_none hb1 _) id
  have HOP := Lib.hid (show Blk w1 w.heap.size _ _ from Blk.mod (S := fun _ => False) hop0 (mod_none hb1 _) id)
  have HR := Lib.hid (rdS0 (c := c) HTL.out x HX.out HB1.out hdc hbr hrb (by rw [HX.out] at hrd1 ⊢; exact hrd1))
  have htok := Lib.hid (tokText x HALL.out c HOK.out HNO.out HI.out w1 v0 b r [] HB.out (by rw [← HT.out]; exact HR.out) T [] (by rw [← HT.out, HX.out]; exact HRES.out))
  clear hb1 hd1 hbr hrb hm hdc hc1 hc2 hc3 hc4 hc5 hc6 hrd1 hrd0 hop0 hbl0 hdec
  have hco := HOP.out.cell
  have hfo := HOP.out.frozen
  go_simp
  (repeat (first | with_reducible refine wp_seq_k (fun K hK => ?_) | with_reducible refine wp_region_lit ?_ | with_reducible refine wpList_nil ?_ | ((with_reducible refine wpList_plain rfl (fun K hK => ?_)); go_simp) | ((with_reducible refine wpList_step (fun K hK => ?_)); go_simp) | (with_reducible ((first | refine hK _ _ ?_ | (clear hK K; refine hK _ _ ?_) | (clear hK K; clear hK K; refine hK _ _ ?_) | (clear hK K; clear hK K; clear hK K; refine hK _ _ ?_) | (clear hK K; clear hK K; clear hK K; clear hK K; refine hK _ _ ?_) | (clear hK K; clear hK K; clear hK K; clear hK K; clear hK K; refine hK _ _ ?_)); clear hK K)) | with_reducible refine wp_cond_true (by first | (go_simp; done) | (go_simp; omega)) ?_ | with_reducible refine wp_cond_false (by first | (go_simp; done) | (go_simp; omega)) ?_ | with_reducible refine wp_exit ?_ | with_reducible refine wp_ret ?_ | with_reducible refine wp_block ?_ | with_reducible refine wp_label ?_ | with_reducible refine wp_skip ?_ | with_reducible refine wp_scope_straight ?_ | simp only [Exit.then, Exit.inBlock, Exit.noGoto, ↓reduceIte, Nat.reduceEqDiff] | simp only [undef, reduceCtorEq, ↓reduceIte]))
  refine wp_loop_rounds 2 ?_
  rw [rounds_succ]
  (repeat (first | with_reducible refine wp_seq_k (fun K hK => ?_) | with_reducible refine wp_region_lit ?_ | with_reducible refine wpList_nil ?_ | ((with_reducible refine wpList_plain rfl (fun K hK => ?_)); go_simp) | ((with_reducible refine wpList_step (fun K hK => ?_)); go_simp) | (with_reducible ((first | refine hK _ _ ?_ | (clear hK K; refine hK _ _ ?_) | (clear hK K; clear hK K; refine hK _ _ ?_) | (clear hK K; clear hK K; clear hK K; refine hK _ _ ?_) | (clear hK K; clear hK K; clear hK K; clear hK K; refine hK _ _ ?_) | (clear hK K; clear hK K; clear hK K; clear hK K; clear hK K; refine hK _ _ ?_)); clear hK K)) | with_reducible refine wp_cond_true (by first | (go_simp; done) | (go_simp; omega)) ?_ | with_reducible refine wp_cond_false (by first | (go_simp; done) | (go_simp; omega)) ?_ | with_reducible refine wp_exit ?_ | with_reducible refine wp_ret ?_ | with_reducible refine wp_block ?_ | with_reducible refine wp_label ?_ | with_reducible refine wp_skip ?_ | with_reducible refine wp_scope_straight ?_ | simp only [Exit.then, Exit.inBlock, Exit.noGoto, ↓reduceIte, Nat.reduceEqDiff] | simp only [undef, reduceCtorEq, ↓reduceIte]))
  refine htok.out.mono ?_
  rintro e2 w2 ⟨v2, hs2, g, cap, e, b', rfl, hR, hbv, hd1, hd2, hend⟩
  obtain ⟨hby, hglt⟩ := hR.bf.part hbv hd1 hd2
  have he := hend rfl
  subst he
  obtain ⟨hc1, hc2⟩ := hR.pos.col HALL.out.toOk (by rw [hR.nbEnd]; decide)
  have htk := Lib.hid (tokenText x c w2 v2 hR.dec hc1 hc2 T g cap hby hglt)
  have HR2 := Lib.hid hR
  have HS2 := Lib.hid hs2
  clear hR hbv hd1 hd2 hend hby hglt hc1 hc2 hs2 htok hco hfo
  go_simp
  (repeat (first | with_reducible refine wp_seq_k (fun K hK => ?_) | with_reducible refine wp_region_lit ?_ | with_reducible refine wpList_nil ?_ | ((with_reducible refine wpList_plain rfl (fun K hK => ?_)); go_simp) | ((with_reducible refine wpList_step (fun K hK => ?_)); go_simp) | (with_reducible ((first | refine hK _ _ ?_ | (clear hK K; refine hK _ _ ?_) | (clear hK K; clear hK K; refine hK _ _ ?_) | (clear hK K; clear hK K; clear hK K; refine hK _ _ ?_) | (clear hK K; clear hK K; clear hK K; clear hK K; refine hK _ _ ?_) | (clear hK K; clear hK K; clear hK K; clear hK K; clear hK K; refine hK _ _ ?_)); clear hK K)) | with_reducible refine wp_cond_true (by first | (go_simp; done) | (go_simp; omega)) ?_ | with_reducible refine wp_cond_false (by first | (go_simp; done) | (go_simp; omega)) ?_ | with_reducible refine wp_exit ?_ | with_reducible refine wp_ret ?_ | with_reducible refine wp_block ?_ | with_reducible refine wp_label ?_ | with_reducible refine wp_skip ?_ | with_reducible refine wp_scope_straight ?_ | simp only [Exit.then, Exit.inBlock, Exit.noGoto, ↓reduceIte, Nat.reduceEqDiff] | simp only [undef, reduceCtorEq, ↓reduceIte]))
  refine htk.out.mono ?_
  rintro e3 w3 ⟨rfl, hw3⟩
  have HW3 := Lib.hid hw3
  obtain ⟨v', w4, hrun, hown, hgrow⟩ := tok_append w3 w.heap.size (Nat.le_trans (Nat.le_trans HB1.out.size HS2.out.mod.size) hw3.size) (.slice none 0 0) 0 (by omega) [] ⟨rfl, Or.inl ⟨rfl, rfl⟩⟩ 3 [] [] (.slice none 0 0) rfl T v2.off v2.line (v2.off - v2.lstart + 1)
  have HOWN := Lib.hid hown
  have HGROW := Lib.hid hgrow
  clear hw3 htk hown hgrow
  go_simp
  (repeat ((fail_if_success at_builtin); (first | with_reducible refine wp_seq_k (fun K hK => ?_) | with_reducible refine wp_region_lit ?_ | with_reducible refine wpList_nil ?_ | ((with_reducible refine wpList_plain rfl (fun K hK => ?_)); go_simp) | ((with_reducible refine wpList_step (fun K hK => ?_)); go_simp) | (with_reducible ((first | refine hK _ _ ?_ | (clear hK K; refine hK _ _ ?_) | (clear hK K; clear hK K; refine hK _ _ ?_) | (clear hK K; clear hK K; clear hK K; refine hK _ _ ?_) | (clear hK K; clear hK K; clear hK K; clear hK K; refine hK _ _ ?_) | (clear hK K; clear hK K; clear hK K; clear hK K; clear hK K; refine hK _ _ ?_)); clear hK K)) | with_reducible refine wp_cond_true (by first | (go_simp; done) | (go_simp; omega)) ?_ | with_reducible refine wp_cond_false (by first | (go_simp; done) | (go_simp; omega)) ?_ | with_reducible refine wp_exit ?_ | with_reducible refine wp_ret ?_ | with_reducible refine wp_block ?_ | with_reducible refine wp_label ?_ | with_reducible refine wp_skip ?_ | with_reducible refine wp_scope_straight ?_ | simp only [Exit.then, Exit.inBlock, Exit.noGoto, ↓reduceIte, Nat.reduceEqDiff] | simp only [undef, reduceCtorEq, ↓reduceIte])))
  refine wpList_app rfl (.tmp 39) (.tmp 43) _ _ rfl _ _ _ (by rw [fr_eval (by decide)]; (try simp only [keep_cons, keep_nil, lk_cons, lk_nil, Nat.reduceEqDiff, ↓reduceIte]); (try rfl)) (by rw [fr_eval (by decide)]; (try simp only [keep_cons, keep_nil, lk_cons, lk_nil, Nat.reduceEqDiff, ↓reduceIte]); (try rfl)) hrun ?_
  clear hrun
  rw [fr_put (by decide)]
  (repeat ((fail_if_success with_reducible refine wp_stop 3 ?_); (fail_if_success with_reducible refine wp_stop2 3 ?_); (first | with_reducible refine wp_seq_k (fun K hK => ?_) | with_reducible refine wp_region_lit ?_ | with_reducible refine wpList_nil ?_ | ((with_reducible refine wpList_plain rfl (fun K hK => ?_)); go_simp) | ((with_reducible refine wpList_step (fun K hK => ?_)); go_simp) | (with_reducible ((first | refine hK _ _ ?_ | (clear hK K; refine hK _ _ ?_) | (clear hK K; clear hK K; refine hK _ _ ?_) | (clear hK K; clear hK K; clear hK K; refine hK _ _ ?_) | (clear hK K; clear hK K; clear hK K; clear hK K; refine hK _ _ ?_) | (clear hK K; clear hK K; clear hK K; clear hK K; clear hK K; refine hK _ _ ?_)); clear hK K)) | with_reducible refine wp_cond_true (by first | (go_simp; done) | (go_simp; omega)) ?_ | with_reducible refine wp_cond_false (by first | (go_simp; done) | (go_simp; omega)) ?_ | with_reducible refine wp_exit ?_ | with_reducible refine wp_ret ?_ | with_reducible refine wp_block ?_ | with_reducible refine wp_label ?_ | with_reducible refine wp_skip ?_ | with_reducible refine wp_scope_straight ?_ | simp only [Exit.then, Exit.inBlock, Exit.noGoto, ↓reduceIte, Nat.reduceEqDiff] | simp only [undef, reduceCtorEq, ↓reduceIte])))
  rw [rounds_succ]
  (refine wp_keep [7, 10, 11] (fun f => ?_); simp only [keep_cons, keep_nil, lk_cons, lk_nil, Nat.reduceEqDiff, ↓reduceIte])
  have hb24 : Below w2.heap.size w2 w4 := by
    have h1 : Below w2.heap.size w2 (w3.alloc (.cells #[.int .i64 3, strV [], strV [], .slice none 0 0, strV T, .int .i64 v2.off, .int .i64 v2.line, .int .i64 (v2.off - v2.lstart + 1)] 33)) := HW3.out.alloc HW3.out.size _
    refine h1.trans ⟨HGROW.out.os, HGROW.out.tape, HGROW.out.output, HGROW.out.size, fun k hk => HGROW.out.block k (Nat.lt_of_lt_of_le hk h1.size) (by simp [Value.ownBlock])⟩
  have HR4 := Lib.hid (HR2.out.below HALL.out.toOk hb24)
  have hS1 : ¬ x.S1 v0 w.heap.size := by
    have h1 := HDX.out
    have h2 := HRDX.out
    have h3 : x.br = w.heap.size + 5 := by rw [HX.out]; rfl
    have h4 : x.rb = w.heap.size + 6 := by rw [HX.out]; rfl
    rintro ((h | h | h | h) | h)
    · omega
    · omega
    · omega
    · omega
    · exact h
  have HOP4 := Lib.hid (Blk.mod (S := fun _ => False) ((show Blk w1 w.heap.size _ _ from HOP.out).mod HS2.out.mod hS1) (mod_none hb24 _) id)
  have herr : v2.err = x.eofV := by
    have h1 := HR2.out.err
    rw [show x.o.fails = false by rw [HX.out]; rfl] at h1
    exact h1
  have hte := Lib.hid (tokEnd x HALL.out c HI.out w4 v2 HR4.out.dec herr HR4.out.base)
  have hco := Lib.hid (fun (k : Nat) => codeEof (w4.drewN k) x.eofA (by
    have h1 := HALL.out.eof
    exact (HR4.out.base.cell (p := ⟨_, 0, none⟩) HALL.out.gB).trans h1) (Nat.lt_of_lt_of_le HALL.out.gB HR4.out.base.size))
  have HB4 := Lib.hid (show Below w.heap.size w w4 by have h1 := HR4.out.base; rw [HX.out] at h1; exact h1)
  have hcc := (show Blk w4 w.heap.size _ _ from HOP4.out).cell
  have hff := (show Blk w4 w.heap.size _ _ from HOP4.out).frozen
  clear hb24 hS1 herr
  (repeat (first | with_reducible refine wp_seq_k (fun K hK => ?_) | with_reducible refine wp_region_lit ?_ | with_reducible refine wpList_nil ?_ | ((with_reducible refine wpList_plain rfl (fun K hK => ?_)); go_simp) | ((with_reducible refine wpList_step (fun K hK => ?_)); go_simp) | (with_reducible ((first | refine hK _ _ ?_ | (clear hK K; refine hK _ _ ?_) | (clear hK K; clear hK K; refine hK _ _ ?_) | (clear hK K; clear hK K; clear hK K; refine hK _ _ ?_) | (clear hK K; clear hK K; clear hK K; clear hK K; refine hK _ _ ?_) | (clear hK K; clear hK K; clear hK K; clear hK K; clear hK K; refine hK _ _ ?_)); clear hK K)) | with_reducible refine wp_cond_true (by first | (go_simp; done) | (go_simp; omega)) ?_ | with_reducible refine wp_cond_false (by first | (go_simp; done) | (go_simp; omega)) ?_ | with_reducible refine wp_exit ?_ | with_reducible refine wp_ret ?_ | with_reducible refine wp_block ?_ | with_reducible refine wp_label ?_ | with_reducible refine wp_skip ?_ | with_reducible refine wp_scope_straight ?_ | simp only [Exit.then, Exit.inBlock, Exit.noGoto, ↓reduceIte, Nat.reduceEqDiff] | simp only [undef, reduceCtorEq, ↓reduceIte]))
  refine hte.out.mono ?_
  rintro e5 w5 ⟨rfl, k, rfl⟩
  go_simp
  (repeat (first | with_reducible refine wp_seq_k (fun K hK => ?_) | with_reducible refine wp_region_lit ?_ | with_reducible refine wpList_nil ?_ | ((with_reducible refine wpList_plain rfl (fun K hK => ?_)); go_simp) | ((with_reducible refine wpList_step (fun K hK => ?_)); go_simp) | (with_reducible ((first | refine hK _ _ ?_ | (clear hK K; refine hK _ _ ?_) | (clear hK K; clear hK K; refine hK _ _ ?_) | (clear hK K; clear hK K; clear hK K; refine hK _ _ ?_) | (clear hK K; clear hK K; clear hK K; clear hK K; refine hK _ _ ?_) | (clear hK K; clear hK K; clear hK K; clear hK K; clear hK K; refine hK _ _ ?_)); clear hK K)) | with_reducible refine wp_cond_true (by first | (go_simp; done) | (go_simp; omega)) ?_ | with_reducible refine wp_cond_false (by first | (go_simp; done) | (go_simp; omega)) ?_ | with_reducible refine wp_exit ?_ | with_reducible refine wp_ret ?_ | with_reducible refine wp_block ?_ | with_reducible refine wp_label ?_ | with_reducible refine wp_skip ?_ | with_reducible refine wp_scope_straight ?_ | simp only [Exit.then, Exit.inBlock, Exit.noGoto, ↓reduceIte, Nat.reduceEqDiff] | simp only [undef, reduceCtorEq, ↓reduceIte]))
  refine (hco.out k).mono ?_
  rintro e6 w6 ⟨rfl, hw6⟩
  have HW6 := Lib.hid hw6
  clear hw6 hco hte hcc hff
  go_simp
  (repeat (first | with_reducible refine wp_seq_k (fun K hK => ?_) | with_reducible refine wp_region_lit ?_ | with_reducible refine wpList_nil ?_ | ((with_reducible refine wpList_plain rfl (fun K hK => ?_)); go_simp) | ((with_reducible refine wpList_step (fun K hK => ?_)); go_simp) | (with_reducible ((first | refine hK _ _ ?_ | (clear hK K; refine hK _ _ ?_) | (clear hK K; clear hK K; refine hK _ _ ?_) | (clear hK K; clear hK K; clear hK K; refine hK _ _ ?_) | (clear hK K; clear hK K; clear hK K; clear hK K; refine hK _ _ ?_) | (clear hK K; clear hK K; clear hK K; clear hK K; clear hK K; refine hK _ _ ?_)); clear hK K)) | with_reducible refine wp_cond_true (by first | (go_simp; done) | (go_simp; omega)) ?_ | with_reducible refine wp_cond_false (by first | (go_simp; done) | (go_simp; omega)) ?_ | with_reducible refine wp_exit ?_ | with_reducible refine wp_ret ?_ | with_reducible refine wp_block ?_ | with_reducible refine wp_label ?_ | with_reducible refine wp_skip ?_ | with_reducible refine wp_scope_straight ?_ | simp only [Exit.then, Exit.inBlock, Exit.noGoto, ↓reduceIte, Nat.reduceEqDiff] | simp only [undef, reduceCtorEq, ↓reduceIte]))
  (refine fr_out2 rfl (by decide) (by decide) (by simp only [lk_cons, lk_nil, Nat.reduceEqDiff, ↓reduceIte]; rfl) (by simp only [lk_cons, lk_nil, Nat.reduceEqDiff, ↓reduceIte]; rfl) ?_)
  have hown := HOWN.out
  obtain ⟨hxl, hor⟩ := hown
  rcases hor with ⟨_, h0⟩ | ⟨g', cap', cur, rfl, hbg, hcur, _, _, hcs, htk⟩
  · omega
  · have hlt : g' < w4.heap.size := Blk.lt (w := w4) (b := g') (cs := cur) (t := 33) hcur
    have h46 : Below w4.heap.size w4 w6 := ⟨HW6.out.os, HW6.out.tape, HW6.out.output, HW6.out.size, HW6.out.block⟩
    refine ⟨g', cap', v2.off, v2.line, v2.off - v2.lstart + 1, rfl, HB4.out.trans (h46.mono HB4.out.size), hbg, fun j v hj => ?_⟩
    rw [h46.cell (p := ⟨g', j, none⟩) hlt, (show Blk w4 g' cur 33 from hcur).cell]
    have hj8 : j < 8 := by
      have := (Array.getElem?_eq_some_iff.1 hj).1
      simpa using this
    have h1 : (cur.toList.take 8)[j]? = cur[j]? := by
      rw [List.getElem?_take, if_pos hj8, Array.getElem?_toList]
    rw [← h1]
    have h2 : cur.toList.take 8 = tokCells 3 [] [] (.slice none 0 0) T v2.off v2.line (v2.off - v2.lstart + 1) := by
      have := htk
      simpa using this
    rw [h2]
    simpa [tokCells] using hj
end Go.Proofs.YtkjnockljapnbaaGreatDoor
