/- Part of the proof that laws.FnPieces returns true for every argument (Ke, Kf). No condition of its own. -/
import Derived.Test.YtkjnockljapnbaaGreatDoorJ43
import Derived.Test.YtkjnockljapnbaaGreatDoorJ47
import Derived.Test.YtkjnockljapnbaaGreatDoorJ48
set_option linter.all false
namespace Go.Proofs.YtkjnockljapnbaaGreatDoor
open Go Go.RowKit
theorem spaNe (a b c : Bs) (w : World) : (binOp .neq 62 (.agg #[strV a, strV b, strV c]) (.agg #[strV a, strV b, strV c])).run Tryz.prog w = .ok (.bool false) w := by
  have e : ∀ (d : Nat) (x : Bs) (w : World), (Op.equalIn (d + 1) 9 (strV x) (strV x)).run Tryz.prog w = .ok true w := fun d x w => by
    rw [run_equalIn_string w d _ _ _ Tryz.underlying9]; simp
  have u1 := Tryz.underlying9
  rw [run_neq_struct, show (10000 : Nat) = 9999 + 1 from rfl, run_equalIn_agg w 9999 _ _ _ (by kernel_rfl) (by kernel_rfl)]
  simp only [Program.fieldsOf, Tryz.underlying62]
  go_simp
abbrev plV (p : ITok) (sa : Option Addr) (sl sc : Nat) : Value := .agg #[.int .i64 p.kind, strV p.space, strV p.loc, .slice sa sl sc, strV p.text, .int .i64 p.at']
def AlInv (w1 : World) (b : Nat) (n : Nat) (k : Nat) (a : Act) (w : World) : Prop :=
  ∃ f i, a = fr 59 f [(2, .pointer (some ⟨b, 0, none⟩)), (3, .pointer (some ⟨b + 1, 0, none⟩)), (43, .int .i64 (n : Nat)), (44, .int .i64 (i : Nat))] ∧ (∃ j, w = w1.drewN j) ∧ k = n - i ∧ i ≤ n
theorem row_cells {w : World} {base : Nat} {e : TypeId} {sa : Option Addr} {sl sc : Nat} {ats : List At3} (h : w.ownsRow base e 3 (.slice sa sl sc) ats.length (atCells ats)) {i : Nat} {a : At3} (ha : ats[i]? = some a) :
    ∃ g, sa = some ⟨g, 0, none⟩ ∧ sl = ats.length ∧ w.cell? ⟨g, i * 3, none⟩ = some (strV a.1) ∧ w.cell? ⟨g, i * 3 + 1, none⟩ = some (strV a.2.1) ∧ w.cell? ⟨g, i * 3 + 2, none⟩ = some (strV a.2.2) := by
  have hi := (List.getElem?_eq_some_iff.1 ha).1
  rcases h.2 with ⟨_, h9⟩ | ⟨g, cap, cur, h3, _, h4, _, _, _, h5⟩
  · omega
  · simp only [Value.slice.injEq] at h3
    obtain ⟨rfl, rfl, rfl⟩ := h3
    obtain ⟨k1, k2, k3⟩ := at_cell h5 ha
    have hgw : Blk w g cur e := h4
    exact ⟨g, rfl, rfl, (hgw.cell _).trans k1, (hgw.cell _).trans k2, (hgw.cell _).trans k3⟩
theorem row_len {w : World} {base : Nat} {e : TypeId} {sa : Option Addr} {sl sc n : Nat} {xs : List Value} {sz : Nat} (h : w.ownsRow base e sz (.slice sa sl sc) n xs) : sl = n := by
  rcases h.2 with ⟨h3, h9⟩ | ⟨g, cap, cur, h3, _⟩
  · simp only [Value.slice.injEq] at h3; omega
  · simp only [Value.slice.injEq] at h3; exact h3.2.1
set_option maxHeartbeats 8000000 in
set_option maxRecDepth 100000 in
theorem alike_c (w0 : World) (p : ITok) (hlen : p.attrs.length ≤ 1000000000) (b1 b2 : Nat) (sa : Option Addr) (sl sc : Nat) (sa' : Option Addr) (sl' sc' : Nat) (h1 : w0.ownsRow b1 62 3 (.slice sa sl sc) p.attrs.length (atCells p.attrs)) (h2 : w0.ownsRow b2 62 3 (.slice sa' sl' sc') p.attrs.length (atCells p.attrs)) :
    Calls Tryz.prog 12 #[plV p sa sl sc, plV p sa' sl' sc'] w0 fun en w' => en = .returned (.bool true) ∧ Below w0.heap.size w0 w' := by
  have e1 := row_len h1
  have e2 := row_len h2
  subst e1 e2
  obtain ⟨w1, hw1⟩ : ∃ w1, w1 = (w0.alloc (.cells #[.int .i64 p.kind, strV p.space, strV p.loc, .slice sa p.attrs.length sc, strV p.text, .int .i64 p.at'] 40)).alloc (.cells #[.int .i64 p.kind, strV p.space, strV p.loc, .slice sa' p.attrs.length sc', strV p.text, .int .i64 p.at'] 40) := ⟨_, rfl⟩
  have hbl : Below w0.heap.size w0 w1 := by rw [hw1]; exact ((Below.refl _ w0).alloc (Nat.le_refl _) _).alloc (by simp) _
  have hba : Blk w1 w0.heap.size #[.int .i64 p.kind, strV p.space, strV p.loc, .slice sa p.attrs.length sc, strV p.text, .int .i64 p.at'] 40 := by rw [hw1]; exact (Blk.new w0 _ _).alloc _
  have hbb : Blk w1 (w0.heap.size + 1) #[.int .i64 p.kind, strV p.space, strV p.loc, .slice sa' p.attrs.length sc', strV p.text, .int .i64 p.at'] 40 := by
    have := Blk.new (w0.alloc (.cells #[.int .i64 p.kind, strV p.space, strV p.loc, .slice sa p.attrs.length sc, strV p.text, .int .i64 p.at'] 40)) #[.int .i64 p.kind, strV p.space, strV p.loc, .slice sa' p.attrs.length sc', strV p.text, .int .i64 p.at'] 40
    rw [hw1]; simpa using this
  have H1 := Lib.hid (ownsRow_mod (S := fun _ => False) h1 (mod_none hbl _) (fun _ _ => id))
  have H2 := Lib.hid (ownsRow_mod (S := fun _ => False) h2 (mod_none hbl _) (fun _ _ => id))
  have HBL := Lib.hid hbl
  have HA := Lib.hid hba
  have HB := Lib.hid hbb
  have HLEN := Lib.hid hlen
  clear h1 h2 hbl hba hbb hlen
  refine calls_fr (vs := [_, _]) 59 Tryz.func12 rfl rfl (Nat.le_of_ble_eq_true rfl) fun f => ?_
  simp only [argSlots]
  (repeat ((fail_if_success with_reducible refine wp_stop 1 ?_); (fail_if_success with_reducible refine wp_stop2 1 ?_); (first|(with_reducible first|refine zA fun K hK=>?_|refine zB ?_|refine zC ?_)|((with_reducible first|refine zD rfl fun K hK=>?_|refine zE fun K hK=>?_);go_simp)|(with_reducible first|((repeat ((fail_if_success refine hK _ _ ?_);clear hK K));refine hK _ _ ?_;clear hK K)|refine zT (by go_simp;first|done|omega) ?_|refine zF (by go_simp;first|done|omega) ?_|refine zG ?_|refine zR ?_|refine zK ?_|refine zL ?_|refine zN ?_|refine zS ?_)|simp only [Exit.then,Exit.inBlock,Exit.noGoto,↓reduceIte,Nat.reduceEqDiff]|simp only [undef,reduceCtorEq,↓reduceIte])))
  rw [← hw1]
  clear hw1
  have hca := HA.out.cell
  have hcb := HB.out.cell
  (repeat (first|(with_reducible first|refine zA fun K hK=>?_|refine zB ?_|refine zC ?_)|((with_reducible first|refine zD rfl fun K hK=>?_|refine zE fun K hK=>?_);go_simp)|(with_reducible first|((repeat ((fail_if_success refine hK _ _ ?_);clear hK K));refine hK _ _ ?_;clear hK K)|refine zT (by go_simp;first|done|omega) ?_|refine zF (by go_simp;first|done|omega) ?_|refine zG ?_|refine zR ?_|refine zK ?_|refine zL ?_|refine zN ?_|refine zS ?_)|simp only [Exit.then,Exit.inBlock,Exit.noGoto,↓reduceIte,Nat.reduceEqDiff]|simp only [undef,reduceCtorEq,↓reduceIte]))
  (refine wp_keep [2, 3, 43, 44] (fun f => ?_); simp only [keep_cons, keep_nil, lk_cons, lk_nil, Nat.reduceEqDiff, ↓reduceIte])
  have HCA := Lib.hid hca
  have HCB := Lib.hid hcb
  clear hca hcb
  refine wp_loop_ghost_k (AlInv w1 w0.heap.size p.attrs.length) p.attrs.length ⟨f, 0, rfl, ⟨0, rfl⟩, by simp, Nat.zero_le _⟩ ?_
  rintro k _ w ⟨f, i, rfl, ⟨j, hjw⟩, hk, hi⟩ J K2 hJ hK2
  have HJW := Lib.hid hjw
  clear hjw
  have HJ := Lib.hid hJ
  have HK2 := Lib.hid hK2
  have HK := Lib.hid hk
  clear hJ hK2 hk
  by_cases hlt : i < p.attrs.length
  · have h1 : (i : Int) < (p.attrs.length : Int) := by omega
    have h0 : (0 : Int) ≤ (i : Int) := by omega
    have hw1 : IntKind.i64.wrap ((i : Int) + 1) = ((i + 1 : Nat) : Int) := by rw [IntKind.wrap_i64]; have := HLEN.out; omega
    obtain ⟨a, ha⟩ : ∃ a, p.attrs[i]? = some a := ⟨p.attrs[i], by simp [hlt]⟩
    obtain ⟨ga, rfl, _, a0, a1, a2⟩ := row_cells H1.out ha
    obtain ⟨gb, rfl, _, b0, b1, b2⟩ := row_cells H2.out ha
    have a0' : w.cell? ⟨ga, i * 3, none⟩ = some (strV a.1) := by rw [HJW.out]; exact a0
    have a1' : w.cell? ⟨ga, i * 3 + 1, none⟩ = some (strV a.2.1) := by rw [HJW.out]; exact a1
    have a2' : w.cell? ⟨ga, i * 3 + 2, none⟩ = some (strV a.2.2) := by rw [HJW.out]; exact a2
    have b0' : w.cell? ⟨gb, i * 3, none⟩ = some (strV a.1) := by rw [HJW.out]; exact b0
    have b1' : w.cell? ⟨gb, i * 3 + 1, none⟩ = some (strV a.2.1) := by rw [HJW.out]; exact b1
    have b2' : w.cell? ⟨gb, i * 3 + 2, none⟩ = some (strV a.2.2) := by rw [HJW.out]; exact b2
    have hca3 : w.cell? ⟨w0.heap.size, 3, none⟩ = some (.slice (some ⟨ga, 0, none⟩) p.attrs.length sc) := by rw [HJW.out]; exact HCA.out 3
    have hcb3 : w.cell? ⟨w0.heap.size + 1, 3, none⟩ = some (.slice (some ⟨gb, 0, none⟩) p.attrs.length sc') := by rw [HJW.out]; exact HCB.out 3
    have hne := fun w => spaNe a.1 a.2.1 a.2.2 w
    clear ha a0 a1 a2 b0 b1 b2
    (repeat (first|(with_reducible first|refine zA fun K hK=>?_|refine zB ?_|refine zC ?_)|((with_reducible first|refine zD rfl fun K hK=>?_|refine zE fun K hK=>?_);go_simp)|(with_reducible first|((repeat ((fail_if_success refine hK _ _ ?_);clear hK K));refine hK _ _ ?_;clear hK K)|refine zT (by go_simp;first|done|omega) ?_|refine zF (by go_simp;first|done|omega) ?_|refine zG ?_|refine zR ?_|refine zK ?_|refine zL ?_|refine zN ?_|refine zS ?_)|simp only [Exit.then,Exit.inBlock,Exit.noGoto,↓reduceIte,Nat.reduceEqDiff]|simp only [undef,reduceCtorEq,↓reduceIte]))
    (refine wp_keep [2, 3, 5, 43, 44] (fun f => ?_); simp only [keep_cons, keep_nil, lk_cons, lk_nil, Nat.reduceEqDiff, ↓reduceIte])
    go_quiet (fail)
    (repeat (first|(with_reducible first|refine zA fun K hK=>?_|refine zB ?_|refine zC ?_)|((with_reducible first|refine zD rfl fun K hK=>?_|refine zE fun K hK=>?_);go_simp)|(with_reducible first|((repeat ((fail_if_success refine hK _ _ ?_);clear hK K));refine hK _ _ ?_;clear hK K)|refine zT (by go_simp;first|done|omega) ?_|refine zF (by go_simp;first|done|omega) ?_|refine zG ?_|refine zR ?_|refine zK ?_|refine zL ?_|refine zN ?_|refine zS ?_)|simp only [Exit.then,Exit.inBlock,Exit.noGoto,↓reduceIte,Nat.reduceEqDiff]|simp only [undef,reduceCtorEq,↓reduceIte]))
    (refine K_keep [2, 3, 43, 44] (fun f => ?_); simp only [keep_cons, keep_nil, lk_cons, lk_nil, Nat.reduceEqDiff, ↓reduceIte])
    exact HK2.out _ _ ⟨p.attrs.length - (i + 1), by rw [HK.out]; omega, HJ.out _ _ _ ⟨f, i + 1, rfl, ⟨j + nq, by rw [HJW.out, World.drewN_drewN]⟩, rfl, hlt⟩⟩
  · have hii : i = p.attrs.length := by omega
    subst hii
    have h1 : ¬ ((p.attrs.length : Int) < (p.attrs.length : Int)) := by omega
    (repeat (first|(with_reducible first|refine zA fun K hK=>?_|refine zB ?_|refine zC ?_)|((with_reducible first|refine zD rfl fun K hK=>?_|refine zE fun K hK=>?_);go_simp)|(with_reducible first|((repeat ((fail_if_success refine hK _ _ ?_);clear hK K));refine hK _ _ ?_;clear hK K)|refine zT (by go_simp;first|done|omega) ?_|refine zF (by go_simp;first|done|omega) ?_|refine zG ?_|refine zR ?_|refine zK ?_|refine zL ?_|refine zN ?_|refine zS ?_)|simp only [Exit.then,Exit.inBlock,Exit.noGoto,↓reduceIte,Nat.reduceEqDiff]|simp only [undef,reduceCtorEq,↓reduceIte]))
    (refine fr_out1 rfl (by decide) (by simp only [lk_cons, lk_nil, Nat.reduceEqDiff, ↓reduceIte]; rfl) ?_)
    exact ⟨rfl, by rw [HJW.out]; exact Below_drewN HBL.out j⟩
end Go.Proofs.YtkjnockljapnbaaGreatDoor
namespace Go.Proofs.YtkjnockljapnbaaGreatDoor
open Go Go.RowKit
theorem row_cell {w : World} {base : Nat} {e : TypeId} {sz : Nat} {v : Value} {n : Nat} {xs : List Value} (h : w.ownsRow base e sz v n xs) (hn : 0 < n) : ∃ g cap, v = .slice (some ⟨g, 0, none⟩) n cap ∧ base ≤ g ∧ g < w.heap.size ∧ n ≤ cap ∧ cap ≤ maxLen ∧ ∀ k u, xs[k]? = some u → w.cell? ⟨g, k, none⟩ = some u := by
  rcases h.2 with ⟨_, h9⟩ | ⟨g, cap, cur, h3, h4, h5, h6, h7, h8, h9⟩
  · omega
  · have hb : Blk w g cur e := h5
    refine ⟨g, cap, h3, h4, hb.lt, h6, h7, fun k u hk => ?_⟩
    rw [hb.cell]
    rw [← h9] at hk
    have hkl := (List.getElem?_eq_some_iff.1 hk).1
    rw [List.getElem?_take, if_pos (by simp at hkl; omega), Array.getElem?_toList] at hk
    exact hk
theorem tok_src {w : World} {base g : Nat} {T : Bs} {l : List (RTok × St)} {xs : List Value} {G : Nat → Prop} (hrows : RowsAt (RowOk w base G T) l xs) (hcell : ∀ k u, xs[k]? = some u → w.cell? ⟨g, k, none⟩ = some u) {i : Nat} {ts : RTok × St} (hi : l[i]? = some ts) (hlen : (ts.1.itok (T.take (T.length - ts.2.rest.length))).attrs.length ≤ 1000000000) :
    SrcTok w g (i * 8) (ts.1.itok (T.take (T.length - ts.2.rest.length))) := by
  obtain ⟨ys, ⟨sa, sl, sc, i6, i7, rfl, hr, _⟩, hy⟩ := hrows.get (n := 8) (fun _ _ h => h.len) hi
  have hc : ∀ j u, j < 8 → (tokCells _ _ _ _ _ _ _ _)[j]? = some u → w.cell? ⟨g, i * 8 + j, none⟩ = some u := fun j u hj hu => hcell _ _ ((hy j hj).trans hu)
  have hr0 : w.ownsRow 0 61 3 (.slice sa sl sc) (ts.1.itok (T.take (T.length - ts.2.rest.length))).attrs.length (atCells (ts.1.itok (T.take (T.length - ts.2.rest.length))).attrs) := by
    refine ⟨hr.1, ?_⟩
    rcases hr.2 with h9 | ⟨g9, cap, cur, e1, e2, e3⟩
    · exact Or.inl h9
    · exact Or.inr ⟨g9, cap, cur, e1, Nat.zero_le _, e3⟩
  exact ⟨⟨sa, sl, sc, i6, i7, hc 0 _ (by omega) rfl, hc 1 _ (by omega) rfl, hc 2 _ (by omega) rfl, hc 3 _ (by omega) rfl, hc 4 _ (by omega) rfl, hc 5 _ (by omega) rfl, hc 6 _ (by omega) rfl, hc 7 _ (by omega) rfl, hr0⟩, hlen⟩
set_option maxHeartbeats 4000000 in
set_option maxRecDepth 100000 in
theorem reads_c (w : World) (hE : EnvA w) : Calls Tryz.prog 10 #[] w fun en w' => en = .returned (.bool true) ∧ Below w.heap.size w w' := by
  have HT := Lib.hid (tokens_c rdT (by decide) rdO rfl rfl none 0 0 [] w hE ⟨by omega, by omega, fun h => by omega⟩)
  clear hE
  refine calls_fr (vs := []) 36 Tryz.func10 rfl rfl (Nat.le_of_ble_eq_true rfl) fun f => ?_
  simp only [argSlots]
  (repeat (first|(with_reducible first|refine zA fun K hK=>?_|refine zB ?_|refine zC ?_)|((with_reducible first|refine zD rfl fun K hK=>?_|refine zE fun K hK=>?_);go_simp)|(with_reducible first|((repeat ((fail_if_success refine hK _ _ ?_);clear hK K));refine hK _ _ ?_;clear hK K)|refine zT (by go_simp;first|done|omega) ?_|refine zF (by go_simp;first|done|omega) ?_|refine zG ?_|refine zR ?_|refine zK ?_|refine zL ?_|refine zN ?_|refine zS ?_)|simp only [Exit.then,Exit.inBlock,Exit.noGoto,↓reduceIte,Nat.reduceEqDiff]|simp only [undef,reduceCtorEq,↓reduceIte]))
  refine HT.out.mono ?_
  rintro e1 w1 ⟨l, e, tv, xs, rfl, htk, hb, hrow, hrows, _⟩
  obtain ⟨rfl, rfl⟩ := (htk (fun _ _ => false)).det (rd_toks (fun _ _ => false))
  obtain ⟨g, cap, rfl, hg1, hg2, hn, hcm, hcell⟩ := row_cell hrow (by decide)
  have s0 := tok_src (i := 0) hrows hcell rfl (by decide)
  have s1 := tok_src (i := 1) hrows hcell rfl (by decide)
  obtain ⟨⟨_, _, _, _, _, a0, _⟩, _⟩ := s0
  obtain ⟨⟨_, _, _, _, _, b0, b1, b2, _⟩, _⟩ := s1
  have k0 : w1.cell? ⟨g, 0, none⟩ = some (.int .i64 1) := a0
  have k1 : w1.cell? ⟨g, 8, none⟩ = some (.int .i64 2) := b0
  have k2 : w1.cell? ⟨g, 10, none⟩ = some (.string ⟨#[97]⟩) := b2
  have HB := Lib.hid hb
  clear a0 b0 b1 b2 htk hb hrow hrows hcell HT
  rw [show ((EK.code .eof : Nat) : Int) = 0 from rfl]
  go_simp
  (repeat (first|(with_reducible first|refine zA fun K hK=>?_|refine zB ?_|refine zC ?_)|((with_reducible first|refine zD rfl fun K hK=>?_|refine zE fun K hK=>?_);go_simp)|(with_reducible first|((repeat ((fail_if_success refine hK _ _ ?_);clear hK K));refine hK _ _ ?_;clear hK K)|refine zT (by go_simp;first|done|omega) ?_|refine zF (by go_simp;first|done|omega) ?_|refine zG ?_|refine zR ?_|refine zK ?_|refine zL ?_|refine zN ?_|refine zS ?_)|simp only [Exit.then,Exit.inBlock,Exit.noGoto,↓reduceIte,Nat.reduceEqDiff]|simp only [undef,reduceCtorEq,↓reduceIte]))
  (refine fr_out1 rfl (by decide) (by simp only [lk_cons, lk_nil, Nat.reduceEqDiff, ↓reduceIte]; rfl) ?_)
  exact ⟨rfl, HB.out⟩
end Go.Proofs.YtkjnockljapnbaaGreatDoor
