/- Part of the proof that laws.FnLooseReferences returns true for every text (the claim of laws.FnLooseReferences: Ua). No condition of its own. -/
import Derived.Test.YtkjnockljapnbaaGreatDoorJTz
set_option linter.all false
/- text: its characters are looked at; text as a whole. -/
namespace Go.Proofs.YtkjnockljapnbaaGreatDoor
open Go Go.RowKit

def TfInv (x : Cx) (w1 : World) (g : Nat) (dv : Value) (d : Bs) (m : Nat) (a : Act) (w : World) : Prop :=
  ∃ f off l cp k, a = fr 381 f [(0, decP x), (26, dv), (27, .slice (some ⟨g, off, none⟩) l.length cp)] ∧ Below w1.heap.size w1 w ∧ BytesAt w g off l ∧ l.length ≤ cp ∧ cp ≤ 9223372036854775807 ∧ l.length ≤ k ∧ charsL d = charsFrom k l ∧ m = l.length
theorem charsFrom_nil (k : Nat) : charsFrom k [] = true := by cases k <;> simp [charsFrom]
set_option maxHeartbeats 8000000 in
set_option maxRecDepth 100000 in
theorem textFin (x : Cx) (hx : x.All) (c : DC) (w : World) (v : DV) (r : Bs) (e : Option EK) (b : Bs) (n : Nat) (h : RdS x c w v r e b) (hnn : NonNil v) (hnb : n ≤ b.length) (hl : b.length ≤ 10000000000000) (Q : Exit → Act → World → Prop)
    (hok : charsL (b.take (b.length - n)) = true → ∀ g cap, v.bufv = .slice (some ⟨g, 0, none⟩) b.length cap → ∀ f w', RdS x c w' v r e b → Stp x w v w' v → Q .ret (fr 381 f [(6, .slice (some ⟨g, 0, none⟩) (b.length - n : Nat) cap)]) w')
    (hbad : charsL (b.take (b.length - n)) = false → ∀ f w' v', ErrS x c w' v' .syn → Stp x w v w' v' → Q .ret (fr 381 f [(6, .slice none 0 0)]) w') (f : Nat → Value) :
    (txCode 91).wp Tryz.prog Q (fr 381 f [(0, decP x), (9, .int .i64 n)]) w := by
  obtain ⟨g, cap, hv, hby, hlc, hcm⟩ : ∃ g cap, v.bufv = .slice (some ⟨g, 0, none⟩) b.length cap ∧ BytesAt w g 0 b ∧ b.length ≤ cap ∧ cap ≤ 9223372036854775807 := by
    rcases h.bf with ⟨hv, _⟩ | ⟨g, cap, arr, hv, hg, hsz, hl, hcp, hB, hS, hel⟩
    · exact absurd hv hnn.ne
    · exact ⟨g, cap, hv, fun j hj => by rw [Nat.zero_add, hg.cell]; exact hel j hj, hl, hcp⟩
  have hbd := Lib.hid (bytes_c x c w v r e b h)
  have HX := Lib.hid hx
  have H := Lib.hid h
  have HOK := Lib.hid (hok · g cap hv)
  have HBAD := Lib.hid hbad
  have hd : BytesAt w g 0 (b.take (b.length - n)) := by
    intro j hj
    rw [List.length_take] at hj
    rw [hby j (by omega)]
    simp only [List.getD_eq_getElem?_getD, List.getElem?_take]
    rw [if_pos (by omega)]
  obtain ⟨d, hdd⟩ : ∃ d, d = b.take (b.length - n) := ⟨_, rfl⟩
  have hdl : d.length = b.length - n := by rw [hdd, List.length_take]; omega
  rw [← hdd] at HOK HBAD hd
  obtain ⟨B, hB⟩ : ∃ B, B = b.length := ⟨_, rfl⟩
  rw [← hB] at hdl hl hlc hnb hv
  rw [hv] at hbd
  have HDL := Lib.hid hdl
  have hsub : IntKind.i64.wrap ((B : Int) - (n : Int)) = (d.length : Int) := by rw [IntKind.wrap_i64]; omega
  have d0 : (0 : Int) ≤ (d.length : Int) := by omega
  have d1 : (d.length : Int) ≤ (cap : Int) := by omega
  have HD := Lib.hid hd
  have hdc2 : d.length ≤ cap := by omega
  rw [← hB] at HOK
  rw [← hdl] at HOK
  clear hok hbad h hx hnn hby hdd hB hdl hd hv
  unfold txCode
  conv => arg 2; whnf
  (repeat (first | with_reducible refine wp_seq_k (fun K hK => ?_) | with_reducible refine wp_region_lit ?_ | with_reducible refine wpList_nil ?_ | ((with_reducible refine wpList_plain rfl (fun K hK => ?_)); go_simp) | ((with_reducible refine wpList_step (fun K hK => ?_)); go_simp) | (with_reducible ((first | refine hK _ _ ?_ | (clear hK K; refine hK _ _ ?_) | (clear hK K; clear hK K; refine hK _ _ ?_) | (clear hK K; clear hK K; clear hK K; refine hK _ _ ?_) | (clear hK K; clear hK K; clear hK K; clear hK K; refine hK _ _ ?_) | (clear hK K; clear hK K; clear hK K; clear hK K; clear hK K; refine hK _ _ ?_)); clear hK K)) | with_reducible refine wp_cond_true (by first | (go_simp; done) | (go_simp; omega)) ?_ | with_reducible refine wp_cond_false (by first | (go_simp; done) | (go_simp; omega)) ?_ | with_reducible refine wp_exit ?_ | with_reducible refine wp_ret ?_ | with_reducible refine wp_block ?_ | with_reducible refine wp_label ?_ | with_reducible refine wp_skip ?_ | with_reducible refine wp_scope_straight ?_ | simp only [Exit.then, Exit.inBlock, Exit.noGoto, ↓reduceIte, Nat.reduceEqDiff] | simp only [undef, reduceCtorEq, ↓reduceIte]))
  refine hbd.out.mono ?_
  rintro e1 w1 ⟨rfl, k1, rfl⟩
  go_simp
  (repeat (first | with_reducible refine wp_seq_k (fun K hK => ?_) | with_reducible refine wp_region_lit ?_ | with_reducible refine wpList_nil ?_ | ((with_reducible refine wpList_plain rfl (fun K hK => ?_)); go_simp) | ((with_reducible refine wpList_step (fun K hK => ?_)); go_simp) | (with_reducible ((first | refine hK _ _ ?_ | (clear hK K; refine hK _ _ ?_) | (clear hK K; clear hK K; refine hK _ _ ?_) | (clear hK K; clear hK K; clear hK K; refine hK _ _ ?_) | (clear hK K; clear hK K; clear hK K; clear hK K; refine hK _ _ ?_) | (clear hK K; clear hK K; clear hK K; clear hK K; clear hK K; refine hK _ _ ?_)); clear hK K)) | with_reducible refine wp_cond_true (by first | (go_simp; done) | (go_simp; omega)) ?_ | with_reducible refine wp_cond_false (by first | (go_simp; done) | (go_simp; omega)) ?_ | with_reducible refine wp_exit ?_ | with_reducible refine wp_ret ?_ | with_reducible refine wp_block ?_ | with_reducible refine wp_label ?_ | with_reducible refine wp_skip ?_ | with_reducible refine wp_scope_straight ?_ | simp only [Exit.then, Exit.inBlock, Exit.noGoto, ↓reduceIte, Nat.reduceEqDiff] | simp only [undef, reduceCtorEq, ↓reduceIte]))
  (refine wp_keep [0, 26, 27] (fun f => ?_); simp only [keep_cons, keep_nil, lk_cons, lk_nil, Nat.reduceEqDiff, ↓reduceIte])
  have HB1 := Lib.hid (show BytesAt (w.drewN k1) g 0 d from HD.out)
  have H1 := Lib.hid (H.out.drewN HX.out.toOk k1)
  have HS1 := Lib.hid (Stp.drewN (x := x) (w := w) (v := v) k1)
  clear hsub hbd
  generalize w.drewN k1 = w1 at HB1 H1 HS1 ⊢
  refine wp_loop_ghost_k (TfInv x w1 g (.slice (some ⟨g, 0, none⟩) d.length cap) d) d.length ⟨f, 0, d, cap, d.length, rfl, Below.refl _ _, HB1.out, hdc2, hcm, Nat.le_refl _, rfl, rfl⟩ ?_
  rintro m _ w2 ⟨f, off, l, cp, k, rfl, hbw, hbl, hlc2, hcm2, hk, hch, hm⟩ J K2 hJ hK2
  have HJ := Lib.hid hJ
  have HK2 := Lib.hid hK2
  have HBW := Lib.hid hbw
  have HBL := Lib.hid hbl
  have HK := Lib.hid hk
  have HCH := Lib.hid hch
  have HM := Lib.hid hm
  have H2 := Lib.hid (H1.out.below HX.out.toOk hbw)
  have HS2 := Lib.hid (HS1.out.s0 (mod_none hbw _) rfl)
  clear hJ hK2 hbw hbl hk hch hm
  by_cases hl0 : l = []
  · subst hl0
    (repeat (first | with_reducible refine wp_seq_k (fun K hK => ?_) | with_reducible refine wp_region_lit ?_ | with_reducible refine wpList_nil ?_ | ((with_reducible refine wpList_plain rfl (fun K hK => ?_)); go_simp) | ((with_reducible refine wpList_step (fun K hK => ?_)); go_simp) | (with_reducible ((first | refine hK _ _ ?_ | (clear hK K; refine hK _ _ ?_) | (clear hK K; clear hK K; refine hK _ _ ?_) | (clear hK K; clear hK K; clear hK K; refine hK _ _ ?_) | (clear hK K; clear hK K; clear hK K; clear hK K; refine hK _ _ ?_) | (clear hK K; clear hK K; clear hK K; clear hK K; clear hK K; refine hK _ _ ?_)); clear hK K)) | with_reducible refine wp_cond_true (by first | (go_simp; done) | (go_simp; omega)) ?_ | with_reducible refine wp_cond_false (by first | (go_simp; done) | (go_simp; omega)) ?_ | with_reducible refine wp_exit ?_ | with_reducible refine wp_ret ?_ | with_reducible refine wp_block ?_ | with_reducible refine wp_label ?_ | with_reducible refine wp_skip ?_ | with_reducible refine wp_scope_straight ?_ | simp only [Exit.then, Exit.inBlock, Exit.noGoto, ↓reduceIte, Nat.reduceEqDiff] | simp only [undef, reduceCtorEq, ↓reduceIte]))
    refine Q_keep [6] (fun f => ?_); simp only [keep_cons, keep_nil, lk_cons, lk_nil, Nat.reduceEqDiff, ↓reduceIte]
    exact HOK.out (by rw [HCH.out]; exact charsFrom_nil k) f w2 H2.out HS2.out
  · have hne := Lib.hid hl0
    have hpos : (0 : Int) < (l.length : Int) := by have := List.length_pos_iff.2 hl0; omega
    have hdr := Lib.hid (dec_c l g off cp w2 (HX.out.tabs H2.out.base) HBL.out)
    have hwid := decL_wid l hl0
    have hwp := decL_pos l hl0
    obtain ⟨k', hk'⟩ : ∃ k', k = k' + 1 := ⟨k - 1, by have := HK.out; omega⟩
    subst hk'
    have hch2 : charsL d = (if (decL l).1 = 65533 ∧ (decL l).2 = 1 then false else if inRange (decL l).1 then charsFrom k' (l.drop (decL l).2) else false) := by
      rw [HCH.out]
      rw [charsFrom, if_neg hl0]
    have HCH2 := Lib.hid hch2
    clear hch2 hl0
    obtain ⟨rn, hrn⟩ : ∃ rn, rn = (decL l).1 := ⟨_, rfl⟩
    obtain ⟨sz, hsz⟩ : ∃ sz, sz = (decL l).2 := ⟨_, rfl⟩
    rw [← hrn] at hdr HCH2
    rw [← hsz] at hdr HCH2 hwid hwp
    clear hrn hsz
    have hz0 : (0 : Int) ≤ (sz : Int) := by omega
    have hz1 : (sz : Int) ≤ (l.length : Int) := by omega
    have hz2 : (l.length : Int) ≤ (cp : Int) := by omega
    have hbad : (((rn : Int) == 65533) = false) ∨ (((rn : Int) == 65533) = true ∧ ((sz : Int) == 1) = false) ∨ (((rn : Int) == 65533) = true ∧ ((sz : Int) == 1) = true) := by
      cases ((rn : Int) == 65533) <;> cases ((sz : Int) == 1) <;> simp
    (repeat (first | with_reducible refine wp_seq_k (fun K hK => ?_) | with_reducible refine wp_region_lit ?_ | with_reducible refine wpList_nil ?_ | ((with_reducible refine wpList_plain rfl (fun K hK => ?_)); go_simp) | ((with_reducible refine wpList_step (fun K hK => ?_)); go_simp) | (with_reducible ((first | refine hK _ _ ?_ | (clear hK K; refine hK _ _ ?_) | (clear hK K; clear hK K; refine hK _ _ ?_) | (clear hK K; clear hK K; clear hK K; refine hK _ _ ?_) | (clear hK K; clear hK K; clear hK K; clear hK K; refine hK _ _ ?_) | (clear hK K; clear hK K; clear hK K; clear hK K; clear hK K; refine hK _ _ ?_)); clear hK K)) | with_reducible refine wp_cond_true (by first | (go_simp; done) | (go_simp; omega)) ?_ | with_reducible refine wp_cond_false (by first | (go_simp; done) | (go_simp; omega)) ?_ | with_reducible refine wp_exit ?_ | with_reducible refine wp_ret ?_ | with_reducible refine wp_block ?_ | with_reducible refine wp_label ?_ | with_reducible refine wp_skip ?_ | with_reducible refine wp_scope_straight ?_ | simp only [Exit.then, Exit.inBlock, Exit.noGoto, ↓reduceIte, Nat.reduceEqDiff] | simp only [undef, reduceCtorEq, ↓reduceIte]))
    refine hdr.out.mono ?_
    rintro e2 w3 ⟨rfl, hw3⟩
    have H3 := Lib.hid (H2.out.below HX.out.toOk hw3)
    have HS3 := Lib.hid (HS2.out.s0 (mod_none hw3 _) rfl)
    have HBW3 := Lib.hid (HBW.out.trans (hw3.mono HBW.out.size))
    have HBL3 := Lib.hid (HBL.out.below hw3)
    have HSY := Lib.hid (fun msg => synErr_w HX.out.toOk H3.out msg)
    clear hw3 hdr
    rcases hbad with hb | ⟨hb, hb2⟩ | ⟨hb, hb2⟩
    case inr.inr =>
      go_simp
      (repeat (first | with_reducible refine wp_seq_k (fun K hK => ?_) | with_reducible refine wp_region_lit ?_ | with_reducible refine wpList_nil ?_ | ((with_reducible refine wpList_plain rfl (fun K hK => ?_)); go_simp) | ((with_reducible refine wpList_step (fun K hK => ?_)); go_simp) | (with_reducible ((first | refine hK _ _ ?_ | (clear hK K; refine hK _ _ ?_) | (clear hK K; clear hK K; refine hK _ _ ?_) | (clear hK K; clear hK K; clear hK K; refine hK _ _ ?_) | (clear hK K; clear hK K; clear hK K; clear hK K; refine hK _ _ ?_) | (clear hK K; clear hK K; clear hK K; clear hK K; clear hK K; refine hK _ _ ?_)); clear hK K)) | with_reducible refine wp_cond_true (by first | (go_simp; done) | (go_simp; omega)) ?_ | with_reducible refine wp_cond_false (by first | (go_simp; done) | (go_simp; omega)) ?_ | with_reducible refine wp_exit ?_ | with_reducible refine wp_ret ?_ | with_reducible refine wp_block ?_ | with_reducible refine wp_label ?_ | with_reducible refine wp_skip ?_ | with_reducible refine wp_scope_straight ?_ | simp only [Exit.then, Exit.inBlock, Exit.noGoto, ↓reduceIte, Nat.reduceEqDiff] | simp only [undef, reduceCtorEq, ↓reduceIte]))
      refine (HSY.out _).mono ?_
      rintro e4 w4 ⟨rfl, hS⟩
      have hc2 := hS.dec.cell
      have hf2 := hS.dec.frozen
      have HS := Lib.hid hS
      clear hS
      go_simp
      (repeat (first | with_reducible refine wp_seq_k (fun K hK => ?_) | with_reducible refine wp_region_lit ?_ | with_reducible refine wpList_nil ?_ | ((with_reducible refine wpList_plain rfl (fun K hK => ?_)); go_simp) | ((with_reducible refine wpList_step (fun K hK => ?_)); go_simp) | (with_reducible ((first | refine hK _ _ ?_ | (clear hK K; refine hK _ _ ?_) | (clear hK K; clear hK K; refine hK _ _ ?_) | (clear hK K; clear hK K; clear hK K; refine hK _ _ ?_) | (clear hK K; clear hK K; clear hK K; clear hK K; refine hK _ _ ?_) | (clear hK K; clear hK K; clear hK K; clear hK K; clear hK K; refine hK _ _ ?_)); clear hK K)) | with_reducible refine wp_cond_true (by first | (go_simp; done) | (go_simp; omega)) ?_ | with_reducible refine wp_cond_false (by first | (go_simp; done) | (go_simp; omega)) ?_ | with_reducible refine wp_exit ?_ | with_reducible refine wp_ret ?_ | with_reducible refine wp_block ?_ | with_reducible refine wp_label ?_ | with_reducible refine wp_skip ?_ | with_reducible refine wp_scope_straight ?_ | simp only [Exit.then, Exit.inBlock, Exit.noGoto, ↓reduceIte, Nat.reduceEqDiff] | simp only [undef, reduceCtorEq, ↓reduceIte]))
      refine Q_keep [6] (fun f => ?_); simp only [keep_cons, keep_nil, lk_cons, lk_nil, Nat.reduceEqDiff, ↓reduceIte]
      exact HBAD.out (by rw [HCH2.out, if_pos ⟨by have : (rn : Int) = 65533 := by simpa using hb
                                                  omega, by have : (sz : Int) = 1 := by simpa using hb2
                                                            omega⟩]) f _ _ HS.out.err (HS3.out.trans HS.out.stp)
    all_goals
      have HCH3 : Hid (charsL d = if inRange rn then charsFrom k' (l.drop sz) else false) := by
        have := HCH2.out
        rw [if_neg (by intro h; simp_all)] at this
        exact this
      have hir := Lib.hid (inRange_c rn w3)
      go_simp
      (repeat (first | with_reducible refine wp_seq_k (fun K hK => ?_) | with_reducible refine wp_region_lit ?_ | with_reducible refine wpList_nil ?_ | ((with_reducible refine wpList_plain rfl (fun K hK => ?_)); go_simp) | ((with_reducible refine wpList_step (fun K hK => ?_)); go_simp) | (with_reducible ((first | refine hK _ _ ?_ | (clear hK K; refine hK _ _ ?_) | (clear hK K; clear hK K; refine hK _ _ ?_) | (clear hK K; clear hK K; clear hK K; refine hK _ _ ?_) | (clear hK K; clear hK K; clear hK K; clear hK K; refine hK _ _ ?_) | (clear hK K; clear hK K; clear hK K; clear hK K; clear hK K; refine hK _ _ ?_)); clear hK K)) | with_reducible refine wp_cond_true (by first | (go_simp; done) | (go_simp; omega)) ?_ | with_reducible refine wp_cond_false (by first | (go_simp; done) | (go_simp; omega)) ?_ | with_reducible refine wp_exit ?_ | with_reducible refine wp_ret ?_ | with_reducible refine wp_block ?_ | with_reducible refine wp_label ?_ | with_reducible refine wp_skip ?_ | with_reducible refine wp_scope_straight ?_ | simp only [Exit.then, Exit.inBlock, Exit.noGoto, ↓reduceIte, Nat.reduceEqDiff] | simp only [undef, reduceCtorEq, ↓reduceIte]))
      refine hir.out.mono ?_
      rintro e4 w4 ⟨rfl, rfl⟩
      by_cases hin : inRange rn = true
      · rw [hin]
        have HN := Lib.hid (show charsL d = charsFrom k' (l.drop sz) by rw [HCH3.out, if_pos hin])
        clear hin hir
        go_simp
        (repeat (first | with_reducible refine wp_seq_k (fun K hK => ?_) | with_reducible refine wp_region_lit ?_ | with_reducible refine wpList_nil ?_ | ((with_reducible refine wpList_plain rfl (fun K hK => ?_)); go_simp) | ((with_reducible refine wpList_step (fun K hK => ?_)); go_simp) | (with_reducible ((first | refine hK _ _ ?_ | (clear hK K; refine hK _ _ ?_) | (clear hK K; clear hK K; refine hK _ _ ?_) | (clear hK K; clear hK K; clear hK K; refine hK _ _ ?_) | (clear hK K; clear hK K; clear hK K; clear hK K; refine hK _ _ ?_) | (clear hK K; clear hK K; clear hK K; clear hK K; clear hK K; refine hK _ _ ?_)); clear hK K)) | with_reducible refine wp_cond_true (by first | (go_simp; done) | (go_simp; omega)) ?_ | with_reducible refine wp_cond_false (by first | (go_simp; done) | (go_simp; omega)) ?_ | with_reducible refine wp_exit ?_ | with_reducible refine wp_ret ?_ | with_reducible refine wp_block ?_ | with_reducible refine wp_label ?_ | with_reducible refine wp_skip ?_ | with_reducible refine wp_scope_straight ?_ | simp only [Exit.then, Exit.inBlock, Exit.noGoto, ↓reduceIte, Nat.reduceEqDiff] | simp only [undef, reduceCtorEq, ↓reduceIte]))
        (refine K_keep [0, 26, 27] (fun f => ?_); simp only [keep_cons, keep_nil, lk_cons, lk_nil, Nat.reduceEqDiff, ↓reduceIte])
        refine HK2.out _ _ ⟨(l.drop sz).length, by rw [HM.out, List.length_drop]; omega, HJ.out _ _ _ ?_⟩
        by_cases hcz : cp = sz
        · have hlz : l.drop sz = [] := List.drop_eq_nil_of_le (by omega)
          have hls : l.length - sz = 0 := by omega
          refine ⟨f, off, [], cp - sz, k', ?_, HBW3.out, fun j hj => absurd hj (by simp), Nat.zero_le _, by omega, Nat.zero_le _, ?_, by rw [hlz]⟩
          · rw [if_pos hcz, hls]; rfl
          · rw [HN.out, hlz]
        · refine ⟨f, off + sz, l.drop sz, cp - sz, k', ?_, HBW3.out, HBL3.out.drop sz, by rw [List.length_drop]; omega, by omega, by have := HK.out; rw [List.length_drop]; omega, HN.out, rfl⟩
          rw [if_neg hcz, List.length_drop]
      · have hin' : inRange rn = false := by simpa using hin
        rw [hin']
        have HN := Lib.hid (show charsL d = false by rw [HCH3.out, hin']; rfl)
        clear hin hin' hir
        go_simp
        (repeat (first | with_reducible refine wp_seq_k (fun K hK => ?_) | with_reducible refine wp_region_lit ?_ | with_reducible refine wpList_nil ?_ | ((with_reducible refine wpList_plain rfl (fun K hK => ?_)); go_simp) | ((with_reducible refine wpList_step (fun K hK => ?_)); go_simp) | (with_reducible ((first | refine hK _ _ ?_ | (clear hK K; refine hK _ _ ?_) | (clear hK K; clear hK K; refine hK _ _ ?_) | (clear hK K; clear hK K; clear hK K; refine hK _ _ ?_) | (clear hK K; clear hK K; clear hK K; clear hK K; refine hK _ _ ?_) | (clear hK K; clear hK K; clear hK K; clear hK K; clear hK K; refine hK _ _ ?_)); clear hK K)) | with_reducible refine wp_cond_true (by first | (go_simp; done) | (go_simp; omega)) ?_ | with_reducible refine wp_cond_false (by first | (go_simp; done) | (go_simp; omega)) ?_ | with_reducible refine wp_exit ?_ | with_reducible refine wp_ret ?_ | with_reducible refine wp_block ?_ | with_reducible refine wp_label ?_ | with_reducible refine wp_skip ?_ | with_reducible refine wp_scope_straight ?_ | simp only [Exit.then, Exit.inBlock, Exit.noGoto, ↓reduceIte, Nat.reduceEqDiff] | simp only [undef, reduceCtorEq, ↓reduceIte]))
        refine (HSY.out _).mono ?_
        rintro e4 w4 ⟨rfl, hS⟩
        have hc2 := hS.dec.cell
        have hf2 := hS.dec.frozen
        have HS := Lib.hid hS
        clear hS
        go_simp
        (repeat (first | with_reducible refine wp_seq_k (fun K hK => ?_) | with_reducible refine wp_region_lit ?_ | with_reducible refine wpList_nil ?_ | ((with_reducible refine wpList_plain rfl (fun K hK => ?_)); go_simp) | ((with_reducible refine wpList_step (fun K hK => ?_)); go_simp) | (with_reducible ((first | refine hK _ _ ?_ | (clear hK K; refine hK _ _ ?_) | (clear hK K; clear hK K; refine hK _ _ ?_) | (clear hK K; clear hK K; clear hK K; refine hK _ _ ?_) | (clear hK K; clear hK K; clear hK K; clear hK K; refine hK _ _ ?_) | (clear hK K; clear hK K; clear hK K; clear hK K; clear hK K; refine hK _ _ ?_)); clear hK K)) | with_reducible refine wp_cond_true (by first | (go_simp; done) | (go_simp; omega)) ?_ | with_reducible refine wp_cond_false (by first | (go_simp; done) | (go_simp; omega)) ?_ | with_reducible refine wp_exit ?_ | with_reducible refine wp_ret ?_ | with_reducible refine wp_block ?_ | with_reducible refine wp_label ?_ | with_reducible refine wp_skip ?_ | with_reducible refine wp_scope_straight ?_ | simp only [Exit.then, Exit.inBlock, Exit.noGoto, ↓reduceIte, Nat.reduceEqDiff] | simp only [undef, reduceCtorEq, ↓reduceIte]))
        refine Q_keep [6] (fun f => ?_); simp only [keep_cons, keep_nil, lk_cons, lk_nil, Nat.reduceEqDiff, ↓reduceIte]
        exact HBAD.out HN.out f _ _ HS.out.err (HS3.out.trans HS.out.stp)
end Go.Proofs.YtkjnockljapnbaaGreatDoor
