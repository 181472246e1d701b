/- Part of the proof that laws.FnLooseReferences returns true for every text (the claim of laws.FnLooseReferences: Tv). No condition of its own. -/
import Derived.Test.YtkjnockljapnbaaGreatDoorJTu
set_option linter.all false
/- text: a reference, whole. -/
namespace Go.Proofs.YtkjnockljapnbaaGreatDoor
open Go Go.RowKit

theorem isName_nil (p : Option Addr) (cap : Nat) (w : World) : Calls Tryz.prog 62 #[.slice p 0 cap] w fun e w' => e = .returned (.bool false) ∧ w' = w := by
  go_enter Tryz.func62, Tryz.ntmps62
  go_wp2
  go_ret
  exact ⟨rfl, rfl⟩
theorem ErrV.iface {x : Cx} {v : Value} {k : EK} (h : ErrV x v (some k)) : ∃ t u, v = .iface t u := by
  cases k with
  | eof => exact ⟨_, _, h⟩
  | own => exact ⟨_, _, h⟩
  | syn => obtain ⟨a, h⟩ := h; exact ⟨_, _, h⟩
  | other => obtain ⟨a, h, _⟩ := h; exact ⟨_, _, h⟩
set_option maxHeartbeats 4000000 in
set_option maxRecDepth 100000 in
theorem numHead (x : Cx) (hx : x.All) (c : DC) (hdc : DcOk x c) (w : World) (v : DV) (r buf0 : Bs) (h : RdS x c w v r none (buf0 ++ [38])) (hsuf : (35 :: r) <:+ x.T) (hl : buf0.length ≤ 20000000000000)
    (qv cv : Value) (Q : Exit → Act → World → Prop) (ents : Option (Bs → Option Bs)) (hQ : RefOut x c w v qv cv buf0 Q (refL x.o.fails ents (35 :: r))) (f : Nat → Value) :
    (txCode 31).wp Tryz.prog Q (fr 381 f [(0, decP x), (1, qv), (2, cv), (9, .int .i64 0), (10, .int .u8 35), (12, .int .i64 buf0.length), (14, strV []), (15, .bool false)]) w := by
  have hwb := Lib.hid (writeByte_c x hx.toOk c w v r none _ h 35 (by simp; omega))
  have HX := Lib.hid hx
  have HD := Lib.hid hdc
  have HQ := Lib.hid hQ
  have HSUF := Lib.hid hsuf
  have HL := Lib.hid hl
  clear hQ h hsuf hx hdc
  unfold txCode
  conv => arg 2; whnf
  (repeat (first | with_reducible refine wp_seq_k (fun K hK => ?_) | with_reducible refine wp_region_lit ?_ | with_reducible refine wpList_nil ?_ | ((with_reducible refine wpList_plain rfl (fun K hK => ?_)); go_simp) | ((with_reducible refine wpList_step (fun K hK => ?_)); go_simp) | (with_reducible ((first | refine hK _ _ ?_ | (clear hK K; refine hK _ _ ?_) | (clear hK K; clear hK K; refine hK _ _ ?_) | (clear hK K; clear hK K; clear hK K; refine hK _ _ ?_) | (clear hK K; clear hK K; clear hK K; clear hK K; refine hK _ _ ?_) | (clear hK K; clear hK K; clear hK K; clear hK K; clear hK K; refine hK _ _ ?_)); clear hK K)) | with_reducible refine wp_cond_true (by first | (go_simp; done) | (go_simp; omega)) ?_ | with_reducible refine wp_cond_false (by first | (go_simp; done) | (go_simp; omega)) ?_ | with_reducible refine wp_exit ?_ | with_reducible refine wp_ret ?_ | with_reducible refine wp_block ?_ | with_reducible refine wp_label ?_ | with_reducible refine wp_skip ?_ | with_reducible refine wp_scope_straight ?_ | simp only [Exit.then, Exit.inBlock, Exit.noGoto, ↓reduceIte, Nat.reduceEqDiff] | simp only [undef, reduceCtorEq, ↓reduceIte]))
  refine hwb.out.mono ?_
  rintro e1 w1 ⟨rfl, v1, h1, _, hs1⟩
  have H1 := Lib.hid h1
  have HS1 := Lib.hid hs1
  clear h1 hs1 hwb
  go_simp
  (repeat (first | with_reducible refine wp_seq_k (fun K hK => ?_) | with_reducible refine wp_region_lit ?_ | with_reducible refine wpList_nil ?_ | ((with_reducible refine wpList_plain rfl (fun K hK => ?_)); go_simp) | ((with_reducible refine wpList_step (fun K hK => ?_)); go_simp) | (with_reducible ((first | refine hK _ _ ?_ | (clear hK K; refine hK _ _ ?_) | (clear hK K; clear hK K; refine hK _ _ ?_) | (clear hK K; clear hK K; clear hK K; refine hK _ _ ?_) | (clear hK K; clear hK K; clear hK K; clear hK K; refine hK _ _ ?_) | (clear hK K; clear hK K; clear hK K; clear hK K; clear hK K; refine hK _ _ ?_)); clear hK K)) | with_reducible refine wp_cond_true (by first | (go_simp; done) | (go_simp; omega)) ?_ | with_reducible refine wp_cond_false (by first | (go_simp; done) | (go_simp; omega)) ?_ | with_reducible refine wp_exit ?_ | with_reducible refine wp_ret ?_ | with_reducible refine wp_block ?_ | with_reducible refine wp_label ?_ | with_reducible refine wp_skip ?_ | with_reducible refine wp_scope_straight ?_ | simp only [Exit.then, Exit.inBlock, Exit.noGoto, ↓reduceIte, Nat.reduceEqDiff] | simp only [undef, reduceCtorEq, ↓reduceIte]))
  cases r with
  | nil =>
    have hmg := Lib.hid (mustgetc_none x HX.out.toOk c HD.out w1 v1 none _ H1.out)
    refine hmg.out.mono ?_
    rintro e3 w3 ⟨rfl, v6, h6, hb6, hm6⟩
    have HS6 := Lib.hid (HS1.out.s0 hm6 hb6)
    have H6 := Lib.hid h6
    clear h6 hb6 hm6 hmg
    go_simp
    (repeat (first | with_reducible refine wp_seq_k (fun K hK => ?_) | with_reducible refine wp_region_lit ?_ | with_reducible refine wpList_nil ?_ | ((with_reducible refine wpList_plain rfl (fun K hK => ?_)); go_simp) | ((with_reducible refine wpList_step (fun K hK => ?_)); go_simp) | (with_reducible ((first | refine hK _ _ ?_ | (clear hK K; refine hK _ _ ?_) | (clear hK K; clear hK K; refine hK _ _ ?_) | (clear hK K; clear hK K; clear hK K; refine hK _ _ ?_) | (clear hK K; clear hK K; clear hK K; clear hK K; refine hK _ _ ?_) | (clear hK K; clear hK K; clear hK K; clear hK K; clear hK K; refine hK _ _ ?_)); clear hK K)) | with_reducible refine wp_cond_true (by first | (go_simp; done) | (go_simp; omega)) ?_ | with_reducible refine wp_cond_false (by first | (go_simp; done) | (go_simp; omega)) ?_ | with_reducible refine wp_exit ?_ | with_reducible refine wp_ret ?_ | with_reducible refine wp_block ?_ | with_reducible refine wp_label ?_ | with_reducible refine wp_skip ?_ | with_reducible refine wp_scope_straight ?_ | simp only [Exit.then, Exit.inBlock, Exit.noGoto, ↓reduceIte, Nat.reduceEqDiff] | simp only [undef, reduceCtorEq, ↓reduceIte]))
    refine Q_keep [6] (fun f => ?_); simp only [keep_cons, keep_nil, lk_cons, lk_nil, Nat.reduceEqDiff, ↓reduceIte]
    exact HQ.out.bad _ rfl f w3 v6 H6.out HS6.out
  | cons d r2 =>
    have hmg := Lib.hid (mustgetc_some x HX.out.toOk c HD.out w1 v1 d r2 none _ H1.out)
    refine hmg.out.mono ?_
    rintro e3 w3 ⟨rfl, v6, h6, hn6, hb6, hm6, _⟩
    have HS6 := Lib.hid (HS1.out.s0 hm6 hb6)
    have H6 := Lib.hid h6
    have HN6 := Lib.hid hn6
    clear h6 hb6 hm6 hmg hn6
    by_cases hd : d = 120
    · subst hd
      have hwb2 := Lib.hid (writeByte_c x HX.out.toOk c w3 v6 r2 none _ H6.out 120 (by have := HL.out; simp; omega))
      go_simp
      (repeat (first | with_reducible refine wp_seq_k (fun K hK => ?_) | with_reducible refine wp_region_lit ?_ | with_reducible refine wpList_nil ?_ | ((with_reducible refine wpList_plain rfl (fun K hK => ?_)); go_simp) | ((with_reducible refine wpList_step (fun K hK => ?_)); go_simp) | (with_reducible ((first | refine hK _ _ ?_ | (clear hK K; refine hK _ _ ?_) | (clear hK K; clear hK K; refine hK _ _ ?_) | (clear hK K; clear hK K; clear hK K; refine hK _ _ ?_) | (clear hK K; clear hK K; clear hK K; clear hK K; refine hK _ _ ?_) | (clear hK K; clear hK K; clear hK K; clear hK K; clear hK K; refine hK _ _ ?_)); clear hK K)) | with_reducible refine wp_cond_true (by first | (go_simp; done) | (go_simp; omega)) ?_ | with_reducible refine wp_cond_false (by first | (go_simp; done) | (go_simp; omega)) ?_ | with_reducible refine wp_exit ?_ | with_reducible refine wp_ret ?_ | with_reducible refine wp_block ?_ | with_reducible refine wp_label ?_ | with_reducible refine wp_skip ?_ | with_reducible refine wp_scope_straight ?_ | simp only [Exit.then, Exit.inBlock, Exit.noGoto, ↓reduceIte, Nat.reduceEqDiff] | simp only [undef, reduceCtorEq, ↓reduceIte]))
      refine hwb2.out.mono ?_
      rintro e4 w4 ⟨rfl, v7, h7, _, hs7⟩
      have H7 := Lib.hid h7
      have HS7 := Lib.hid (HS6.out.trans hs7)
      clear h7 hs7 hwb2
      go_simp
      (repeat (first | with_reducible refine wp_seq_k (fun K hK => ?_) | with_reducible refine wp_region_lit ?_ | with_reducible refine wpList_nil ?_ | ((with_reducible refine wpList_plain rfl (fun K hK => ?_)); go_simp) | ((with_reducible refine wpList_step (fun K hK => ?_)); go_simp) | (with_reducible ((first | refine hK _ _ ?_ | (clear hK K; refine hK _ _ ?_) | (clear hK K; clear hK K; refine hK _ _ ?_) | (clear hK K; clear hK K; clear hK K; refine hK _ _ ?_) | (clear hK K; clear hK K; clear hK K; clear hK K; refine hK _ _ ?_) | (clear hK K; clear hK K; clear hK K; clear hK K; clear hK K; refine hK _ _ ?_)); clear hK K)) | with_reducible refine wp_cond_true (by first | (go_simp; done) | (go_simp; omega)) ?_ | with_reducible refine wp_cond_false (by first | (go_simp; done) | (go_simp; omega)) ?_ | with_reducible refine wp_exit ?_ | with_reducible refine wp_ret ?_ | with_reducible refine wp_block ?_ | with_reducible refine wp_label ?_ | with_reducible refine wp_skip ?_ | with_reducible refine wp_scope_straight ?_ | simp only [Exit.then, Exit.inBlock, Exit.noGoto, ↓reduceIte, Nat.reduceEqDiff] | simp only [undef, reduceCtorEq, ↓reduceIte]))
      cases r2 with
      | nil =>
        have hmg := Lib.hid (mustgetc_none x HX.out.toOk c HD.out w4 v7 none _ H7.out)
        refine hmg.out.mono ?_
        rintro e5 w5 ⟨rfl, v8, h8, hb8, hm8⟩
        have HS8 := Lib.hid (HS7.out.s0 hm8 hb8)
        have H8 := Lib.hid h8
        clear h8 hb8 hm8 hmg
        go_simp
        (repeat (first | with_reducible refine wp_seq_k (fun K hK => ?_) | with_reducible refine wp_region_lit ?_ | with_reducible refine wpList_nil ?_ | ((with_reducible refine wpList_plain rfl (fun K hK => ?_)); go_simp) | ((with_reducible refine wpList_step (fun K hK => ?_)); go_simp) | (with_reducible ((first | refine hK _ _ ?_ | (clear hK K; refine hK _ _ ?_) | (clear hK K; clear hK K; refine hK _ _ ?_) | (clear hK K; clear hK K; clear hK K; refine hK _ _ ?_) | (clear hK K; clear hK K; clear hK K; clear hK K; refine hK _ _ ?_) | (clear hK K; clear hK K; clear hK K; clear hK K; clear hK K; refine hK _ _ ?_)); clear hK K)) | with_reducible refine wp_cond_true (by first | (go_simp; done) | (go_simp; omega)) ?_ | with_reducible refine wp_cond_false (by first | (go_simp; done) | (go_simp; omega)) ?_ | with_reducible refine wp_exit ?_ | with_reducible refine wp_ret ?_ | with_reducible refine wp_block ?_ | with_reducible refine wp_label ?_ | with_reducible refine wp_skip ?_ | with_reducible refine wp_scope_straight ?_ | simp only [Exit.then, Exit.inBlock, Exit.noGoto, ↓reduceIte, Nat.reduceEqDiff] | simp only [undef, reduceCtorEq, ↓reduceIte]))
        refine Q_keep [6] (fun f => ?_); simp only [keep_cons, keep_nil, lk_cons, lk_nil, Nat.reduceEqDiff, ↓reduceIte]
        exact HQ.out.bad _ rfl f w5 v8 H8.out HS8.out
      | cons e3 r3 =>
        have hmg := Lib.hid (mustgetc_some x HX.out.toOk c HD.out w4 v7 e3 r3 none _ H7.out)
        refine hmg.out.mono ?_
        rintro e5 w5 ⟨rfl, v8, h8, hn8, hb8, hm8, _⟩
        have HS8 := Lib.hid (HS7.out.s0 hm8 hb8)
        have H8 := Lib.hid h8
        have HN8 := Lib.hid hn8
        clear h8 hb8 hm8 hmg hn8
        have HR := Lib.hid (show refL x.o.fails ents (35 :: 120 :: e3 :: r3) = numRef x.o.fails true [38, 35, 120] (e3 :: r3) by simp [refL])
        go_simp
        (repeat ((fail_if_success with_reducible refine wp_stop 42 ?_); (fail_if_success with_reducible refine wp_stop2 42 ?_); (first | with_reducible refine wp_seq_k (fun K hK => ?_) | with_reducible refine wp_region_lit ?_ | with_reducible refine wpList_nil ?_ | ((with_reducible refine wpList_plain rfl (fun K hK => ?_)); go_simp) | ((with_reducible refine wpList_step (fun K hK => ?_)); go_simp) | (with_reducible ((first | refine hK _ _ ?_ | (clear hK K; refine hK _ _ ?_) | (clear hK K; clear hK K; refine hK _ _ ?_) | (clear hK K; clear hK K; clear hK K; refine hK _ _ ?_) | (clear hK K; clear hK K; clear hK K; clear hK K; refine hK _ _ ?_) | (clear hK K; clear hK K; clear hK K; clear hK K; clear hK K; refine hK _ _ ?_)); clear hK K)) | with_reducible refine wp_cond_true (by first | (go_simp; done) | (go_simp; omega)) ?_ | with_reducible refine wp_cond_false (by first | (go_simp; done) | (go_simp; omega)) ?_ | with_reducible refine wp_exit ?_ | with_reducible refine wp_ret ?_ | with_reducible refine wp_block ?_ | with_reducible refine wp_label ?_ | with_reducible refine wp_skip ?_ | with_reducible refine wp_scope_straight ?_ | simp only [Exit.then, Exit.inBlock, Exit.noGoto, ↓reduceIte, Nat.reduceEqDiff] | simp only [undef, reduceCtorEq, ↓reduceIte])))
        (refine wp_keep [0, 1, 2, 9, 10, 12, 14, 15, 16] (fun f => ?_); simp only [keep_cons, keep_nil, lk_cons, lk_nil, Nat.reduceEqDiff, ↓reduceIte])
        refine wp_code (numTail x HX.out c HD.out true [38, 35, 120] (by simp) (by simp) w5 v8 e3 r3 buf0 (by have h9 := H8.out; rw [List.append_assoc, List.append_assoc] at h9; exact h9) HN8.out ((List.suffix_cons _ _).trans ((List.suffix_cons _ _).trans HSUF.out)) HL.out qv cv Q ⟨?_, ?_⟩ f) (by kernel_rfl)
        · intro raw t r hres f w' v' hr hs hnn
          exact HQ.out.ok raw t r (HR.out.trans hres) f w' v' hr (HS8.out.trans hs) hnn
        · intro k hres f w' v' hr hs
          exact HQ.out.bad k (HR.out.trans hres) f w' v' hr (HS8.out.trans hs)
    · have hd1 := u8ne hd (n := 120) rfl
      have HR := Lib.hid (show refL x.o.fails ents (35 :: d :: r2) = numRef x.o.fails false [38, 35] (d :: r2) by simp [refL, hd])
      clear hd
      go_simp
      (repeat ((fail_if_success with_reducible refine wp_stop 42 ?_); (fail_if_success with_reducible refine wp_stop2 42 ?_); (first | with_reducible refine wp_seq_k (fun K hK => ?_) | with_reducible refine wp_region_lit ?_ | with_reducible refine wpList_nil ?_ | ((with_reducible refine wpList_plain rfl (fun K hK => ?_)); go_simp) | ((with_reducible refine wpList_step (fun K hK => ?_)); go_simp) | (with_reducible ((first | refine hK _ _ ?_ | (clear hK K; refine hK _ _ ?_) | (clear hK K; clear hK K; refine hK _ _ ?_) | (clear hK K; clear hK K; clear hK K; refine hK _ _ ?_) | (clear hK K; clear hK K; clear hK K; clear hK K; refine hK _ _ ?_) | (clear hK K; clear hK K; clear hK K; clear hK K; clear hK K; refine hK _ _ ?_)); clear hK K)) | with_reducible refine wp_cond_true (by first | (go_simp; done) | (go_simp; omega)) ?_ | with_reducible refine wp_cond_false (by first | (go_simp; done) | (go_simp; omega)) ?_ | with_reducible refine wp_exit ?_ | with_reducible refine wp_ret ?_ | with_reducible refine wp_block ?_ | with_reducible refine wp_label ?_ | with_reducible refine wp_skip ?_ | with_reducible refine wp_scope_straight ?_ | simp only [Exit.then, Exit.inBlock, Exit.noGoto, ↓reduceIte, Nat.reduceEqDiff] | simp only [undef, reduceCtorEq, ↓reduceIte])))
      (refine wp_keep [0, 1, 2, 9, 10, 12, 14, 15, 16] (fun f => ?_); simp only [keep_cons, keep_nil, lk_cons, lk_nil, Nat.reduceEqDiff, ↓reduceIte])
      refine wp_code (numTail x HX.out c HD.out false [38, 35] (by simp) (by simp) w3 v6 d r2 buf0 (by have h9 := H6.out; rw [List.append_assoc] at h9; exact h9) HN6.out ((List.suffix_cons _ _).trans HSUF.out) HL.out qv cv Q ⟨?_, ?_⟩ f) (by kernel_rfl)
      · intro raw t r hres f w' v' hr hs hnn
        exact HQ.out.ok raw t r (HR.out.trans hres) f w' v' hr (HS6.out.trans hs) hnn
      · intro k hres f w' v' hr hs
        exact HQ.out.bad k (HR.out.trans hres) f w' v' hr (HS6.out.trans hs)
end Go.Proofs.YtkjnockljapnbaaGreatDoor
