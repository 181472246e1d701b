/- Part of the proof that laws.FnLooseReferences returns true for every text (the claim of laws.FnLooseReferences: Ub). No condition of its own. -/
import Derived.Test.YtkjnockljapnbaaGreatDoorJUa
set_option linter.all false
/- text. -/
namespace Go.Proofs.YtkjnockljapnbaaGreatDoor
open Go Go.RowKit

/-- What text answers. -/
def TextPost (x : Cx) (c : DC) (q : Option UInt8) (cd : Bool) (w' : World) (v' : DV) (en : Ending) : Except EK (Bs × Bs) → Prop
  | .error k => en = .returned (.slice none 0 0) ∧ ErrS x c w' v' k
  | .ok (d, r) => ∃ g cap e b, en = .returned (.slice (some ⟨g, 0, none⟩) d.length cap) ∧ RdS x c w' v' r e b ∧ v'.bufv = .slice (some ⟨g, 0, none⟩) b.length cap ∧ d = b.take d.length ∧ d.length ≤ b.length ∧ (q = none → cd = false → r = [] → e = some (endE x.o.fails))
/-- No entities of one's own. -/
structure NoEnt (x : Cx) (c : DC) : Prop where
  ent : c.ent = .map none
  ents : x.o.ents = none
def TxInv (x : Cx) (c : DC) (w0 : World) (v0 : DV) (q : Option UInt8) (cd : Bool) (rest0 : Bs) (k : Nat) (a : Act) (w : World) : Prop :=
  ∃ f v rest e b0 b1 buf, a = fr 381 f [(0, decP x), (1, .int .i64 (qI q)), (2, .bool cd), (7, .int .u8 (UInt8.toNat b0)), (8, .int .u8 (UInt8.toNat b1)), (9, .int .i64 0)] ∧ RdS x c w v rest e buf ∧ Stp x w0 v0 w v ∧ k = rest.length ∧
    textL x.o q cd rest0 0 0 [] = textL x.o q cd rest b0 b1 buf ∧ (NonNil v ∨ (q = none ∧ b0 = 0 ∧ b1 = 0 ∧ rest = rest0)) ∧ buf.length + 8 * rest.length ≤ 8 * rest0.length ∧ Brk b0 b1 buf
set_option maxHeartbeats 8000000 in
set_option maxRecDepth 100000 in
theorem text_c (x : Cx) (hx : x.All) (c : DC) (hdc : DcOk x c) (hno : NoEnt x c) (q : Option UInt8) (cd : Bool) (w : World) (v : DV) (rest : Bs) (e : Option EK) (buf : Bs) (h : RdS x c w v rest e buf)
    (hq : q ≠ none → NonNil v) (hc : q = none → cd = false → ∃ b r, rest = b :: r ∧ b ≠ 60) :
    Calls Tryz.prog 37 #[decP x, .int .i64 (qI q), .bool cd] w fun en w' => ∃ v', Stp x w v w' v' ∧ TextPost x c q cd w' v' en (textL x.o q cd rest 0 0 []) := by
  have hrs := Lib.hid (reset_c x hx.toOk c w v rest e buf h)
  have HX := Lib.hid hx
  have HD := Lib.hid hdc
  have HNO := Lib.hid hno
  have HQ := Lib.hid hq
  have HC := Lib.hid hc
  have HRL := Lib.hid (show rest.length ≤ 1000000000 from Nat.le_trans (h.suf.length_le) hx.len)
  clear h hx hdc hno hq hc
  refine calls_fr (vs := [_, _, _]) 381 Tryz.func37 rfl rfl (Nat.le_of_ble_eq_true rfl) fun f => ?_
  simp only [argSlots]
  (repeat (first | with_reducible refine wp_seq_k (fun K hK => ?_) | with_reducible refine wp_region_lit ?_ | with_reducible refine wpList_nil ?_ | ((with_reducible refine wpList_plain rfl (fun K hK => ?_)); go_simp) | ((with_reducible refine wpList_step (fun K hK => ?_)); go_simp) | (with_reducible ((first | refine hK _ _ ?_ | (clear hK K; refine hK _ _ ?_) | (clear hK K; clear hK K; refine hK _ _ ?_) | (clear hK K; clear hK K; clear hK K; refine hK _ _ ?_) | (clear hK K; clear hK K; clear hK K; clear hK K; refine hK _ _ ?_) | (clear hK K; clear hK K; clear hK K; clear hK K; clear hK K; refine hK _ _ ?_)); clear hK K)) | with_reducible refine wp_cond_true (by first | (go_simp; done) | (go_simp; omega)) ?_ | with_reducible refine wp_cond_false (by first | (go_simp; done) | (go_simp; omega)) ?_ | with_reducible refine wp_exit ?_ | with_reducible refine wp_ret ?_ | with_reducible refine wp_block ?_ | with_reducible refine wp_label ?_ | with_reducible refine wp_skip ?_ | with_reducible refine wp_scope_straight ?_ | simp only [Exit.then, Exit.inBlock, Exit.noGoto, ↓reduceIte, Nat.reduceEqDiff] | simp only [undef, reduceCtorEq, ↓reduceIte]))
  refine hrs.out.mono ?_
  rintro e1 w1 ⟨rfl, v1, h1, hn1, hb1, hm1, hz1⟩
  have H1 := Lib.hid h1
  have HS1 := Lib.hid (Stp.ofS0 hm1 hb1)
  have HB1 := Lib.hid hb1
  clear h1 hn1 hb1 hm1 hz1 hrs
  go_simp
  (repeat (first | with_reducible refine wp_seq_k (fun K hK => ?_) | with_reducible refine wp_region_lit ?_ | with_reducible refine wpList_nil ?_ | ((with_reducible refine wpList_plain rfl (fun K hK => ?_)); go_simp) | ((with_reducible refine wpList_step (fun K hK => ?_)); go_simp) | (with_reducible ((first | refine hK _ _ ?_ | (clear hK K; refine hK _ _ ?_) | (clear hK K; clear hK K; refine hK _ _ ?_) | (clear hK K; clear hK K; clear hK K; refine hK _ _ ?_) | (clear hK K; clear hK K; clear hK K; clear hK K; refine hK _ _ ?_) | (clear hK K; clear hK K; clear hK K; clear hK K; clear hK K; refine hK _ _ ?_)); clear hK K)) | with_reducible refine wp_cond_true (by first | (go_simp; done) | (go_simp; omega)) ?_ | with_reducible refine wp_cond_false (by first | (go_simp; done) | (go_simp; omega)) ?_ | with_reducible refine wp_exit ?_ | with_reducible refine wp_ret ?_ | with_reducible refine wp_block ?_ | with_reducible refine wp_label ?_ | with_reducible refine wp_skip ?_ | with_reducible refine wp_scope_straight ?_ | simp only [Exit.then, Exit.inBlock, Exit.noGoto, ↓reduceIte, Nat.reduceEqDiff] | simp only [undef, reduceCtorEq, ↓reduceIte]))
  (refine wp_keep [0, 1, 2, 7, 8, 9] (fun f => ?_); simp only [keep_cons, keep_nil, lk_cons, lk_nil, Nat.reduceEqDiff, ↓reduceIte])
  have hz : Brk 0 0 [] := ⟨fun h => absurd h (by decide), fun h => absurd h.1 (by decide)⟩
  have hstart : NonNil v1 ∨ (q = none ∧ (0 : UInt8) = 0 ∧ (0 : UInt8) = 0 ∧ rest = rest) := by
    cases q with
    | none => exact Or.inr ⟨rfl, rfl, rfl, rfl⟩
    | some qb => exact Or.inl ((HQ.out (by simp)).of_iff HB1.out)
  refine wp_loop_ghost_k (TxInv x c w v q cd rest) rest.length ⟨f, v1, rest, e, 0, 0, [], rfl, H1.out, HS1.out, rfl, rfl, hstart, by simp, hz⟩ ?_
  rintro k _ w2 ⟨f, v2, r2, e2, b0, b1, b2, rfl, h2, hs2, hk2, ht2, hn2, hl2, hbr⟩ J K2 hJ hK2
  refine wp_block ?_
  have hlim : b2.length ≤ 8000000000000 := by have := HRL.out; omega
  have hround : RoundOut x c w2 v2 q cd (Exit.inBlock 1 (Exit.then K2 (Exit.inBlock 0 (Exit.then K (Exit.noGoto (bodyPost Tryz.prog Tryz.f37 fun en w' => ∃ v', Stp x w v w' v' ∧ TextPost x c q cd w' v' en (textL x.o q cd rest 0 0 []))))))) (txNext x.o q cd r2 b0 b1 b2) := by
    have htn : textL x.o q cd rest 0 0 [] = _ := ht2.trans (textL_next x.o q cd r2 b0 b1 b2)
    refine ⟨fun k he f w' v' hE hS => ?_, fun n r' e' b' he f w' v' hR hS hN => ?_, fun r' b0' b1' b' he e' hee f w' v' hR hS hN => ?_⟩
    · simp only [Exit.inBlock, Exit.then, Exit.noGoto]
      (refine fr_out1 rfl (by decide) (by simp only [lk_cons, lk_nil, Nat.reduceEqDiff, ↓reduceIte]; rfl) ?_)
      refine ⟨v', hs2.trans hS, ?_⟩
      rw [htn, he]
      exact ⟨rfl, hE⟩
    · show K _ _
      obtain ⟨hnb, hbb, hend, hst⟩ := txNext_stop he hbr
      have hNN : NonNil v' := by
        rcases hn2 with h | ⟨hq0, h0, h1, hrr⟩
        · exact hN h
        · obtain ⟨hcd, hr⟩ := hst ⟨h0, h1⟩ hq0
          obtain ⟨bb, rr, hb1, hb2⟩ := HC.out hq0 hcd
          rcases hr with hr | ⟨r4, hr⟩
          · rw [hrr, hb1] at hr; cases hr
          · rw [hrr, hb1] at hr; cases hr; exact absurd rfl hb2
      refine hK _ _ (wp_code (textFin x HX.out c w' v' r' e' b' n hR hNN hnb (by rw [hbb]; omega) _ ?_ ?_ f) (by kernel_rfl))
      · intro hch g cap hbv f w3 hR3 hS3
        simp only [Exit.inBlock, Exit.then, Exit.noGoto]
        (refine fr_out1 rfl (by decide) (by simp only [lk_cons, lk_nil, Nat.reduceEqDiff, ↓reduceIte]; rfl) ?_)
        refine ⟨v', (hs2.trans hS).trans hS3, ?_⟩
        rw [htn, he]
        show TextPost _ _ _ _ _ _ _ (txFin n r' b')
        unfold txFin
        rw [if_pos hch]
        have hlen : (b'.take (b'.length - n)).length = b'.length - n := by rw [List.length_take]; omega
        exact ⟨g, cap, e', b', by rw [hlen], hR3, hbv, by rw [hlen], by rw [hlen]; omega, hend⟩
      · intro hch f w3 v3 hE3 hS3
        simp only [Exit.inBlock, Exit.then, Exit.noGoto]
        (refine fr_out1 rfl (by decide) (by simp only [lk_cons, lk_nil, Nat.reduceEqDiff, ↓reduceIte]; rfl) ?_)
        refine ⟨v3, (hs2.trans hS).trans hS3, ?_⟩
        rw [htn, he]
        show TextPost _ _ _ _ _ _ _ (txFin n r' b')
        unfold txFin
        rw [hch]
        exact ⟨rfl, hE3⟩
    · obtain ⟨ho1, ho2, ho3⟩ := txNext_on HNO.out.ents he hbr
      have hgo : K2 (fr 381 f [(0, decP x), (1, .int .i64 (qI q)), (2, .bool cd), (7, .int .u8 b0'.toNat), (8, .int .u8 b1'.toNat), (9, .int .i64 0)]) w' :=
        hK2 _ _ ⟨r'.length, by rw [hk2]; exact ho1, hJ _ _ _ ⟨f, v', r', none, b0', b1', b', rfl, hR, hs2.trans hS, rfl, by rw [htn, he], Or.inl hN, by omega, ho3⟩⟩
      rcases hee with rfl | rfl
      · exact hgo
      · exact hgo
  cases r2 with
  | nil => exact wp_code (textRound_nil x HX.out c HD.out q cd w2 v2 e2 b2 b0 b1 h2 _ hround f) (by kernel_rfl)
  | cons b r3 => exact wp_code (textRound_cons x HX.out c HD.out HNO.out.ent HNO.out.ents q cd w2 v2 e2 b r3 b2 b0 b1 h2 (hn2.imp id (fun h => ⟨h.2.1, h.2.2.1⟩)) hlim _ hround f) (by kernel_rfl)
end Go.Proofs.YtkjnockljapnbaaGreatDoor
