/- Part of the proof that laws.FnLooseReferences returns true for every text (the claim of laws.FnLooseReferences: Tx). No condition of its own. -/
import Derived.Test.YtkjnockljapnbaaGreatDoorJTw
import Derived.Test.YtkjnockljapnbaaGreatDoorJTp
import Derived.Laws.Cover4
set_option linter.all false
/- text: a reference and what becomes of it. -/
namespace Go.Proofs.YtkjnockljapnbaaGreatDoor
open Go Go.RowKit

def refStep (o : Opt) (r buf : Bs) : Except EK (Bs × Bs) :=
  match refL o.fails o.ents r with
  | .error e => .error e
  | .ok (_, some t, r') => .ok (r', buf ++ t)
  | .ok (raw, none, r') => if o.strict then .error .syn else .ok (r', buf ++ raw)
theorem textL_step (o : Opt) (q : Option UInt8) (r : Bs) (b0 b1 : UInt8) (buf : Bs) (h : q ≠ some 38) :
    textL o q false (38 :: r) b0 b1 buf = match refStep o r buf with | .error e => .error e | .ok (r', buf') => textL o q false r' 0 0 buf' := by
  rw [textL_ref o q r b0 b1 buf h]
  unfold refStep
  generalize refL o.fails o.ents r = R
  rcases R with e | ⟨raw, t, r'⟩
  · rfl
  · cases t with
    | none => by_cases hs : o.strict = true <;> simp [hs]
    | some t => rfl
theorem runeBs_len (n : Nat) : (runeBs n).length ≤ 4 := by
  rw [runeBs, Array.length_toList, ByteArray.size_data]
  exact encode_size_le _
theorem numRef_t {fails hex : Bool} {pre rest raw t r : Bs} (h : numRef fails hex pre rest = .ok (raw, some t, r)) : t.length ≤ 4 := by
  unfold numRef at h
  split at h
  · cases h
  · split at h
    · simp only [Except.ok.injEq, Prod.mk.injEq] at h
      obtain ⟨_, h, _⟩ := h
      split at h
      · cases h
      · simp only [Option.some.injEq] at h
        rw [← h]
        exact runeBs_len _
    · simp at h
theorem numRef_raw {fails hex : Bool} {pre rest raw r : Bs} {t : Option Bs} (hp : 1 ≤ pre.length) (h : numRef fails hex pre rest = .ok (raw, t, r)) : 1 ≤ raw.length := by
  unfold numRef at h
  split at h
  · cases h
  · split at h <;> (simp only [Except.ok.injEq, Prod.mk.injEq] at h; obtain ⟨h, _⟩ := h; subst h; simp; omega)
theorem stdEnt_len {s t : Bs} (h : stdEnt s = some t) : t.length ≤ 4 := by
  unfold stdEnt at h
  repeat' split at h
  all_goals first | (cases h; simp) | cases h
theorem refL_t {fails : Bool} {rest raw t r : Bs} (h : refL fails none rest = .ok (raw, some t, r)) : t.length ≤ 4 := by
  unfold refL at h
  split at h
  · cases h
  · split at h
    · split at h
      · cases h
      · split at h
        · split at h
          · cases h
          · exact numRef_t h
        · exact numRef_t h
    · split at h
      · cases h
      · split at h
        · simp only [Except.ok.injEq, Prod.mk.injEq] at h
          obtain ⟨_, h, _⟩ := h
          split at h
          · unfold entL at h
            split at h
            · rename_i hs
              simp only [Option.some.injEq] at h
              subst h
              exact stdEnt_len hs
            · cases h
          · cases h
        · simp at h
theorem refL_raw {fails : Bool} {ents : Option (Bs → Option Bs)} {rest raw r : Bs} {t : Option Bs} (h : refL fails ents rest = .ok (raw, t, r)) : 1 ≤ raw.length := by
  unfold refL at h
  split at h
  · cases h
  · split at h
    · split at h
      · cases h
      · split at h
        · split at h
          · cases h
          · exact numRef_raw (by simp) h
        · exact numRef_raw (by simp) h
    · split at h
      · cases h
      · split at h <;> (simp only [Except.ok.injEq, Prod.mk.injEq] at h; obtain ⟨h, _⟩ := h; subst h; simp)
/-- A name in a reference is no longer than what it is read from. -/
theorem numRef_rawlen {fails hex : Bool} {pre rest raw r : Bs} {t : Option Bs} (h : numRef fails hex pre rest = .ok (raw, t, r)) : raw.length + r.length ≤ pre.length + rest.length := by
  have hs : (spanDig hex rest).1.length + (spanDig hex rest).2.length = rest.length := by
    generalize rest = l
    induction l with
    | nil => rfl
    | cons b r ih => unfold spanDig; split <;> simp <;> omega
  unfold numRef at h
  split at h
  · cases h
  · rename_i b after hb
    rw [hb] at hs
    split at h <;> (simp only [Except.ok.injEq, Prod.mk.injEq] at h; obtain ⟨h, _, h2⟩ := h; subst h; subst h2; simp at hs ⊢; omega)
theorem refL_rawlen {fails : Bool} {ents : Option (Bs → Option Bs)} {rest raw r : Bs} {t : Option Bs} (h : refL fails ents rest = .ok (raw, t, r)) : raw.length + r.length ≤ 1 + rest.length := by
  unfold refL at h
  split at h
  · cases h
  · rename_i c r0
    split at h
    · split at h
      · cases h
      · split at h
        · split at h
          · cases h
          · have := numRef_rawlen h; simp at this ⊢; omega
        · have := numRef_rawlen h; simp at this ⊢; omega
    · have hs := spanName_sum (c :: r0)
      split at h
      · cases h
      · rename_i b after hb
        rw [hb] at hs
        split at h <;> (simp only [Except.ok.injEq, Prod.mk.injEq] at h; obtain ⟨h, _, h2⟩ := h; subst h; subst h2; simp at hs ⊢; omega)
/-- Where a reference ends. -/
structure RefFin (x : Cx) (c : DC) (w : World) (v : DV) (qv cv : Value) (Q : Exit → Act → World → Prop) (res : Except EK (Bs × Bs)) : Prop where
  ok : ∀ r' buf', res = .ok (r', buf') → ∀ f w' v', RdS x c w' v' r' none buf' → Stp x w v w' v' → NonNil v' → Q (.exit 1) (fr 381 f [(0, decP x), (1, qv), (2, cv), (7, .int .u8 0), (8, .int .u8 0), (9, .int .i64 0)]) w'
  bad : ∀ k, res = .error k → ∀ f w' v', ErrS x c w' v' k → Stp x w v w' v' → Q .ret (fr 381 f [(6, .slice none 0 0)]) w'
set_option maxHeartbeats 4000000 in
set_option maxRecDepth 100000 in
theorem textRef (x : Cx) (hx : x.All) (c : DC) (hdc : DcOk x c) (hent : c.ent = .map none) (hents : x.o.ents = none) (w : World) (v : DV) (r buf : Bs) (h : RdS x c w v r none buf) (hsuf : (38 :: r) <:+ x.T) (hl : buf.length ≤ 9000000000000)
    (qv cv : Value) (Q : Exit → Act → World → Prop) (hQ : RefFin x c w v qv cv Q (refStep x.o r buf)) (f : Nat → Value) :
    (txCode 22).wp Tryz.prog Q (fr 381 f [(0, decP x), (1, qv), (2, cv), (9, .int .i64 0)]) w := by
  have hlen := Lib.hid (len_c x c w v r none _ h)
  have hwb := Lib.hid (fun (k : Nat) => writeByte_c x hx.toOk c (w.drewN k) v r none _ (h.drewN hx.toOk k) 38 (by omega))
  have HX := Lib.hid hx
  have HD := Lib.hid hdc
  have HQ := Lib.hid hQ
  have HENT := Lib.hid hent
  have HENTS := Lib.hid hents
  have HSUF := Lib.hid hsuf
  have HL := Lib.hid hl
  have HRL := Lib.hid (show r.length ≤ 1000000000 by have h1 := hsuf.length_le; have h2 := hx.len; simp at h1; omega)
  clear hQ h hsuf hx hdc hent hents hl
  unfold txCode
  conv => arg 2; whnf
  (repeat (first | with_reducible refine wp_seq_k (fun K hK => ?_) | with_reducible refine wp_region_lit ?_ | with_reducible refine wpList_nil ?_ | ((with_reducible refine wpList_plain rfl (fun K hK => ?_)); go_simp) | ((with_reducible refine wpList_step (fun K hK => ?_)); go_simp) | (with_reducible ((first | refine hK _ _ ?_ | (clear hK K; refine hK _ _ ?_) | (clear hK K; clear hK K; refine hK _ _ ?_) | (clear hK K; clear hK K; clear hK K; refine hK _ _ ?_) | (clear hK K; clear hK K; clear hK K; clear hK K; refine hK _ _ ?_) | (clear hK K; clear hK K; clear hK K; clear hK K; clear hK K; refine hK _ _ ?_)); clear hK K)) | with_reducible refine wp_cond_true (by first | (go_simp; done) | (go_simp; omega)) ?_ | with_reducible refine wp_cond_false (by first | (go_simp; done) | (go_simp; omega)) ?_ | with_reducible refine wp_exit ?_ | with_reducible refine wp_ret ?_ | with_reducible refine wp_block ?_ | with_reducible refine wp_label ?_ | with_reducible refine wp_skip ?_ | with_reducible refine wp_scope_straight ?_ | simp only [Exit.then, Exit.inBlock, Exit.noGoto, ↓reduceIte, Nat.reduceEqDiff] | simp only [undef, reduceCtorEq, ↓reduceIte]))
  refine hlen.out.mono ?_
  rintro e0 w0 ⟨rfl, k0, rfl⟩
  go_simp
  (repeat (first | with_reducible refine wp_seq_k (fun K hK => ?_) | with_reducible refine wp_region_lit ?_ | with_reducible refine wpList_nil ?_ | ((with_reducible refine wpList_plain rfl (fun K hK => ?_)); go_simp) | ((with_reducible refine wpList_step (fun K hK => ?_)); go_simp) | (with_reducible ((first | refine hK _ _ ?_ | (clear hK K; refine hK _ _ ?_) | (clear hK K; clear hK K; refine hK _ _ ?_) | (clear hK K; clear hK K; clear hK K; refine hK _ _ ?_) | (clear hK K; clear hK K; clear hK K; clear hK K; refine hK _ _ ?_) | (clear hK K; clear hK K; clear hK K; clear hK K; clear hK K; refine hK _ _ ?_)); clear hK K)) | with_reducible refine wp_cond_true (by first | (go_simp; done) | (go_simp; omega)) ?_ | with_reducible refine wp_cond_false (by first | (go_simp; done) | (go_simp; omega)) ?_ | with_reducible refine wp_exit ?_ | with_reducible refine wp_ret ?_ | with_reducible refine wp_block ?_ | with_reducible refine wp_label ?_ | with_reducible refine wp_skip ?_ | with_reducible refine wp_scope_straight ?_ | simp only [Exit.then, Exit.inBlock, Exit.noGoto, ↓reduceIte, Nat.reduceEqDiff] | simp only [undef, reduceCtorEq, ↓reduceIte]))
  refine (hwb.out k0).mono ?_
  rintro e1 w1 ⟨rfl, v1, h1, _, hs1⟩
  have H1 := Lib.hid h1
  have HS1 := Lib.hid ((Stp.drewN k0).trans hs1)
  clear h1 hs1 hwb
  go_simp
  (repeat (first | with_reducible refine wp_seq_k (fun K hK => ?_) | with_reducible refine wp_region_lit ?_ | with_reducible refine wpList_nil ?_ | ((with_reducible refine wpList_plain rfl (fun K hK => ?_)); go_simp) | ((with_reducible refine wpList_step (fun K hK => ?_)); go_simp) | (with_reducible ((first | refine hK _ _ ?_ | (clear hK K; refine hK _ _ ?_) | (clear hK K; clear hK K; refine hK _ _ ?_) | (clear hK K; clear hK K; clear hK K; refine hK _ _ ?_) | (clear hK K; clear hK K; clear hK K; clear hK K; refine hK _ _ ?_) | (clear hK K; clear hK K; clear hK K; clear hK K; clear hK K; refine hK _ _ ?_)); clear hK K)) | with_reducible refine wp_cond_true (by first | (go_simp; done) | (go_simp; omega)) ?_ | with_reducible refine wp_cond_false (by first | (go_simp; done) | (go_simp; omega)) ?_ | with_reducible refine wp_exit ?_ | with_reducible refine wp_ret ?_ | with_reducible refine wp_block ?_ | with_reducible refine wp_label ?_ | with_reducible refine wp_skip ?_ | with_reducible refine wp_scope_straight ?_ | simp only [Exit.then, Exit.inBlock, Exit.noGoto, ↓reduceIte, Nat.reduceEqDiff] | simp only [undef, reduceCtorEq, ↓reduceIte]))
  cases r with
  | nil =>
    have hmg := Lib.hid (mustgetc_none x HX.out.toOk c HD.out w1 v1 none _ H1.out)
    refine hmg.out.mono ?_
    rintro e3 w3 ⟨rfl, v6, h6, hb6, hm6⟩
    have HS6 := Lib.hid (HS1.out.s0 hm6 hb6)
    have H6 := Lib.hid h6
    clear h6 hb6 hm6 hmg
    go_simp
    (repeat (first | with_reducible refine wp_seq_k (fun K hK => ?_) | with_reducible refine wp_region_lit ?_ | with_reducible refine wpList_nil ?_ | ((with_reducible refine wpList_plain rfl (fun K hK => ?_)); go_simp) | ((with_reducible refine wpList_step (fun K hK => ?_)); go_simp) | (with_reducible ((first | refine hK _ _ ?_ | (clear hK K; refine hK _ _ ?_) | (clear hK K; clear hK K; refine hK _ _ ?_) | (clear hK K; clear hK K; clear hK K; refine hK _ _ ?_) | (clear hK K; clear hK K; clear hK K; clear hK K; refine hK _ _ ?_) | (clear hK K; clear hK K; clear hK K; clear hK K; clear hK K; refine hK _ _ ?_)); clear hK K)) | with_reducible refine wp_cond_true (by first | (go_simp; done) | (go_simp; omega)) ?_ | with_reducible refine wp_cond_false (by first | (go_simp; done) | (go_simp; omega)) ?_ | with_reducible refine wp_exit ?_ | with_reducible refine wp_ret ?_ | with_reducible refine wp_block ?_ | with_reducible refine wp_label ?_ | with_reducible refine wp_skip ?_ | with_reducible refine wp_scope_straight ?_ | simp only [Exit.then, Exit.inBlock, Exit.noGoto, ↓reduceIte, Nat.reduceEqDiff] | simp only [undef, reduceCtorEq, ↓reduceIte]))
    refine Q_keep [6] (fun f => ?_); simp only [keep_cons, keep_nil, lk_cons, lk_nil, Nat.reduceEqDiff, ↓reduceIte]
    exact HQ.out.bad _ rfl f w3 v6 H6.out HS6.out
  | cons b r2 =>
    have hmg := Lib.hid (mustgetc_some x HX.out.toOk c HD.out w1 v1 b r2 none _ H1.out)
    refine hmg.out.mono ?_
    rintro e3 w3 ⟨rfl, v6, h6, hn6, hb6, hm6, _⟩
    have HS6 := Lib.hid (HS1.out.s0 hm6 hb6)
    have H6 := Lib.hid h6
    have HN6 := Lib.hid hn6
    clear h6 hb6 hm6 hmg hn6
    -- what stands behind the reference
    have HT := Lib.hid (show ∀ K : Act → World → Prop, (∀ a w, (txCode 75).wp Tryz.prog Q a w → K a w) → RefOut x c w3 v6 qv cv buf (Exit.then K Q) (refL x.o.fails none (b :: r2)) from fun K hK => ⟨fun raw t r' hres f w' v' hr hs hnn => by
        show K _ _
        refine hK _ _ ?_
        have hraw := refL_raw hres
        have hrl := refL_rawlen hres
        have hst := HD.out.strict
        have hl2 := HL.out
        have hrl2 := HRL.out
        simp only [List.length_cons] at hrl hrl2
        cases t with
        | some t =>
          have ht := refL_t hres
          refine textTail_have x HX.out.toFit c w' v' r' buf raw t hr hnn (by omega) (by omega) qv cv Q ⟨fun f w2 v2 r2' b2 h2 hs2 hn2 hg => ?_, fun hF => hF.elim⟩ f
          obtain ⟨rfl, rfl⟩ := hg
          exact HQ.out.ok _ _ (by unfold refStep; rw [HENTS.out, hres]) f w2 v2 h2 ((HS6.out.trans hs).trans hs2) hn2
        | none =>
          by_cases hs0 : x.o.strict = true
          · refine textTail_bad x HX.out.toFit c (hst.trans hs0) w' v' r' buf raw hr hraw (by rw [List.length_append]; omega) qv cv (strV []) Q (fun _ _ => False) ⟨fun f w2 v2 r2' b2 h2 hs2 hn2 hg => hg.elim, fun _ f w2 v2 he hs2 => ?_⟩ f
            exact HQ.out.bad .syn (by unfold refStep; rw [HENTS.out, hres]; simp [hs0]) f w2 v2 he ((HS6.out.trans hs).trans hs2)
          · refine textTail_loose x c (by rw [hst]; simpa using hs0) w' v' r' (buf ++ raw) hr hnn qv cv (strV []) Q ⟨fun f w2 v2 r2' b2 h2 hs2 hn2 hg => ?_, fun hF => hF.elim⟩ _ f
            obtain ⟨rfl, rfl⟩ := hg
            exact HQ.out.ok _ _ (by unfold refStep; rw [HENTS.out, hres]; simp [hs0]) f w2 v2 h2 ((HS6.out.trans hs).trans hs2) hn2,
      fun k hres f w' v' he hs => HQ.out.bad k (by unfold refStep; rw [HENTS.out, hres]) f w' v' he (HS6.out.trans hs)⟩)
    by_cases hb : b = 35
    · subst hb
      go_simp
      (repeat ((fail_if_success with_reducible refine wp_stop 31 ?_); (fail_if_success with_reducible refine wp_stop2 31 ?_); (first | with_reducible refine wp_seq_k (fun K hK => ?_) | with_reducible refine wp_region_lit ?_ | with_reducible refine wpList_nil ?_ | ((with_reducible refine wpList_plain rfl (fun K hK => ?_)); go_simp) | ((with_reducible refine wpList_step (fun K hK => ?_)); go_simp) | (with_reducible ((first | refine hK _ _ ?_ | (clear hK K; refine hK _ _ ?_) | (clear hK K; clear hK K; refine hK _ _ ?_) | (clear hK K; clear hK K; clear hK K; refine hK _ _ ?_) | (clear hK K; clear hK K; clear hK K; clear hK K; refine hK _ _ ?_) | (clear hK K; clear hK K; clear hK K; clear hK K; clear hK K; refine hK _ _ ?_)); clear hK K)) | with_reducible refine wp_cond_true (by first | (go_simp; done) | (go_simp; omega)) ?_ | with_reducible refine wp_cond_false (by first | (go_simp; done) | (go_simp; omega)) ?_ | with_reducible refine wp_exit ?_ | with_reducible refine wp_ret ?_ | with_reducible refine wp_block ?_ | with_reducible refine wp_label ?_ | with_reducible refine wp_skip ?_ | with_reducible refine wp_scope_straight ?_ | simp only [Exit.then, Exit.inBlock, Exit.noGoto, ↓reduceIte, Nat.reduceEqDiff] | simp only [undef, reduceCtorEq, ↓reduceIte])))
      (refine wp_keep [0, 1, 2, 9, 10, 12, 14, 15] (fun f => ?_); simp only [keep_cons, keep_nil, lk_cons, lk_nil, Nat.reduceEqDiff, ↓reduceIte])
      refine wp_code (numHead x HX.out c HD.out w3 v6 r2 buf H6.out ((List.suffix_cons _ _).trans HSUF.out) (by have := HL.out; omega) qv cv _ none (HT.out _ (fun a w h => ?_)) f) (by kernel_rfl)
      exact hK _ _ (wp_code h (by kernel_rfl))
    · have hb1 := u8ne hb (n := 35) rfl
      have HB := Lib.hid hb
      clear hb
      go_simp
      (repeat ((fail_if_success with_reducible refine wp_stop 56 ?_); (fail_if_success with_reducible refine wp_stop2 56 ?_); (first | with_reducible refine wp_seq_k (fun K hK => ?_) | with_reducible refine wp_region_lit ?_ | with_reducible refine wpList_nil ?_ | ((with_reducible refine wpList_plain rfl (fun K hK => ?_)); go_simp) | ((with_reducible refine wpList_step (fun K hK => ?_)); go_simp) | (with_reducible ((first | refine hK _ _ ?_ | (clear hK K; refine hK _ _ ?_) | (clear hK K; clear hK K; refine hK _ _ ?_) | (clear hK K; clear hK K; clear hK K; refine hK _ _ ?_) | (clear hK K; clear hK K; clear hK K; clear hK K; refine hK _ _ ?_) | (clear hK K; clear hK K; clear hK K; clear hK K; clear hK K; refine hK _ _ ?_)); clear hK K)) | with_reducible refine wp_cond_true (by first | (go_simp; done) | (go_simp; omega)) ?_ | with_reducible refine wp_cond_false (by first | (go_simp; done) | (go_simp; omega)) ?_ | with_reducible refine wp_exit ?_ | with_reducible refine wp_ret ?_ | with_reducible refine wp_block ?_ | with_reducible refine wp_label ?_ | with_reducible refine wp_skip ?_ | with_reducible refine wp_scope_straight ?_ | simp only [Exit.then, Exit.inBlock, Exit.noGoto, ↓reduceIte, Nat.reduceEqDiff] | simp only [undef, reduceCtorEq, ↓reduceIte])))
      (refine wp_keep [0, 1, 2, 9, 10, 12, 14, 15] (fun f => ?_); simp only [keep_cons, keep_nil, lk_cons, lk_nil, Nat.reduceEqDiff, ↓reduceIte])
      refine wp_code (nameHead x HX.out c HD.out HENT.out w3 v6 b HB.out r2 buf H6.out HN6.out ((List.suffix_cons _ _).trans HSUF.out) (by have := HL.out; omega) qv cv _ (HT.out _ (fun a w h => ?_)) f) (by kernel_rfl)
      exact hK _ _ (wp_code h (by kernel_rfl))
end Go.Proofs.YtkjnockljapnbaaGreatDoor
