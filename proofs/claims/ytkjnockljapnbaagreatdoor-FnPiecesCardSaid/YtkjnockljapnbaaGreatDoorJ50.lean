/- Part of the proof that laws.FnPieces returns true for every argument (Kg). No condition of its own. -/
import Derived.Test.YtkjnockljapnbaaGreatDoorJ49
set_option linter.all false
namespace Go.Proofs.YtkjnockljapnbaaGreatDoor
open Go Go.RowKit
theorem toks_ats {fold : Bs → Bs → Bool} {o : Opt} (ha : o.auto = []) {s : St} {l : List (RTok × St)} {e : EK} (h : Toks fold o s l e) : s.next = none → ∀ ts ∈ l, ∀ pre, (ts.1.itok pre).attrs.length ≤ s.rest.length := by
  induction h with
  | stop _ => intro _ ts hts; cases hts
  | more h1 _ ih =>
    intro hn ts hts pre
    rename_i s1 t1 s1' l1 e1 h2
    have hs : step0 o s1 = .ok (t1, s1') := by rw [← stepL_nil (fold := fold) ha hn]; exact h1
    obtain ⟨_, q2, q3⟩ := step0_ok hs
    rcases List.mem_cons.1 hts with rfl | hts
    · cases t1 with
      | start nm ats => exact step0_ats hs
      | _ => exact Nat.zero_le _
    · exact Nat.le_trans (ih (q3.trans hn) ts hts pre) q2.length_le
theorem PcOk.below {w w' : World} {pcA : Option Addr} {pcN pcC : Nat} {pcs : List Int} (h : PcOk w pcA pcN pcC pcs) (hb : Below w.heap.size w w') : PcOk w' pcA pcN pcC pcs := by
  refine ⟨h.n, h.l, fun hp => ?_⟩
  obtain ⟨pb, po, h1, h2, h3⟩ := h.at' hp
  exact ⟨pb, po, h1, Nat.lt_of_lt_of_le h2 hb.size, fun j hj => by rw [hb.cell (p := ⟨pb, po + j, none⟩) h2]; exact h3 j hj⟩
structure RunAt (T : Bs) (w : World) (tv : Value) (l : List (RTok × St)) (xs : List Value) : Prop where
  row : ∃ base, w.ownsRow base 33 8 tv l.length xs
  rows : ∃ base, RowsAt (RowOk w base (fun _ => True) T) l xs
theorem RunAt.below {T : Bs} {w w' : World} {tv : Value} {l : List (RTok × St)} {xs : List Value} (h : RunAt T w tv l xs) (hb : Below w.heap.size w w') : RunAt T w' tv l xs := by
  obtain ⟨b1, h1⟩ := h.row
  obtain ⟨b2, h2⟩ := h.rows
  exact ⟨⟨b1, ownsRow_mod (S := fun _ => False) h1 (mod_none hb _) (fun _ _ => id)⟩, ⟨b2, h2.mono (fun a ys hr => hr.mod (mod_none hb (fun _ => False)) (fun _ _ _ => ⟨id, trivial⟩))⟩⟩
noncomputable def pcCode (n : Nat) : Code := ((Tryz.f6.body).bind (Code.partAt n)).getD .skip
set_option maxHeartbeats 8000000 in
set_option maxRecDepth 100000 in
theorem piecesBig (T : Bs) (pcA : Option Addr) (pcN pcC : Nat) (raw loose : Bool) (w : World) (h : 65536 < T.length ∨ 2147483647 < pcN) : Calls Tryz.prog 6 #[strV T, .slice pcA pcN pcC, .bool raw, .bool loose] w fun e w' => e = .returned (.bool true) ∧ Below w.heap.size w w' := by
  by_cases h2 : (2147483647 : Int) < (T.length : Int)
  · refine calls_fr (vs := [_, _, _, _]) 83 Tryz.func6 rfl rfl (Nat.le_of_ble_eq_true rfl) fun f => ?_
    simp only [argSlots]
    (repeat (first|(with_reducible first|refine zA fun K hK=>?_|refine zB ?_|refine zC ?_)|((with_reducible first|refine zD rfl fun K hK=>?_|refine zE fun K hK=>?_);go_simp)|(with_reducible first|((repeat ((fail_if_success refine hK _ _ ?_);clear hK K));refine hK _ _ ?_;clear hK K)|refine zT (by go_simp;first|done|omega) ?_|refine zF (by go_simp;first|done|omega) ?_|refine zG ?_|refine zR ?_|refine zK ?_|refine zL ?_|refine zN ?_|refine zS ?_)|simp only [Exit.then,Exit.inBlock,Exit.noGoto,↓reduceIte,Nat.reduceEqDiff]|simp only [undef,reduceCtorEq,↓reduceIte]))
    (refine fr_out1 rfl (by decide) (by simp only [lk_cons, lk_nil, Nat.reduceEqDiff, ↓reduceIte]; rfl) ?_)
    exact ⟨rfl, Below.refl _ w⟩
  by_cases h3 : (2147483647 : Int) < (pcN : Int)
  · refine calls_fr (vs := [_, _, _, _]) 83 Tryz.func6 rfl rfl (Nat.le_of_ble_eq_true rfl) fun f => ?_
    simp only [argSlots]
    (repeat (first|(with_reducible first|refine zA fun K hK=>?_|refine zB ?_|refine zC ?_)|((with_reducible first|refine zD rfl fun K hK=>?_|refine zE fun K hK=>?_);go_simp)|(with_reducible first|((repeat ((fail_if_success refine hK _ _ ?_);clear hK K));refine hK _ _ ?_;clear hK K)|refine zT (by go_simp;first|done|omega) ?_|refine zF (by go_simp;first|done|omega) ?_|refine zG ?_|refine zR ?_|refine zK ?_|refine zL ?_|refine zN ?_|refine zS ?_)|simp only [Exit.then,Exit.inBlock,Exit.noGoto,↓reduceIte,Nat.reduceEqDiff]|simp only [undef,reduceCtorEq,↓reduceIte]))
    (refine fr_out1 rfl (by decide) (by simp only [lk_cons, lk_nil, Nat.reduceEqDiff, ↓reduceIte]; rfl) ?_)
    exact ⟨rfl, Below.refl _ w⟩
  have h4 : (65536 : Int) < (T.length : Int) := by omega
  refine calls_fr (vs := [_, _, _, _]) 83 Tryz.func6 rfl rfl (Nat.le_of_ble_eq_true rfl) fun f => ?_
  simp only [argSlots]
  (repeat (first|(with_reducible first|refine zA fun K hK=>?_|refine zB ?_|refine zC ?_)|((with_reducible first|refine zD rfl fun K hK=>?_|refine zE fun K hK=>?_);go_simp)|(with_reducible first|((repeat ((fail_if_success refine hK _ _ ?_);clear hK K));refine hK _ _ ?_;clear hK K)|refine zT (by go_simp;first|done|omega) ?_|refine zF (by go_simp;first|done|omega) ?_|refine zG ?_|refine zR ?_|refine zK ?_|refine zL ?_|refine zN ?_|refine zS ?_)|simp only [Exit.then,Exit.inBlock,Exit.noGoto,↓reduceIte,Nat.reduceEqDiff]|simp only [undef,reduceCtorEq,↓reduceIte]))
  (refine fr_out1 rfl (by decide) (by simp only [lk_cons, lk_nil, Nat.reduceEqDiff, ↓reduceIte]; rfl) ?_)
  exact ⟨rfl, Below.refl _ w⟩
def plains (T : Bs) (l : List (RTok × St)) : List ITok := l.map fun ts => ts.1.itok (T.take (T.length - ts.2.rest.length))
structure PlAt (w : World) (L : List ITok) (out : Value) : Prop where
  ex : ∃ base base' xs, w.ownsRow base 40 6 out L.length xs ∧ RowsAt (PtOk w base' (fun _ => True)) L xs
theorem PlAt.below {w w' : World} {L : List ITok} {out : Value} (h : PlAt w L out) (hb : Below w.heap.size w w') : PlAt w' L out := by
  obtain ⟨b, b', xs, h1, h2⟩ := h.ex
  exact ⟨b, b', xs, ownsRow_mod (S := fun _ => False) h1 (mod_none hb _) (fun _ _ => id), h2.mono (fun a ys hr => hr.mod (mod_none hb (fun _ => False)) (fun _ _ _ => ⟨id, trivial⟩))⟩
theorem PlAt.get {w : World} {L : List ITok} {out : Value} (h : PlAt w L out) {i : Nat} {p : ITok} (hi : L[i]? = some p) : ∃ g cap, out = .slice (some ⟨g, 0, none⟩) L.length cap ∧ L.length ≤ cap ∧ ∃ sa sl sc b, w.ownsRow b 62 3 (.slice sa sl sc) p.attrs.length (atCells p.attrs) ∧
    w.cell? ⟨g, i * 6, none⟩ = some (.int .i64 p.kind) ∧ w.cell? ⟨g, i * 6 + 1, none⟩ = some (strV p.space) ∧ w.cell? ⟨g, i * 6 + 2, none⟩ = some (strV p.loc) ∧ w.cell? ⟨g, i * 6 + 3, none⟩ = some (.slice sa sl sc) ∧ w.cell? ⟨g, i * 6 + 4, none⟩ = some (strV p.text) ∧ w.cell? ⟨g, i * 6 + 5, none⟩ = some (.int .i64 p.at') := by
  obtain ⟨b, b', xs, h1, h2⟩ := h.ex
  have hl : 0 < L.length := Nat.lt_of_le_of_lt (Nat.zero_le _) (List.getElem?_eq_some_iff.1 hi).1
  obtain ⟨g, cap, rfl, _, _, hn, _, hcell⟩ := row_cell h1 hl
  obtain ⟨ys, ⟨sa, sl, sc, rfl, hr, _⟩, hy⟩ := h2.get (n := 6) (fun _ _ h => by obtain ⟨_, _, _, rfl, _⟩ := h; rfl) hi
  have hc : ∀ j u, j < 6 → (plCells p (.slice sa sl sc))[j]? = some u → w.cell? ⟨g, i * 6 + j, none⟩ = some u := fun j u hj hu => hcell _ _ ((hy j hj).trans hu)
  exact ⟨g, cap, rfl, hn, sa, sl, sc, b', hr, hc 0 _ (by omega) rfl, hc 1 _ (by omega) rfl, hc 2 _ (by omega) rfl, hc 3 _ (by omega) rfl, hc 4 _ (by omega) rfl, hc 5 _ (by omega) rfl⟩
theorem SrcTok.below {w w' : World} {g o : Nat} {p : ITok} (h : SrcTok w g o p) (hb : Below w.heap.size w w') (hg : g < w.heap.size) : SrcTok w' g o p := by
  obtain ⟨⟨sa, sl, sc, i6, i7, c0, c1, c2, c3, c4, c5, c6, c7, hr⟩, hl⟩ := h
  have hc : ∀ j, w'.cell? ⟨g, j, none⟩ = w.cell? ⟨g, j, none⟩ := fun j => hb.cell (p := ⟨g, j, none⟩) hg
  exact ⟨⟨sa, sl, sc, i6, i7, by rw [hc]; exact c0, by rw [hc]; exact c1, by rw [hc]; exact c2, by rw [hc]; exact c3, by rw [hc]; exact c4, by rw [hc]; exact c5, by rw [hc]; exact c6, by rw [hc]; exact c7, ownsRow_mod (S := fun _ => False) hr (mod_none hb _) (fun _ _ => id)⟩, hl⟩
def PcInv (w3 : World) (tv2 out : Value) (n : Nat) (k : Nat) (a : Act) (w : World) : Prop :=
  ∃ f i, a = fr 83 f [(12, tv2), (55, out), (56, .int .i64 (n : Nat)), (57, .int .i64 (i : Nat))] ∧ Below w3.heap.size w3 w ∧ k = n - i ∧ i ≤ n
set_option maxHeartbeats 8000000 in
set_option maxRecDepth 100000 in
theorem pcLoop (w3 : World) (L : List ITok) (hL : L.length ≤ 1000000000) (hat : ∀ p ∈ L, p.attrs.length ≤ 1000000000) (out : Value) (ho : PlAt w3 L out) (g2 cap2 : Nat) (hg2 : g2 < w3.heap.size) (hcap : L.length ≤ cap2) (hcm : cap2 ≤ maxLen) (hsrc : ∀ i p, L[i]? = some p → SrcTok w3 g2 (i * 8) p) (Q : Exit → Act → World → Prop)
    (hQ : ∀ f w', Below w3.heap.size w3 w' → Q .normal (fr 83 f []) w') (f : Nat → Value) (c1 : Code) (hc1 : c1 = .loop (pcCode 11)) :
    c1.wp Tryz.prog (Exit.inBlock 0 Q) (fr 83 f [(12, .slice (some ⟨g2, 0, none⟩) L.length cap2), (55, out), (56, .int .i64 L.length), (57, .int .i64 0)]) w3 := by
  subst hc1
  have HQ := Lib.hid hQ
  have HL := Lib.hid hL
  have HAT := Lib.hid hat
  have HO := Lib.hid ho
  have HG2 := Lib.hid hg2
  have HSRC := Lib.hid hsrc
  have HCAP := Lib.hid hcap
  have HCM := Lib.hid hcm
  refine wp_loop_ghost_k (PcInv w3 (.slice (some ⟨g2, 0, none⟩) L.length cap2) out L.length) L.length ⟨f, 0, rfl, Below.refl _ w3, by simp, Nat.zero_le _⟩ ?_
  clear hQ hL hat ho hg2 hsrc hcap hcm
  rintro k _ w ⟨f, i, rfl, hb, hk, hi⟩ J K2 hJ hK2
  have HJ := Lib.hid hJ
  have HK2 := Lib.hid hK2
  have HB := Lib.hid hb
  have HK := Lib.hid hk
  clear hJ hK2 hb hk
  unfold pcCode
  conv => arg 2; whnf
  by_cases hlt : i < L.length
  · have h1 : (i : Int) < (L.length : Int) := by omega
    have h0 : (0 : Int) ≤ (i : Int) := by omega
    have hw1 : IntKind.i64.wrap ((i : Int) + 1) = ((i + 1 : Nat) : Int) := by rw [IntKind.wrap_i64]; have := HL.out; omega
    obtain ⟨p, hp⟩ : ∃ p, L[i]? = some p := ⟨L[i], by simp [hlt]⟩
    obtain ⟨go, capo, hov, _, sa, sl, sc, bb, hr, c0, c1, c2, c3, c4, c5⟩ := (HO.out.below HB.out).get hp
    subst hov
    have hs := HSRC.out i p hp
    obtain ⟨wa, hwa⟩ : ∃ wa, wa = w.alloc (.cells #[.int .i64 p.kind, strV p.space, strV p.loc, .slice sa sl sc, strV p.text, .int .i64 p.at'] 40) := ⟨_, rfl⟩
    have hbl : Below w.heap.size w wa := by rw [hwa]; exact (Below.refl _ w).alloc (Nat.le_refl _) _
    have hba : Blk wa w.heap.size #[.int .i64 p.kind, strV p.space, strV p.loc, .slice sa sl sc, strV p.text, .int .i64 p.at'] 40 := by rw [hwa]; exact Blk.new w _ _
    have h5 : (i : Int) ≤ (i : Int) + 1 := by omega
    have h6 : (i : Int) + 1 ≤ (cap2 : Int) := by have := HCAP.out; omega
    have HBA := Lib.hid hba
    have HBL := Lib.hid hbl
    have HS := Lib.hid hs
    have HR := Lib.hid hr
    have HP := Lib.hid hp
    clear hba hbl hs hr hp
    (repeat ((fail_if_success with_reducible refine wp_stop 13 ?_); (fail_if_success with_reducible refine wp_stop2 13 ?_); (first|(with_reducible first|refine zA fun K hK=>?_|refine zB ?_|refine zC ?_)|((with_reducible first|refine zD rfl fun K hK=>?_|refine zE fun K hK=>?_);go_simp)|(with_reducible first|((repeat ((fail_if_success refine hK _ _ ?_);clear hK K));refine hK _ _ ?_;clear hK K)|refine zT (by go_simp;first|done|omega) ?_|refine zF (by go_simp;first|done|omega) ?_|refine zG ?_|refine zR ?_|refine zK ?_|refine zL ?_|refine zN ?_|refine zS ?_)|simp only [Exit.then,Exit.inBlock,Exit.noGoto,↓reduceIte,Nat.reduceEqDiff]|simp only [undef,reduceCtorEq,↓reduceIte])))
    rw [show w.alloc (.cells #[.int .i64 p.kind, .string ⟨List.toArray p.space⟩, .string ⟨List.toArray p.loc⟩, .slice sa sl sc, .string ⟨List.toArray p.text⟩, .int .i64 p.at'] 40) = wa from hwa.symm]
    clear hwa c0 c1 c2 c3 c4 c5
    have hne : ¬ cap2 = i := by have := HCAP.out; omega
    have hb3a : Below w3.heap.size w3 wa := HB.out.trans (HBL.out.mono HB.out.size)
    have HB3A := Lib.hid hb3a
    have HPL := Lib.hid (plain_c wa [p] (by simp) g2 (i * 8) (cap2 - i) (Nat.lt_of_lt_of_le HG2.out hb3a.size) (fun j q hq => by
      cases j with
      | zero =>
        simp only [List.getElem?_cons_zero, Option.some.injEq] at hq
        subst hq
        have h9 := HS.out.below hb3a HG2.out
        simpa using h9
      | succ j => simp at hq))
    clear hb3a
    (repeat (first|(with_reducible first|refine zA fun K hK=>?_|refine zB ?_|refine zC ?_)|((with_reducible first|refine zD rfl fun K hK=>?_|refine zE fun K hK=>?_);go_simp)|(with_reducible first|((repeat ((fail_if_success refine hK _ _ ?_);clear hK K));refine hK _ _ ?_;clear hK K)|refine zT (by go_simp;first|done|omega) ?_|refine zF (by go_simp;first|done|omega) ?_|refine zG ?_|refine zR ?_|refine zK ?_|refine zL ?_|refine zN ?_|refine zS ?_)|simp only [Exit.then,Exit.inBlock,Exit.noGoto,↓reduceIte,Nat.reduceEqDiff]|simp only [undef,reduceCtorEq,↓reduceIte]))
    refine HPL.out.mono ?_
    rintro e5 w5 ⟨out2, xs2, rfl, hb5, hrow5, hrows5⟩
    have hpa : PlAt w5 [p] out2 := ⟨_, _, _, hrow5, hrows5⟩
    obtain ⟨g5, cap5, rfl, _, sa5, sl5, sc5, b5, hr5, d0, d1, d2, d3, d4, d5⟩ := hpa.get (i := 0) rfl
    simp only [Nat.zero_mul, Nat.zero_add] at d0 d1 d2 d3 d4 d5
    have hba5 : Blk w5 w.heap.size _ _ := Blk.mod (S := fun _ => False) HBA.out (mod_none hb5 _) id
    obtain ⟨w6, hw6⟩ : ∃ w6, w6 = w5.alloc (.cells #[.int .i64 p.kind, strV p.space, strV p.loc, .slice sa5 sl5 sc5, strV p.text, .int .i64 p.at'] 40) := ⟨_, rfl⟩
    have hbl6 : Below w5.heap.size w5 w6 := by rw [hw6]; exact (Below.refl _ w5).alloc (Nat.le_refl _) _
    have hbb6 : Blk w6 w5.heap.size #[.int .i64 p.kind, strV p.space, strV p.loc, .slice sa5 sl5 sc5, strV p.text, .int .i64 p.at'] 40 := by rw [hw6]; exact Blk.new w5 _ _
    have hba6 : Blk w6 w.heap.size _ _ := Blk.mod (S := fun _ => False) hba5 (mod_none hbl6 _) id
    have hbw6 : Below wa.heap.size wa w6 := hb5.trans (hbl6.mono hb5.size)
    have hrA : w6.ownsRow bb 62 3 (.slice sa sl sc) p.attrs.length (atCells p.attrs) := ownsRow_mod (S := fun _ => False) (ownsRow_mod (S := fun _ => False) HR.out (mod_none HBL.out _) (fun _ _ => id)) (mod_none hbw6 _) (fun _ _ => id)
    have hrB : w6.ownsRow b5 62 3 (.slice sa5 sl5 sc5) p.attrs.length (atCells p.attrs) := ownsRow_mod (S := fun _ => False) hr5 (mod_none hbl6 _) (fun _ _ => id)
    have HAL := Lib.hid (alike_c w6 p (HAT.out p (List.mem_of_getElem? HP.out)) bb b5 sa sl sc sa5 sl5 sc5 hrA hrB)
    have HB6 := Lib.hid (HB3A.out.trans (hbw6.mono HB3A.out.size))
    have hc6 := hba6.cell
    have hd6 := hbb6.cell
    have HLA := Lib.hid hba6.lt
    have HLB := Lib.hid hbb6.lt
    clear hb5 hrow5 hrows5 hpa hr5 hba5 hbl6 hbb6 hba6 hbw6 hrA hrB HPL
    go_simp
    (repeat ((fail_if_success with_reducible refine wp_stop 14 ?_); (fail_if_success with_reducible refine wp_stop2 14 ?_); (first|(with_reducible first|refine zA fun K hK=>?_|refine zB ?_|refine zC ?_)|((with_reducible first|refine zD rfl fun K hK=>?_|refine zE fun K hK=>?_);go_simp)|(with_reducible first|((repeat ((fail_if_success refine hK _ _ ?_);clear hK K));refine hK _ _ ?_;clear hK K)|refine zT (by go_simp;first|done|omega) ?_|refine zF (by go_simp;first|done|omega) ?_|refine zG ?_|refine zR ?_|refine zK ?_|refine zL ?_|refine zN ?_|refine zS ?_)|simp only [Exit.then,Exit.inBlock,Exit.noGoto,↓reduceIte,Nat.reduceEqDiff]|simp only [undef,reduceCtorEq,↓reduceIte])))
    rw [show w5.alloc (.cells #[.int .i64 p.kind, .string ⟨List.toArray p.space⟩, .string ⟨List.toArray p.loc⟩, .slice sa5 sl5 sc5, .string ⟨List.toArray p.text⟩, .int .i64 p.at'] 40) = w6 from hw6.symm]
    clear hw6 d0 d1 d2 d3 d4 d5
    (repeat (first|(with_reducible first|refine zA fun K hK=>?_|refine zB ?_|refine zC ?_)|((with_reducible first|refine zD rfl fun K hK=>?_|refine zE fun K hK=>?_);go_simp)|(with_reducible first|((repeat ((fail_if_success refine hK _ _ ?_);clear hK K));refine hK _ _ ?_;clear hK K)|refine zT (by go_simp;first|done|omega) ?_|refine zF (by go_simp;first|done|omega) ?_|refine zG ?_|refine zR ?_|refine zK ?_|refine zL ?_|refine zN ?_|refine zS ?_)|simp only [Exit.then,Exit.inBlock,Exit.noGoto,↓reduceIte,Nat.reduceEqDiff]|simp only [undef,reduceCtorEq,↓reduceIte]))
    refine HAL.out.mono ?_
    rintro e7 w7 ⟨rfl, hb7⟩
    have HB7 := Lib.hid hb7
    have hc7 : w7.cell? ⟨w.heap.size, 5, none⟩ = some (.int .i64 p.at') := (hb7.cell (p := ⟨w.heap.size, 5, none⟩) HLA.out).trans (hc6 5)
    have hd7 : w7.cell? ⟨w5.heap.size, 5, none⟩ = some (.int .i64 p.at') := (hb7.cell (p := ⟨w5.heap.size, 5, none⟩) HLB.out).trans (hd6 5)
    clear hb7 hc6 hd6 HAL
    go_simp
    (repeat (first|(with_reducible first|refine zA fun K hK=>?_|refine zB ?_|refine zC ?_)|((with_reducible first|refine zD rfl fun K hK=>?_|refine zE fun K hK=>?_);go_simp)|(with_reducible first|((repeat ((fail_if_success refine hK _ _ ?_);clear hK K));refine hK _ _ ?_;clear hK K)|refine zT (by go_simp;first|done|omega) ?_|refine zF (by go_simp;first|done|omega) ?_|refine zG ?_|refine zR ?_|refine zK ?_|refine zL ?_|refine zN ?_|refine zS ?_)|simp only [Exit.then,Exit.inBlock,Exit.noGoto,↓reduceIte,Nat.reduceEqDiff]|simp only [undef,reduceCtorEq,↓reduceIte]))
    (refine K_keep [12, 55, 56, 57] (fun f => ?_); simp only [keep_cons, keep_nil, lk_cons, lk_nil, Nat.reduceEqDiff, ↓reduceIte])
    exact HK2.out _ _ ⟨L.length - (i + 1), by rw [HK.out]; omega, HJ.out _ _ _ ⟨f, i + 1, rfl, HB6.out.trans (HB7.out.mono HB6.out.size), rfl, hlt⟩⟩
  · have hii : i = L.length := by omega
    subst hii
    have h1 : ¬ ((L.length : Int) < (L.length : Int)) := by omega
    (repeat (first|(with_reducible first|refine zA fun K hK=>?_|refine zB ?_|refine zC ?_)|((with_reducible first|refine zD rfl fun K hK=>?_|refine zE fun K hK=>?_);go_simp)|(with_reducible first|((repeat ((fail_if_success refine hK _ _ ?_);clear hK K));refine hK _ _ ?_;clear hK K)|refine zT (by go_simp;first|done|omega) ?_|refine zF (by go_simp;first|done|omega) ?_|refine zG ?_|refine zR ?_|refine zK ?_|refine zL ?_|refine zN ?_|refine zS ?_)|simp only [Exit.then,Exit.inBlock,Exit.noGoto,↓reduceIte,Nat.reduceEqDiff]|simp only [undef,reduceCtorEq,↓reduceIte]))
    refine Q_keep [] (fun f => ?_); simp only [keep_cons, keep_nil, lk_cons, lk_nil, Nat.reduceEqDiff, ↓reduceIte]
    exact HQ.out f w HB.out
set_option maxHeartbeats 8000000 in
set_option maxRecDepth 100000 in
theorem pcLoop0 (w3 : World) (tv2 out : Value) (Q : Exit → Act → World → Prop) (hQ : ∀ f, Q .normal (fr 83 f []) w3) (f : Nat → Value) (c1 : Code) (hc1 : c1 = .loop (pcCode 11)) :
    c1.wp Tryz.prog (Exit.inBlock 0 Q) (fr 83 f [(12, tv2), (55, out), (56, .int .i64 0), (57, .int .i64 0)]) w3 := by
  subst hc1
  have HQ := Lib.hid hQ
  clear hQ
  have h1 : ¬ (0 : Int) < 0 := by omega
  refine wp_loop_ghost_k (fun _ a w' => (∃ f, a = fr 83 f [(12, tv2), (55, out), (56, .int .i64 0), (57, .int .i64 0)]) ∧ w' = w3) 0 ⟨⟨f, rfl⟩, rfl⟩ ?_
  rintro k _ _ ⟨⟨f, rfl⟩, rfl⟩ J K2 hJ hK2
  unfold pcCode
  conv => arg 2; whnf
  (repeat (first|(with_reducible first|refine zA fun K hK=>?_|refine zB ?_|refine zC ?_)|((with_reducible first|refine zD rfl fun K hK=>?_|refine zE fun K hK=>?_);go_simp)|(with_reducible first|((repeat ((fail_if_success refine hK _ _ ?_);clear hK K));refine hK _ _ ?_;clear hK K)|refine zT (by go_simp;first|done|omega) ?_|refine zF (by go_simp;first|done|omega) ?_|refine zG ?_|refine zR ?_|refine zK ?_|refine zL ?_|refine zN ?_|refine zS ?_)|simp only [Exit.then,Exit.inBlock,Exit.noGoto,↓reduceIte,Nat.reduceEqDiff]|simp only [undef,reduceCtorEq,↓reduceIte]))
  refine Q_keep [] (fun f => ?_); simp only [keep_cons, keep_nil, lk_cons, lk_nil, Nat.reduceEqDiff, ↓reduceIte]
  exact HQ.out f
theorem plain_run (T : Bs) (w : World) (tv : Value) (l : List (RTok × St)) (xs : List Value) (h : RunAt T w tv l xs) (hlen : l.length ≤ 1000000000) (hat : ∀ p ∈ plains T l, p.attrs.length ≤ 1000000000) :
    Calls Tryz.prog 11 #[tv] w fun en w' => ∃ out, en = .returned out ∧ Below w.heap.size w w' ∧ PlAt w' (plains T l) out := by
  obtain ⟨b, hr⟩ := h.row
  obtain ⟨b2, hrows⟩ := h.rows
  have hll : (plains T l).length = l.length := by simp [plains]
  rcases hr.2 with ⟨rfl, h0⟩ | ⟨g, cap, cur, rfl, hb, hc, hn, hcm, hsz, htk⟩
  · have hl : l = [] := List.eq_nil_of_length_eq_zero h0
    subst hl
    refine (plain_nil w).mono ?_
    rintro en w' ⟨rfl, rfl⟩
    exact ⟨_, rfl, Below.refl _ _, ⟨⟨0, 0, [], ⟨rfl, Or.inl ⟨rfl, rfl⟩⟩, .nil⟩⟩⟩
  · have hbk : Blk w g cur 33 := hc
    have hp := plain_c w (plains T l) (by omega) g 0 cap hbk.lt (fun i p hp => by
      have hi : ∃ ts, l[i]? = some ts ∧ ts.1.itok (T.take (T.length - ts.2.rest.length)) = p := by
        unfold plains at hp
        rw [List.getElem?_map] at hp
        cases hli : l[i]? with
        | none => rw [hli] at hp; cases hp
        | some ts => rw [hli] at hp; exact ⟨ts, rfl, by simpa using hp⟩
      obtain ⟨ts, h1, rfl⟩ := hi
      have hpos : 0 < l.length := Nat.lt_of_le_of_lt (Nat.zero_le _) (List.getElem?_eq_some_iff.1 h1).1
      obtain ⟨g', cap', he, _, _, _, _, hcell⟩ := row_cell hr hpos
      simp only [Value.slice.injEq, Option.some.injEq, Addr.mk.injEq] at he
      obtain ⟨⟨rfl, _⟩, _⟩ := he
      rw [Nat.zero_add]
      exact tok_src hrows hcell h1 (hat _ (List.mem_of_getElem? hp)))
    rw [hll] at hp
    refine hp.mono ?_
    rintro en w' ⟨out, xs', rfl, h1, h2, h3⟩
    exact ⟨out, rfl, h1, ⟨⟨_, _, _, by rw [hll]; exact h2, h3⟩⟩⟩
set_option maxHeartbeats 8000000 in
set_option maxRecDepth 100000 in
theorem pieces_c (T : Bs) (hT : T.length ≤ 65536) (pcA : Option Addr) (pcN pcC : Nat) (pcs : List Int) (hpn : pcN ≤ 2147483647) (raw loose : Bool) (w : World) (hE : EnvA w) (hp : PcOk w pcA pcN pcC pcs) :
    Calls Tryz.prog 6 #[strV T, .slice pcA pcN pcC, .bool raw, .bool loose] w fun e w' => e = .returned (.bool true) ∧ Below w.heap.size w w' := by
  have h2 : ¬ (2147483647 : Int) < (T.length : Int) := by omega
  have h3 : ¬ (2147483647 : Int) < (pcN : Int) := by omega
  have h4 : ¬ (65536 : Int) < (T.length : Int) := by omega
  obtain ⟨o, ho⟩ : ∃ o : Opt, o = ⟨raw, !loose, none, [], [], false⟩ := ⟨_, rfl⟩
  have hal : Below w.heap.size w (w.alloc (.cells #[.bool raw, .bool loose, .slice none 0 0, .slice none 0 0, .string ⟨#[]⟩] 30)) := (Below.refl _ w).alloc (Nat.le_refl _) _
  have hnb := Blk.new w #[.bool raw, .bool loose, .slice none 0 0, .slice none 0 0, .string ⟨#[]⟩] 30
  have ht1 := tokens_c T (by omega) o (by rw [ho]) (by rw [ho]) none 0 0 [] _ (hE.below hal) ⟨by omega, by omega, fun h => by omega⟩
  have ht2 := fun (w' : World) (hb : Below w.heap.size w w') => tokens_c T (by omega) o (by rw [ho]) (by rw [ho]) pcA pcN pcC pcs w' (hE.below hb) (hp.below hb)
  have e1 : optV o.raw (!o.strict) (.slice none 0 0) o.space = .agg #[.bool raw, .bool loose, .slice none 0 0, .slice none 0 0, .string ⟨#[]⟩] := by rw [ho]; simp
  have e2 : o.fails = false := by rw [ho]
  rw [e1, e2] at ht1
  simp only [e1, e2] at ht2
  have HAL := Lib.hid hal
  have HNB := Lib.hid hnb
  have HT1 := Lib.hid ht1
  have HT2 := Lib.hid ht2
  have HO := Lib.hid ho
  have HE := Lib.hid hE
  have HTL := Lib.hid hT
  clear hal ht1 ht2 ho hE hp hpn hT e1 e2
  have hcn := hnb.cell
  clear hnb
  refine calls_fr (vs := [_, _, _, _]) 83 Tryz.func6 rfl rfl (Nat.le_of_ble_eq_true rfl) fun f => ?_
  simp only [argSlots]
  (repeat (first|(with_reducible first|refine zA fun K hK=>?_|refine zB ?_|refine zC ?_)|((with_reducible first|refine zD rfl fun K hK=>?_|refine zE fun K hK=>?_);go_simp)|(with_reducible first|((repeat ((fail_if_success refine hK _ _ ?_);clear hK K));refine hK _ _ ?_;clear hK K)|refine zT (by go_simp;first|done|omega) ?_|refine zF (by go_simp;first|done|omega) ?_|refine zG ?_|refine zR ?_|refine zK ?_|refine zL ?_|refine zN ?_|refine zS ?_)|simp only [Exit.then,Exit.inBlock,Exit.noGoto,↓reduceIte,Nat.reduceEqDiff]|simp only [undef,reduceCtorEq,↓reduceIte]))
  refine HT1.out.mono ?_
  rintro e1 w1 ⟨l, e, tv, xs, rfl, htk, hb, hrow, hrows, hll⟩
  have HB1 := Lib.hid (HAL.out.trans (hb.mono HAL.out.size))
  have HRA := Lib.hid (show RunAt T w1 tv l xs from ⟨⟨_, hrow⟩, ⟨_, hrows⟩⟩)
  have HTK := Lib.hid (htk (fun _ _ => false))
  have hcn1 := (Blk.mod (S := fun _ => False) HNB.out (mod_none hb _) id).cell
  clear htk hb hrow hrows HT1 hcn
  go_simp
  (repeat (first|(with_reducible first|refine zA fun K hK=>?_|refine zB ?_|refine zC ?_)|((with_reducible first|refine zD rfl fun K hK=>?_|refine zE fun K hK=>?_);go_simp)|(with_reducible first|((repeat ((fail_if_success refine hK _ _ ?_);clear hK K));refine hK _ _ ?_;clear hK K)|refine zT (by go_simp;first|done|omega) ?_|refine zF (by go_simp;first|done|omega) ?_|refine zG ?_|refine zR ?_|refine zK ?_|refine zL ?_|refine zN ?_|refine zS ?_)|simp only [Exit.then,Exit.inBlock,Exit.noGoto,↓reduceIte,Nat.reduceEqDiff]|simp only [undef,reduceCtorEq,↓reduceIte]))
  refine (HT2.out w1 HB1.out).mono ?_
  rintro e2 w2 ⟨l2, e', tv2, xs2, rfl, htk, hb, hrow, hrows, _⟩
  obtain ⟨rfl, rfl⟩ := (htk (fun _ _ => false)).det HTK.out
  have hats : ∀ p ∈ plains T l2, p.attrs.length ≤ 1000000000 := fun p hp => by
    unfold plains at hp
    obtain ⟨ts, h1, rfl⟩ := List.mem_map.1 hp
    have h9 := toks_ats (by rw [HO.out]) HTK.out rfl ts h1 (T.take (T.length - ts.2.rest.length))
    have h8 := HTL.out
    have h7 : (St.init T).rest.length = T.length := rfl
    omega
  have hl9 : l2.length ≤ 1000000000 := by have := HTL.out; omega
  have hra := HRA.out.below hb
  have hrb : RunAt T w2 tv2 l2 xs2 := ⟨⟨_, hrow⟩, ⟨_, hrows⟩⟩
  have HB2 := Lib.hid (HB1.out.trans (hb.mono HB1.out.size))
  have HPR := Lib.hid (plain_run T w2 tv l2 xs hra hl9 hats)
  obtain ⟨sa1, sl1, sc1, rfl⟩ := ownsRow_slice hra.row.choose_spec
  have hq1 := row_len hra.row.choose_spec
  obtain ⟨sa2, sl2, sc2, rfl⟩ := ownsRow_slice hrow
  have hq2 := row_len hrow
  subst hq1 hq2
  have HRB := Lib.hid hrb
  have HATS := Lib.hid hats
  have HL9 := Lib.hid hl9
  have hll : (plains T l2).length = l2.length := by simp [plains]
  have HLL := Lib.hid hll
  clear htk hb hrow hrows hra hrb hats hl9 hll HT2 hcn1
  go_simp
  (repeat (first|(with_reducible first|refine zA fun K hK=>?_|refine zB ?_|refine zC ?_)|((with_reducible first|refine zD rfl fun K hK=>?_|refine zE fun K hK=>?_);go_simp)|(with_reducible first|((repeat ((fail_if_success refine hK _ _ ?_);clear hK K));refine hK _ _ ?_;clear hK K)|refine zT (by go_simp;first|done|omega) ?_|refine zF (by go_simp;first|done|omega) ?_|refine zG ?_|refine zR ?_|refine zK ?_|refine zL ?_|refine zN ?_|refine zS ?_)|simp only [Exit.then,Exit.inBlock,Exit.noGoto,↓reduceIte,Nat.reduceEqDiff]|simp only [undef,reduceCtorEq,↓reduceIte]))
  refine HPR.out.mono ?_
  rintro e3 w3 ⟨out, rfl, hb3, hpl⟩
  obtain ⟨bo, bo', xo, hro, _⟩ := hpl.ex
  obtain ⟨so, slo, sco, rfl⟩ := ownsRow_slice hro
  have hqo := row_len hro
  rw [HLL.out] at hqo
  subst hqo
  have HPL := Lib.hid hpl
  have HB3 := Lib.hid (HB2.out.trans (hb3.mono HB2.out.size))
  have HRB3 := Lib.hid (HRB.out.below hb3)
  have hrd := Lib.hid (fun (w' : World) (hb : Below w.heap.size w w') => reads_c w' (HE.out.below hb))
  clear hpl hb3 hro HPR
  go_simp
  (repeat (first|(with_reducible first|refine zA fun K hK=>?_|refine zB ?_|refine zC ?_)|((with_reducible first|refine zD rfl fun K hK=>?_|refine zE fun K hK=>?_);go_simp)|(with_reducible first|((repeat ((fail_if_success refine hK _ _ ?_);clear hK K));refine hK _ _ ?_;clear hK K)|refine zT (by go_simp;first|done|omega) ?_|refine zF (by go_simp;first|done|omega) ?_|refine zG ?_|refine zR ?_|refine zK ?_|refine zL ?_|refine zN ?_|refine zS ?_)|simp only [Exit.then,Exit.inBlock,Exit.noGoto,↓reduceIte,Nat.reduceEqDiff]|simp only [undef,reduceCtorEq,↓reduceIte]))
  (refine wp_keep [12, 55, 56, 57] (fun f => ?_); simp only [keep_cons, keep_nil, lk_cons, lk_nil, Nat.reduceEqDiff, ↓reduceIte])
  rcases Nat.eq_zero_or_pos l2.length with h0 | hpos
  · have hl0 : l2 = [] := List.eq_nil_of_length_eq_zero h0
    subst hl0
    refine pcLoop0 w3 _ _ _ ?_ f _ (by kernel_rfl)
    intro f
    (repeat (first|(with_reducible first|refine zA fun K hK=>?_|refine zB ?_|refine zC ?_)|((with_reducible first|refine zD rfl fun K hK=>?_|refine zE fun K hK=>?_);go_simp)|(with_reducible first|((repeat ((fail_if_success refine hK _ _ ?_);clear hK K));refine hK _ _ ?_;clear hK K)|refine zT (by go_simp;first|done|omega) ?_|refine zF (by go_simp;first|done|omega) ?_|refine zG ?_|refine zR ?_|refine zK ?_|refine zL ?_|refine zN ?_|refine zS ?_)|simp only [Exit.then,Exit.inBlock,Exit.noGoto,↓reduceIte,Nat.reduceEqDiff]|simp only [undef,reduceCtorEq,↓reduceIte]))
    refine (hrd.out w3 HB3.out).mono ?_
    rintro e4 w4 ⟨rfl, hb4⟩
    have HB4 := Lib.hid hb4
    clear hb4
    go_simp
    (repeat (first|(with_reducible first|refine zA fun K hK=>?_|refine zB ?_|refine zC ?_)|((with_reducible first|refine zD rfl fun K hK=>?_|refine zE fun K hK=>?_);go_simp)|(with_reducible first|((repeat ((fail_if_success refine hK _ _ ?_);clear hK K));refine hK _ _ ?_;clear hK K)|refine zT (by go_simp;first|done|omega) ?_|refine zF (by go_simp;first|done|omega) ?_|refine zG ?_|refine zR ?_|refine zK ?_|refine zL ?_|refine zN ?_|refine zS ?_)|simp only [Exit.then,Exit.inBlock,Exit.noGoto,↓reduceIte,Nat.reduceEqDiff]|simp only [undef,reduceCtorEq,↓reduceIte]))
    (refine fr_out1 rfl (by decide) (by simp only [lk_cons, lk_nil, Nat.reduceEqDiff, ↓reduceIte]; rfl) ?_)
    exact ⟨rfl, HB3.out.trans (HB4.out.mono HB3.out.size)⟩
  · obtain ⟨b1, hr1⟩ := HRB3.out.row
    obtain ⟨b2, hr2⟩ := HRB3.out.rows
    obtain ⟨g2, cap2, he, _, hg2, hcap, hcm, hcell⟩ := row_cell hr1 hpos
    simp only [Value.slice.injEq] at he
    obtain ⟨rfl, _, rfl⟩ := he
    rw [← HLL.out]
    have hPL := HPL.out
    rw [← HLL.out] at hPL
    refine pcLoop w3 (plains T l2) (by rw [HLL.out]; exact HL9.out) HATS.out _ hPL g2 sc2 hg2 (by rw [HLL.out]; exact hcap) hcm (fun i p hp => ?_) _ ?_ f _ (by kernel_rfl)
    · have hi : ∃ ts, l2[i]? = some ts ∧ ts.1.itok (T.take (T.length - ts.2.rest.length)) = p := by
        have hp' := hp
        unfold plains at hp'
        rw [List.getElem?_map] at hp'
        cases hli : l2[i]? with
        | none => rw [hli] at hp'; cases hp'
        | some ts => rw [hli] at hp'; exact ⟨ts, rfl, by simpa using hp'⟩
      obtain ⟨ts, h1, h2⟩ := hi
      have h9 := HATS.out p (List.mem_of_getElem? hp)
      rw [← h2] at h9 ⊢
      exact tok_src hr2 hcell h1 h9
    · intro f w' hb'
      have HBX := Lib.hid (HB3.out.trans (hb'.mono HB3.out.size))
      clear hb' hcell hr1 hr2 hPL
      (repeat (first|(with_reducible first|refine zA fun K hK=>?_|refine zB ?_|refine zC ?_)|((with_reducible first|refine zD rfl fun K hK=>?_|refine zE fun K hK=>?_);go_simp)|(with_reducible first|((repeat ((fail_if_success refine hK _ _ ?_);clear hK K));refine hK _ _ ?_;clear hK K)|refine zT (by go_simp;first|done|omega) ?_|refine zF (by go_simp;first|done|omega) ?_|refine zG ?_|refine zR ?_|refine zK ?_|refine zL ?_|refine zN ?_|refine zS ?_)|simp only [Exit.then,Exit.inBlock,Exit.noGoto,↓reduceIte,Nat.reduceEqDiff]|simp only [undef,reduceCtorEq,↓reduceIte]))
      refine (hrd.out w' HBX.out).mono ?_
      rintro e4 w4 ⟨rfl, hb4⟩
      have HB4 := Lib.hid hb4
      clear hb4
      go_simp
      (repeat (first|(with_reducible first|refine zA fun K hK=>?_|refine zB ?_|refine zC ?_)|((with_reducible first|refine zD rfl fun K hK=>?_|refine zE fun K hK=>?_);go_simp)|(with_reducible first|((repeat ((fail_if_success refine hK _ _ ?_);clear hK K));refine hK _ _ ?_;clear hK K)|refine zT (by go_simp;first|done|omega) ?_|refine zF (by go_simp;first|done|omega) ?_|refine zG ?_|refine zR ?_|refine zK ?_|refine zL ?_|refine zN ?_|refine zS ?_)|simp only [Exit.then,Exit.inBlock,Exit.noGoto,↓reduceIte,Nat.reduceEqDiff]|simp only [undef,reduceCtorEq,↓reduceIte]))
      (refine fr_out1 rfl (by decide) (by simp only [lk_cons, lk_nil, Nat.reduceEqDiff, ↓reduceIte]; rfl) ?_)
      exact ⟨rfl, HBX.out.trans (HB4.out.mono HBX.out.size)⟩
end Go.Proofs.YtkjnockljapnbaaGreatDoor
