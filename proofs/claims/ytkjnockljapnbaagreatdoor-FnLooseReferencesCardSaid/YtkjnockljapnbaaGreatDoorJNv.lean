/- Part of the proof that laws.FnLooseReferences returns true for every text (the claim of laws.FnLooseReferences: Nv). No condition of its own. -/
import Derived.Test.YtkjnockljapnbaaGreatDoorJNs
import Derived.Laws.ResultCell
set_option linter.all false
/- nsname. -/
namespace Go.Proofs.YtkjnockljapnbaaGreatDoor
open Go Go.RowKit

abbrev nameV (n : Bs × Bs) : Value := .agg #[strV n.1, strV n.2]
/-- What a reading of a name with a prefix answers. -/
def NsPost (x : Cx) (c : DC) (w' : World) (v' : DV) (en : Ending) : Except EK ((Bs × Bs) × Bs) → Prop
  | .error k => ∃ nm, en = .returned (.tuple #[nameV nm, .bool false]) ∧ NoName x c w' v' k
  | .ok (nm, r) => en = .returned (.tuple #[nameV nm, .bool true]) ∧ ∃ b, RdS x c w' v' r none b
theorem idx_colon : ∀ s : Bs, idxL [58] s = (match s.dropWhile (· != 58) with | [] => none | _ :: _ => some (s.takeWhile (· != 58)).length)
  | [] => by simp [idxL]
  | b :: r => by
    unfold idxL
    by_cases h : b = 58
    · subst h; simp [List.isPrefixOf]
    · have h' : ¬ (58 : UInt8) = b := fun e => h e.symm
      rw [if_neg (by simp [List.isPrefixOf, h']), idx_colon r]
      simp only [List.dropWhile_cons, List.takeWhile_cons, bne_iff_ne, ne_eq, h, not_false_eq_true, if_true]
      cases r.dropWhile (· != 58) <;> simp
/-- A block of one's own is left alone. -/
theorem RdS.s1lt {x : Cx} {c : DC} {w : World} {v : DV} {rest : Bs} {e : Option EK} {buf : Bs} (h : RdS x c w v rest e buf) (k : Nat) (hk : x.S1 v k) : k < w.heap.size := by
  rcases hk with hk | hk
  · exact h.s0lt k hk
  · rcases h.bf with ⟨hv, _⟩ | ⟨g, cap, arr, hv, hg, _⟩
    · rw [hv] at hk; exact hk.elim
    · rw [hv] at hk
      have : k = g := hk
      subst this; exact hg.lt

/-- Other blocks turn. -/
theorem RdS.mod {x : Cx} {c : DC} {w w' : World} {v : DV} {rest : Bs} {e : Option EK} {buf : Bs} {S : Nat → Prop} (h : RdS x c w v rest e buf) (hm : Mod S w w') (hS : ∀ k, x.S1 v k → ¬ S k) (hB : ∀ k, S k → x.B ≤ k) : RdS x c w' v rest e buf := by
  obtain ⟨un, hun, hu⟩ := h.inp
  exact ⟨Mod.below h.base h.base.size hm hB, Blk.mod h.dec hm (hS _ (Or.inl (Or.inl rfl))), ⟨un, hun.mod hm (hS _ (Or.inl (Or.inr (Or.inl rfl)))) (hS _ (Or.inl (Or.inr (Or.inr (Or.inl rfl))))) (hS _ (Or.inl (Or.inr (Or.inr (Or.inr rfl))))), hu⟩, h.pos, h.err, h.fin, h.bf.mod hm (fun k hk => hS _ (Or.inr hk))⟩
theorem Stp.new {x : Cx} {w w1 w2 : World} {v v1 : DV} {q : Nat} (h : Stp x w v w1 v1) (hq : w.heap.size ≤ q) (hm : Mod (fun k => k = q) w1 w2) : Stp x w v w2 v1 :=
  ⟨h.mod.trans hm (fun i hi hs => by omega), h.buf⟩
theorem nameL_len {f : Bool} {rest s r : Bs} (h : nameL f rest = .ok (s, r)) : s.length ≤ rest.length := by
  unfold nameL at h
  have := spanName_sum rest
  split at h
  · cases h
  · split at h
    · cases h
    · split at h
      · simp only [Except.ok.injEq] at h
        rw [h] at this
        simp only at this; omega
      · cases h
set_option maxHeartbeats 2000000 in
set_option maxRecDepth 100000 in
theorem nsname_c (x : Cx) (hx : x.Fit) (c : DC) (hdc : DcOk x c) (w : World) (v : DV) (rest : Bs) (e : Option EK) (buf : Bs) (h : RdS x c w v rest e buf) :
    Calls Tryz.prog 39 #[.pointer (some ⟨x.d, 0, none⟩)] w fun en w' => ∃ v', Stp x w v w' v' ∧ NsPost x c w' v' en (nsnameL x.o.fails rest) := by
  have HX := Lib.hid hx
  have HLL := Lib.hid (show rest.length ≤ 1000000000 from Nat.le_trans (h.suf.length_le) hx.len)
  have hb1 : Below w.heap.size w (w.alloc (.cells #[.string ⟨#[]⟩, .string ⟨#[]⟩] 82)) := (Below.refl _ w).alloc (Nat.le_refl _) _
  have h1 := h.below hx.toOk hb1
  have hnm := Lib.hid (name_c x hx c hdc _ v rest e buf h1)
  have hq := Blk.new w #[.string ⟨#[]⟩, .string ⟨#[]⟩] 82
  have HQ := Lib.hid (fun (w2 : World) (v2 : DV) (hs : Stp x (w.alloc (.cells #[.string ⟨#[]⟩, .string ⟨#[]⟩] 82)) v w2 v2) => hq.mod hs.mod (fun hk => Nat.lt_irrefl _ (h.s1lt _ hk)))
  have HB1 := Lib.hid hb1
  have HF := Lib.hid (fun (w2 : World) (v2 : DV) (hs : Stp x (w.alloc (.cells #[.string ⟨#[]⟩, .string ⟨#[]⟩] 82)) v w2 v2) => (show Stp x w v w2 v2 from (Stp.refl x w v).s0 (mod_none hb1 _) rfl |>.trans hs))
  have HSQ := Lib.hid (fun (v2 : DV) {w2 : World} (hs : Stp x (w.alloc (.cells #[.string ⟨#[]⟩, .string ⟨#[]⟩] 82)) v w2 v2) (k : Nat) (hk : x.S1 v2 k) => (show ¬ k = w.heap.size from fun e => by
    subst e
    rcases hk with hk | hk
    · exact Nat.lt_irrefl _ (h.s0lt _ hk)
    · rcases hs.buf _ hk with hk | hk
      · exact Nat.lt_irrefl _ (h.s1lt _ (Or.inr hk))
      · simp at hk; omega))
  have H := Lib.hid h
  have hcq := hq.cell
  have hfq := hq.frozen
  clear h h1 hq hb1 hx hdc
  go_enter Tryz.func39, Tryz.ntmps39
  go_wp2_with fail
  refine hnm.out.mono ?_
  rintro e2 w2 ⟨v2, hs2, hp2⟩
  have hq2 := HQ.out w2 v2 hs2
  have HS2 := Lib.hid hs2
  have hcq := hq2.cell
  have hfq := hq2.frozen
  have HQ2 := Lib.hid hq2
  clear hs2 hq2 hnm
  cases hn : nameL x.o.fails rest with
  | error k =>
    rw [hn] at hp2
    obtain ⟨rfl, hp2⟩ := hp2
    have HP := Lib.hid hp2
    have HN := Lib.hid (show nsnameL x.o.fails rest = .error k by unfold nsnameL; rw [hn])
    clear hp2 hn
    go_wp2
    refine bodyPost_ret (v := .tuple #[nameV ([], []), .bool false]) (by rw [results_cell_tmp rfl]; go_simp) rfl ?_
    refine ⟨v2, HF.out _ _ HS2.out, ?_⟩
    rw [HN.out]
    exact ⟨([], []), rfl, HP.out⟩
  | ok sr =>
    obtain ⟨s, r⟩ := sr
    rw [hn] at hp2
    obtain ⟨rfl, hr⟩ := hp2
    have hll : s.length ≤ 1000000000000 := by
      have h1 := HLL.out
      have h2 := spanName_sum rest
      have h3 := nameL_len hn
      omega
    have HR := Lib.hid hr
    have hcnt := Lib.hid (zzCount_c s w2 hll)
    have hcut := Lib.hid (zzCut_c s [58] w2 hll (by simp) (by simp))
    have HN := Lib.hid (show nsnameL x.o.fails rest = if 1 < cntColon s then .error .syn else .ok (splitName s, r) by unfold nsnameL; rw [hn])
    clear hr hn
    have hc : ((1 : Int) < (cntColon s : Int)) ∨ ¬ ((1 : Int) < (cntColon s : Int)) := by omega
    rcases hc with hc | hc
    · have HN2 := Lib.hid (show nsnameL x.o.fails rest = .error .syn by rw [HN.out, if_pos (by omega)])
      go_wp2_with fail
      refine hcnt.out.mono ?_
      rintro e3 w3 ⟨rfl, rfl⟩
      go_wp2
      refine bodyPost_ret (v := .tuple #[nameV ([], []), .bool false]) (by rw [results_cell_tmp rfl]; go_simp) rfl ?_
      have hm := ((Mod.refl (fun k => k = w.heap.size) w3).setCell (p := ⟨w.heap.size, 0, none⟩) (Or.inl rfl) (.string ⟨#[]⟩)).setCell (p := ⟨w.heap.size, 1, none⟩) (Or.inl rfl) (.string ⟨#[]⟩)
      refine ⟨v2, (HF.out _ _ HS2.out).new (Nat.le_refl _) hm, ?_⟩
      rw [HN2.out]
      exact ⟨([], []), rfl, Or.inr ⟨rfl, r, s, HR.out.mod hm (HSQ.out _ HS2.out) (fun k hk => by rw [hk]; exact H.out.base.size)⟩⟩
    · have HN2 := Lib.hid (show nsnameL x.o.fails rest = .ok (splitName s, r) by rw [HN.out, if_neg (by omega)])
      have HIX := Lib.hid (idx_colon s)
      go_wp2_with fail
      refine hcnt.out.mono ?_
      rintro e3 w3 ⟨rfl, rfl⟩
      go_wp2_with fail
      refine hcut.out.mono ?_
      rintro e4 w4 ⟨n, rfl, hq4⟩
      rcases hq4 with ⟨k, hk, rfl⟩ | ⟨hk, rfl⟩
      · have hsp : (s.take k = [] ∨ s.drop (k + 1) = [] → splitName s = ([], s)) ∧ (¬ (s.take k = [] ∨ s.drop (k + 1) = []) → splitName s = (s.take k, s.drop (k + 1))) := by
          have := HIX.out
          rw [hk] at this
          unfold splitName
          cases hd : s.dropWhile (· != 58) with
          | nil => rw [hd] at this; cases this
          | cons a t =>
            rw [hd] at this
            simp only [Option.some.injEq] at this
            have e1 : s = s.takeWhile (· != 58) ++ a :: t := by rw [← hd]; simp
            have e2 : s.takeWhile (· != 58) = s.take k := by
              conv => rhs; rw [e1]
              rw [this]; simp
            have e3 : t = s.drop (k + 1) := by
              conv => rhs; rw [e1]
              rw [this]; simp
            simp only
            rw [e2, e3]
            constructor
            · intro h; rw [if_pos h]
            · intro h; rw [if_neg h]
        have HSP := Lib.hid hsp
        clear hk hsp
        have hcs : ((s.take k == []) = true) ∨ ((s.take k == []) = false ∧ (s.drop (k + 1) == []) = true) ∨ ((s.take k == []) = false ∧ (s.drop (k + 1) == []) = false) := by
          cases (s.take k == []) <;> cases (s.drop (k + 1) == []) <;> simp
        rcases hcs with h1 | ⟨h1, h2⟩ | ⟨h1, h2⟩
        · have HSP2 := Lib.hid (HSP.out.1 (Or.inl (by simpa using h1)))
          go_wp2
          refine bodyPost_ret (v := .tuple #[nameV ([], s), .bool true]) (by rw [results_cell_tmp rfl]; go_simp) rfl ?_
          have hm := ((((Mod.refl (fun k => k = w.heap.size) w3).drewN n).setCell (p := ⟨w.heap.size, 1, none⟩) (Or.inl rfl) (strV s)).setCell (p := ⟨w.heap.size, 0, none⟩) (Or.inl rfl) (.string ⟨#[]⟩)).setCell (p := ⟨w.heap.size, 1, none⟩) (Or.inl rfl) (strV s)
          refine ⟨v2, (HF.out _ _ HS2.out).new (Nat.le_refl _) hm, ?_⟩
          rw [HN2.out, HSP2.out]
          exact ⟨rfl, s, HR.out.mod hm (HSQ.out _ HS2.out) (fun k hk => by rw [hk]; exact H.out.base.size)⟩
        · have HSP2 := Lib.hid (HSP.out.1 (Or.inr (by simpa using h2)))
          go_wp2
          refine bodyPost_ret (v := .tuple #[nameV ([], s), .bool true]) (by rw [results_cell_tmp rfl]; go_simp) rfl ?_
          have hm := ((((Mod.refl (fun k => k = w.heap.size) w3).drewN n).setCell (p := ⟨w.heap.size, 1, none⟩) (Or.inl rfl) (strV s)).setCell (p := ⟨w.heap.size, 0, none⟩) (Or.inl rfl) (.string ⟨#[]⟩)).setCell (p := ⟨w.heap.size, 1, none⟩) (Or.inl rfl) (strV s)
          refine ⟨v2, (HF.out _ _ HS2.out).new (Nat.le_refl _) hm, ?_⟩
          rw [HN2.out, HSP2.out]
          exact ⟨rfl, s, HR.out.mod hm (HSQ.out _ HS2.out) (fun k hk => by rw [hk]; exact H.out.base.size)⟩
        · have HSP2 := Lib.hid (HSP.out.2 (by simp at h1 h2 ⊢; exact ⟨h1, h2⟩))
          go_wp2
          have hq5 := (((((show Blk (w3.drewN n) w.heap.size _ _ from HQ2.out).set 0 (strV (s.take k))).set 1 (strV (s.drop (k + 1)))).set 0 (strV (s.take k))).set 1 (strV (s.drop (k + 1)))).cell
          have hq50 := hq5 0
          have hq51 := hq5 1
          clear hq5
          refine bodyPost_ret (v := .tuple #[nameV (s.take k, s.drop (k + 1)), .bool true]) (by rw [results_cell_tmp rfl]; go_simp) rfl ?_
          have hm := (((((Mod.refl (fun k => k = w.heap.size) w3).drewN n).setCell (p := ⟨w.heap.size, 0, none⟩) (Or.inl rfl) (strV (s.take k))).setCell (p := ⟨w.heap.size, 1, none⟩) (Or.inl rfl) (strV (s.drop (k + 1)))).setCell (p := ⟨w.heap.size, 0, none⟩) (Or.inl rfl) (strV (s.take k))).setCell (p := ⟨w.heap.size, 1, none⟩) (Or.inl rfl) (strV (s.drop (k + 1)))
          refine ⟨v2, (HF.out _ _ HS2.out).new (Nat.le_refl _) hm, ?_⟩
          rw [HN2.out, HSP2.out]
          exact ⟨rfl, s, HR.out.mod hm (HSQ.out _ HS2.out) (fun k hk => by rw [hk]; exact H.out.base.size)⟩
      · have hsp : splitName s = ([], s) := by
          have := HIX.out
          rw [hk] at this
          unfold splitName
          cases hd : s.dropWhile (· != 58) with
          | nil => rfl
          | cons a t => rw [hd] at this; cases this
        have HSP := Lib.hid hsp
        clear hk hsp
        go_wp2
        refine bodyPost_ret (v := .tuple #[nameV ([], s), .bool true]) (by rw [results_cell_tmp rfl]; go_simp) rfl ?_
        have hm := ((((Mod.refl (fun k => k = w.heap.size) w3).drewN n).setCell (p := ⟨w.heap.size, 1, none⟩) (Or.inl rfl) (strV s)).setCell (p := ⟨w.heap.size, 0, none⟩) (Or.inl rfl) (.string ⟨#[]⟩)).setCell (p := ⟨w.heap.size, 1, none⟩) (Or.inl rfl) (strV s)
        refine ⟨v2, (HF.out _ _ HS2.out).new (Nat.le_refl _) hm, ?_⟩
        rw [HN2.out, HSP.out]
        exact ⟨rfl, s, HR.out.mod hm (HSQ.out _ HS2.out) (fun k hk => by rw [hk]; exact H.out.base.size)⟩
end Go.Proofs.YtkjnockljapnbaaGreatDoor
