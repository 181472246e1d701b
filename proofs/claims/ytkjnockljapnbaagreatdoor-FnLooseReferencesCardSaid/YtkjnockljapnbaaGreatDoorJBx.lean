/- Part of the proof that laws.FnLooseReferences returns true for every text (the claim of laws.FnLooseReferences: Bx). No condition of its own. -/
import Derived.Test.YtkjnockljapnbaaGreatDoorJBuf
import Derived.Test.YtkjnockljapnbaaGreatDoorJPj
set_option linter.all false
/- bytes.Buffer: growing. -/
namespace Go.Proofs.YtkjnockljapnbaaGreatDoor
open Go Go.RowKit

set_option maxHeartbeats 400000 in
set_option maxRecDepth 100000 in
/-- A larger array; the old one is full, or there is none. -/
theorem grow_some (x : Cx) (hx : x.Ok) (c : DC) (w : World) (v : DV) (rest : Bs) (e : Option EK) (buf : Bs) (h : RdS x c w v rest e buf) (g cap : Nat) (arr : Array Value) (hv : v.bufv = .slice (some ⟨g, 0, none⟩) buf.length cap)
    (hg : Blk w g arr 5) (hsz : arr.size = cap) (hlc : buf.length ≤ cap) (hel : ∀ j, j < buf.length → arr[j]? = some (.int .u8 (buf.getD j 0).toNat))
    (n : Nat) (hn : 1 ≤ n) (hr : cap < buf.length + n) (hlim : buf.length + n ≤ 100000000000000) :
    Calls Tryz.prog 70 #[.pointer (some ⟨x.d, 7, none⟩), .int .i64 n] w fun en w' => en = .returned (.int .i64 buf.length) ∧ ∃ g cap arr, GrowPost x c w v buf n w' g cap arr := by
  have hc := h.dec.cell
  have hf := h.dec.frozen
  have hlen := Lib.hid (len_c x c w v rest e buf h)
  have HX := Lib.hid hx
  have H := Lib.hid h
  have htry := Lib.hid (fun k => tryGrow_no x.d c v (w.drewN k) h.dec _ _ _ n hv hlc hr (by omega))
  have hgr := Lib.hid (fun k => Tryz.bytes_growSlice_row g buf.length cap n arr (w.drewN k) hg hsz hlc hn (by omega) (by omega) (by
    intro u hu
    obtain ⟨j, hj, rfl⟩ := List.mem_iff_getElem.1 hu
    have hj' : j < buf.length := by simp at hj; omega
    have := hel j hj'
    simp only [List.getElem_take]
    rw [Array.getElem?_eq_some_iff] at this
    obtain ⟨h1, h2⟩ := this
    simp [h2, Value.oneCell']))
  have HEL := Lib.hid hel
  have hmax : ¬ ((9223372036854775807 : Int) - (cap : Int) - (n : Int) < (cap : Int)) := by omega
  have hq : ¬ ((n : Int) ≤ (cap : Int) / 2 - (buf.length : Int)) := by omega
  have hcap : (cap : Int) ≤ 100000000000000 := by omega
  have hb0 : (0 : Int) ≤ (buf.length : Int) := by omega
  have hbl : (buf.length : Int) ≤ 100000000000000 := by omega
  have hnl : (n : Int) ≤ 100000000000000 := by omega
  have hwn : IntKind.i64.wrap (n : Int) = n := IntWalk.i64_in _ (by omega)
  obtain ⟨sb, sl, snb, serr, sline, sls, soff⟩ := v
  simp only at hv
  subst hv
  clear h hx hel hg
  obtain ⟨L, hL⟩ : ∃ L, L = buf.length := ⟨_, rfl⟩
  rw [← hL] at hc hlen hgr HEL hq hb0 hbl H hlc hr hlim
  have HL := Lib.hid hL
  rw [← hL]
  clear hL
  have hz : ((L : Int) == 0) = true ∨ ((L : Int) == 0) = false := by cases ((L : Int) == 0) <;> simp
  rcases hz with hz | hz
  all_goals
    go_enter Tryz.func70, Tryz.ntmps70
    go_wp2_with fail
    refine hlen.out.mono ?_
    rintro e1 w1 ⟨rfl, k, rfl⟩
    have hc' : ∀ o, (w.drewN k).cell? ⟨x.d, o, none⟩ = (dcells c ⟨.slice (some ⟨g, 0, none⟩) L cap, sl, snb, serr, sline, sls, soff⟩)[o]? := hc
    have hf' : ∀ o, (w.drewN k).frozen? ⟨x.d, o, none⟩ = false := hf
    have heql := fun (w : World) (a : Option Addr) (n c : Nat) => Lib.run_eql_slice_nil (P := Tryz.prog) w 74 5 a n c 0 0 Tryz.underlying74
    go_wp2_with fail
    refine (htry.out _).mono ?_
    rintro e2 w2 ⟨rfl, rfl⟩
    go_wp2_with fail
    (refine wp_region_pi [0, 0, 0, 0, 1, 0, 0, 0, 1, 1, 0, 0, 0, 1, 0, 1, 2, 0, 0, 2] [0, 1, 2, 3, 5, 6, 7, 10, 11, 12, 14, 4, 8, 9, 13, 15, 16, 17, 18, 19] (by kernel_rfl) (by kernel_rfl) ?_; repeat (first | (with_reducible refine wpPi_nil (fun nq => ?_)) | ((with_reducible refine wpPi_free rfl rfl (fun K hK => ?_)); go_simp; refine hK _ ?_; clear hK K) | ((with_reducible refine wpPi_quiet rfl rfl (fun K hK => ?_)); go_simp; refine hK _ ?_; clear hK K) | ((with_reducible refine wpPi_eff rfl rfl (fun nq K hK => ?_)); go_simp; refine hK.out _ _ ?_; clear hK K)))
    refine wpPi_eff rfl rfl (fun nq K hK => ?_)
    go_simp
    go_at_call 85
    refine (hgr.out _).mono ?_
    rintro e3 w3 ⟨cap2, cells, rfl, k1, k2, k3, k4, k5, k6⟩
    have hd3 := Blk.mod (w := w) (w' := w3) (S := fun _ => False) H.out.dec ⟨k6.os, k6.tape, k6.output, k6.size, fun i hi _ => k6.block i hi⟩ id
    have hc3 := hd3.cell
    have hf3 := hd3.frozen
    have HD3 := Lib.hid hd3
    have HK1 := Lib.hid k1
    have HK3 := Lib.hid k3
    have HK6 := Lib.hid k6
    have h4 : (L : Int) + (n : Int) ≤ (cap2 : Int) := by omega
    have h5 : (cap2 : Int) ≤ 9223372036854775807 := by unfold maxLen at k5; omega
    clear hd3 k1 k3 k6 k5
    go_wp2_with fail
    refine hK.out _ _ ?_
    clear hK K
    (repeat (first | (with_reducible refine wpPi_nil (fun nq => ?_)) | ((with_reducible refine wpPi_free rfl rfl (fun K hK => ?_)); go_simp; refine hK _ ?_; clear hK K) | ((with_reducible refine wpPi_quiet rfl rfl (fun K hK => ?_)); go_simp; refine hK _ ?_; clear hK K) | ((with_reducible refine wpPi_eff rfl rfl (fun nq K hK => ?_)); go_simp; refine hK.out _ _ ?_; clear hK K)))
    go_wp2
    go_ret
    have hgd : w.heap.size ≠ x.d := fun h => by have := H.out.dec.lt; omega
    have hm3 : Mod (fun k => k = x.d) w w3 := ⟨HK6.out.os, HK6.out.tape, HK6.out.output, HK6.out.size, fun i hi _ => HK6.out.block i hi⟩
    have hb : Blk w3 w.heap.size cells 5 := HK1.out
    refine ⟨by trivial, w.heap.size, cap2, cells, ?_, ?_, by assumption, by rw [← HL.out]; assumption, by omega, Nat.le_refl _, ?_, ?_⟩
    · rw [← HL.out]
      exact ((HD3.out.set 7 (.slice (some ⟨w.heap.size, 0, none⟩) L cap2)).set 8 (.int .i64 0)).set 7 (.slice (some ⟨w.heap.size, 0, none⟩) (L + n) cap2)
    · exact ((hb.set_ne (a := ⟨x.d, 7, none⟩) hgd (.slice (some ⟨w.heap.size, 0, none⟩) L cap2)).set_ne (a := ⟨x.d, 8, none⟩) hgd (.int .i64 0)).set_ne (a := ⟨x.d, 7, none⟩) hgd (.slice (some ⟨w.heap.size, 0, none⟩) (L + n) cap2)
    · intro j hj
      have hjL : j < L := by rw [HL.out]; exact hj
      have h1 := HEL.out j hjL
      have h2 := congrArg (fun l => l[j]?) HK3.out
      simp only [List.getElem?_take, hjL, if_true, Array.getElem?_toList] at h2
      rw [h2]; exact h1
    · exact (((((hm3.drewN _).setCell (p := ⟨x.d, 7, none⟩) (Or.inl rfl) (.slice (some ⟨w.heap.size, 0, none⟩) L cap2)).drewN _).setCell (p := ⟨x.d, 8, none⟩) (Or.inl rfl) (.int .i64 0)).setCell (p := ⟨x.d, 7, none⟩) (Or.inl rfl) (.slice (some ⟨w.heap.size, 0, none⟩) (L + n) cap2))
end Go.Proofs.YtkjnockljapnbaaGreatDoor
