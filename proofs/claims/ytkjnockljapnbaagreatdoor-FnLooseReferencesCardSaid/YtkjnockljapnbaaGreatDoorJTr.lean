/- Part of the proof that laws.FnLooseReferences returns true for every text (the claim of laws.FnLooseReferences: Tr). No condition of its own. -/
import Derived.Test.YtkjnockljapnbaaGreatDoorJWb
set_option linter.all false
/- bytes.Buffer: Truncate. -/
namespace Go.Proofs.YtkjnockljapnbaaGreatDoor
open Go Go.RowKit

/-- What is left after a cut. -/
theorem BufAt.take {x : Cx} {w : World} {g : Nat} {cap : Nat} {buf : Bs} {arr : Array Value} (n : Nat) (hn : n ≤ buf.length) (hg : Blk w g arr 5) (hsz : arr.size = cap) (hl : buf.length ≤ cap) (hcp : cap ≤ 9223372036854775807) (hB : x.B ≤ g) (hS : ¬ x.S0 g)
    (hel : ∀ j, j < buf.length → arr[j]? = some (.int .u8 (buf.getD j 0).toNat)) : BufAt x w (.slice (some ⟨g, 0, none⟩) n cap) (buf.take n) := by
  have hlen : (buf.take n).length = n := by simp; omega
  refine Or.inr ⟨g, cap, arr, by rw [hlen], hg, hsz, by omega, hcp, hB, hS, fun j hj => ?_⟩
  rw [hlen] at hj
  rw [hel j (by omega)]
  simp [List.getD_eq_getElem?_getD, hj]

set_option maxHeartbeats 1000000 in
set_option maxRecDepth 100000 in
theorem truncate_c (x : Cx) (hx : x.Ok) (c : DC) (w : World) (v : DV) (rest : Bs) (e : Option EK) (buf : Bs) (h : RdS x c w v rest e buf) (n : Nat) (hn : n ≤ buf.length) :
    Calls Tryz.prog 48 #[.pointer (some ⟨x.d, 7, none⟩), .int .i64 n] w fun en w' => en = .returned (.tuple #[]) ∧ ∃ v', RdS x c w' v' rest e (buf.take n) ∧ v'.nb = v.nb ∧ (∀ k, bufBlk v'.bufv k ↔ bufBlk v.bufv k) ∧ Mod x.S0 w w' ∧ w'.heap.size = w.heap.size := by
  have hc := h.dec.cell
  have hf := h.dec.frozen
  have hrs := Lib.hid (reset_c x hx c w v rest e buf h)
  have hd9 : DecAt (w.setCell ⟨x.d, 9, none⟩ (.int .i8 0)) x.d c { v with lastRead := 0 } := h.dec.set 9 (.int .i8 0)
  have hm9 : Mod (fun k => k = x.d ∨ bufBlk v.bufv k) w (w.setCell ⟨x.d, 9, none⟩ (.int .i8 0)) := (Mod.refl _ w).setCell (Or.inl (Or.inl rfl)) _
  have hbx : ∀ k, bufBlk v.bufv k → k ≠ x.d := fun k hk e => h.bf.notS0 k hk (Or.inl e)
  have h9 : RdS x c (w.setCell ⟨x.d, 9, none⟩ (.int .i8 0)) { v with lastRead := 0 } rest e buf := h.buf hx hd9 hm9 rfl rfl rfl rfl rfl (h.bf.mod ((Mod.refl (fun k => k = x.d) w).setCell (p := ⟨x.d, 9, none⟩) (Or.inl rfl) _) hbx)
  have hlen := Lib.hid (len_c x c _ _ rest e buf h9)
  have hn0 : (0 : Int) ≤ (n : Int) := by omega
  have hz : ((n : Int) == 0) = true ∨ ((n : Int) == 0) = false := by cases ((n : Int) == 0) <;> simp
  have HX := Lib.hid hx
  rcases hz with hz | hz
  · have : n = 0 := by simpa using hz
    clear hc hf h h9 hd9 hm9 hbx hx
    go_enter Tryz.func48, Tryz.ntmps48
    go_wp2_with fail
    refine hrs.out.mono ?_
    rintro e1 w1 ⟨rfl, HV⟩
    have HV := Lib.hid HV
    go_wp2
    (try simp only [Exit.inBlock, Exit.then])
    refine bodyPost_ret (results_none rfl _ _ _) rfl ?_
    subst this
    exact ⟨rfl, HV.out⟩
  · have hn1 : n ≠ 0 := by simpa using hz
    rcases h.bf with ⟨hv, hb⟩ | ⟨g, cap, arr, hv, hg, hsz, hl, hcp, hBg, hnS, hel⟩
    · subst hb; simp at hn; omega
    have hgd : x.d ≠ g := fun e => hnS (Or.inl e.symm)
    have hgd' : g ≠ x.d := fun e => hnS (Or.inl e)
    have H := Lib.hid h
    have HG := Lib.hid hg
    have HEL := Lib.hid hel
    have hbf := Lib.hid (fun (w' : World) (hg' : Blk w' g arr 5) => BufAt.take (x := x) n hn hg' hsz hl hcp hBg hnS hel)
    have h1 : (n : Int) ≤ (buf.length : Int) := by omega
    have h2 : (buf.length : Int) ≤ (cap : Int) := by omega
    have h3 : (n : Int) ≤ (cap : Int) := by omega
    have h4 : (cap : Int) ≤ 9223372036854775807 := by omega
    have hw : IntKind.i64.wrap (n : Int) = n := IntWalk.i64_in _ (by omega)
    obtain ⟨sb, sl, snb, serr, sline, sls, soff⟩ := v
    simp only at hv
    subst hv
    clear h h9 hd9 hm9 hbx hx hg hel hBg
    go_enter Tryz.func48, Tryz.ntmps48
    go_wp2_with fail
    refine hlen.out.mono ?_
    rintro e1 w1 ⟨rfl, k, rfl⟩
    go_wp2
    (refine wp_region_pi [0, 0, 0, 0, 1, 0, 0, 0, 1, 0, 1, 1, 0, 0, 2] [0, 1, 2, 3, 5, 6, 7, 9, 4, 8, 10, 11, 12, 13, 14] (by kernel_rfl) (by kernel_rfl) ?_; repeat (first | (with_reducible refine wpPi_nil (fun nq => ?_)) | ((with_reducible refine wpPi_free rfl rfl (fun K hK => ?_)); go_simp; refine hK _ ?_; clear hK K) | ((with_reducible refine wpPi_quiet rfl rfl (fun K hK => ?_)); go_simp; refine hK _ ?_; clear hK K) | ((with_reducible refine wpPi_eff rfl rfl (fun nq K hK => ?_)); go_simp; refine hK.out _ _ ?_; clear hK K)))
    go_wp2
    go_end0
    have hd : DecAt ((w.setCell ⟨x.d, 9, none⟩ (.int .i8 0)).setCell ⟨x.d, 7, none⟩ (.slice (some ⟨g, 0, none⟩) n cap)) x.d c ⟨.slice (some ⟨g, 0, none⟩) n cap, 0, snb, serr, sline, sls, soff⟩ := (H.out.dec.set 9 (.int .i8 0)).set 7 (.slice (some ⟨g, 0, none⟩) n cap)
    have HGo : Blk w g arr 5 := HG.out
    have hg2 := (HGo.set_ne (a := ⟨x.d, 9, none⟩) hgd' (.int .i8 0)).set_ne (a := ⟨x.d, 7, none⟩) hgd' (.slice (some ⟨g, 0, none⟩) n cap)
    have hm : Mod (fun k => k = x.d) w ((w.setCell ⟨x.d, 9, none⟩ (.int .i8 0)).setCell ⟨x.d, 7, none⟩ (.slice (some ⟨g, 0, none⟩) n cap)) := ((Mod.refl (fun k => k = x.d) w).setCell (p := ⟨x.d, 9, none⟩) (Or.inl rfl) (.int .i8 0)).setCell (p := ⟨x.d, 7, none⟩) (Or.inl rfl) (.slice (some ⟨g, 0, none⟩) n cap)
    have hr := H.out.buf HX.out (v' := ⟨.slice (some ⟨g, 0, none⟩) n cap, 0, snb, serr, sline, sls, soff⟩) hd (hm.mono (fun _ _ h => Or.inl h)) rfl rfl rfl rfl rfl (hbf.out _ hg2)
    refine ⟨rfl, ⟨.slice (some ⟨g, 0, none⟩) n cap, 0, snb, serr, sline, sls, soff⟩, ?_, rfl, fun k => Iff.rfl, ?_, ?_⟩
    · exact ⟨⟨hr.base.os, hr.base.tape, hr.base.output, hr.base.size, hr.base.block⟩, hr.dec, hr.inp, hr.pos, hr.err, hr.fin, hr.bf⟩
    · exact ⟨hm.os, hm.tape, hm.output, hm.size, fun i hi hs => hm.block i hi (fun h => hs (Or.inl h))⟩
    · simp [World.setCell]
end Go.Proofs.YtkjnockljapnbaaGreatDoor
