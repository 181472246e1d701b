/- Part of the proof that laws.FnLooseReferences returns true for every text (the claim of laws.FnLooseReferences: FsR, FeR). No condition of its own. -/
import Derived.Test.YtkjnockljapnbaaGreatDoorJBio
set_option linter.all false
/- bufio's fill: fill_somer. -/
namespace Go.Proofs.YtkjnockljapnbaaGreatDoor
open Go Go.RowKit

set_option maxHeartbeats 1000000 in
set_option maxRecDepth 100000 in
theorem fill_somer (x : Cx) (hx : x.Ok) (w : World) (hb : Below x.B x.W0 w) (n : Nat) (s : ByteArray) (hs : s.toList.isEmpty = false) (arr : Array Value) (hrd : Blk w x.rd (rdC x s n) 52) (hrb : Blk w x.rb arr 5) (hsz : arr.size = 4096)
   (hsn : s.size ≤ 1000000000) (hn : n ≤ 1000000000) (lb : Int) (hbr : Blk w x.br (bioC x 4096 4096 .nilIface lb) 216) :
    Calls Tryz.prog 151 #[.pointer (some ⟨x.br, 0, none⟩)] w fun e w' => e = .returned (.tuple #[]) ∧ FillSome x w s n arr lb w' := by
  have hc := hbr.cell
  have hf := hbr.frozen
  have HX := Lib.hid hx
  have HB := Lib.hid hb
  have HRD := Lib.hid hrd
  have HRB := Lib.hid hrb
  have HBR := Lib.hid hbr
  clear hx hb hrd hrb hbr
  have k0 : w.cell? ⟨x.br, 0, none⟩ = some (.slice (some ⟨x.rb, 0, none⟩) 4096 4096) := hc 0
  have k2 : w.cell? ⟨x.br, 2, none⟩ = some (.int .i64 4096) := hc 2
  have k3 : w.cell? ⟨x.br, 3, none⟩ = some (.int .i64 4096) := hc 3
  clear hc
  go_enter Tryz.func151, Tryz.ntmps151
  go_wp2
  go_region_held3 (fun w' => w'.cell? ⟨x.br, 0, none⟩ = some (.slice (some ⟨x.rb, 0, none⟩) 4096 4096) ∧ w'.cell? ⟨x.br, 2, none⟩ = some (.int .i64 4096) ∧ w'.cell? ⟨x.br, 3, none⟩ = some (.int .i64 4096))
    (go_keep)
    (first
      | (refine step_copy_zero rfl (.tmp 13) (.tmp 26) 74 74 rfl 5 Tryz.underlying74 u8info _ _ _ _ _ _ rfl rfl (by simp) ?_))
  go_wp2
  go_region
  go_wp2
  go_quiet (fail)
  obtain ⟨w0, hw0⟩ : ∃ w0, w0 = ((w.setCell ⟨x.br, 3, none⟩ (.int .i64 0)).setCell ⟨x.br, 2, none⟩ (.int .i64 0)).drew.drew.drewN nq := ⟨_, rfl⟩
  have T0 : Mod (fun k => k = x.br) w w0 := by
    rw [hw0]; exact ((((Mod.refl (fun k => k = x.br) w).setCell (p := ⟨x.br, 3, none⟩) (Or.inl rfl) _).setCell (p := ⟨x.br, 2, none⟩) (Or.inl rfl) _).drew.drew.drewN nq)
  have hbr1 : Blk w0 x.br (bioC x 0 0 .nilIface lb) 216 := by
    rw [hw0]; exact (HBR.out.set 3 _).set 2 _
  have hz1 : w0.heap.size = w.heap.size := by rw [hw0]; simp [World.setCell]
  rw [show (((w.setCell ⟨x.br, 3, none⟩ (.int .i64 0)).setCell ⟨x.br, 2, none⟩ (.int .i64 0)).drew.drew.drewN nq) = w0 from hw0.symm]
  clear hw0 hf k0 k2 k3
  have k0 : w0.cell? ⟨x.br, 0, none⟩ = some (.slice (some ⟨x.rb, 0, none⟩) 4096 4096) := hbr1.cell 0
  have k1 : w0.cell? ⟨x.br, 1, none⟩ = some (.iface 50 (.pointer (some ⟨x.rd, 0, none⟩))) := hbr1.cell 1
  have k3 : w0.cell? ⟨x.br, 3, none⟩ = some (.int .i64 0) := hbr1.cell 3
  have HRD0 := Lib.hid (HRD.out.mod T0 (fun h => HX.out.ne5 h.symm))
  have HRB0 := Lib.hid (HRB.out.mod T0 (fun h => HX.out.ne4 h.symm))
  have hcon := Lib.hid (fun k => rd_read x HX.out (w0.drewN k) (Below_drewN (Mod.below HB.out HB.out.size T0 (fun i hi => by subst hi; exact HX.out.br)) k) n s hs arr HRD0.out HRB0.out hsz hsn hn)
  have HB1 := Lib.hid hbr1
  have HT0 := Lib.hid T0
  have HZ1 := Lib.hid hz1
  clear hbr1 T0 hz1
  go_wp2
  refine wp_loop_once ?_
  go_wp2
  have hmeth := fun a w => rdMethod a w
  have hent := fun a w => rdEnter a w
  go_region_held3 (fun w' => w'.cell? ⟨x.br, 0, none⟩ = some (.slice (some ⟨x.rb, 0, none⟩) 4096 4096) ∧ w'.cell? ⟨x.br, 1, none⟩ = some (.iface 50 (.pointer (some ⟨x.rd, 0, none⟩))) ∧ w'.cell? ⟨x.br, 3, none⟩ = some (.int .i64 0))
    (first
      | go_keep
      | (go_split_ands
         have hq := ((show Blk (w0.drewN 1) x.br _ _ from HB1.out).mod hp.mod (by intro h; rcases h with h | h; exact HX.out.ne4 h; exact HX.out.ne5 h)).cell
         exact ⟨hq 0, hq 1, hq 3⟩))
    (first
      | (go_at_call 134; refine (hcon.out 1).mono ?_; rintro e w1 ⟨m, rfl, hp⟩))
  have hbr2 : Blk w1 x.br (bioC x 0 0 .nilIface lb) 216 := (show Blk (w0.drewN 1) x.br _ _ from HB1.out).mod hp.mod (by intro h; rcases h with h | h; exact HX.out.ne4 h; exact HX.out.ne5 h)
  have hc2 := hbr2.cell
  have hf2 := hbr2.frozen
  have HB2 := Lib.hid hbr2
  have HP := Lib.hid hp
  have hm1 : (m : Int) ≤ 4096 := by have := hp.m2; omega
  have hm2 : ¬ ((m : Int) < 0) := by omega
  have hm3 : (0 : Int) < (m : Int) := by have := hp.m1; omega
  clear hbr2 hp k0 k1 k3
  go_wp2
  (try simp only [Exit.inBlock, Exit.then]); refine bodyPost_ret (results_none rfl _ _ _) rfl ?_
  have hbr3 : Blk (w1.setCell ⟨x.br, 3, none⟩ (.int .i64 m)) x.br (bioC x 0 m .nilIface lb) 216 := HB2.out.set 3 _
  have hne1 : x.rb ≠ x.br := fun h => HX.out.ne4 h.symm
  have hne2 : x.rd ≠ x.br := fun h => HX.out.ne5 h.symm
  refine ⟨rfl, m, HP.out.m1, HP.out.m2, HP.out.m3, hbr3, HP.out.row.set_ne hne1 _, ?_, ?_, ?_⟩
  · obtain ⟨n', h1, h2⟩ := HP.out.rd
    exact ⟨n', h1, h2.set_ne hne2 _⟩
  · have h1 : Mod (fun k => k = x.br ∨ k = x.rb ∨ k = x.rd) (w0.drewN 1) w1 := HP.out.mod.mono (fun i _ h => by rcases h with h | h <;> simp [h])
    have h2 : Mod (fun k => k = x.br ∨ k = x.rb ∨ k = x.rd) w (w0.drewN 1) := (HT0.out.mono (fun i _ h => Or.inl h)).drewN 1
    exact (h2.trans h1 (fun _ _ h => h)).setCell (Or.inl (Or.inl rfl)) _
  · have := HP.out.size
    simp [World.setCell]
    rw [this]
    exact HZ1.out

end Go.Proofs.YtkjnockljapnbaaGreatDoor

/- bufio's fill: fill_endr. -/
namespace Go.Proofs.YtkjnockljapnbaaGreatDoor
open Go Go.RowKit

set_option maxHeartbeats 1000000 in
set_option maxRecDepth 100000 in
theorem fill_endr (x : Cx) (hx : x.Ok) (w : World) (hb : Below x.B x.W0 w) (n : Nat) (s : ByteArray) (hs : s.toList.isEmpty = true) (hrd : Blk w x.rd (rdC x s n) 52) 
    (lb : Int) (hbr : Blk w x.br (bioC x 4096 4096 .nilIface lb) 216) :
    Calls Tryz.prog 151 #[.pointer (some ⟨x.br, 0, none⟩)] w fun e w' => e = .returned (.tuple #[]) ∧ FillEnd x w lb w' := by
  have hc := hbr.cell
  have hf := hbr.frozen
  have HX := Lib.hid hx
  have HB := Lib.hid hb
  have HRD := Lib.hid hrd
  have HBR := Lib.hid hbr
  clear hx hb hrd hbr
  have k0 : w.cell? ⟨x.br, 0, none⟩ = some (.slice (some ⟨x.rb, 0, none⟩) 4096 4096) := hc 0
  have k2 : w.cell? ⟨x.br, 2, none⟩ = some (.int .i64 4096) := hc 2
  have k3 : w.cell? ⟨x.br, 3, none⟩ = some (.int .i64 4096) := hc 3
  clear hc
  go_enter Tryz.func151, Tryz.ntmps151
  go_wp2
  go_region_held3 (fun w' => w'.cell? ⟨x.br, 0, none⟩ = some (.slice (some ⟨x.rb, 0, none⟩) 4096 4096) ∧ w'.cell? ⟨x.br, 2, none⟩ = some (.int .i64 4096) ∧ w'.cell? ⟨x.br, 3, none⟩ = some (.int .i64 4096))
    (go_keep)
    (first
      | (refine step_copy_zero rfl (.tmp 13) (.tmp 26) 74 74 rfl 5 Tryz.underlying74 u8info _ _ _ _ _ _ rfl rfl (by simp) ?_))
  go_wp2
  go_region
  go_wp2
  go_quiet (fail)
  obtain ⟨w0, hw0⟩ : ∃ w0, w0 = ((w.setCell ⟨x.br, 3, none⟩ (.int .i64 0)).setCell ⟨x.br, 2, none⟩ (.int .i64 0)).drew.drew.drewN nq := ⟨_, rfl⟩
  have T0 : Mod (fun k => k = x.br) w w0 := by
    rw [hw0]; exact ((((Mod.refl (fun k => k = x.br) w).setCell (p := ⟨x.br, 3, none⟩) (Or.inl rfl) _).setCell (p := ⟨x.br, 2, none⟩) (Or.inl rfl) _).drew.drew.drewN nq)
  have hbr1 : Blk w0 x.br (bioC x 0 0 .nilIface lb) 216 := by
    rw [hw0]; exact (HBR.out.set 3 _).set 2 _
  have hz1 : w0.heap.size = w.heap.size := by rw [hw0]; simp [World.setCell]
  rw [show (((w.setCell ⟨x.br, 3, none⟩ (.int .i64 0)).setCell ⟨x.br, 2, none⟩ (.int .i64 0)).drew.drew.drewN nq) = w0 from hw0.symm]
  clear hw0 hf k0 k2 k3
  have k0 : w0.cell? ⟨x.br, 0, none⟩ = some (.slice (some ⟨x.rb, 0, none⟩) 4096 4096) := hbr1.cell 0
  have k1 : w0.cell? ⟨x.br, 1, none⟩ = some (.iface 50 (.pointer (some ⟨x.rd, 0, none⟩))) := hbr1.cell 1
  have k3 : w0.cell? ⟨x.br, 3, none⟩ = some (.int .i64 0) := hbr1.cell 3
  have HRD0 := Lib.hid (HRD.out.mod T0 (fun h => HX.out.ne5 h.symm))
  have heof : w0.cell? ⟨0, 0, none⟩ = some x.eofV := by rw [← HX.out.eof]; exact (Mod.below HB.out HB.out.size T0 (fun i hi => by subst hi; exact HX.out.br)).cell HX.out.gB
  have hcon := Lib.hid (fun k => rd_end x (w0.drewN k) n s hs HRD0.out heof)
  clear heof
  have HB1 := Lib.hid hbr1
  have HT0 := Lib.hid T0
  have HZ1 := Lib.hid hz1
  clear hbr1 T0 hz1
  go_wp2
  refine wp_loop_once ?_
  go_wp2
  have hmeth := fun a w => rdMethod a w
  have hent := fun a w => rdEnter a w
  have hev : (∃ u t, endV x = .iface u t) := by unfold endV; split <;> exact ⟨_, _, rfl⟩
  obtain ⟨u, t, hev⟩ := hev
  have HEV := Lib.hid hev
  rw [hev] at hcon
  clear hev
  go_region_held3 (fun w' => w'.cell? ⟨x.br, 0, none⟩ = some (.slice (some ⟨x.rb, 0, none⟩) 4096 4096) ∧ w'.cell? ⟨x.br, 1, none⟩ = some (.iface 50 (.pointer (some ⟨x.rd, 0, none⟩))) ∧ w'.cell? ⟨x.br, 3, none⟩ = some (.int .i64 0))
    (first
      | go_keep
      | (go_split_ands
         refine ⟨?_, ?_, ?_⟩ <;> assumption))
    (first
      | (go_at_call 134; refine (hcon.out 1).mono ?_; rintro e w1 ⟨rfl, kk, rfl⟩))
  have hc2 := HB1.out.cell
  have hf2 := HB1.out.frozen
  clear k0 k1 k3
  go_wp2
  (try simp only [Exit.inBlock, Exit.then]); refine bodyPost_ret (results_none rfl _ _ _) rfl ?_
  refine ⟨rfl, ?_, ?_, ?_⟩
  · rw [HEV.out]
    exact ((show Blk (w0.drewN (1 + kk)) x.br _ _ from HB1.out).set 3 _).set 4 _
  · exact (((HT0.out).drewN _).setCell (Or.inl rfl) _).setCell (Or.inl rfl) _
  · simp [World.setCell]
    exact HZ1.out

end Go.Proofs.YtkjnockljapnbaaGreatDoor
