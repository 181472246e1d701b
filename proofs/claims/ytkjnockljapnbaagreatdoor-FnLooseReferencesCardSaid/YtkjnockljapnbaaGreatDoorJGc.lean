/- Part of the proof that laws.FnLooseReferences returns true for every text (the claim of laws.FnLooseReferences: Gc). No condition of its own. -/
import Derived.Test.YtkjnockljapnbaaGreatDoorJRb
set_option linter.all false
/- getc, ungetc, mustgetc, space. -/
namespace Go.Proofs.YtkjnockljapnbaaGreatDoor
open Go Go.RowKit

theorem rbMethod (a : Addr) (w : World) : (method 394 155 (.pointer (some a)) "ReadByte").run Tryz.prog w = .ok (150, .pointer (some a)) w := by kernel_rfl
theorem rbEnter (args : Array Value) (w : World) : (callFunc 150 args).run Tryz.prog w = .ok (.enter 150 args) w := enters_of Tryz.func150 (by kernel_rfl) rfl args w

theorem synErr (d : Nat) (c : DC) (v : DV) (w : World) (h : DecAt w d c v) (msg : ByteArray) :
    Calls Tryz.prog 24 #[.pointer (some ⟨d, 0, none⟩), .string msg] w fun e w' => e = .returned (.iface 106 (.pointer (some ⟨w.heap.size, 0, none⟩))) ∧
      w' = w.alloc (.cells #[.string msg, .int .i64 v.line] 136) := by
  have hc := h.cell
  have hf := h.frozen
  clear h
  go_enter Tryz.func24, Tryz.ntmps24
  go_wp2
  go_ret
  exact ⟨rfl, rfl⟩

theorem PosAt.bounds {x : Cx} (hx : x.Ok) {v : DV} {rest : Bs} (h : PosAt x v rest) : 0 ≤ v.off ∧ v.off ≤ 1000000000 ∧ 1 ≤ v.line ∧ v.line ≤ 1000000001 := by
  obtain ⟨pre, hT, ho, hl, _⟩ := h
  have := hx.len
  have h1 : pre.length ≤ x.T.length := by rw [hT]; simp
  have h2 := lineOf_pos pre
  have h3 := lineOf_le pre
  omega

set_option maxHeartbeats 1000000 in
/-- A byte that had been put back. -/
theorem getc_nb (x : Cx) (hx : x.Ok) (c : DC) (w : World) (v : DV) (b : UInt8) (rest un : Bs) (buf : Bs) (h : RdS x c w v (b :: rest) none buf) (hb : BioIn x w un) (hn : v.nb = b.toNat) (hr : rest = un) :
    Calls Tryz.prog 35 #[.pointer (some ⟨x.d, 0, none⟩)] w fun e w' => e = .returned (.tuple #[.int .u8 b.toNat, .bool true]) ∧
      ∃ v', RdS x c w' v' rest none buf ∧ v'.nb = -1 ∧ v'.bufv = v.bufv ∧ Mod x.S0 w w' ∧ w'.heap.size = w.heap.size := by
  have hc := h.dec.cell
  have hf := h.dec.frozen
  obtain ⟨o1, o2, l1, l2⟩ := h.pos.bounds hx
  have he : v.err = .nilIface := h.err
  have hb1 := UInt8.toNat_lt b
  have hw : (b.toNat : Int) % 256 = b.toNat := by omega
  have h0 : (0 : Int) ≤ (b.toNat : Int) := by omega
  have HX := Lib.hid hx
  have HS := Lib.hid h
  have HB := Lib.hid hb
  have HN := Lib.hid hn
  have HR := Lib.hid hr
  obtain ⟨sb, sl, snb, serr, sline, sls, soff⟩ := v
  simp only at he hn o1 o2 l1 l2
  subst he hn
  clear h hx hb hr
  by_cases h10 : b = 10
  · subst h10
    go_enter Tryz.func35, Tryz.ntmps35
    go_wp2
    go_ret2
    have hd := (((HS.out.dec.set 18 (.int .i64 (-1))).set 21 (.int .i64 (sline + 1))).set 22 (.int .i64 (soff + 1))).set 23 (.int .i64 (soff + 1))
    have hm := ((((Mod.refl (fun k => k = x.d) w).setCell (p := ⟨x.d, 18, none⟩) (Or.inl rfl) (.int .i64 (-1))).setCell (p := ⟨x.d, 21, none⟩) (Or.inl rfl) (.int .i64 (sline + 1))).setCell (p := ⟨x.d, 22, none⟩) (Or.inl rfl) (.int .i64 (soff + 1))).setCell (p := ⟨x.d, 23, none⟩) (Or.inl rfl) (.int .i64 (soff + 1))
    have hm0 : Mod x.S0 w _ := hm.mono (fun _ _ h => Or.inl h)
    refine ⟨rfl, ⟨sb, sl, -1, .nilIface, sline + 1, soff + 1, soff + 1⟩, HS.out.step HX.out hd hm0 ⟨un, HB.out.mod hm (fun h => HX.out.ne1 h.symm) (fun h => HX.out.ne2 h.symm) (fun h => HX.out.ne3 h.symm), Or.inl ⟨rfl, HR.out⟩⟩ ?_ rfl (Or.inl rfl) rfl, rfl, rfl, hm0, by simp [World.setCell]⟩
    exact HS.out.pos.got (Or.inr rfl) _ rfl rfl (by simp) (by simp)
  · have hb10 : ((b.toNat : Int) == 10) = false := by
      simp
      intro h
      exact h10 (UInt8.toNat_inj.1 (by simpa using (show b.toNat = 10 by omega)))
    go_enter Tryz.func35, Tryz.ntmps35
    go_wp2
    go_ret2
    have hd := (HS.out.dec.set 18 (.int .i64 (-1))).set 23 (.int .i64 (soff + 1))
    have hm := ((Mod.refl (fun k => k = x.d) w).setCell (p := ⟨x.d, 18, none⟩) (Or.inl rfl) (.int .i64 (-1))).setCell (p := ⟨x.d, 23, none⟩) (Or.inl rfl) (.int .i64 (soff + 1))
    have hm0 : Mod x.S0 w _ := hm.mono (fun _ _ h => Or.inl h)
    refine ⟨rfl, ⟨sb, sl, -1, .nilIface, sline, sls, soff + 1⟩, HS.out.step HX.out hd hm0 ⟨un, HB.out.mod hm (fun h => HX.out.ne1 h.symm) (fun h => HX.out.ne2 h.symm) (fun h => HX.out.ne3 h.symm), Or.inl ⟨rfl, HR.out⟩⟩ ?_ rfl (Or.inl rfl) rfl, rfl, rfl, hm0, by simp [World.setCell]⟩
    exact HS.out.pos.got (Or.inr rfl) _ rfl rfl (by simp [h10]) (by simp [h10])

theorem u8ne10 {b : UInt8} (h : b ≠ 10) : ((b.toNat : Int) == 10) = false := by
  simp
  intro h'
  exact h (UInt8.toNat_inj.1 (by simpa using (show b.toNat = 10 by omega)))

set_option maxHeartbeats 1000000 in
/-- A byte out of the reader. -/
theorem getc_rd (x : Cx) (hx : x.Ok) (c : DC) (hdc : DcOk x c) (w : World) (v : DV) (b : UInt8) (rest : Bs) (buf : Bs) (h : RdS x c w v (b :: rest) none buf) (hb : BioIn x w (b :: rest)) (hn : v.nb = -1) :
    Calls Tryz.prog 35 #[.pointer (some ⟨x.d, 0, none⟩)] w fun e w' => e = .returned (.tuple #[.int .u8 b.toNat, .bool true]) ∧
      ∃ v', RdS x c w' v' rest none buf ∧ v'.nb = -1 ∧ v'.bufv = v.bufv ∧ Mod x.S0 w w' ∧ w'.heap.size = w.heap.size := by
  have hc := h.dec.cell
  have hf := h.dec.frozen
  obtain ⟨o1, o2, l1, l2⟩ := h.pos.bounds hx
  have he : v.err = .nilIface := h.err
  have hcr := hdc.r
  have hcon := Lib.hid (readByte_some x hx w h.base b rest hb)
  have HX := Lib.hid hx
  have HS := Lib.hid h
  obtain ⟨sb, sl, snb, serr, sline, sls, soff⟩ := v
  simp only at he hn o1 o2 l1 l2
  subst he hn
  have hmeth := fun a w => rbMethod a w
  have hent := fun a w => rbEnter a w
  clear h hx hb hdc
  by_cases h10 : b = 10
  · subst h10
    go_enter Tryz.func35, Tryz.ntmps35
    go_wp2_with fail
    refine hcon.out.mono ?_
    rintro e w1 ⟨rfl, hb1, hm1, hz1⟩
    have hd1 : DecAt w1 x.d c ⟨sb, sl, -1, .nilIface, sline, sls, soff⟩ := HS.out.dec.mod hm1 (by intro h; rcases h with h | h | h; exact HX.out.ne1 h; exact HX.out.ne2 h; exact HX.out.ne3 h)
    have hc1 := hd1.cell
    have hf1 := hd1.frozen
    have HD1 := Lib.hid hd1
    have HB1 := Lib.hid hb1
    have HM1 := Lib.hid hm1
    have HZ1 := Lib.hid hz1
    clear hd1 hb1 hm1 hz1 hc hf hcon
    go_wp2
    go_ret2
    have hd := (((HD1.out.set 20 .nilIface).set 21 (.int .i64 (sline + 1))).set 22 (.int .i64 (soff + 1))).set 23 (.int .i64 (soff + 1))
    have hm := ((((Mod.refl (fun k => k = x.d) w1).setCell (p := ⟨x.d, 20, none⟩) (Or.inl rfl) .nilIface).setCell (p := ⟨x.d, 21, none⟩) (Or.inl rfl) (.int .i64 (sline + 1))).setCell (p := ⟨x.d, 22, none⟩) (Or.inl rfl) (.int .i64 (soff + 1))).setCell (p := ⟨x.d, 23, none⟩) (Or.inl rfl) (.int .i64 (soff + 1))
    have hm0 : Mod x.S0 w _ := (HM1.out.mono (fun _ _ h => Or.inr h)).trans (hm.mono (fun _ _ h => Or.inl h) : Mod x.S0 w1 _) (fun _ _ h => h)
    refine ⟨rfl, ⟨sb, sl, -1, .nilIface, sline + 1, soff + 1, soff + 1⟩, HS.out.step HX.out hd hm0 ⟨rest, HB1.out.mod hm (fun h => HX.out.ne1 h.symm) (fun h => HX.out.ne2 h.symm) (fun h => HX.out.ne3 h.symm), Or.inl ⟨rfl, rfl⟩⟩ ?_ rfl (Or.inl rfl) rfl, rfl, rfl, hm0, by simp [World.setCell]; exact HZ1.out⟩
    exact HS.out.pos.got (Or.inl rfl) _ rfl rfl (by simp) (by simp)
  · have hb10 := u8ne10 h10
    go_enter Tryz.func35, Tryz.ntmps35
    go_wp2_with fail
    refine hcon.out.mono ?_
    rintro e w1 ⟨rfl, hb1, hm1, hz1⟩
    have hd1 : DecAt w1 x.d c ⟨sb, sl, -1, .nilIface, sline, sls, soff⟩ := HS.out.dec.mod hm1 (by intro h; rcases h with h | h | h; exact HX.out.ne1 h; exact HX.out.ne2 h; exact HX.out.ne3 h)
    have hc1 := hd1.cell
    have hf1 := hd1.frozen
    have HD1 := Lib.hid hd1
    have HB1 := Lib.hid hb1
    have HM1 := Lib.hid hm1
    have HZ1 := Lib.hid hz1
    clear hd1 hb1 hm1 hz1 hc hf hcon
    go_wp2
    go_ret2
    have hd := (HD1.out.set 20 .nilIface).set 23 (.int .i64 (soff + 1))
    have hm := ((Mod.refl (fun k => k = x.d) w1).setCell (p := ⟨x.d, 20, none⟩) (Or.inl rfl) .nilIface).setCell (p := ⟨x.d, 23, none⟩) (Or.inl rfl) (.int .i64 (soff + 1))
    have hm0 : Mod x.S0 w _ := (HM1.out.mono (fun _ _ h => Or.inr h)).trans (hm.mono (fun _ _ h => Or.inl h) : Mod x.S0 w1 _) (fun _ _ h => h)
    refine ⟨rfl, ⟨sb, sl, -1, .nilIface, sline, sls, soff + 1⟩, HS.out.step HX.out hd hm0 ⟨rest, HB1.out.mod hm (fun h => HX.out.ne1 h.symm) (fun h => HX.out.ne2 h.symm) (fun h => HX.out.ne3 h.symm), Or.inl ⟨rfl, rfl⟩⟩ ?_ rfl (Or.inl rfl) rfl, rfl, rfl, hm0, by simp [World.setCell]; exact HZ1.out⟩
    exact HS.out.pos.got (Or.inl rfl) _ rfl rfl (by simp [h10]) (by simp [h10])

theorem endV_err (x : Cx) : ErrV x (endV x) (some (endE x.o.fails)) := by
  unfold endV endE
  split <;> exact rfl

set_option maxHeartbeats 1000000 in
/-- The end of the input. -/
theorem getc_end (x : Cx) (hx : x.Ok) (c : DC) (hdc : DcOk x c) (w : World) (v : DV) (buf : Bs) (h : RdS x c w v [] none buf) :
    Calls Tryz.prog 35 #[.pointer (some ⟨x.d, 0, none⟩)] w fun e w' => e = .returned (.tuple #[.int .u8 0, .bool false]) ∧
      ∃ v', RdS x c w' v' [] (some (endE x.o.fails)) buf ∧ v'.nb = -1 ∧ v'.bufv = v.bufv ∧ Mod x.S0 w w' ∧ w'.heap.size = w.heap.size := by
  obtain ⟨un, hb, hun⟩ := h.inp
  have hun' : v.nb = -1 ∧ un = [] := by
    rcases hun with ⟨h1, h2⟩ | ⟨b, _, h2⟩
    · exact ⟨h1, h2.symm⟩
    · cases h2
  obtain ⟨hn, rfl⟩ := hun'
  clear hun
  have hc := h.dec.cell
  have hf := h.dec.frozen
  have he : v.err = .nilIface := h.err
  have hcr := hdc.r
  have hev : (∃ u t, endV x = .iface u t) := by unfold endV; split <;> exact ⟨_, _, rfl⟩
  obtain ⟨u, t, hev⟩ := hev
  have HEV := Lib.hid hev
  have hcon := readByte_end x hx w h.base hb
  rw [hev] at hcon
  have hcon := Lib.hid hcon
  have HX := Lib.hid hx
  have HS := Lib.hid h
  obtain ⟨sb, sl, snb, serr, sline, sls, soff⟩ := v
  simp only at he hn
  subst he hn
  have hmeth := fun a w => rbMethod a w
  have hent := fun a w => rbEnter a w
  clear h hx hb hdc hev
  go_enter Tryz.func35, Tryz.ntmps35
  go_wp2_with fail
  refine hcon.out.mono ?_
  rintro e w1 ⟨rfl, hb1, hm1, hz1⟩
  have hd1 : DecAt w1 x.d c ⟨sb, sl, -1, .nilIface, sline, sls, soff⟩ := HS.out.dec.mod hm1 (by intro h; rcases h with h | h | h; exact HX.out.ne1 h; exact HX.out.ne2 h; exact HX.out.ne3 h)
  have hc1 := hd1.cell
  have hf1 := hd1.frozen
  have HD1 := Lib.hid hd1
  have HB1 := Lib.hid hb1
  have HM1 := Lib.hid hm1
  have HZ1 := Lib.hid hz1
  clear hd1 hb1 hm1 hz1 hc hf hcon
  go_wp2
  go_ret2
  have hd := HD1.out.set 20 (.iface u t)
  have hm := (Mod.refl (fun k => k = x.d) w1).setCell (p := ⟨x.d, 20, none⟩) (Or.inl rfl) (.iface u t)
  have hm0 : Mod x.S0 w _ := (HM1.out.mono (fun _ _ h => Or.inr h)).trans (hm.mono (fun _ _ h => Or.inl h) : Mod x.S0 w1 _) (fun _ _ h => h)
  refine ⟨rfl, ⟨sb, sl, -1, .iface u t, sline, sls, soff⟩, HS.out.step HX.out hd hm0 ⟨[], HB1.out.mod hm (fun h => HX.out.ne1 h.symm) (fun h => HX.out.ne2 h.symm) (fun h => HX.out.ne3 h.symm), Or.inl ⟨rfl, rfl⟩⟩ HS.out.pos (by rw [← HEV.out]; exact endV_err x) (Or.inr ⟨rfl, rfl⟩) rfl, rfl, rfl, hm0, by simp [World.setCell]; exact HZ1.out⟩

/-- An error that had been met. -/
theorem getc_err (c : DC) (d : Nat) (w : World) (v : DV) (h : DecAt w d c v) (u : TypeId) (t : Value) (he : v.err = .iface u t) :
    Calls Tryz.prog 35 #[.pointer (some ⟨d, 0, none⟩)] w fun e w' => e = .returned (.tuple #[.int .u8 0, .bool false]) ∧ w = w' := by
  have hc := h.cell
  have hf := h.frozen
  clear h
  go_enter Tryz.func35, Tryz.ntmps35
  go_wp2
  go_ret2
  exact ⟨rfl, rfl⟩
end Go.Proofs.YtkjnockljapnbaaGreatDoor
