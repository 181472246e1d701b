/- Part of the proof that laws.FnLooseReferences returns true for every text (the claim of laws.FnLooseReferences: In2). No condition of its own. -/
import Derived.Test.YtkjnockljapnbaaGreatDoorJIs
set_option linter.all false
/- isName: the walk. -/
namespace Go.Proofs.YtkjnockljapnbaaGreatDoor
open Go Go.RowKit

/-- Bytes that lie in a row. -/
def BytesAt (w : World) (b off : Nat) (l : Bs) : Prop := ∀ j, j < l.length → w.cell? ⟨b, off + j, none⟩ = some (.int .u8 (l.getD j 0).toNat)
theorem BytesAt.below {w w' : World} {b off : Nat} {l : Bs} (h : BytesAt w b off l) (hb : Below w.heap.size w w') : BytesAt w' b off l := fun j hj => cell_below hb (h j hj)
theorem BytesAt.drop {w : World} {b off : Nat} {l : Bs} (h : BytesAt w b off l) (n : Nat) : BytesAt w b (off + n) (l.drop n) := by
  intro j hj
  simp only [List.length_drop] at hj
  have := h (n + j) (by omega)
  rw [← Nat.add_assoc] at this
  rw [this]
  simp [List.getD_eq_getElem?_getD, List.getElem?_drop]
theorem dec_c (l : Bs) (b off cap : Nat) (w : World) (hT : Lib.Utf8Tabs 6 7 w) (hp : BytesAt w b off l) :
    Calls Tryz.prog 65 #[.slice (some ⟨b, off, none⟩) l.length cap] w fun e w' => e = .returned (.tuple #[.int .i32 (decL l).1, .int .i64 (decL l).2]) ∧ Below w.heap.size w w' := by
  have hs : (⟨l.toArray⟩ : ByteArray).size = l.length := rfl
  have := decodeRune_c ⟨l.toArray⟩ b off cap w hT (fun j hj => by
    rw [hs] at hj
    rw [hp j hj]
    have : (⟨l.toArray⟩ : ByteArray).get! j = l.getD j 0 := by simp [ByteArray.get!, List.getD_eq_getElem?_getD, hj]
    rw [this])
  rw [hs] at this
  exact this
theorem decL_pos (l : Bs) (h : l ≠ []) : 1 ≤ (decL l).2 := by
  have : (⟨l.toArray⟩ : ByteArray).size = l.length := rfl
  have hn : l.length ≠ 0 := by simpa using h
  unfold decL Lib.decodeGoB
  rw [this, if_neg hn]
  exact Lib.width_pos _ _
theorem decL_le (l : Bs) : (decL l).1 ≤ 1114111 := by
  unfold decL Lib.decodeGoB
  split
  · decide
  · exact Lib.rune_le _ _
set_option maxHeartbeats 2000000 in
set_option maxRecDepth 100000 in
theorem isName_c (l : Bs) (b off cap : Nat) (w : World) (hne : l ≠ []) (hT : Lib.Utf8Tabs 6 7 w) (hp : BytesAt w b off l) (hl : l.length ≤ 100000000000000) (hcl : l.length ≤ cap) (hcm : cap ≤ 9223372036854775807) :
    Calls Tryz.prog 62 #[.slice (some ⟨b, off, none⟩) l.length cap] w fun e w' => e = .returned (.bool (isNameL l)) ∧ Below w.heap.size w w' := by
  have hlen : ((l.length : Int) == 0) = false := by simpa using hne
  have hdr := Lib.hid (dec_c l b off cap w hT hp)
  have HIS := Lib.hid (show isNameL l = (if (decL l).1 = 65533 ∧ (decL l).2 = 1 then false else if nmStart (decL l).1 then nameFrom nmCont (l.length - 1) (l.drop (decL l).2) else false) by
    have : l.length = (l.length - 1) + 1 := by have : l.length ≠ 0 := by simpa using hne
                                               omega
    unfold isNameL
    rw [if_neg hne]
    conv => lhs; rw [this]
    rw [nameFrom, if_neg hne])
  have HT := Lib.hid hT
  have HP := Lib.hid hp
  have hr1 := decL_le l
  have hn1 := decL_pos l hne
  have hfc := Lib.hid first_t
  have hsc := Lib.hid second_t
  have his := Lib.hid (fun (Tb : Nat) (r : Nat) (w : World) (hr : r ≤ 1114111) (hA : Lib.RTabAt Tb 0 firstT w) => Tryz.unicode_Is_any Tb 0 firstT r w (by omega) (by omega) hA first_ok)
  have hi2 := Lib.hid (fun (Tb : Nat) (r : Nat) (w : World) (hr : r ≤ 1114111) (hA : Lib.RTabAt Tb 0 secondT w) => Tryz.unicode_Is_any Tb 0 secondT r w (by omega) (by omega) hA second_ok)
  obtain ⟨r, hr⟩ : ∃ r, r = (decL l).1 := ⟨_, rfl⟩
  obtain ⟨n, hn⟩ : ∃ n, n = (decL l).2 := ⟨_, rfl⟩
  rw [← hr] at hdr HIS hr1
  rw [← hn] at hdr HIS hn1
  have HR1 := Lib.hid hr1
  clear hr hn hT hp hr1
  have hbad : (((r : Int) == 65533) = false) ∨ (((r : Int) == 65533) = true ∧ ((n : Int) == 1) = false) ∨ (((r : Int) == 65533) = true ∧ ((n : Int) == 1) = true) := by
    cases ((r : Int) == 65533) <;> cases ((n : Int) == 1) <;> simp
  rcases hbad with hb | ⟨hb, hb2⟩ | ⟨hb, hb2⟩
  case inr.inr =>
    go_enter Tryz.func62, Tryz.ntmps62
    go_wp2_with fail
    refine hdr.out.mono ?_
    rintro e1 w1 ⟨rfl, hb1⟩
    have HB1 := Lib.hid hb1
    clear hb1
    go_wp2
    go_ret
    refine ⟨?_, HB1.out⟩
    rw [HIS.out, if_pos ⟨by have : (r : Int) = 65533 := by simpa using hb
                            omega, by have : (n : Int) = 1 := by simpa using hb2
                                      omega⟩]; rfl
  all_goals
    have HIS2 : Hid (isNameL l = (if nmStart r then nameFrom nmCont (l.length - 1) (l.drop n) else false)) := by
      have := HIS.out
      rw [if_neg (by intro h; simp_all)] at this
      exact this
    go_enter Tryz.func62, Tryz.ntmps62
    go_wp2_with fail
    refine hdr.out.mono ?_
    rintro e1 w1 ⟨rfl, hb1⟩
    have HB1 := Lib.hid hb1
    clear hb1
    go_wp2_with fail
    refine (hfc.out _).mono ?_
    rintro e2 w2 ⟨Tb, rfl, hA, hb2'⟩
    have hcall := Lib.hid (his.out Tb r w2 HR1.out hA)
    have HB2 := Lib.hid (HB1.out.trans (hb2'.mono HB1.out.size))
    clear hA hb2'
    go_wp2_with fail
    refine hcall.out.mono ?_
    rintro e3 w3 ⟨rfl, hb3⟩
    have HB3 := Lib.hid (HB2.out.trans (hb3.mono HB2.out.size))
    clear hb3 hcall
    have hst : Lib.isGo firstT (r : Int) = false ∨ Lib.isGo firstT (r : Int) = true := by cases Lib.isGo firstT (r : Int) <;> simp
    rcases hst with hst | hst
    · go_wp2
      go_ret
      refine ⟨?_, HB3.out⟩
      rw [HIS2.out, if_neg (by unfold nmStart; rw [hst]; simp)]; rfl
    · have HIS3 : Hid (isNameL l = nameFrom nmCont (l.length - 1) (l.drop n)) := by
        have := HIS2.out
        rw [if_pos (by unfold nmStart; exact hst)] at this
        exact this
      go_wp2
      clear hst hb hlen hdr
      go_loopg [0, 3, 4] l.length (fun k s _ nv wr => ∃ (lc : Bs) (o cp nn : Nat), s = .slice (some ⟨b, o, none⟩) lc.length cp ∧ nv = .int .i64 nn ∧ lc.length = k ∧ lc.length ≤ 100000000000000 ∧ 1 ≤ nn ∧ lc.length ≤ cp ∧ cp ≤ 9223372036854775807 ∧ (∃ m, lc = l.drop m ∧ o = off + m) ∧ (∃ f, lc.length ≤ f + 1 ∧ isNameL l = nameFrom nmCont f (lc.drop nn)) ∧ Below w.heap.size w wr)
      case atStart => exact ⟨l, off, cap, n, rfl, rfl, rfl, hl, hn1, hcl, hcm, ⟨0, rfl, rfl⟩, ⟨l.length - 1, by omega, HIS3.out⟩, HB3.out⟩
      case round =>
        obtain ⟨lc, o, cp, nn, rfl, rfl, hk, hl', hn', hcl', hcm', ⟨m, hm1, hm2⟩, ⟨f, hf, hnf⟩, hbw⟩ := hrel
        have HM1 := Lib.hid hm1
        have HM2 := Lib.hid hm2
        have hpc : BytesAt wr b o lc := by rw [hm1, hm2]; exact (HP.out.below hbw).drop m
        have HK := Lib.hid hk
        have HF := Lib.hid hf
        have HNF := Lib.hid hnf
        have HBW := Lib.hid hbw
        have hnd : ((nn : Int) < (lc.length : Int)) ∨ ¬ ((nn : Int) < (lc.length : Int)) := by omega
        rcases hnd with hnd | hnd
        · have hdrop := hpc.drop nn
          have hdr := dec_c (lc.drop nn) b (o + nn) (cp - nn) wr (Utf8Tabs_below HT.out hbw) hdrop
          rw [List.length_drop] at hdr
          have hne' : lc.drop nn ≠ [] := by
            intro h
            have := congrArg List.length h
            simp at this; omega
          have hfs : ∃ f', f = f' + 1 := ⟨f - 1, by omega⟩
          obtain ⟨f', rfl⟩ := hfs
          have HNF2 : Hid (isNameL l = (if (decL (lc.drop nn)).1 = 65533 ∧ (decL (lc.drop nn)).2 = 1 then false else if nmCont (decL (lc.drop nn)).1 then nameFrom nmCont f' ((lc.drop nn).drop (decL (lc.drop nn)).2) else false)) := by
            have := hnf
            rw [nameFrom, if_neg hne'] at this
            exact this
          have hr1 := decL_le (lc.drop nn)
          have hn2 := decL_pos (lc.drop nn) hne'
          obtain ⟨r2, hr2⟩ : ∃ r, r = (decL (lc.drop nn)).1 := ⟨_, rfl⟩
          obtain ⟨n2, hn2e⟩ : ∃ n, n = (decL (lc.drop nn)).2 := ⟨_, rfl⟩
          rw [← hr2] at hdr HNF2 hr1
          rw [← hn2e] at hdr HNF2 hn2
          have HDR := Lib.hid hdr
          have HR2 := Lib.hid hr1
          have HN2 := Lib.hid hn2
          have hcn : ¬ cp = nn := by omega
          have q1 : (0 : Int) ≤ (nn : Int) := by omega
          have q2 : (lc.length : Int) ≤ (cp : Int) := by omega
          have q3 : (nn : Int) ≤ (lc.length : Int) := by omega
          have q4 : (nn : Int) ≤ (cp : Int) := by omega
          have q5 : (lc.length : Int) ≤ 100000000000000 := by omega
          have HL' := Lib.hid (And.intro hn' (And.intro hl' (And.intro hcl' hcm')))
          clear hm1 hm2 hk hf hnf hbw hpc hdrop hne' hdr hr1 hn2 hr2 hn2e hl' hn' hcl' hcm'
          have hbad : (((r2 : Int) == 65533) = false) ∨ (((r2 : Int) == 65533) = true ∧ ((n2 : Int) == 1) = false) ∨ (((r2 : Int) == 65533) = true ∧ ((n2 : Int) == 1) = true) := by
            cases ((r2 : Int) == 65533) <;> cases ((n2 : Int) == 1) <;> simp
          rcases hbad with hb | ⟨hb, hb2⟩ | ⟨hb, hb2⟩
          case inr.inr =>
            go_wp2_with fail
            refine HDR.out.mono ?_
            rintro e1 w1 ⟨rfl, hb1⟩
            have HB1 := Lib.hid hb1
            clear hb1
            go_wp2
            (try simp only [Exit.inBlock, Exit.then])
            go_ret
            refine ⟨?_, HBW.out.trans (HB1.out.mono HBW.out.size)⟩
            rw [HNF2.out, if_pos ⟨by have : (r2 : Int) = 65533 := by simpa using hb
                                     omega, by have : (n2 : Int) = 1 := by simpa using hb2
                                               omega⟩]; rfl
          all_goals
            have HNF3 : Hid (isNameL l = (if nmCont r2 then nameFrom nmCont f' ((lc.drop nn).drop n2) else false)) := by
              have := HNF2.out
              rw [if_neg (by
                rintro ⟨h1, h2⟩
                rw [h1] at hb
                try rw [h2] at hb2
                simp_all)] at this
              exact this
            go_wp2_with fail
            refine HDR.out.mono ?_
            rintro e1 w1 ⟨rfl, hb1⟩
            have HB1 := Lib.hid (HBW.out.trans (hb1.mono HBW.out.size))
            clear hb1
            go_wp2_with fail
            refine (hfc.out _).mono ?_
            rintro e2 w2 ⟨Tb, rfl, hA, hb2'⟩
            have hcall := Lib.hid (his.out Tb r2 w2 HR2.out hA)
            have HB2 := Lib.hid (HB1.out.trans (hb2'.mono HB1.out.size))
            clear hA hb2'
            go_wp2_with fail
            refine hcall.out.mono ?_
            rintro e3 w3 ⟨rfl, hb3⟩
            have HB3 := Lib.hid (HB2.out.trans (hb3.mono HB2.out.size))
            clear hb3 hcall
            have hst : Lib.isGo firstT (r2 : Int) = false ∨ Lib.isGo firstT (r2 : Int) = true := by cases Lib.isGo firstT (r2 : Int) <;> simp
            rcases hst with hst | hst
            · go_wp2_with fail
              refine (hsc.out _).mono ?_
              rintro e4 w4 ⟨Tb4, rfl, hA, hb4'⟩
              have hcall := Lib.hid (hi2.out Tb4 r2 w4 HR2.out hA)
              have HB4 := Lib.hid (HB3.out.trans (hb4'.mono HB3.out.size))
              clear hA hb4'
              go_wp2_with fail
              refine hcall.out.mono ?_
              rintro e5 w5 ⟨rfl, hb5⟩
              have HB5 := Lib.hid (HB4.out.trans (hb5.mono HB4.out.size))
              clear hb5 hcall
              have hst2 : Lib.isGo secondT (r2 : Int) = false ∨ Lib.isGo secondT (r2 : Int) = true := by cases Lib.isGo secondT (r2 : Int) <;> simp
              rcases hst2 with hst2 | hst2
              · go_wp2
                (try simp only [Exit.inBlock, Exit.then])
                go_ret
                refine ⟨?_, HB5.out⟩
                rw [HNF3.out, if_neg (by unfold nmCont; rw [hst, hst2]; simp)]; rfl
              · have HNF4 := Lib.hid (show isNameL l = nameFrom nmCont f' ((lc.drop nn).drop n2) by rw [HNF3.out, if_pos (by unfold nmCont; rw [hst2]; simp)])
                go_wp2
                go_roundg (lc.length - nn)
                case measure => have := HK.out; have := HL'.out; omega
                case rel => exact ⟨lc.drop nn, o + nn, cp - nn, n2, by rw [List.length_drop], rfl, by rw [List.length_drop], by rw [List.length_drop]; have := HL'.out; omega, HN2.out, by rw [List.length_drop]; have := HL'.out; omega, by have := HL'.out; omega, ⟨m + nn, by rw [HM1.out, List.drop_drop], by rw [HM2.out]; omega⟩, ⟨f', by rw [List.length_drop]; have := HF.out; have := HL'.out; omega, HNF4.out⟩, HB5.out⟩
            · have HNF4 := Lib.hid (show isNameL l = nameFrom nmCont f' ((lc.drop nn).drop n2) by rw [HNF3.out, if_pos (by unfold nmCont; rw [hst]; simp)])
              go_wp2
              go_roundg (lc.length - nn)
              case measure => have := HK.out; have := HL'.out; omega
              case rel => exact ⟨lc.drop nn, o + nn, cp - nn, n2, by rw [List.length_drop], rfl, by rw [List.length_drop], by rw [List.length_drop]; have := HL'.out; omega, HN2.out, by rw [List.length_drop]; have := HL'.out; omega, by have := HL'.out; omega, ⟨m + nn, by rw [HM1.out, List.drop_drop], by rw [HM2.out]; omega⟩, ⟨f', by rw [List.length_drop]; have := HF.out; have := HL'.out; omega, HNF4.out⟩, HB3.out⟩
        · have HNF2 := Lib.hid (show isNameL l = true by
            rw [hnf, show lc.drop nn = [] by apply List.drop_eq_nil_of_le; omega]
            cases f <;> simp [nameFrom])
          clear hm1 hm2 hk hf hnf hbw hpc
          go_wp2
          (try simp only [Exit.inBlock, Exit.then])
          go_ret
          exact ⟨by rw [HNF2.out]; rfl, HBW.out⟩
end Go.Proofs.YtkjnockljapnbaaGreatDoor
