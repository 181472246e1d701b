/- Part of the proof that laws.FnLooseReferences returns true for every text (the claim of laws.FnLooseReferences: Nm). No condition of its own. -/
import Derived.Test.YtkjnockljapnbaaGreatDoorJTr
set_option linter.all false
/- Names: the bytes that may stand in one; reading one. -/
namespace Go.Proofs.YtkjnockljapnbaaGreatDoor
open Go Go.RowKit

theorem ascName_iff (b : UInt8) : ascName b = true ↔ (65 ≤ b.toNat ∧ b.toNat ≤ 90) ∨ (97 ≤ b.toNat ∧ b.toNat ≤ 122) ∨ (48 ≤ b.toNat ∧ b.toNat ≤ 57) ∨ b.toNat = 95 ∨ b.toNat = 58 ∨ b.toNat = 46 ∨ b.toNat = 45 := by
  simp only [ascName, Bool.or_eq_true, Bool.and_eq_true, decide_eq_true_eq, beq_iff_eq, UInt8.le_iff_toNat_le, ← UInt8.toNat_inj]
  have e1 : (65 : UInt8).toNat = 65 := rfl
  have e2 : (90 : UInt8).toNat = 90 := rfl
  have e3 : (97 : UInt8).toNat = 97 := rfl
  have e4 : (122 : UInt8).toNat = 122 := rfl
  have e5 : (48 : UInt8).toNat = 48 := rfl
  have e6 : (57 : UInt8).toNat = 57 := rfl
  have e7 : (95 : UInt8).toNat = 95 := rfl
  have e8 : (58 : UInt8).toNat = 58 := rfl
  have e9 : (46 : UInt8).toNat = 46 := rfl
  have e0 : (45 : UInt8).toNat = 45 := rfl
  rw [e1, e2, e3, e4, e5, e6, e7, e8, e9, e0]
  omega

/-  A comparison, told one way or the other.  -/

set_option maxHeartbeats 1000000 in
set_option maxRecDepth 100000 in
theorem nameByte_c (b : UInt8) (w : World) : Calls Tryz.prog 80 #[.int .u8 b.toNat] w fun e w' => e = .returned (.bool (ascName b)) ∧ w = w' := by
  have hA := Lib.hid (ascName_iff b)
  obtain ⟨n, hn⟩ : ∃ n, n = b.toNat := ⟨_, rfl⟩
  rw [← hn] at hA ⊢
  have HN := Lib.hid hn
  clear hn
  have hsplit : n < 45 ∨ n = 45 ∨ n = 46 ∨ n = 47 ∨ (48 ≤ n ∧ n ≤ 57) ∨ n = 58 ∨ (59 ≤ n ∧ n ≤ 64) ∨ (65 ≤ n ∧ n ≤ 90) ∨ (91 ≤ n ∧ n ≤ 94) ∨ n = 95 ∨ n = 96 ∨ (97 ≤ n ∧ n ≤ 122) ∨ 123 ≤ n := by omega
  rcases hsplit with h | h | h | h | h | h | h | h | h | h | h | h | h
  all_goals
    have HH := Lib.hid h
    first | have : (65 : Int) ≤ (n : Int) := by omega | have : ¬ ((65 : Int) ≤ (n : Int)) := by omega
    first | have : (n : Int) ≤ 90 := by omega | have : ¬ ((n : Int) ≤ 90) := by omega
    first | have : (97 : Int) ≤ (n : Int) := by omega | have : ¬ ((97 : Int) ≤ (n : Int)) := by omega
    first | have : (n : Int) ≤ 122 := by omega | have : ¬ ((n : Int) ≤ 122) := by omega
    first | have : (48 : Int) ≤ (n : Int) := by omega | have : ¬ ((48 : Int) ≤ (n : Int)) := by omega
    first | have : (n : Int) ≤ 57 := by omega | have : ¬ ((n : Int) ≤ 57) := by omega
    first | have : (((n : Int)) == (95)) = true := by (simp; omega) | have : (((n : Int)) == (95)) = false := by (simp; omega)
    first | have : (((n : Int)) == (58)) = true := by (simp; omega) | have : (((n : Int)) == (58)) = false := by (simp; omega)
    first | have : (((n : Int)) == (46)) = true := by (simp; omega) | have : (((n : Int)) == (46)) = false := by (simp; omega)
    first | have : (((n : Int)) == (45)) = true := by (simp; omega) | have : (((n : Int)) == (45)) = false := by (simp; omega)
    clear h
    go_enter Tryz.func80, Tryz.ntmps80
    go_wp2
    go_ret
    refine ⟨?_, rfl⟩
    have := HH.out
    first
      | (rw [show ascName b = true from hA.out.2 (by omega)]; rfl)
      | (rw [show ascName b = false from by
          rw [← Bool.not_eq_true]; intro hh
          have := hA.out.1 hh; omega]; rfl)

theorem nameByte_hi {b : UInt8} (h : (128 : Int) ≤ (b.toNat : Int)) : nameByte b = true := by
  have h1 : (128 : UInt8).toNat = 128 := rfl
  simp only [nameByte, Bool.or_eq_true, decide_eq_true_eq, UInt8.le_iff_toNat_le, h1]
  exact Or.inl (by omega)
theorem nameByte_lo {b : UInt8} (h : (b.toNat : Int) < 128) : nameByte b = ascName b := by
  have h1 : (128 : UInt8).toNat = 128 := rfl
  have : ¬ (128 ≤ b) := by rw [UInt8.le_iff_toNat_le, h1]; omega
  simp [nameByte, this]
/-- What reading a name leaves. -/
structure NmErr (x : Cx) (c : DC) (w : World) (v : DV) (w' : World) : Prop where
  ex : ∃ v', ErrS x c w' v' (mustE x.o.fails) ∧ Stp x w v w' v'
theorem Stp.s0 {x : Cx} {w w1 w' : World} {v v1 v' : DV} (h : Stp x w v w1 v1) (hm : Mod x.S0 w1 w') (hb : v'.bufv = v1.bufv) : Stp x w v w' v' := h.trans (hm.stp hb)
theorem Mod.s0of {x : Cx} {a b : World} {S : Nat → Prop} (h : Mod S a b) (hs : ∀ k, S k → x.S0 k) : Mod x.S0 a b := h.mono (fun i _ hi => hs i hi)

set_option maxHeartbeats 2000000 in
set_option maxRecDepth 100000 in
/-- A name is read, up to the byte that ends it, which is put back. -/
theorem readName_c (x : Cx) (hx : x.Ok) (c : DC) (hdc : DcOk x c) (w : World) (v : DV) (rest : Bs) (e : Option EK) (buf : Bs) (h : RdS x c w v rest e buf) (hlim : buf.length ≤ 10000000000000) :
    Calls Tryz.prog 61 #[.pointer (some ⟨x.d, 0, none⟩)] w fun en w' => ∃ v', Stp x w v w' v' ∧
      (((spanName rest).2 = [] ∧ en = .returned (.bool false) ∧ ErrS x c w' v' (mustE x.o.fails)) ∨
       ((spanName rest).2 ≠ [] ∧ (spanName rest).1 = [] ∧ en = .returned (.bool false) ∧ RdS x c w' v' rest none buf) ∨
       ((spanName rest).2 ≠ [] ∧ (spanName rest).1 ≠ [] ∧ en = .returned (.bool true) ∧ RdS x c w' v' (spanName rest).2 none (buf ++ (spanName rest).1))) := by
  have HX := Lib.hid hx
  have HD := Lib.hid hdc
  have H := Lib.hid h
  have hll : rest.length ≤ 1000000000 := Nat.le_trans (h.suf.length_le) hx.len
  clear h hx hdc
  cases rest with
  | nil =>
    have hcon := Lib.hid (mustgetc_none x HX.out c HD.out w v e buf H.out)
    go_enter Tryz.func61, Tryz.ntmps61
    go_wp2_with fail
    refine hcon.out.mono ?_
    rintro e1 w1 ⟨rfl, hq⟩
    have HQ := Lib.hid hq
    clear hq
    go_wp2
    go_ret
    obtain ⟨v1, h1, hb1, hm1⟩ := HQ.out
    exact ⟨v1, hm1.stp hb1, Or.inl ⟨rfl, rfl, h1⟩⟩
  | cons b r =>
    have hcon := Lib.hid (mustgetc_some x HX.out c HD.out w v b r e buf H.out)
    have HSUF := Lib.hid H.out.suf
    have hnb := Lib.hid (nameByte_c b)
    by_cases hnm : nameByte b = true
    · have hcase : ((128 : Int) ≤ (b.toNat : Int)) ∨ ((b.toNat : Int) < 128 ∧ ascName b = true) := by
        rcases Int.lt_or_le (b.toNat : Int) 128 with h | h
        · exact Or.inr ⟨h, by rw [← nameByte_lo h]; exact hnm⟩
        · exact Or.inl h
      have HSP1 := Lib.hid (show (spanName (b :: r)).1 = b :: (spanName r).1 by simp [spanName, hnm])
      have HSP2 := Lib.hid (show (spanName (b :: r)).2 = (spanName r).2 by simp [spanName, hnm])
      clear hnm
      have hnn : r.length ≤ 1000000000 := by simp at hll; omega
      have HLL := Lib.hid hnn
      have HLIM := Lib.hid hlim
      clear hll hlim hnn
      rcases hcase with hhi | ⟨hlo, hasc⟩
      all_goals
        go_enter Tryz.func61, Tryz.ntmps61
        go_wp2_with fail
        refine hcon.out.mono ?_
        rintro e1 w1 ⟨rfl, v1, h1, hn1, hb1, hm1, hz1⟩
        have hwb := Lib.hid (writeByte_c x HX.out c w1 v1 r none buf h1 b (by have := HLIM.out; omega))
        have HB1 := Lib.hid hb1
        have HM1 := Lib.hid hm1
        clear h1 hb1 hm1 hz1 hn1 hcon
        go_wp2_with fail
        try
          refine (hnb.out _).mono ?_
          rintro e2 w2 ⟨rfl, rfl⟩
          go_wp2_with fail
        refine hwb.out.mono ?_
        rintro e3 w3 ⟨rfl, v3, h3, hn3, hs3⟩
        have HS3 := Lib.hid ((HM1.out.stp HB1.out).trans hs3)
        have H3 := Lib.hid h3
        clear h3 hn3 hs3 hwb HB1 HM1
        go_wp2
        go_loopg [2, 3] r.length (fun k _ _ wr => ∃ v4 r4 pre, r4.length = k ∧ Stp x w v wr v4 ∧ RdS x c wr v4 r4 none (buf ++ pre) ∧ pre.length + r4.length = r.length + 1 ∧ (spanName (b :: r)).1 = pre ++ (spanName r4).1 ∧ (spanName (b :: r)).2 = (spanName r4).2)
        case atStart => exact ⟨v3, r, [b], rfl, HS3.out, H3.out, by simp; omega, HSP1.out, HSP2.out⟩
        case round =>
          obtain ⟨v4, r4, pre, hk, hs4, h4, hpl, hp1, hp2⟩ := hrel
          have HK := Lib.hid hk
          have HS4 := Lib.hid hs4
          have HPL := Lib.hid hpl
          have HP1 := Lib.hid hp1
          have HP2 := Lib.hid hp2
          have H4 := Lib.hid h4
          clear hk hs4 hpl hp1 hp2 h4
          cases r4 with
          | nil =>
            have hcon := Lib.hid (mustgetc_none x HX.out c HD.out wr v4 none _ H4.out)
            go_wp2_with fail
            refine hcon.out.mono ?_
            rintro e1 w1 ⟨rfl, hq⟩
            have HQ := Lib.hid hq
            clear hq
            go_wp2
            (try simp only [Exit.inBlock, Exit.then])
            go_ret
            obtain ⟨v5, h5, hb5, hm5⟩ := HQ.out
            exact ⟨v5, HS4.out.s0 hm5 hb5, Or.inl ⟨HP2.out, rfl, h5⟩⟩
          | cons b4 r5 =>
            have hcon := Lib.hid (mustgetc_some x HX.out c HD.out wr v4 b4 r5 none _ H4.out)
            have HSUF := Lib.hid H4.out.suf
            have hnb4 := Lib.hid (nameByte_c b4)
            by_cases hnm : nameByte b4 = true
            · have hcase : ((128 : Int) ≤ (b4.toNat : Int)) ∨ ((b4.toNat : Int) < 128 ∧ ascName b4 = true) := by
                rcases Int.lt_or_le (b4.toNat : Int) 128 with h | h
                · exact Or.inr ⟨h, by rw [← nameByte_lo h]; exact hnm⟩
                · exact Or.inl h
              have HSQ1 := Lib.hid (show (spanName (b4 :: r5)).1 = b4 :: (spanName r5).1 by simp [spanName, hnm])
              have HSQ2 := Lib.hid (show (spanName (b4 :: r5)).2 = (spanName r5).2 by simp [spanName, hnm])
              clear hnm
              rcases hcase with hhi4 | ⟨hlo4, hasc4⟩
              all_goals
                go_wp2_with fail
                refine hcon.out.mono ?_
                rintro e1 w1 ⟨rfl, v5, h5, hn5, hb5, hm5, hz5⟩
                have hwb := Lib.hid (writeByte_c x HX.out c w1 v5 r5 none _ h5 b4 (by
                  have h1 := HLIM.out
                  have h2 := HPL.out
                  have h3 := HLL.out
                  simp at h2 ⊢; omega))
                have HB5 := Lib.hid hb5
                have HM5 := Lib.hid hm5
                clear h5 hb5 hm5 hz5 hn5 hcon
                go_wp2_with fail
                try
                  refine (hnb4.out _).mono ?_
                  rintro e2 w2 ⟨rfl, rfl⟩
                  go_wp2_with fail
                refine hwb.out.mono ?_
                rintro e3 w3 ⟨rfl, v6, h6, hn6, hs6⟩
                have HS6 := Lib.hid ((HS4.out.s0 HM5.out HB5.out).trans hs6)
                have H6 := Lib.hid h6
                clear h6 hn6 hs6 hwb HB5 HM5
                go_wp2
                go_roundg r5.length
                case measure => have := HK.out; simp at this; omega
                case rel => exact ⟨v6, r5, pre ++ [b4], rfl, HS6.out, by rw [← List.append_assoc]; exact H6.out, by have := HPL.out; simp at this ⊢; omega, by rw [HP1.out, HSQ1.out]; simp, by rw [HP2.out, HSQ2.out]⟩
            · have hlo4 : (b4.toNat : Int) < 128 := by
                rcases Int.lt_or_le (b4.toNat : Int) 128 with h | h
                · exact h
                · exact absurd (nameByte_hi h) hnm
              have hasc4 : ascName b4 = false := by rw [← nameByte_lo hlo4]; simpa using hnm
              have HSQ := Lib.hid (show spanName (b4 :: r5) = ([], b4 :: r5) by simp [spanName, hnm])
              clear hnm
              go_wp2_with fail
              refine hcon.out.mono ?_
              rintro e1 w1 ⟨rfl, v5, h5, hn5, hb5, hm5, hz5⟩
              have hun := Lib.hid (ungetc_c x HX.out c w1 v5 b4 r5 _ h5 hn5 HSUF.out)
              have HB5 := Lib.hid hb5
              have HM5 := Lib.hid hm5
              clear h5 hb5 hm5 hz5 hn5 hcon
              go_wp2_with fail
              refine (hnb4.out _).mono ?_
              rintro e2 w2 ⟨rfl, rfl⟩
              go_wp2_with fail
              refine hun.out.mono ?_
              rintro e3 w3 ⟨rfl, hq⟩
              have HQ := Lib.hid hq
              clear hq hun
              go_wp2
              (try simp only [Exit.inBlock, Exit.then])
              go_ret
              obtain ⟨v6, h6, hn6, hb6, hm6, hz6⟩ := HQ.out
              have hsp2 : (spanName (b :: r)).2 = b4 :: r5 := by rw [HP2.out, HSQ.out]
              have hsp1 : (spanName (b :: r)).1 = pre := by rw [HP1.out, HSQ.out]; simp
              refine ⟨v6, (HS4.out.s0 HM5.out HB5.out).s0 hm6 hb6, Or.inr (Or.inr ⟨by rw [hsp2]; simp, by rw [HSP1.out]; simp, rfl, ?_⟩)⟩
              rw [hsp2, hsp1]; exact h6
    · have hlo : (b.toNat : Int) < 128 := by
        rcases Int.lt_or_le (b.toNat : Int) 128 with h | h
        · exact h
        · exact absurd (nameByte_hi h) hnm
      have hasc : ascName b = false := by rw [← nameByte_lo hlo]; simpa using hnm
      have HSP := Lib.hid (show spanName (b :: r) = ([], b :: r) by simp [spanName, hnm])
      clear hnm
      go_enter Tryz.func61, Tryz.ntmps61
      go_wp2_with fail
      refine hcon.out.mono ?_
      rintro e1 w1 ⟨rfl, v1, h1, hn1, hb1, hm1, hz1⟩
      have hun := Lib.hid (ungetc_c x HX.out c w1 v1 b r buf h1 hn1 HSUF.out)
      have HB1 := Lib.hid hb1
      have HM1 := Lib.hid hm1
      clear h1 hb1 hm1 hz1 hn1 hcon
      go_wp2_with fail
      refine (hnb.out _).mono ?_
      rintro e2 w2 ⟨rfl, rfl⟩
      go_wp2_with fail
      refine hun.out.mono ?_
      rintro e3 w3 ⟨rfl, hq⟩
      have HQ := Lib.hid hq
      clear hq hun
      go_wp2
      go_ret
      obtain ⟨v3, h3, hn3, hb3, hm3, hz3⟩ := HQ.out
      exact ⟨v3, (HM1.out.stp HB1.out).s0 hm3 hb3, Or.inr (Or.inl ⟨by rw [HSP.out]; simp, by rw [HSP.out], rfl, h3⟩)⟩
end Go.Proofs.YtkjnockljapnbaaGreatDoor
