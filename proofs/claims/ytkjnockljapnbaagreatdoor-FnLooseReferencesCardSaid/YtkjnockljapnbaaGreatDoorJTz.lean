/- Part of the proof that laws.FnLooseReferences returns true for every text (the claim of laws.FnLooseReferences: Tz). No condition of its own. -/
import Derived.Test.YtkjnockljapnbaaGreatDoorJTy
set_option linter.all false
/- text, whole. -/
namespace Go.Proofs.YtkjnockljapnbaaGreatDoor
open Go Go.RowKit

theorem decN_le (n b0 b1 b2 b3 : Nat) (hn : 1 ≤ n) : (Lib.decodeN n b0 b1 b2 b3).2 ≤ n := by
  unfold Lib.decodeN
  repeat' split
  all_goals (simp only; omega)
theorem decL_wid (l : Bs) (h : l ≠ []) : (decL l).2 ≤ l.length := by
  have hs : (⟨l.toArray⟩ : ByteArray).size = l.length := rfl
  have hn : 0 < l.length := List.length_pos_iff.2 h
  unfold decL Lib.decodeGoB
  rw [hs, if_neg (by omega), Lib.decode_at]
  exact decN_le _ _ _ _ _ (by rw [hs]; omega)
/-- What a round needs that goes on. -/
def Brk (b0 b1 : UInt8) (buf : Bs) : Prop := (b1 = 93 → 1 ≤ buf.length) ∧ (b0 = 93 ∧ b1 = 93 → 2 ≤ buf.length)
theorem txNext_on {o : Opt} (ho : o.ents = none) {q : Option UInt8} {cd : Bool} {rest : Bs} {b0 b1 : UInt8} {buf r' : Bs} {b0' b1' : UInt8} {buf' : Bs} (h : txNext o q cd rest b0 b1 buf = .on r' b0' b1' buf') (hb : Brk b0 b1 buf) :
    r'.length < rest.length ∧ buf'.length + 8 * r'.length ≤ buf.length + 8 * rest.length ∧ Brk b0' b1' buf' := by
  unfold txNext at h
  split at h
  · split at h <;> cases h
  · rename_i b r
    split at h
    · split at h <;> cases h
    · split at h
      · split at h <;> cases h
      · split at h
        · cases h
        · split at h
          · split at h
            · cases h
            · rename_i r2 b2 hr
              simp only [TxRes.on.injEq] at h
              obtain ⟨rfl, rfl, rfl, rfl⟩ := h
              have hz : Brk 0 0 b2 := ⟨fun h => absurd h (by decide), fun h => absurd h.1 (by decide)⟩
              unfold refStep at hr
              rw [ho] at hr
              split at hr
              · cases hr
              · rename_i raw t r3 hh
                simp only [Except.ok.injEq, Prod.mk.injEq] at hr
                obtain ⟨rfl, rfl⟩ := hr
                have h1 := refL_len hh
                have h2 := refL_t hh
                simp
                exact ⟨by omega, by omega, hz⟩
              · rename_i raw r3 hh
                split at hr
                · cases hr
                · simp only [Except.ok.injEq, Prod.mk.injEq] at hr
                  obtain ⟨rfl, rfl⟩ := hr
                  have h1 := refL_len hh
                  have h2 := refL_rawlen hh
                  simp
                  exact ⟨by omega, by omega, hz⟩
          · simp only [TxRes.on.injEq] at h
            obtain ⟨rfl, rfl, rfl, rfl⟩ := h
            unfold txStep
            obtain ⟨ha, hb2⟩ := hb
            refine ⟨by simp, ?_, ?_, ?_⟩
            · split
              · simp; omega
              · split <;> simp <;> omega
            · intro h93
              subst h93
              rw [if_neg (by decide), if_neg (by rintro ⟨_, h⟩; revert h; decide)]
              simp
            · rintro ⟨h93, h94⟩
              subst h94
              rw [if_neg (by decide), if_neg (by rintro ⟨_, h⟩; revert h; decide)]
              have := ha h93
              simp; omega
theorem txNext_stop {o : Opt} {q : Option UInt8} {cd : Bool} {rest : Bs} {b0 b1 : UInt8} {buf r' : Bs} {n : Nat} {e' : Option EK} {buf' : Bs} (h : txNext o q cd rest b0 b1 buf = .stop n r' e' buf') (hb : Brk b0 b1 buf) :
    n ≤ buf'.length ∧ buf' = buf ∧ (q = none → cd = false → r' = [] → e' = some (endE o.fails)) ∧ ((b0 = 0 ∧ b1 = 0) → q = none → cd = false ∧ (rest = [] ∨ ∃ r, rest = 60 :: r)) := by
  unfold txNext at h
  split at h
  · split at h
    · cases h
    · simp only [TxRes.stop.injEq] at h
      obtain ⟨rfl, rfl, rfl, rfl⟩ := h
      rename_i hcd
      exact ⟨Nat.zero_le _, rfl, fun _ _ _ => rfl, fun _ _ => ⟨by simpa using hcd, Or.inl rfl⟩⟩
  · rename_i b r
    split at h
    · rename_i hk
      split at h
      · simp only [TxRes.stop.injEq] at h
        obtain ⟨rfl, rfl, rfl, rfl⟩ := h
        rename_i hcd
        refine ⟨hb.2 ⟨hk.2.1, hk.2.2.1⟩, rfl, (fun _ hc => by rw [hcd] at hc; cases hc), fun hz => ?_⟩
        rw [hz.1] at hk
        exact absurd hk.2.1 (by decide)
      · cases h
    · split at h
      · rename_i hk
        split at h
        · simp only [TxRes.stop.injEq] at h
          obtain ⟨rfl, rfl, rfl, rfl⟩ := h
          exact ⟨Nat.zero_le _, rfl, (fun _ _ h => by cases h), fun _ _ => ⟨hk.2, Or.inr ⟨r, by rw [hk.1]⟩⟩⟩
        · cases h
      · split at h
        · rename_i hk
          simp only [TxRes.stop.injEq] at h
          obtain ⟨rfl, rfl, rfl, rfl⟩ := h
          exact ⟨Nat.zero_le _, rfl, (fun hq => by rw [hq] at hk; cases hk), (fun _ hq => by rw [hq] at hk; cases hk)⟩
        · split at h
          · split at h <;> cases h
          · cases h
end Go.Proofs.YtkjnockljapnbaaGreatDoor
