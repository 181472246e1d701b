/- Part of the proof that laws.FnLooseReferences returns true for every text (the claim of laws.FnLooseReferences: Vf). No condition of its own. -/
import Derived.Test.YtkjnockljapnbaaGreatDoorJVe
set_option linter.all false
/- The surroundings; the state as it begins; the error's number. -/
namespace Go.Proofs.YtkjnockljapnbaaGreatDoor
open Go Go.RowKit

/-- What the library's variables hold. -/
structure Env (w : World) : Prop where
  eof : ∃ a : Addr, w.cell? ⟨0, 0, none⟩ = some (errV a) ∧ a.block < w.heap.size
  gB : 0 < w.heap.size
  u8 : Lib.Utf8Tabs 6 7 w
  num : NumErrs w
  numS : 8 < w.heap.size
  numR : 9 < w.heap.size
theorem Env.below {w w' : World} (h : Env w) (hb : Below w.heap.size w w') : Env w' := by
  obtain ⟨a, ha, hl⟩ := h.eof
  exact ⟨⟨a, by rw [hb.cell (p := ⟨_, 0, none⟩) h.gB]; exact ha, Nat.lt_of_lt_of_le hl hb.size⟩, Nat.lt_of_lt_of_le h.gB hb.size, Utf8Tabs_below h.u8 hb, h.num.below h.numS h.numR hb, Nat.lt_of_lt_of_le h.numS hb.size, Nat.lt_of_lt_of_le h.numR hb.size⟩
/-- The pieces of a reader. -/
structure PcOk (w : World) (pcA : Option Addr) (pcN pcC : Nat) (pcs : List Int) : Prop where
  n : pcN ≤ 9223372036854775807
  l : pcN ≤ pcC
  at' : 0 < pcN → ∃ pb po : Nat, pcA = some ⟨pb, po, none⟩ ∧ pb < w.heap.size ∧ ∀ j, j < pcN → w.cell? ⟨pb, po + j, none⟩ = some (.int .i64 (pcs.getD j 0))
/-- The context of a call of Tokens. -/
def mkCx (w : World) (T : Bs) (o : Opt) (eofA : Addr) (pcA : Option Addr) (pcN pcC : Nat) (pcs : List Int) : Cx := ⟨w, T, o, w.heap.size + 4, w.heap.size + 5, w.heap.size + 6, w.heap.size + 1, eofA, pcA, pcN, pcC, pcs⟩
theorem mkCx_all {w : World} (hE : Env w) {T : Bs} (hT : T.length ≤ 1000000000) (o : Opt) {eofA : Addr} (he : w.cell? ⟨0, 0, none⟩ = some (errV eofA)) (hl : eofA.block < w.heap.size) {pcA : Option Addr} {pcN pcC : Nat} {pcs : List Int} (hp : PcOk w pcA pcN pcC pcs) : (mkCx w T o eofA pcA pcN pcC pcs).All := by
  refine ⟨⟨⟨hT, ?_, ?_, ?_, ?_, ?_, ?_, ?_, ?_, ?_, ?_, he, hl, hE.gB, hp.n, hp.l, hp.at'⟩, hE.u8⟩, hE.num, hE.numS, hE.numR⟩
  all_goals (simp only [mkCx, Cx.B]; omega)
theorem rdS0 {w w1 : World} {T : Bs} (hT : T.length ≤ 1000000000) {o : Opt} {eofA : Addr} {pcA : Option Addr} {pcN pcC : Nat} {pcs : List Int} {c : DC} (x : Cx) (hx : x = mkCx w T o eofA pcA pcN pcC pcs) (hb : Below w.heap.size w w1) (hd : DecAt w1 x.d c v0)
    (hbr : Blk w1 x.br (bioC x 0 0 .nilIface (-1)) 216) (hrb : ∃ arr : Array Value, arr.size = 4096 ∧ Blk w1 x.rb arr 5) (hrd : Blk w1 x.rd (rdC x ⟨T.toArray⟩ 0) 52) : RdS x c w1 v0 T none [] := by
  obtain ⟨arr, ha, hr⟩ := hrb
  have hs : (⟨T.toArray⟩ : ByteArray).size = T.length := rfl
  refine ⟨by rw [hx]; exact hb, hd, ⟨T, ⟨0, 0, 0, -1, arr, ⟨T.toArray⟩, [], hbr, hr, ha, hrd, Nat.le_refl _, by omega, rfl, fun j hj => absurd hj (by simp), by simp, by rw [hs]; omega⟩, Or.inl ⟨rfl, rfl⟩⟩, ⟨[], by rw [hx]; rfl, rfl, rfl, fun _ => rfl⟩, rfl, Or.inl rfl, Or.inl ⟨rfl, rfl⟩⟩
set_option maxHeartbeats 2000000 in
set_option maxRecDepth 100000 in
theorem codeEof (w : World) (a : Addr) (h : w.cell? ⟨0, 0, none⟩ = some (errV a)) (hg : 0 < w.heap.size) :
    Calls Tryz.prog 18 #[errV a] w fun e w' => e = .returned (.int .i64 0) ∧ Below w.heap.size w w' := by
  have q1 := fun a w => eql_eof a w
  have hc : (w.alloc (.cells #[.pointer none] 106)).cell? ⟨0, 0, none⟩ = some (errV a) := by
    rw [((Below.refl w.heap.size w).alloc (Nat.le_refl _) _).cell (p := ⟨_, 0, none⟩) hg]; exact h
  clear h hg
  refine calls_fr (vs := [_]) 21 Tryz.func18 rfl rfl (Nat.le_of_ble_eq_true rfl) fun f => ?_
  simp only [argSlots]
  (repeat (first | with_reducible refine wp_seq_k (fun K hK => ?_) | with_reducible refine wp_region_lit ?_ | with_reducible refine wpList_nil ?_ | ((with_reducible refine wpList_plain rfl (fun K hK => ?_)); go_simp) | ((with_reducible refine wpList_step (fun K hK => ?_)); go_simp) | (with_reducible ((first | refine hK _ _ ?_ | (clear hK K; refine hK _ _ ?_) | (clear hK K; clear hK K; refine hK _ _ ?_) | (clear hK K; clear hK K; clear hK K; refine hK _ _ ?_) | (clear hK K; clear hK K; clear hK K; clear hK K; refine hK _ _ ?_) | (clear hK K; clear hK K; clear hK K; clear hK K; clear hK K; refine hK _ _ ?_)); clear hK K)) | with_reducible refine wp_cond_true (by first | (go_simp; done) | (go_simp; omega)) ?_ | with_reducible refine wp_cond_false (by first | (go_simp; done) | (go_simp; omega)) ?_ | with_reducible refine wp_exit ?_ | with_reducible refine wp_ret ?_ | with_reducible refine wp_block ?_ | with_reducible refine wp_label ?_ | with_reducible refine wp_skip ?_ | with_reducible refine wp_scope_straight ?_ | simp only [Exit.then, Exit.inBlock, Exit.noGoto, ↓reduceIte, Nat.reduceEqDiff] | simp only [undef, reduceCtorEq, ↓reduceIte]))
  (refine fr_out1 rfl (by decide) (by simp only [lk_cons, lk_nil, Nat.reduceEqDiff, ↓reduceIte]; rfl) ?_)
  exact ⟨rfl, (Below.refl _ w).alloc (Nat.le_refl _) _⟩
end Go.Proofs.YtkjnockljapnbaaGreatDoor
