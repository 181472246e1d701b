/- Part of the proof that laws.FnPieces returns true for every argument (Vf, Vg, Wj). No condition of its own. -/
import Derived.Test.YtkjnockljapnbaaGreatDoorJ29
import Derived.LoopN
import Derived.Maps.AppendAt
import Derived.Test.YtkjnockljapnbaaGreatDoorJ25
set_option linter.all false
namespace Go.Proofs.YtkjnockljapnbaaGreatDoor
open Go Go.RowKit
structure Env (w : World) : Prop where
  eof : ∃ a : Addr, w.cell? ⟨0, 0, none⟩ = some (errV a) ∧ a.block < w.heap.size
  gB : 0 < w.heap.size
  u8 : Lib.Utf8Tabs 6 7 w
  num : NumErrs w
  numS : 8 < w.heap.size
  numR : 9 < w.heap.size
theorem Env.below {w w' : World} (h : Env w) (hb : Below w.heap.size w w') : Env w' := by
  obtain ⟨a, ha, hl⟩ := h.eof
  exact ⟨⟨a, by rw [hb.cell (p := ⟨_, 0, none⟩) h.gB]; exact ha, Nat.lt_of_lt_of_le hl hb.size⟩, Nat.lt_of_lt_of_le h.gB hb.size, Utf8Tabs_below h.u8 hb, h.num.below h.numS h.numR hb, Nat.lt_of_lt_of_le h.numS hb.size, Nat.lt_of_lt_of_le h.numR hb.size⟩
structure PcOk (w : World) (pcA : Option Addr) (pcN pcC : Nat) (pcs : List Int) : Prop where
  n : pcN ≤ 9223372036854775807
  l : pcN ≤ pcC
  at' : 0 < pcN → ∃ pb po : Nat, pcA = some ⟨pb, po, none⟩ ∧ pb < w.heap.size ∧ ∀ j, j < pcN → w.cell? ⟨pb, po + j, none⟩ = some (.int .i64 (pcs.getD j 0))
def mkCx (w : World) (T : Bs) (o : Opt) (eofA : Addr) (pcA : Option Addr) (pcN pcC : Nat) (pcs : List Int) : Cx := ⟨w, T, o, w.heap.size + 4, w.heap.size + 5, w.heap.size + 6, w.heap.size + 1, eofA, pcA, pcN, pcC, pcs⟩
theorem mkCx_all {w : World} (hE : Env w) {T : Bs} (hT : T.length ≤ 1000000000) (o : Opt) {eofA : Addr} (he : w.cell? ⟨0, 0, none⟩ = some (errV eofA)) (hl : eofA.block < w.heap.size) {pcA : Option Addr} {pcN pcC : Nat} {pcs : List Int} (hp : PcOk w pcA pcN pcC pcs) : (mkCx w T o eofA pcA pcN pcC pcs).All := by
  refine ⟨⟨⟨hT, ?_, ?_, ?_, ?_, ?_, ?_, ?_, ?_, ?_, ?_, he, hl, hE.gB, hp.n, hp.l, hp.at'⟩, hE.u8⟩, hE.num, hE.numS, hE.numR⟩
  all_goals (simp only [mkCx, Cx.B]; omega)
theorem rdS0 {w w1 : World} {T : Bs} (hT : T.length ≤ 1000000000) {o : Opt} {eofA : Addr} {pcA : Option Addr} {pcN pcC : Nat} {pcs : List Int} {c : DC} (x : Cx) (hx : x = mkCx w T o eofA pcA pcN pcC pcs) (hb : Below w.heap.size w w1) (hd : DecAt w1 x.d c v0)
    (hbr : Blk w1 x.br (bioC x 0 0 .nilIface (-1)) 216) (hrb : ∃ arr : Array Value, arr.size = 4096 ∧ Blk w1 x.rb arr 5) (hrd : Blk w1 x.rd (rdC x ⟨T.toArray⟩ 0) 52) : RdS x c w1 v0 T none [] := by
  obtain ⟨arr, ha, hr⟩ := hrb
  have hs : (⟨T.toArray⟩ : ByteArray).size = T.length := rfl
  refine ⟨by rw [hx]; exact hb, hd, ⟨T, ⟨0, 0, 0, -1, arr, ⟨T.toArray⟩, [], hbr, hr, ha, hrd, Nat.le_refl _, by omega, rfl, fun j hj => absurd hj (by simp), by simp, by rw [hs]; omega⟩, Or.inl ⟨rfl, rfl⟩⟩, ⟨[], by rw [hx]; rfl, rfl, rfl, fun _ => rfl, fun hh => absurd hh (by decide)⟩, rfl, Or.inl rfl, Or.inl ⟨rfl, rfl⟩⟩
end Go.Proofs.YtkjnockljapnbaaGreatDoor
namespace Go.Proofs.YtkjnockljapnbaaGreatDoor
open Go Go.RowKit
theorem PosAt.col {x : Cx} {v : DV} {rest : Bs} (hx : x.Ok) (h : PosAt x v rest) (hn : v.nb ≠ 10) : -1000000000000 ≤ v.off - v.lstart ∧ v.off - v.lstart ≤ 1000000000000 := by
  obtain ⟨pre, hT, ho, _, hs, _⟩ := h
  have h1 := hs hn
  have h2 := colOf_le pre
  have h3 : pre.length ≤ x.T.length := by rw [hT]; simp
  have h4 := hx.len
  omega
theorem BufAt.part {x : Cx} {w : World} {v : Value} {b d : Bs} {g cap : Nat} (h : BufAt x w v b) (hv : v = .slice (some ⟨g, 0, none⟩) b.length cap) (hd : d = b.take d.length) (hl : d.length ≤ b.length) : BytesAt w g 0 d ∧ g < w.heap.size := by
  rcases h with ⟨h1, _⟩ | ⟨g', cap', arr, h1, hg, _, _, _, _, _, hel⟩
  · rw [h1] at hv; cases hv
  · rw [h1] at hv
    simp only [Value.slice.injEq, Option.some.injEq, Addr.mk.injEq] at hv
    obtain ⟨⟨rfl, _⟩, _⟩ := hv
    refine ⟨fun j hj => ?_, hg.lt⟩
    rw [Nat.zero_add, hg.cell, hel j (by omega)]
    have : d.getD j 0 = b.getD j 0 := by
      rw [hd]
      simp only [List.getD_eq_getElem?_getD, List.getElem?_take]
      rw [if_pos hj]
    rw [this]
theorem tokInfo : (Tryz.prog.info? 33).map (fun i => (i.zero, i.size, i.bytes)) = some (some (tokV 0 [] [] (.slice none 0 0) [] 0 0 0), 8, 104) := by kernel_rfl
theorem wpList_app {P : Program} {ops : Array Oper} {rest : List Oper} {o : Oper} {a : Act} {w w' : World} {Q : Exit → Act → World → Prop} (hg : o.guard = none) (s x : Operand) (t u : TypeId) (ho : o.op = .call { callee := .builtin .append, args := #[s, x], argTypes := #[t, u] }) (vs vx v' : Value)
    (hs : a.eval s = vs) (hx : a.eval x = vx) (hrun : (Builtin.append_ #[t, u] o.type #[vs, vx]).run P w = .ok v' w') (h : wpList P ops Q rest (a.put o.dst v') w') : wpList P ops Q (o :: rest) a w := by
  refine wpList_plain hg fun K hK => ?_
  have h2 := hK _ _ h
  unfold Oper.wp
  simp only [execOp, ho, resolve, invoke, builtin]
  simp [hs, hx, hrun, Result.andThen]
  exact h2
def tokCells (kind : Int) (space loc : Bs) (attrs : Value) (text : Bs) (a l c : Int) : List Value := [.int .i64 kind, strV space, strV loc, attrs, strV text, .int .i64 a, .int .i64 l, .int .i64 c]
end Go.Proofs.YtkjnockljapnbaaGreatDoor
namespace Go.Proofs.YtkjnockljapnbaaGreatDoor
open Go Go.RowKit
theorem wp_stop0 {P : Program} {ops : Array Oper} {d : Bool} {Q : Exit → Act → World → Prop} {a : Act} {w : World} (n : Nat) (h : (Code.region n ops d).wp P Q a w) : (Code.region n ops d).wp P Q a w := h
theorem ownsRow_mod {w w' : World} {base : Nat} {e : TypeId} {size : Nat} {v : Value} {n : Nat} {xs : List Value} {S : Nat → Prop} (h : w.ownsRow base e size v n xs) (hm : Mod S w w') (hS : ∀ g, v.ownBlock = some g → ¬ S g) : w'.ownsRow base e size v n xs := by
  obtain ⟨h1, h2⟩ := h
  refine ⟨h1, ?_⟩
  rcases h2 with h2 | ⟨g, cap, cur, rfl, hb, hc, h3⟩
  · exact Or.inl h2
  · exact Or.inr ⟨g, cap, cur, rfl, hb, (show Blk w g cur e from hc).mod hm (hS g rfl), h3⟩
theorem atInfo : (Tryz.prog.info? 96).map (fun i => (i.zero, i.size, i.bytes)) = some (some (.agg #[.string ⟨#[]⟩, .string ⟨#[]⟩, .string ⟨#[]⟩]), 3, 48) := by kernel_rfl
theorem at_append (w3 : World) (base : Nat) (hb : base ≤ w3.heap.size) (v : Value) (acc : List At3) (hn : acc.length ≤ 1000000000) (h : w3.ownsRow base 96 3 v acc.length (atCells acc)) (a : At3) :
    ∃ v' w4, (Builtin.append_ #[92, 92] 92 #[v, .slice (some ⟨w3.heap.size, 0, none⟩) 1 1]).run Tryz.prog (w3.alloc (.cells #[strV a.1, strV a.2.1, strV a.2.2] 96)) = .ok v' w4 ∧
      w4.ownsRow base 96 3 v' (acc ++ [a]).length (atCells (acc ++ [a])) ∧ (w3.alloc (.cells #[strV a.1, strV a.2.1, strV a.2.2] 96)).grownBy w4 v.ownBlock ∧ v' ≠ .slice none 0 0 ∧ (v'.ownBlock = v.ownBlock ∨ v'.ownBlock = some (w3.heap.size + 1)) := by
  obtain ⟨i, hi, hz, h1, h2⟩ := info_parts atInfo
  obtain ⟨v', w4, hr, ho, hg, hnil, hown⟩ := run_append_own_at (P := Tryz.prog) (w3.alloc (.cells #[strV a.1, strV a.2.1, strV a.2.2] 96)) base 92 92 96 i _ 3 48 Tryz.underlying92 hi hz h1 h2 rfl (by omega) v acc.length (atCells acc) (h.alloc _) ⟨w3.heap.size, 0, none⟩ 1 1 [strV a.1, strV a.2.1, strV a.2.2] rfl
    (by
      intro j u hj
      have hb := Blk.new w3 #[strV a.1, strV a.2.1, strV a.2.2] 96
      rw [show ((⟨w3.heap.size, 0, none⟩ : Addr).add j) = ⟨w3.heap.size, j, none⟩ by cases j <;> simp [Addr.add], hb.cell]
      simpa using hj)
    (by
      intro u hu
      simp only [List.mem_cons, List.not_mem_nil, or_false] at hu
      rcases hu with rfl | rfl | rfl <;> rfl)
    (by unfold maxLen; omega) (by omega) (by simp; omega)
  refine ⟨v', w4, hr, ?_, hg, fun hh => by have := (hnil.1 hh).2; omega, by simpa using hown⟩
  have e1 : atCells (acc ++ [a]) = atCells acc ++ [strV a.1, strV a.2.1, strV a.2.2] := by simp [atCells]
  rw [e1, List.length_append]
  exact ho
structure Keep (x : Cx) (w0 : World) (w : World) (v : DV) (nb : Nat) (nm : Bs × Bs) (av : Value) (acc : List At3) : Prop where
  name : Blk w nb #[strV nm.1, strV nm.2] 82
  nbS : ¬ x.S1 v nb
  nbB : w0.heap.size ≤ nb
  row : w.ownsRow w0.heap.size 96 3 av acc.length (atCells acc)
  rowS : ∀ g, av.ownBlock = some g → ¬ x.S1 v g ∧ g ≠ nb
  ne : av ≠ .slice none 0 0
theorem ownsRow_lt {w : World} {base : Nat} {e : TypeId} {size : Nat} {v : Value} {n : Nat} {xs : List Value} (h : w.ownsRow base e size v n xs) {g : Nat} (hg : v.ownBlock = some g) : g < w.heap.size ∧ base ≤ g := by
  obtain ⟨_, h2⟩ := h
  rcases h2 with ⟨rfl, _⟩ | ⟨g', cap, cur, rfl, hb, hc, _⟩
  · cases hg
  · have : g' = g := by simpa [Value.ownBlock] using hg
    subst this
    exact ⟨Blk.lt (w := w) (b := g') (cs := cur) (t := e) hc, hb⟩
theorem Keep.step {x : Cx} {w0 w w' : World} {v v' : DV} {nb : Nat} {nm : Bs × Bs} {av : Value} {acc : List At3} (h : Keep x w0 w v nb nm av acc) (hs : Stp x w v w' v') : Keep x w0 w' v' nb nm av acc :=
  ⟨h.name.mod hs.mod h.nbS, hs.notS1 h.nbS h.name.lt, h.nbB, ownsRow_mod h.row hs.mod (fun g hg => (h.rowS g hg).1), fun g hg => ⟨hs.notS1 (h.rowS g hg).1 (ownsRow_lt h.row hg).1, (h.rowS g hg).2⟩, h.ne⟩
theorem Keep.other {x : Cx} {w0 w w' : World} {v : DV} {nb : Nat} {nm : Bs × Bs} {av : Value} {acc : List At3} (h : Keep x w0 w v nb nm av acc) {q : Nat} (hm : Mod (fun k => k = q) w w') (h1 : nb ≠ q) (h2 : av.ownBlock ≠ some q) : Keep x w0 w' v nb nm av acc :=
  ⟨h.name.mod hm h1, h.nbS, h.nbB, ownsRow_mod h.row hm (fun g hg he => h2 (he ▸ hg)), h.rowS, h.ne⟩
theorem Keep.below {x : Cx} {w0 w w' : World} {v : DV} {nb : Nat} {nm : Bs × Bs} {av : Value} {acc : List At3} (h : Keep x w0 w v nb nm av acc) (hb : Below w.heap.size w w') : Keep x w0 w' v nb nm av acc :=
  ⟨h.name.mod (S := fun _ => False) (mod_none hb _) id, h.nbS, h.nbB, ownsRow_mod (S := fun _ => False) h.row (mod_none hb _) (fun _ _ => id), h.rowS, h.ne⟩
set_option maxHeartbeats 8000000 in
set_option maxRecDepth 100000 in
theorem atAppend (x : Cx) (hx : x.All) (c : DC) (w0 : World) (w : World) (v : DV) (rest : Bs) (e : Option EK) (buf : Bs) (h : RdS x c w v rest e buf) (hw0 : w0.heap.size ≤ w.heap.size) (hB0 : x.B ≤ w0.heap.size) (nb : Nat) (nm : Bs × Bs) (av : Value) (acc : List At3) (hk : Keep x w0 w v nb nm av acc) (hn : acc.length ≤ 1000000000)
    (ab : Nat) (a : At3) (ha : Blk w ab #[strV a.1, strV a.2.1, strV a.2.2] 96) (p28 v29 : Value) (Q : Exit → Act → World → Prop)
    (hQ : ∀ f w' av', RdS x c w' v rest e buf → Mod (fun k => w0.heap.size ≤ k) w w' → Keep x w0 w' v nb nm av' (acc ++ [a]) → Q .normal (fr 731 f [(0, decP x), (28, p28), (29, v29), (30, av')]) w') (f : Nat → Value) :
    (rwCode 197).wp Tryz.prog Q (fr 731 f [(0, decP x), (28, p28), (29, v29), (30, av), (31, .pointer (some ⟨ab, 0, none⟩))]) w := by
  obtain ⟨av', w4, hrun, hown, hgr, hne, hob⟩ := at_append w w0.heap.size hw0 av acc hn hk.row a
  have hca := ha.cell
  have hfa := ha.frozen
  have HQ := Lib.hid hQ
  have HK := Lib.hid hk
  have H := Lib.hid h
  have HG := Lib.hid hgr
  have HO := Lib.hid hown
  have HX := Lib.hid hx
  clear hQ hk h hgr hown ha hx
  unfold rwCode
  conv => arg 2; whnf
  (repeat ((fail_if_success at_builtin); (first|(with_reducible first|refine zA fun K hK=>?_|refine zB ?_|refine zC ?_)|((with_reducible first|refine zD rfl fun K hK=>?_|refine zE fun K hK=>?_);go_simp)|(with_reducible first|((repeat ((fail_if_success refine hK _ _ ?_);clear hK K));refine hK _ _ ?_;clear hK K)|refine zT (by go_simp;first|done|omega) ?_|refine zF (by go_simp;first|done|omega) ?_|refine zG ?_|refine zR ?_|refine zK ?_|refine zL ?_|refine zN ?_|refine zS ?_)|simp only [Exit.then,Exit.inBlock,Exit.noGoto,↓reduceIte,Nat.reduceEqDiff]|simp only [undef,reduceCtorEq,↓reduceIte])))
  refine wpList_app rfl (.tmp 715) (.tmp 717) _ _ rfl _ _ _ (by rw [fr_eval (by decide)]; (try simp only [keep_cons, keep_nil, lk_cons, lk_nil, Nat.reduceEqDiff, ↓reduceIte]); (try rfl)) (by rw [fr_eval (by decide)]; (try simp only [keep_cons, keep_nil, lk_cons, lk_nil, Nat.reduceEqDiff, ↓reduceIte]); (try rfl)) hrun ?_
  clear hrun
  rw [fr_put (by decide)]
  (repeat (first|(with_reducible first|refine zA fun K hK=>?_|refine zB ?_|refine zC ?_)|((with_reducible first|refine zD rfl fun K hK=>?_|refine zE fun K hK=>?_);go_simp)|(with_reducible first|((repeat ((fail_if_success refine hK _ _ ?_);clear hK K));refine hK _ _ ?_;clear hK K)|refine zT (by go_simp;first|done|omega) ?_|refine zF (by go_simp;first|done|omega) ?_|refine zG ?_|refine zR ?_|refine zK ?_|refine zL ?_|refine zN ?_|refine zS ?_)|simp only [Exit.then,Exit.inBlock,Exit.noGoto,↓reduceIte,Nat.reduceEqDiff]|simp only [undef,reduceCtorEq,↓reduceIte]))
  refine Q_keep [0, 28, 29, 30] (fun f => ?_); simp only [keep_cons, keep_nil, lk_cons, lk_nil, Nat.reduceEqDiff, ↓reduceIte]
  have hal : Mod (fun _ => False) w (w.alloc (.cells #[strV a.1, strV a.2.1, strV a.2.2] 96)) := mod_none ((Below.refl _ w).alloc (Nat.le_refl _) _) _
  have hm : Mod (fun k => av.ownBlock = some k) w w4 := (hal.mono (fun _ _ h => h.elim)).trans (S' := fun k => av.ownBlock = some k) ⟨HG.out.os, HG.out.tape, HG.out.output, HG.out.size, fun k hk hn => HG.out.block k hk (fun he => hn he.symm)⟩ (fun i _ hi => hi)
  have hbg : ∀ k, av.ownBlock = some k → w0.heap.size ≤ k := fun k hk => (ownsRow_lt HK.out.row hk).2
  refine HQ.out f w4 av' (H.out.mod hm (fun k hk he => (HK.out.rowS k he).1 hk) (fun k hk => Nat.le_trans hB0 (hbg k hk))) (hm.mono (fun k _ hk => hbg k hk)) ⟨HK.out.name.mod hm (fun he => (HK.out.rowS nb he).2 rfl), HK.out.nbS, HK.out.nbB, HO.out, fun g hg => ?_, hne⟩
  rcases hob with hob | hob
  · exact HK.out.rowS g (hob ▸ hg)
  · rw [hob] at hg
    have hg' : w.heap.size + 1 = g := by simpa using hg
    exact ⟨fun hk => by have := H.out.s1lt g hk; omega, by have := HK.out.name.lt; omega⟩
end Go.Proofs.YtkjnockljapnbaaGreatDoor
