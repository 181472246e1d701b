/- Part of the proof that laws.FnPieces returns true for every argument (Kb, Kc, Kd). No condition of its own. -/
import Derived.Test.YtkjnockljapnbaaGreatDoorJ46
import Derived.Test.YtkjnockljapnbaaGreatDoorJ02
set_option linter.all false
namespace Go.Proofs.YtkjnockljapnbaaGreatDoor
open Go Go.RowKit
noncomputable def plCode (n : Nat) : Code := ((Tryz.f11.body).bind (Code.partAt n)).getD .skip
theorem spaInfo : (Tryz.prog.info? 62).map (fun i => (i.zero, i.size, i.bytes)) = some (some (.agg #[.string ⟨#[]⟩, .string ⟨#[]⟩, .string ⟨#[]⟩]), 3, 48) := by kernel_rfl
theorem spa_append (w3 : World) (base : Nat) (hb : base ≤ w3.heap.size) (v : Value) (acc : List At3) (hn : acc.length ≤ 1000000000) (h : w3.ownsRow base 62 3 v acc.length (atCells acc)) (a : At3) :
    ∃ v' w4, (Builtin.append_ #[38, 38] 38 #[v, .slice (some ⟨w3.heap.size, 0, none⟩) 1 1]).run Tryz.prog (w3.alloc (.cells #[strV a.1, strV a.2.1, strV a.2.2] 62)) = .ok v' w4 ∧
      w4.ownsRow base 62 3 v' (acc ++ [a]).length (atCells (acc ++ [a])) ∧ (w3.alloc (.cells #[strV a.1, strV a.2.1, strV a.2.2] 62)).grownBy w4 v.ownBlock ∧ (v'.ownBlock = v.ownBlock ∨ v'.ownBlock = some (w3.heap.size + 1)) := by
  obtain ⟨i, hi, hz, h1, h2⟩ := info_parts spaInfo
  obtain ⟨v', w4, hr, ho, hg, hnil, hown⟩ := run_append_own_at (P := Tryz.prog) (w3.alloc (.cells #[strV a.1, strV a.2.1, strV a.2.2] 62)) base 38 38 62 i _ 3 48 Tryz.underlying38 hi hz h1 h2 rfl (by omega) v acc.length (atCells acc) (h.alloc _) ⟨w3.heap.size, 0, none⟩ 1 1 [strV a.1, strV a.2.1, strV a.2.2] rfl
    (by
      intro j u hj
      have hb := Blk.new w3 #[strV a.1, strV a.2.1, strV a.2.2] 62
      rw [show ((⟨w3.heap.size, 0, none⟩ : Addr).add j) = ⟨w3.heap.size, j, none⟩ by cases j <;> simp [Addr.add], hb.cell]
      simpa using hj)
    (by
      intro u hu
      simp only [List.mem_cons, List.not_mem_nil, or_false] at hu
      rcases hu with rfl | rfl | rfl <;> rfl)
    (by unfold maxLen; omega) (by omega) (by simp; omega)
  refine ⟨v', w4, hr, ?_, hg, by simpa using hown⟩
  have e1 : atCells (acc ++ [a]) = atCells acc ++ [strV a.1, strV a.2.1, strV a.2.2] := by simp [atCells]
  rw [e1, List.length_append]
  exact ho
def PlInv (w1 : World) (o3 p5 v9 v10 v11 : Value) (sv : Value) (ats : List At3) (k : Nat) (a : Act) (w : World) : Prop :=
  ∃ f j av, a = fr 50 f [(3, o3), (5, p5), (6, av), (9, v9), (10, v10), (11, v11), (16, sv), (17, .int .i64 ats.length), (18, .int .i64 (j : Nat))] ∧ Below w1.heap.size w1 w ∧ w.ownsRow w1.heap.size 62 3 av (ats.take j).length (atCells (ats.take j)) ∧ k = ats.length - j ∧ j ≤ ats.length
set_option maxHeartbeats 8000000 in
set_option maxRecDepth 100000 in
theorem plIn (w1 : World) (o3 p5 v9 v10 v11 : Value) (sa : Option Addr) (sl sc : Nat) (ats : List At3) (hlen : ats.length ≤ 1000000000) (hsrc : w1.ownsRow 0 61 3 (.slice sa sl sc) ats.length (atCells ats)) (Q : Exit → Act → World → Prop)
    (hQ : ∀ f w' av, Below w1.heap.size w1 w' → w'.ownsRow w1.heap.size 62 3 av ats.length (atCells ats) → Q .normal (fr 50 f [(3, o3), (5, p5), (6, av), (9, v9), (10, v10), (11, v11)]) w') (f : Nat → Value) (c1 : Code) (hc1 : c1 = .loop (plCode 7)) :
    c1.wp Tryz.prog (Exit.inBlock 2 Q) (fr 50 f [(3, o3), (5, p5), (6, .slice none 0 0), (9, v9), (10, v10), (11, v11), (16, .slice sa sl sc), (17, .int .i64 ats.length), (18, .int .i64 0)]) w1 := by
  subst hc1
  have HQ := Lib.hid hQ
  have HLEN := Lib.hid hlen
  have HSRC := Lib.hid hsrc
  refine wp_loop_ghost_k (PlInv w1 o3 p5 v9 v10 v11 (.slice sa sl sc) ats) ats.length ⟨f, 0, .slice none 0 0, rfl, Below.refl _ w1, ⟨rfl, Or.inl ⟨rfl, rfl⟩⟩, by simp, Nat.zero_le _⟩ ?_
  clear hQ hlen hsrc
  rintro k _ w ⟨f, j, av, rfl, hb, hrow, hk, hj⟩ J K2 hJ hK2
  have HJ := Lib.hid hJ
  have HK2 := Lib.hid hK2
  have HB := Lib.hid hb
  have HROW := Lib.hid hrow
  have HK := Lib.hid hk
  clear hJ hK2 hb hrow hk
  unfold plCode
  conv => arg 2; whnf
  by_cases hlt : j < ats.length
  · have h1 : (j : Int) < (ats.length : Int) := by omega
    have h0 : (0 : Int) ≤ (j : Int) := by omega
    have hw1 : IntKind.i64.wrap ((j : Int) + 1) = ((j + 1 : Nat) : Int) := by rw [IntKind.wrap_i64]; have := HLEN.out; omega
    obtain ⟨a, ha⟩ : ∃ a, ats[j]? = some a := ⟨ats[j], by simp [hlt]⟩
    obtain ⟨g, cap, cur, hse, hgc, hcur⟩ : ∃ g cap cur, Value.slice sa sl sc = .slice (some ⟨g, 0, none⟩) ats.length cap ∧ Blk w1 g cur 61 ∧ cur.toList.take (ats.length * 3) = atCells ats := by
      rcases HSRC.out.2 with ⟨_, h9⟩ | ⟨g, cap, cur, h3, _, h4, _, _, _, h5⟩
      · omega
      · exact ⟨g, cap, cur, h3, h4, h5⟩
    simp only [Value.slice.injEq] at hse
    obtain ⟨rfl, rfl, rfl⟩ := hse
    have hgw : Blk w g cur 61 := Blk.mod (S := fun _ => False) hgc (mod_none HB.out _) id
    obtain ⟨k1, k2, k3⟩ := at_cell hcur ha
    have hcg0 : w.cell? ⟨g, j * 3, none⟩ = some (strV a.1) := (hgw.cell _).trans k1
    have hcg1 : w.cell? ⟨g, j * 3 + 1, none⟩ = some (strV a.2.1) := (hgw.cell _).trans k2
    have hcg2 : w.cell? ⟨g, j * 3 + 2, none⟩ = some (strV a.2.2) := (hgw.cell _).trans k3
    have htake : ats.take (j + 1) = ats.take j ++ [a] := by rw [List.take_succ, ha]; rfl
    have hti : (ats.take j).length = j := by simp; omega
    obtain ⟨wa, hwa⟩ : ∃ wa, wa = w.alloc (.cells #[strV a.1, strV a.2.1, strV a.2.2] 61) := ⟨_, rfl⟩
    have hbl : Below w.heap.size w wa := by rw [hwa]; exact (Below.refl _ w).alloc (Nat.le_refl _) _
    have hba : Blk wa w.heap.size #[strV a.1, strV a.2.1, strV a.2.2] 61 := by rw [hwa]; exact Blk.new w _ _
    have hz1 := HB.out.size
    obtain ⟨av', w4, hrun, hown, hgr, hob⟩ := spa_append wa w1.heap.size (Nat.le_trans hz1 hbl.size) av (ats.take j) (by have := HLEN.out; omega) (ownsRow_mod (S := fun _ => False) HROW.out (mod_none hbl _) (fun _ _ => id)) a
    have hca := hba.cell
    have hfa := hba.frozen
    have HG := Lib.hid hgr
    have HO := Lib.hid hown
    have HAL := Lib.hid hbl
    have HTK := Lib.hid htake
    clear k1 k2 k3 ha hgr hown hob hbl hba htake hti hz1 hgw hgc hcur
    (repeat ((fail_if_success with_reducible refine wp_stop0 9 ?_); (first|(with_reducible first|refine zA fun K hK=>?_|refine zB ?_|refine zC ?_)|((with_reducible first|refine zD rfl fun K hK=>?_|refine zE fun K hK=>?_);go_simp)|(with_reducible first|((repeat ((fail_if_success refine hK _ _ ?_);clear hK K));refine hK _ _ ?_;clear hK K)|refine zT (by go_simp;first|done|omega) ?_|refine zF (by go_simp;first|done|omega) ?_|refine zG ?_|refine zR ?_|refine zK ?_|refine zL ?_|refine zN ?_|refine zS ?_)|simp only [Exit.then,Exit.inBlock,Exit.noGoto,↓reduceIte,Nat.reduceEqDiff]|simp only [undef,reduceCtorEq,↓reduceIte])))
    rw [show w.alloc (.cells #[.string ⟨List.toArray a.1⟩, .string ⟨List.toArray a.2.1⟩, .string ⟨List.toArray a.2.2⟩] 61) = wa from hwa.symm]
    clear hwa hcg0 hcg1 hcg2
    (repeat ((fail_if_success at_builtin); (first|(with_reducible first|refine zA fun K hK=>?_|refine zB ?_|refine zC ?_)|((with_reducible first|refine zD rfl fun K hK=>?_|refine zE fun K hK=>?_);go_simp)|(with_reducible first|((repeat ((fail_if_success refine hK _ _ ?_);clear hK K));refine hK _ _ ?_;clear hK K)|refine zT (by go_simp;first|done|omega) ?_|refine zF (by go_simp;first|done|omega) ?_|refine zG ?_|refine zR ?_|refine zK ?_|refine zL ?_|refine zN ?_|refine zS ?_)|simp only [Exit.then,Exit.inBlock,Exit.noGoto,↓reduceIte,Nat.reduceEqDiff]|simp only [undef,reduceCtorEq,↓reduceIte])))
    refine wpList_app rfl (.tmp 22) (.tmp 30) _ _ rfl _ _ _ (by rw [fr_eval (by decide)]; (try simp only [keep_cons, keep_nil, lk_cons, lk_nil, Nat.reduceEqDiff, ↓reduceIte]); (try rfl)) (by rw [fr_eval (by decide)]; (try simp only [keep_cons, keep_nil, lk_cons, lk_nil, Nat.reduceEqDiff, ↓reduceIte]); (try rfl)) hrun ?_
    clear hrun
    rw [fr_put (by decide)]
    (repeat (first|(with_reducible first|refine zA fun K hK=>?_|refine zB ?_|refine zC ?_)|((with_reducible first|refine zD rfl fun K hK=>?_|refine zE fun K hK=>?_);go_simp)|(with_reducible first|((repeat ((fail_if_success refine hK _ _ ?_);clear hK K));refine hK _ _ ?_;clear hK K)|refine zT (by go_simp;first|done|omega) ?_|refine zF (by go_simp;first|done|omega) ?_|refine zG ?_|refine zR ?_|refine zK ?_|refine zL ?_|refine zN ?_|refine zS ?_)|simp only [Exit.then,Exit.inBlock,Exit.noGoto,↓reduceIte,Nat.reduceEqDiff]|simp only [undef,reduceCtorEq,↓reduceIte]))
    (refine K_keep [3, 5, 6, 9, 10, 11, 16, 17, 18] (fun f => ?_); simp only [keep_cons, keep_nil, lk_cons, lk_nil, Nat.reduceEqDiff, ↓reduceIte])
    have hm4 : Mod (fun k => av.ownBlock = some k) wa w4 := (mod_none ((Below.refl _ wa).alloc (Nat.le_refl _) _) _).trans (S' := fun k => av.ownBlock = some k) ⟨HG.out.os, HG.out.tape, HG.out.output, HG.out.size, fun k hk hn => HG.out.block k hk (fun he => hn he.symm)⟩ (fun i _ hi => hi)
    have hbg : ∀ k, av.ownBlock = some k → w1.heap.size ≤ k := fun k hk => (ownsRow_lt HROW.out hk).2
    have hba2 : Below w1.heap.size w1 wa := HB.out.trans (HAL.out.mono HB.out.size)
    refine HK2.out _ _ ⟨ats.length - (j + 1), by rw [HK.out]; omega, HJ.out _ _ _ ⟨f, j + 1, av', rfl, Mod.below hba2 hba2.size hm4 hbg, ?_, rfl, hlt⟩⟩
    rw [HTK.out]; exact HO.out
  · have hjj : j = ats.length := by omega
    subst hjj
    have h1 : ¬ ((ats.length : Int) < (ats.length : Int)) := by omega
    (repeat (first|(with_reducible first|refine zA fun K hK=>?_|refine zB ?_|refine zC ?_)|((with_reducible first|refine zD rfl fun K hK=>?_|refine zE fun K hK=>?_);go_simp)|(with_reducible first|((repeat ((fail_if_success refine hK _ _ ?_);clear hK K));refine hK _ _ ?_;clear hK K)|refine zT (by go_simp;first|done|omega) ?_|refine zF (by go_simp;first|done|omega) ?_|refine zG ?_|refine zR ?_|refine zK ?_|refine zL ?_|refine zN ?_|refine zS ?_)|simp only [Exit.then,Exit.inBlock,Exit.noGoto,↓reduceIte,Nat.reduceEqDiff]|simp only [undef,reduceCtorEq,↓reduceIte]))
    refine Q_keep [3, 5, 6, 9, 10, 11] (fun f => ?_); simp only [keep_cons, keep_nil, lk_cons, lk_nil, Nat.reduceEqDiff, ↓reduceIte]
    have h2 := HROW.out
    rw [List.take_length] at h2
    exact HQ.out f w av HB.out h2
end Go.Proofs.YtkjnockljapnbaaGreatDoor
namespace Go.Proofs.YtkjnockljapnbaaGreatDoor
open Go Go.RowKit
theorem sptInfo : (Tryz.prog.info? 40).map (fun i => (i.zero, i.size, i.bytes)) = some (some (.agg #[.int .i64 0, .string ⟨#[]⟩, .string ⟨#[]⟩, .slice none 0 0, .string ⟨#[]⟩, .int .i64 0]), 6, 88) := by kernel_rfl
def plCells (p : ITok) (av : Value) : List Value := [.int .i64 p.kind, strV p.space, strV p.loc, av, strV p.text, .int .i64 p.at']
theorem spt_append (w3 : World) (base : Nat) (hb : base ≤ w3.heap.size) (v : Value) (n : Nat) (hn : n ≤ 1000000000) (xs : List Value) (h : w3.ownsRow base 40 6 v n xs) (p : ITok) (sa : Option Addr) (sl sc : Nat) :
    ∃ v' w4, (Builtin.append_ #[36, 36] 36 #[v, .slice (some ⟨w3.heap.size, 0, none⟩) 1 1]).run Tryz.prog (w3.alloc (.cells #[.int .i64 p.kind, strV p.space, strV p.loc, .slice sa sl sc, strV p.text, .int .i64 p.at'] 40)) = .ok v' w4 ∧
      w4.ownsRow base 40 6 v' (n + 1) (xs ++ plCells p (.slice sa sl sc)) ∧ (w3.alloc (.cells #[.int .i64 p.kind, strV p.space, strV p.loc, .slice sa sl sc, strV p.text, .int .i64 p.at'] 40)).grownBy w4 v.ownBlock ∧ (v'.ownBlock = v.ownBlock ∨ v'.ownBlock = some (w3.heap.size + 1)) := by
  obtain ⟨i, hi, hz, h1, h2⟩ := info_parts sptInfo
  obtain ⟨v', w4, hr, ho, hg, _, hown⟩ := run_append_own_at (P := Tryz.prog) (w3.alloc (.cells #[.int .i64 p.kind, strV p.space, strV p.loc, .slice sa sl sc, strV p.text, .int .i64 p.at'] 40)) base 36 36 40 i _ 6 88 Tryz.underlying36 hi hz h1 h2 rfl (by omega) v n xs (h.alloc _) ⟨w3.heap.size, 0, none⟩ 1 1 (plCells p (.slice sa sl sc)) rfl
    (by
      intro j u hj
      have hb := Blk.new w3 #[.int .i64 p.kind, strV p.space, strV p.loc, .slice sa sl sc, strV p.text, .int .i64 p.at'] 40
      rw [show ((⟨w3.heap.size, 0, none⟩ : Addr).add j) = ⟨w3.heap.size, j, none⟩ by cases j <;> simp [Addr.add], hb.cell]
      simpa [plCells] using hj)
    (by
      intro u hu
      simp only [plCells, List.mem_cons, List.not_mem_nil, or_false] at hu
      rcases hu with rfl | rfl | rfl | rfl | rfl | rfl <;> rfl)
    (by unfold maxLen; omega) (by omega) (by simp; omega)
  exact ⟨v', w4, hr, ho, hg, by simpa using hown⟩
def PtOk (w : World) (base : Nat) (G : Nat → Prop) (p : ITok) (ys : List Value) : Prop :=
  ∃ sa sl sc, ys = plCells p (.slice sa sl sc) ∧ w.ownsRow base 62 3 (.slice sa sl sc) p.attrs.length (atCells p.attrs) ∧ ∀ k, (Value.slice sa sl sc).ownBlock = some k → G k
theorem PtOk.mod {w w' : World} {base : Nat} {G G' : Nat → Prop} {p : ITok} {ys : List Value} {S : Nat → Prop} (h : PtOk w base G p ys) (hm : Mod S w w') (hG : ∀ k, G k → k < w.heap.size → ¬ S k ∧ G' k) : PtOk w' base G' p ys := by
  obtain ⟨sa, sl, sc, rfl, hr, hg⟩ := h
  exact ⟨sa, sl, sc, rfl, ownsRow_mod hr hm (fun k hk => (hG k (hg k hk) (ownsRow_lt hr hk).1).1), fun k hk => (hG k (hg k hk) (ownsRow_lt hr hk).1).2⟩
structure SrcTok (w : World) (g o : Nat) (p : ITok) : Prop where
  ex : ∃ sa sl sc i6 i7, w.cell? ⟨g, o, none⟩ = some (.int .i64 p.kind) ∧ w.cell? ⟨g, o + 1, none⟩ = some (strV p.space) ∧ w.cell? ⟨g, o + 2, none⟩ = some (strV p.loc) ∧ w.cell? ⟨g, o + 3, none⟩ = some (.slice sa sl sc) ∧ w.cell? ⟨g, o + 4, none⟩ = some (strV p.text) ∧ w.cell? ⟨g, o + 5, none⟩ = some (.int .i64 p.at') ∧
    w.cell? ⟨g, o + 6, none⟩ = some (.int .i64 i6) ∧ w.cell? ⟨g, o + 7, none⟩ = some (.int .i64 i7) ∧ w.ownsRow 0 61 3 (.slice sa sl sc) p.attrs.length (atCells p.attrs)
  len : p.attrs.length ≤ 1000000000
def PlO (w0 : World) (tv : Value) (l : List ITok) (k : Nat) (a : Act) (w : World) : Prop :=
  ∃ f i out xs, a = fr 50 f [(3, out), (9, tv), (10, .int .i64 l.length), (11, .int .i64 (i : Nat))] ∧ Below w0.heap.size w0 w ∧ w.ownsRow w0.heap.size 40 6 out i xs ∧ RowsAt (PtOk w w0.heap.size (fun k => out.ownBlock ≠ some k)) (l.take i) xs ∧ k = l.length - i ∧ i ≤ l.length
set_option maxHeartbeats 8000000 in
set_option maxRecDepth 100000 in
theorem plain_c (w0 : World) (l : List ITok) (hlen : l.length ≤ 1000000000) (g ro cap : Nat) (hg : g < w0.heap.size) (hsrc : ∀ i p, l[i]? = some p → SrcTok w0 g (ro + i * 8) p) :
    Calls Tryz.prog 11 #[.slice (some ⟨g, ro, none⟩) l.length cap] w0 fun en w' => ∃ out xs, en = .returned out ∧ Below w0.heap.size w0 w' ∧ w'.ownsRow w0.heap.size 40 6 out l.length xs ∧ RowsAt (PtOk w' w0.heap.size (fun _ => True)) l xs := by
  have HLEN := Lib.hid hlen
  have HSRC := Lib.hid hsrc
  have HGL := Lib.hid hg
  clear hlen hsrc hg
  refine calls_fr (vs := [_]) 50 Tryz.func11 rfl rfl (Nat.le_of_ble_eq_true rfl) fun f => ?_
  simp only [argSlots]
  (repeat (first|(with_reducible first|refine zA fun K hK=>?_|refine zB ?_|refine zC ?_)|((with_reducible first|refine zD rfl fun K hK=>?_|refine zE fun K hK=>?_);go_simp)|(with_reducible first|((repeat ((fail_if_success refine hK _ _ ?_);clear hK K));refine hK _ _ ?_;clear hK K)|refine zT (by go_simp;first|done|omega) ?_|refine zF (by go_simp;first|done|omega) ?_|refine zG ?_|refine zR ?_|refine zK ?_|refine zL ?_|refine zN ?_|refine zS ?_)|simp only [Exit.then,Exit.inBlock,Exit.noGoto,↓reduceIte,Nat.reduceEqDiff]|simp only [undef,reduceCtorEq,↓reduceIte]))
  (refine wp_keep [3, 9, 10, 11] (fun f => ?_); simp only [keep_cons, keep_nil, lk_cons, lk_nil, Nat.reduceEqDiff, ↓reduceIte])
  refine wp_loop_ghost_k (PlO w0 (.slice (some ⟨g, ro, none⟩) l.length cap) l) l.length ⟨f, 0, .slice none 0 0, [], rfl, Below.refl _ w0, ⟨rfl, Or.inl ⟨rfl, rfl⟩⟩, .nil, by simp, Nat.zero_le _⟩ ?_
  rintro k _ w ⟨f, i, out, xs, rfl, hb, hrow, hrows, hk, hi⟩ J K2 hJ hK2
  have HJ := Lib.hid hJ
  have HK2 := Lib.hid hK2
  have HB := Lib.hid hb
  have HROW := Lib.hid hrow
  have HROWS := Lib.hid hrows
  have HK := Lib.hid hk
  clear hJ hK2 hb hrow hrows hk
  by_cases hlt : i < l.length
  · have h1 : (i : Int) < (l.length : Int) := by omega
    have h0 : (0 : Int) ≤ (i : Int) := by omega
    have hw1 : IntKind.i64.wrap ((i : Int) + 1) = ((i + 1 : Nat) : Int) := by rw [IntKind.wrap_i64]; have := HLEN.out; omega
    obtain ⟨p, hp⟩ : ∃ p, l[i]? = some p := ⟨l[i], by simp [hlt]⟩
    obtain ⟨sa, sl, sc, i6, i7, c0, c1, c2, c3, c4, c5, c6, c7, hat⟩ := (HSRC.out i p hp).ex
    have hpl := (HSRC.out i p hp).len
    have hce : ∀ j, w.cell? ⟨g, j, none⟩ = w0.cell? ⟨g, j, none⟩ := fun j => HB.out.cell (p := ⟨g, j, none⟩) HGL.out
    rw [← hce] at c0 c1 c2 c3 c4 c5 c6 c7
    obtain ⟨w1, hw1d⟩ : ∃ w1, w1 = w.alloc (.cells #[.int .i64 p.kind, strV p.space, strV p.loc, .slice sa sl sc, strV p.text, .int .i64 p.at', .int .i64 i6, .int .i64 i7] 33) := ⟨_, rfl⟩
    have hbl : Below w.heap.size w w1 := by rw [hw1d]; exact (Below.refl _ w).alloc (Nat.le_refl _) _
    have hb5 : Blk w1 w.heap.size #[.int .i64 p.kind, strV p.space, strV p.loc, .slice sa sl sc, strV p.text, .int .i64 p.at', .int .i64 i6, .int .i64 i7] 33 := by rw [hw1d]; exact Blk.new w _ _
    have hat1 : w1.ownsRow 0 61 3 (.slice sa sl sc) p.attrs.length (atCells p.attrs) := ownsRow_mod (S := fun _ => False) (ownsRow_mod (S := fun _ => False) hat (mod_none (HB.out) _) (fun _ _ => id)) (mod_none hbl _) (fun _ _ => id)
    have hsl : sl = p.attrs.length := by
      rcases hat.2 with ⟨h9, h8⟩ | ⟨g9, cap9, cur9, h9, _⟩
      · simp only [Value.slice.injEq] at h9; rw [h9.2.1, h8]
      · simp only [Value.slice.injEq] at h9; exact h9.2.1
    subst hsl
    have htake : l.take (i + 1) = l.take i ++ [p] := by rw [List.take_succ, hp]; rfl
    have HIN := Lib.hid (fun o3 p5 v9 v10 v11 Q hQ f c1 e => plIn w1 o3 p5 v9 v10 v11 sa p.attrs.length sc p.attrs hpl hat1 Q hQ f c1 e)
    have HBL := Lib.hid hbl
    have HB5 := Lib.hid hb5
    have HTK := Lib.hid htake
    clear hat hat1 hpl hce hp htake
    (repeat ((fail_if_success with_reducible refine wp_stop 5 ?_); (fail_if_success with_reducible refine wp_stop2 5 ?_); (first|(with_reducible first|refine zA fun K hK=>?_|refine zB ?_|refine zC ?_)|((with_reducible first|refine zD rfl fun K hK=>?_|refine zE fun K hK=>?_);go_simp)|(with_reducible first|((repeat ((fail_if_success refine hK _ _ ?_);clear hK K));refine hK _ _ ?_;clear hK K)|refine zT (by go_simp;first|done|omega) ?_|refine zF (by go_simp;first|done|omega) ?_|refine zG ?_|refine zR ?_|refine zK ?_|refine zL ?_|refine zN ?_|refine zS ?_)|simp only [Exit.then,Exit.inBlock,Exit.noGoto,↓reduceIte,Nat.reduceEqDiff]|simp only [undef,reduceCtorEq,↓reduceIte])))
    rw [show w.alloc (.cells #[.int .i64 p.kind, .string ⟨List.toArray p.space⟩, .string ⟨List.toArray p.loc⟩, .slice sa p.attrs.length sc, .string ⟨List.toArray p.text⟩, .int .i64 p.at', .int .i64 i6, .int .i64 i7] 33) = w1 from hw1d.symm]
    clear hw1d c0 c1 c2 c3 c4 c5 c6 c7 hbl
    have hc5 := hb5.cell
    have hf5 := hb5.frozen
    clear hb5
    (repeat (first|(with_reducible first|refine zA fun K hK=>?_|refine zB ?_|refine zC ?_)|((with_reducible first|refine zD rfl fun K hK=>?_|refine zE fun K hK=>?_);go_simp)|(with_reducible first|((repeat ((fail_if_success refine hK _ _ ?_);clear hK K));refine hK _ _ ?_;clear hK K)|refine zT (by go_simp;first|done|omega) ?_|refine zF (by go_simp;first|done|omega) ?_|refine zG ?_|refine zR ?_|refine zK ?_|refine zL ?_|refine zN ?_|refine zS ?_)|simp only [Exit.then,Exit.inBlock,Exit.noGoto,↓reduceIte,Nat.reduceEqDiff]|simp only [undef,reduceCtorEq,↓reduceIte]))
    (refine wp_keep [3, 5, 6, 9, 10, 11, 16, 17, 18] (fun f => ?_); simp only [keep_cons, keep_nil, lk_cons, lk_nil, Nat.reduceEqDiff, ↓reduceIte])
    refine HIN.out _ _ _ _ _ _ ?_ f _ (by kernel_rfl)
    intro f w2 av hb2 hrow2
    obtain ⟨sa', sl', sc', rfl⟩ := ownsRow_slice hrow2
    have hz0 := HB.out.size
    have hz1 := HBL.out.size
    have hz2 := hb2.size
    have hm02 : Mod (fun _ => False) w w2 := (mod_none HBL.out _).trans (mod_none hb2 _) (fun _ _ h => h)
    obtain ⟨out', w4, hrun, hown, hgr, hob⟩ := spt_append w2 w0.heap.size (by omega) out i (by have := HLEN.out; omega) xs (ownsRow_mod HROW.out hm02 (fun _ _ => id)) p sa' sl' sc'
    have hb52 : Blk w2 w.heap.size _ _ := Blk.mod (S := fun _ => False) HB5.out (mod_none hb2 _) id
    have hc52 := hb52.cell
    have hf52 := hb52.frozen
    have HB2 := Lib.hid hb2
    have HROW2 := Lib.hid hrow2
    have HG := Lib.hid hgr
    have HO := Lib.hid hown
    have HOB := Lib.hid hob
    have HM02 := Lib.hid hm02
    clear hb2 hrow2 hgr hown hob hm02 hb52 HIN hc5 hf5 hz0 hz1 hz2
    (repeat ((fail_if_success at_builtin); (first|(with_reducible first|refine zA fun K hK=>?_|refine zB ?_|refine zC ?_)|((with_reducible first|refine zD rfl fun K hK=>?_|refine zE fun K hK=>?_);go_simp)|(with_reducible first|((repeat ((fail_if_success refine hK _ _ ?_);clear hK K));refine hK _ _ ?_;clear hK K)|refine zT (by go_simp;first|done|omega) ?_|refine zF (by go_simp;first|done|omega) ?_|refine zG ?_|refine zR ?_|refine zK ?_|refine zL ?_|refine zN ?_|refine zS ?_)|simp only [Exit.then,Exit.inBlock,Exit.noGoto,↓reduceIte,Nat.reduceEqDiff]|simp only [undef,reduceCtorEq,↓reduceIte])))
    refine wpList_app rfl (.tmp 33) (.tmp 46) _ _ rfl _ _ _ (by rw [fr_eval (by decide)]; (try simp only [keep_cons, keep_nil, lk_cons, lk_nil, Nat.reduceEqDiff, ↓reduceIte]); (try rfl)) (by rw [fr_eval (by decide)]; (try simp only [keep_cons, keep_nil, lk_cons, lk_nil, Nat.reduceEqDiff, ↓reduceIte]); (try rfl)) hrun ?_
    clear hrun
    rw [fr_put (by decide)]
    (repeat (first|(with_reducible first|refine zA fun K hK=>?_|refine zB ?_|refine zC ?_)|((with_reducible first|refine zD rfl fun K hK=>?_|refine zE fun K hK=>?_);go_simp)|(with_reducible first|((repeat ((fail_if_success refine hK _ _ ?_);clear hK K));refine hK _ _ ?_;clear hK K)|refine zT (by go_simp;first|done|omega) ?_|refine zF (by go_simp;first|done|omega) ?_|refine zG ?_|refine zR ?_|refine zK ?_|refine zL ?_|refine zN ?_|refine zS ?_)|simp only [Exit.then,Exit.inBlock,Exit.noGoto,↓reduceIte,Nat.reduceEqDiff]|simp only [undef,reduceCtorEq,↓reduceIte]))
    (refine K_keep [3, 9, 10, 11] (fun f => ?_); simp only [keep_cons, keep_nil, lk_cons, lk_nil, Nat.reduceEqDiff, ↓reduceIte])
    have hm4 : Mod (fun k => out.ownBlock = some k) w2 w4 := (mod_none ((Below.refl _ w2).alloc (Nat.le_refl _) _) _).trans (S' := fun k => out.ownBlock = some k) ⟨HG.out.os, HG.out.tape, HG.out.output, HG.out.size, fun k hk hn => HG.out.block k hk (fun he => hn he.symm)⟩ (fun i _ hi => hi)
    have hm04 : Mod (fun k => out.ownBlock = some k) w w4 := (HM02.out.mono (fun _ _ h => h.elim)).trans hm4 (fun _ _ h => h)
    have hbg : ∀ k, out.ownBlock = some k → w0.heap.size ≤ k := fun k hk => (ownsRow_lt HROW.out hk).2
    have hnz : w2.heap.size + 1 ≤ w4.heap.size := by have h9 := HG.out.size; rw [show ∀ o : Obj, (w2.alloc o).heap.size = w2.heap.size + 1 from fun o => Array.size_push _] at h9; exact h9
    have hne : ∀ k, k < w2.heap.size → out.ownBlock ≠ some k → out'.ownBlock ≠ some k := fun k hk hn he => by
      rcases HOB.out with hob | hob
      · exact hn (hob ▸ he)
      · rw [hob] at he
        have : w2.heap.size + 1 = k := by simpa using he
        omega
    refine HK2.out _ _ ⟨l.length - (i + 1), by rw [HK.out]; omega, HJ.out _ _ _ ⟨f, i + 1, out', _, rfl, Mod.below HB.out HB.out.size hm04 hbg, HO.out, ?_, rfl, hlt⟩⟩
    rw [HTK.out]
    refine .snoc (HROWS.out.mono (fun a ys hr => hr.mod hm04 (fun k hk hl => ⟨hk, hne k (Nat.lt_of_lt_of_le hl HM02.out.size) hk⟩))) ?_
    have hbk : ∀ k, (Value.slice sa' sl' sc').ownBlock = some k → k < w2.heap.size ∧ w1.heap.size ≤ k := fun k hk => ownsRow_lt HROW2.out hk
    have hnt : ∀ k, (Value.slice sa' sl' sc').ownBlock = some k → out.ownBlock ≠ some k := fun k hk he => by
      have h8 := (hbk k hk).2
      have h9 := (ownsRow_lt HROW.out he).1
      have h7 := HB5.out.lt
      have h6 := HBL.out.size
      omega
    have hat0 : w2.ownsRow w0.heap.size 62 3 (.slice sa' sl' sc') p.attrs.length (atCells p.attrs) := by
      refine ⟨HROW2.out.1, ?_⟩
      rcases HROW2.out.2 with h9 | ⟨g, cap, cur, e1, e2, e3⟩
      · exact Or.inl h9
      · exact Or.inr ⟨g, cap, cur, e1, Nat.le_trans (Nat.le_trans HB.out.size HBL.out.size) e2, e3⟩
    exact ⟨sa', sl', sc', rfl, ownsRow_mod hat0 hm4 (fun k hk he => hnt k hk he), fun k hk => hne k (hbk k hk).1 (hnt k hk)⟩
  · have hii : i = l.length := by omega
    subst hii
    have h1 : ¬ ((l.length : Int) < (l.length : Int)) := by omega
    (repeat (first|(with_reducible first|refine zA fun K hK=>?_|refine zB ?_|refine zC ?_)|((with_reducible first|refine zD rfl fun K hK=>?_|refine zE fun K hK=>?_);go_simp)|(with_reducible first|((repeat ((fail_if_success refine hK _ _ ?_);clear hK K));refine hK _ _ ?_;clear hK K)|refine zT (by go_simp;first|done|omega) ?_|refine zF (by go_simp;first|done|omega) ?_|refine zG ?_|refine zR ?_|refine zK ?_|refine zL ?_|refine zN ?_|refine zS ?_)|simp only [Exit.then,Exit.inBlock,Exit.noGoto,↓reduceIte,Nat.reduceEqDiff]|simp only [undef,reduceCtorEq,↓reduceIte]))
    (refine fr_out1 rfl (by decide) (by simp only [lk_cons, lk_nil, Nat.reduceEqDiff, ↓reduceIte]; rfl) ?_)
    have h2 := HROWS.out
    rw [List.take_length] at h2
    exact ⟨out, xs, rfl, HB.out, HROW.out, h2.mono (fun a ys hr => hr.mod (Mod.refl (fun _ => False) w) (fun _ _ _ => ⟨id, trivial⟩))⟩
set_option maxHeartbeats 4000000 in
set_option maxRecDepth 100000 in
theorem plain_nil (w : World) : Calls Tryz.prog 11 #[.slice none 0 0] w fun en w' => en = .returned (.slice none 0 0) ∧ w' = w := by
  have h1 : ¬ (0 : Int) < 0 := by omega
  refine calls_fr (vs := [_]) 50 Tryz.func11 rfl rfl (Nat.le_of_ble_eq_true rfl) fun f => ?_
  simp only [argSlots]
  (repeat (first|(with_reducible first|refine zA fun K hK=>?_|refine zB ?_|refine zC ?_)|((with_reducible first|refine zD rfl fun K hK=>?_|refine zE fun K hK=>?_);go_simp)|(with_reducible first|((repeat ((fail_if_success refine hK _ _ ?_);clear hK K));refine hK _ _ ?_;clear hK K)|refine zT (by go_simp;first|done|omega) ?_|refine zF (by go_simp;first|done|omega) ?_|refine zG ?_|refine zR ?_|refine zK ?_|refine zL ?_|refine zN ?_|refine zS ?_)|simp only [Exit.then,Exit.inBlock,Exit.noGoto,↓reduceIte,Nat.reduceEqDiff]|simp only [undef,reduceCtorEq,↓reduceIte]))
  (refine wp_keep [3, 10, 11] (fun f => ?_); simp only [keep_cons, keep_nil, lk_cons, lk_nil, Nat.reduceEqDiff, ↓reduceIte])
  refine wp_loop_ghost_k (fun _ a w' => (∃ f, a = fr 50 f [(3, .slice none 0 0), (10, .int .i64 0), (11, .int .i64 0)]) ∧ w' = w) 0 ⟨⟨f, rfl⟩, rfl⟩ ?_
  rintro k _ _ ⟨⟨f, rfl⟩, rfl⟩ J K2 hJ hK2
  (repeat (first|(with_reducible first|refine zA fun K hK=>?_|refine zB ?_|refine zC ?_)|((with_reducible first|refine zD rfl fun K hK=>?_|refine zE fun K hK=>?_);go_simp)|(with_reducible first|((repeat ((fail_if_success refine hK _ _ ?_);clear hK K));refine hK _ _ ?_;clear hK K)|refine zT (by go_simp;first|done|omega) ?_|refine zF (by go_simp;first|done|omega) ?_|refine zG ?_|refine zR ?_|refine zK ?_|refine zL ?_|refine zN ?_|refine zS ?_)|simp only [Exit.then,Exit.inBlock,Exit.noGoto,↓reduceIte,Nat.reduceEqDiff]|simp only [undef,reduceCtorEq,↓reduceIte]))
  (refine fr_out1 rfl (by decide) (by simp only [lk_cons, lk_nil, Nat.reduceEqDiff, ↓reduceIte]; rfl) ?_)
  exact ⟨rfl, rfl⟩
end Go.Proofs.YtkjnockljapnbaaGreatDoor
namespace Go.Proofs.YtkjnockljapnbaaGreatDoor
open Go
def rdT : Bs := [60, 97, 47, 62]
def rdO : Opt := ⟨false, true, none, [], [], false⟩
def rdS1 : St := { rest := [], ended := false, toClose := some ([], [97]), stk := [{ kind := 0, space := [], loc := [97], ok := false }], ns := fun _ => none, next := none }
def rdS2 : St := { rest := [], ended := false, toClose := none, stk := [], ns := fun _ => none, next := none }
set_option maxRecDepth 100000 in
theorem rd_a : step0 rdO (St.init rdT) = .ok (.start ([], [97]) [], rdS1) := by rfl
theorem rd_b : step0 rdO rdS1 = .ok (.fin ([], [97]), rdS2) := by rfl
theorem rd_c : step0 rdO rdS2 = .error .eof := by rfl
theorem rd_toks (fold : Bs → Bs → Bool) : Toks fold rdO (St.init rdT) [(.start ([], [97]) [], rdS1), (.fin ([], [97]), rdS2)] .eof :=
  .more (by rw [stepL_nil rfl rfl]; exact rd_a) (.more (by rw [stepL_nil rfl rfl]; exact rd_b) (.stop (by rw [stepL_nil rfl rfl]; exact rd_c)))
end Go.Proofs.YtkjnockljapnbaaGreatDoor
