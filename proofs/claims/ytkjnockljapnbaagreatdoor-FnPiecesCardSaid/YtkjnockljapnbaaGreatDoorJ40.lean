/- Part of the proof that laws.FnPieces returns true for every argument (Si, Sj). No condition of its own. -/
import Derived.Test.YtkjnockljapnbaaGreatDoorJ39
import Derived.Test.YtkjnockljapnbaaGreatDoorJ19
set_option linter.all false
namespace Go.Proofs.YtkjnockljapnbaaGreatDoor
open Go Go.RowKit
theorem transL_snd (o : Opt) (ns : Bs → Option Bs) (nm : Bs × Bs) (el : Bool) : (transL o ns nm el).2 = nm.2 := by
  unfold transL
  split
  · rfl
  split
  · rfl
  split
  · rfl
  have key : ∀ sp : Bs, (match ns sp with | some v => (v, nm.2) | none => if sp = [] then (o.space, nm.2) else (sp, nm.2) : Bs × Bs).2 = nm.2 := by
    intro sp
    cases ns sp with
    | some v => rfl
    | none => simp only; split <;> rfl
  exact key _
def trA (o : Opt) (ns : Bs → Option Bs) (a : At3) : At3 := let q := transL o ns (a.1, a.2.1) false; (q.1, q.2, a.2.2)
theorem trA_eq (o : Opt) (ns : Bs → Option Bs) (a : At3) : trA o ns a = ((transL o ns (a.1, a.2.1) false).1, a.2) := by
  unfold trA
  simp only [transL_snd]
theorem atCells_set (s : Bs) : ∀ (l : List At3) (i : Nat) (a : At3), l[i]? = some a → (atCells l).set (i * 3) (strV s) = atCells (l.set i (s, a.2))
  | [], i, a, h => by simp at h
  | b :: l, 0, a, h => by
    simp only [List.getElem?_cons_zero, Option.some.injEq] at h
    subst h; rfl
  | b :: l, i + 1, a, h => by
    simp only [List.getElem?_cons_succ] at h
    have ih := atCells_set s l i a h
    have e : ∀ (b : At3) (l : List At3), atCells (b :: l) = [strV b.1, strV b.2.1, strV b.2.2] ++ atCells l := fun _ _ => rfl
    rw [e, List.set_cons_succ, e, ← ih, List.set_append_right _ _ (by simp; omega)]
    congr 2
    simp; omega
theorem at_set {cur : Array Value} {l : List At3} {n : Nat} (hn : n = l.length) (h : cur.toList.take (n * 3) = atCells l) {i : Nat} {a : At3} (ha : l[i]? = some a) (s : Bs) : (cur.setIfInBounds (i * 3) (strV s)).toList.take (n * 3) = atCells (l.set i (s, a.2)) := by
  rw [Array.toList_setIfInBounds, List.take_set, h, atCells_set s l i a ha]
theorem mid_set (f : At3 → At3) (ats : List At3) (i : Nat) (a : At3) (ha : ats[i]? = some a) : ((ats.take i).map f ++ ats.drop i)[i]? = some a ∧ ((ats.take i).map f ++ ats.drop i).set i (f a) = (ats.take (i + 1)).map f ++ ats.drop (i + 1) := by
  obtain ⟨hi, he⟩ := List.getElem?_eq_some_iff.1 ha
  have hd : ats.drop i = a :: ats.drop (i + 1) := by rw [← he]; exact List.drop_eq_getElem_cons hi
  have hl : ((ats.take i).map f).length = i := by simp; omega
  have ht : ats.take (i + 1) = ats.take i ++ [a] := by rw [List.take_succ, ha]; rfl
  constructor
  · rw [List.getElem?_append_right (by omega), hl, hd]; simp
  · rw [List.set_append_right _ _ (by omega), hl, hd, ht]; simp
def TrInv (x : Cx) (w0 : World) (ns : Bs → Option Bs) (t8 g : Nat) (sz : Nat) (ats : List At3) (k : Nat) (a : Act) (w : World) : Prop :=
  ∃ f i cur, a = fr 204 f [(0, decP x), (5, .nilIface), (8, .pointer (some ⟨t8, 0, none⟩)), (176, .int .i64 ats.length), (177, .int .i64 (i : Nat))] ∧ Mod (fun b => b = g) w0 w ∧
    Blk w g cur 96 ∧ cur.size = sz ∧ cur.toList.take (ats.length * 3) = atCells ((ats.take i).map (trA x.o ns) ++ ats.drop i) ∧ k = ats.length - i ∧ i ≤ ats.length
set_option maxHeartbeats 8000000 in
set_option maxRecDepth 100000 in
theorem tkTrans (x : Cx) (hx : x.Ok) (c : DC) (w0 : World) (v : DV) (hd : DecAt w0 x.d c v) (m n : Nat) (ns : Bs → Option Bs) (hmap : c.ns = .map (some m)) (hns : NsAt w0 m n ns) (hsp : c.space = ⟨x.o.space.toArray⟩)
    (ats : List At3) (hats : ∀ a ∈ ats, AtLe 1000000000 a) (hlen : ats.length ≤ 1000000000) (t8 g cap : Nat) (nm : Bs × Bs) (cur : Array Value) (hg : Blk w0 g cur 96) (hcur : cur.toList.take (ats.length * 3) = atCells ats) (hgn : g ≠ x.d ∧ g ≠ m ∧ g ≠ t8)
    (ht8 : Blk w0 t8 #[strV nm.1, strV nm.2, .slice (some ⟨g, 0, none⟩) ats.length cap] 94) (Q : Exit → Act → World → Prop)
    (hQ : ∀ f w cur', Mod (fun b => b = g) w0 w → Blk w g cur' 96 → cur'.size = cur.size → cur'.toList.take (ats.length * 3) = atCells (ats.map (trA x.o ns)) → Q .normal (fr 204 f [(0, decP x), (5, .nilIface), (8, .pointer (some ⟨t8, 0, none⟩))]) w) (f : Nat → Value) (c1 : Code) (hc1 : c1 = .loop (tkCode 37)) :
    c1.wp Tryz.prog (Exit.inBlock 3 Q) (fr 204 f [(0, decP x), (5, .nilIface), (8, .pointer (some ⟨t8, 0, none⟩)), (176, .int .i64 ats.length), (177, .int .i64 0)]) w0 := by
  subst hc1
  have HX := Lib.hid hx
  have HQ := Lib.hid hQ
  have HATS := Lib.hid hats
  have HLEN := Lib.hid hlen
  have HGN := Lib.hid hgn
  have HD := Lib.hid hd
  have HNS := Lib.hid hns
  have HSP := Lib.hid hsp
  have HMP := Lib.hid hmap
  have HT8 := Lib.hid ht8
  refine wp_loop_ghost_k (TrInv x w0 ns t8 g cur.size ats) ats.length ⟨f, 0, cur, rfl, Mod.refl _ _, hg, rfl, by simpa using hcur, by simp, Nat.zero_le _⟩ ?_
  clear hd hx hQ hats hlen hg hcur hgn hns hsp hmap ht8
  rintro k _ w ⟨f, i, cur1, rfl, hm, hg, hsz, hcur, hk, hi⟩ J K2 hJ hK2
  have HJ := Lib.hid hJ
  have HK2 := Lib.hid hK2
  have HM := Lib.hid hm
  have HG := Lib.hid hg
  have HSZ := Lib.hid hsz
  have HCUR := Lib.hid hcur
  have HK := Lib.hid hk
  clear hJ hK2 hm hg hsz hcur hk
  unfold tkCode
  conv => arg 2; whnf
  by_cases hlt : i < ats.length
  · have h1 : (i : Int) < (ats.length : Int) := by omega
    have h0 : (0 : Int) ≤ (i : Int) := by omega
    have hw1 : IntKind.i64.wrap ((i : Int) + 1) = ((i + 1 : Nat) : Int) := by rw [IntKind.wrap_i64]; have := HLEN.out; omega
    obtain ⟨a, ha⟩ : ∃ a, ats[i]? = some a := ⟨ats[i], by simp [hlt]⟩
    obtain ⟨k0, k9⟩ := mid_set (trA x.o ns) ats i a ha
    have hll : ((ats.take i).map (trA x.o ns) ++ ats.drop i).length = ats.length := by simp; omega
    have hcur := HCUR.out
    rw [← hll] at hcur
    obtain ⟨k1, k2, k3⟩ := at_cell hcur k0
    have hset := at_set hll.symm HCUR.out k0 (transL x.o ns (a.1, a.2.1) false).1
    rw [← trA_eq, k9] at hset
    have HSET := Lib.hid hset
    have ht8w := HT8.out.mod HM.out (fun hh => HGN.out.2.2 hh.symm)
    have hct := ht8w.cell
    have hft := ht8w.frozen
    have hdw : DecAt w x.d c v := Blk.mod HD.out HM.out (fun hh => HGN.out.1 hh.symm)
    have htr := Lib.hid (translate_c x c w v hdw m n ns HMP.out (HNS.out.mod HM.out (fun hh => HGN.out.2.1 hh.symm)) HSP.out g cur1 _ HG.out HGN.out.1 HGN.out.2.1 (i * 3) (a.1, a.2.1) k1 k2 (HATS.out a (List.mem_of_getElem? ha)).1 false)
    clear hset k0 k1 k2 k3 k9 hcur ht8w hdw hll
    (repeat (first|(with_reducible first|refine zA fun K hK=>?_|refine zB ?_|refine zC ?_)|((with_reducible first|refine zD rfl fun K hK=>?_|refine zE fun K hK=>?_);go_simp)|(with_reducible first|((repeat ((fail_if_success refine hK _ _ ?_);clear hK K));refine hK _ _ ?_;clear hK K)|refine zT (by go_simp;first|done|omega) ?_|refine zF (by go_simp;first|done|omega) ?_|refine zG ?_|refine zR ?_|refine zK ?_|refine zL ?_|refine zN ?_|refine zS ?_)|simp only [Exit.then,Exit.inBlock,Exit.noGoto,↓reduceIte,Nat.reduceEqDiff]|simp only [undef,reduceCtorEq,↓reduceIte]))
    refine htr.out.mono ?_
    rintro e1 w1 ⟨rfl, hm1, hb1, hz1⟩
    clear hct hft htr
    go_simp
    (repeat (first|(with_reducible first|refine zA fun K hK=>?_|refine zB ?_|refine zC ?_)|((with_reducible first|refine zD rfl fun K hK=>?_|refine zE fun K hK=>?_);go_simp)|(with_reducible first|((repeat ((fail_if_success refine hK _ _ ?_);clear hK K));refine hK _ _ ?_;clear hK K)|refine zT (by go_simp;first|done|omega) ?_|refine zF (by go_simp;first|done|omega) ?_|refine zG ?_|refine zR ?_|refine zK ?_|refine zL ?_|refine zN ?_|refine zS ?_)|simp only [Exit.then,Exit.inBlock,Exit.noGoto,↓reduceIte,Nat.reduceEqDiff]|simp only [undef,reduceCtorEq,↓reduceIte]))
    (refine K_keep [0, 5, 8, 176, 177] (fun f => ?_); simp only [keep_cons, keep_nil, lk_cons, lk_nil, Nat.reduceEqDiff, ↓reduceIte])
    exact HK2.out _ _ ⟨ats.length - (i + 1), by rw [HK.out]; omega, HJ.out _ _ _ ⟨f, i + 1, _, rfl, HM.out.trans hm1 (fun _ _ h => h), hb1, by simpa using HSZ.out, HSET.out, rfl, hlt⟩⟩
  · have hii : i = ats.length := by omega
    subst hii
    have h1 : ¬ ((ats.length : Int) < (ats.length : Int)) := by omega
    (repeat (first|(with_reducible first|refine zA fun K hK=>?_|refine zB ?_|refine zC ?_)|((with_reducible first|refine zD rfl fun K hK=>?_|refine zE fun K hK=>?_);go_simp)|(with_reducible first|((repeat ((fail_if_success refine hK _ _ ?_);clear hK K));refine hK _ _ ?_;clear hK K)|refine zT (by go_simp;first|done|omega) ?_|refine zF (by go_simp;first|done|omega) ?_|refine zG ?_|refine zR ?_|refine zK ?_|refine zL ?_|refine zN ?_|refine zS ?_)|simp only [Exit.then,Exit.inBlock,Exit.noGoto,↓reduceIte,Nat.reduceEqDiff]|simp only [undef,reduceCtorEq,↓reduceIte]))
    refine Q_keep [0, 5, 8] (fun f => ?_); simp only [keep_cons, keep_nil, lk_cons, lk_nil, Nat.reduceEqDiff, ↓reduceIte]
    refine HQ.out f w cur1 HM.out HG.out HSZ.out ?_
    have := HCUR.out
    simpa using this
end Go.Proofs.YtkjnockljapnbaaGreatDoor
namespace Go.Proofs.YtkjnockljapnbaaGreatDoor
open Go Go.RowKit
theorem popElement_c (x : Cx) (hx : x.All) (c : DC) (w : World) (v : DV) (s : St) (m : Nat) (sb fb : List Nat) (n : Nat) (tb : Nat) (nm : Bs × Bs) (h : PeSt x c w v s m sb fb n tb nm) :
    Calls Tryz.prog 29 #[decP x, .pointer (some ⟨tb, 0, none⟩)] w fun en w' => PopEPost x c w v s nm m sb fb n tb en w' := by
  cases hs : s.stk with
  | nil => exact popE_nil x hx c w v s m sb fb n tb nm h hs
  | cons e stk' =>
    rcases (h.sok e (by rw [hs]; simp)).1 with hk | hk
    · exact popE_elem x hx c w v s m sb fb n tb nm h e stk' hs hk
    · exact popE_ns x hx c w v s m sb fb n tb nm h e stk' hs hk
theorem StkAt.head {w : World} {p : Value} {l : List Ent} {bs : List Nat} (h : StkAt w p l bs) (hok : StkOk l) :
    (p = .pointer none ∧ l = []) ∨ ∃ q e l' nx ok, p = .pointer (some ⟨q, 0, none⟩) ∧ l = e :: l' ∧ (e.kind = 0 ∨ e.kind = 1) ∧ Blk w q (skCells nx e.kind e.space e.loc ok) 88 ∧ q ∈ bs := by
  rcases h.ptr with ⟨h1, _, h2⟩ | ⟨q, e, l', bs', rfl, rfl, rfl⟩
  · exact Or.inl ⟨h1, h2⟩
  · obtain ⟨_, nx, ok, hb, _, _⟩ := h
    exact Or.inr ⟨q, e, l', nx, ok, rfl, rfl, (hok e (by simp)).1, hb, by simp⟩
set_option maxHeartbeats 8000000 in
set_option maxRecDepth 100000 in
theorem auto_nil (x : Cx) (c : DC) (hau : c.auto = .slice none 0 0) (w : World) (v : DV) (h : DecAt w x.d c v) {stk : List Ent} {sb : List Nat} (hs : StkAt w c.stk stk sb) (hok : StkOk stk) (t : Value) :
    Calls Tryz.prog 25 #[decP x, t] w fun en w' => en = .returned (.tuple #[.nilIface, .bool false]) ∧ w' = w := by
  have hc := h.cell
  have hf := h.frozen
  have q1 := fun w => ptrNilE w
  rcases hs.head hok with ⟨h1, _⟩ | ⟨q, e, l', nx, ok, h1, _, h2, h3, _⟩
  · clear h hs hok hau
    refine calls_fr (vs := [_, _]) 76 Tryz.func25 rfl rfl (Nat.le_of_ble_eq_true rfl) fun f => ?_
    simp only [argSlots]
    (repeat (first|(with_reducible first|refine zA fun K hK=>?_|refine zB ?_|refine zC ?_)|((with_reducible first|refine zD rfl fun K hK=>?_|refine zE fun K hK=>?_);go_simp)|(with_reducible first|((repeat ((fail_if_success refine hK _ _ ?_);clear hK K));refine hK _ _ ?_;clear hK K)|refine zT (by go_simp;first|done|omega) ?_|refine zF (by go_simp;first|done|omega) ?_|refine zG ?_|refine zR ?_|refine zK ?_|refine zL ?_|refine zN ?_|refine zS ?_)|simp only [Exit.then,Exit.inBlock,Exit.noGoto,↓reduceIte,Nat.reduceEqDiff]|simp only [undef,reduceCtorEq,↓reduceIte]))
    (refine fr_out2 rfl (by decide) (by decide) (by simp only [lk_cons, lk_nil, Nat.reduceEqDiff, ↓reduceIte]; rfl) (by simp only [lk_cons, lk_nil, Nat.reduceEqDiff, ↓reduceIte]; rfl) ?_)
    exact ⟨rfl, rfl⟩
  · have hcq := h3.cell
    have hfq := h3.frozen
    obtain ⟨e1, e2, e3, e4⟩ := e
    simp only at h2 hcq
    clear h hs hok h3
    have h1 : ¬ ((0 : Int) < 0) := by omega
    rcases h2 with rfl | rfl
    · refine calls_fr (vs := [_, _]) 76 Tryz.func25 rfl rfl (Nat.le_of_ble_eq_true rfl) fun f => ?_
      simp only [argSlots]
      (repeat (first|(with_reducible first|refine zA fun K hK=>?_|refine zB ?_|refine zC ?_)|((with_reducible first|refine zD rfl fun K hK=>?_|refine zE fun K hK=>?_);go_simp)|(with_reducible first|((repeat ((fail_if_success refine hK _ _ ?_);clear hK K));refine hK _ _ ?_;clear hK K)|refine zT (by go_simp;first|done|omega) ?_|refine zF (by go_simp;first|done|omega) ?_|refine zG ?_|refine zR ?_|refine zK ?_|refine zL ?_|refine zN ?_|refine zS ?_)|simp only [Exit.then,Exit.inBlock,Exit.noGoto,↓reduceIte,Nat.reduceEqDiff]|simp only [undef,reduceCtorEq,↓reduceIte]))
      (refine wp_keep [0, 4, 5, 29, 30] (fun f => ?_); simp only [keep_cons, keep_nil, lk_cons, lk_nil, Nat.reduceEqDiff, ↓reduceIte])
      refine wp_loop_ghost_k (fun _ a w' => (∃ f, a = fr 76 f [(0, decP x), (4, .nilIface), (5, .bool false), (29, .int .i64 0), (30, .int .i64 0)]) ∧ w' = w) 0 ⟨⟨f, rfl⟩, rfl⟩ ?_
      rintro k _ _ ⟨⟨f, rfl⟩, rfl⟩ J K2 hJ hK2
      (repeat (first|(with_reducible first|refine zA fun K hK=>?_|refine zB ?_|refine zC ?_)|((with_reducible first|refine zD rfl fun K hK=>?_|refine zE fun K hK=>?_);go_simp)|(with_reducible first|((repeat ((fail_if_success refine hK _ _ ?_);clear hK K));refine hK _ _ ?_;clear hK K)|refine zT (by go_simp;first|done|omega) ?_|refine zF (by go_simp;first|done|omega) ?_|refine zG ?_|refine zR ?_|refine zK ?_|refine zL ?_|refine zN ?_|refine zS ?_)|simp only [Exit.then,Exit.inBlock,Exit.noGoto,↓reduceIte,Nat.reduceEqDiff]|simp only [undef,reduceCtorEq,↓reduceIte]))
      (refine fr_out2 rfl (by decide) (by decide) (by simp only [lk_cons, lk_nil, Nat.reduceEqDiff, ↓reduceIte]; rfl) (by simp only [lk_cons, lk_nil, Nat.reduceEqDiff, ↓reduceIte]; rfl) ?_)
      exact ⟨rfl, rfl⟩
    · refine calls_fr (vs := [_, _]) 76 Tryz.func25 rfl rfl (Nat.le_of_ble_eq_true rfl) fun f => ?_
      simp only [argSlots]
      (repeat (first|(with_reducible first|refine zA fun K hK=>?_|refine zB ?_|refine zC ?_)|((with_reducible first|refine zD rfl fun K hK=>?_|refine zE fun K hK=>?_);go_simp)|(with_reducible first|((repeat ((fail_if_success refine hK _ _ ?_);clear hK K));refine hK _ _ ?_;clear hK K)|refine zT (by go_simp;first|done|omega) ?_|refine zF (by go_simp;first|done|omega) ?_|refine zG ?_|refine zR ?_|refine zK ?_|refine zL ?_|refine zN ?_|refine zS ?_)|simp only [Exit.then,Exit.inBlock,Exit.noGoto,↓reduceIte,Nat.reduceEqDiff]|simp only [undef,reduceCtorEq,↓reduceIte]))
      (refine fr_out2 rfl (by decide) (by decide) (by simp only [lk_cons, lk_nil, Nat.reduceEqDiff, ↓reduceIte]; rfl) (by simp only [lk_cons, lk_nil, Nat.reduceEqDiff, ↓reduceIte]; rfl) ?_)
      exact ⟨rfl, rfl⟩
structure CfgOk (x : Cx) (c : DC) : Prop where
  dc : DcOk x c
  no : NoEnt x c
  sp : c.space = ⟨x.o.space.toArray⟩
  auto : c.auto = .slice none 0 0
  next : c.nextTok = .nilIface
theorem CfgOk.same {x : Cx} {c c' : DC} (h : CfgOk x c) (k : SameD c c') : CfgOk x c' := by
  obtain ⟨p, q, dp, b, t1, t2, rfl⟩ := k
  exact ⟨⟨h.dc.r, h.dc.strict⟩, ⟨h.no.ent, h.no.ents⟩, h.sp, h.auto, h.next⟩
structure TS (x : Cx) (c : DC) (w : World) (v : DV) (s : St) (m : Nat) (sb fb : List Nat) (n : Nat) : Prop where
  cfg : CfgOk x c
  rd : RdTS x c w v s
  own : Own x w c v m sb fb n s.stk s.ns
  sok : StkOk s.stk
  nok : NsOk s.ns
  tcl : ∀ nm, s.toClose = some nm → nm.1.length ≤ x.T.length ∧ nm.2.length ≤ x.T.length
  bnd : n + s.stk.length + 2 * s.rest.length ≤ 2 * x.T.length
def tokBlk : Value → Nat → Prop
  | .iface _ (.agg #[_, _, .slice (some a) _ _]), k => k = a.block
  | _, _ => False
def TkPost (x : Cx) (w : World) (v : DV) (R : Except EK (RTok × St)) (m : Nat) (sb fb : List Nat) (t e : Value) (w' : World) : Prop :=
  match R with
  | .error k => t = .nilIface ∧ ErrV x e (some k) ∧ Below x.B x.W0 w' ∧ OthAt w' e k ∧ Mod (fun b => x.S1 v b ∨ b ∈ m :: (sb ++ fb)) w w'
  | .ok (tk, s') => e = .nilIface ∧ ∃ c' v' sb' fb' n', TS x c' w' v' s' m sb' fb' n' ∧ TokAt w' v'.bufv w.heap.size t tk ∧ Mod (fun b => x.S1 v b ∨ b ∈ m :: (sb ++ fb)) w w' ∧
      (∀ b ∈ m :: (sb' ++ fb'), b ∈ m :: (sb ++ fb) ∨ w.heap.size ≤ b) ∧ (∀ b, x.S1 v' b → x.S1 v b ∨ w.heap.size ≤ b) ∧ ∀ g, tokBlk t g → g ∉ m :: (sb' ++ fb') ∧ ¬ x.S1 v' g
end Go.Proofs.YtkjnockljapnbaaGreatDoor
