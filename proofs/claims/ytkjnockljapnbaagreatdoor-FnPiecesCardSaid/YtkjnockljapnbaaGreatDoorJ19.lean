/- Part of the proof that laws.FnPieces returns true for every argument (Va, Vb, Vc, Sa). No condition of its own. -/
import Derived.Test.YtkjnockljapnbaaGreatDoorJ18
import Derived.Test.YtkjnockljapnbaaGreatDoorJ03
import Derived.Test.YtkjnockljapnbaaGreatDoorJ12
import Derived.Maps.OwnSet
import Derived.Maps.StringElems
set_option linter.all false
namespace Go.Proofs.YtkjnockljapnbaaGreatDoor
open Go Go.RowKit
abbrev chV (v : Value) : Value := .iface 114 v
def RawTextPost (x : Cx) (c : DC) (w' : World) (v' : DV) (en : Ending) : Except EK (Bs × Bs) → Prop
  | .error k => en = .returned (.tuple #[.nilIface, v'.err]) ∧ ErrS x c w' v' k
  | .ok (d, r) => ∃ g cap e b, en = .returned (.tuple #[chV (.slice (some ⟨g, 0, none⟩) d.length cap), .nilIface]) ∧ RdS x c w' v' r e b ∧ v'.bufv = .slice (some ⟨g, 0, none⟩) b.length cap ∧ d = b.take d.length ∧ d.length ≤ b.length ∧ (r = [] → e = some (endE x.o.fails))
theorem slNil (w : World) : (binOp .eql 74 (.slice none 0 0) (.slice none 0 0)).run Tryz.prog w = .ok (.bool true) w := by kernel_rfl
theorem slSome (a : Addr) (l c : Nat) (w : World) : (binOp .eql 74 (.slice (some a) l c) (.slice none 0 0)).run Tryz.prog w = .ok (.bool false) w := by kernel_rfl
set_option maxHeartbeats 8000000 in
set_option maxRecDepth 100000 in
theorem rawText (x : Cx) (hx : x.All) (c : DC) (hdc : DcOk x c) (hno : NoEnt x c) (hnc : c.needClose = false) (w : World) (v : DV) (b : UInt8) (r : Bs) (buf : Bs) (hb : b ≠ 60) (h : RdS x c w v (b :: r) none buf) :
    Calls Tryz.prog 23 #[decP x] w fun en w' => ∃ v', Stp x w v w' v' ∧ RawTextPost x c w' v' en (textL x.o none false (b :: r) 0 0 []) := by
  have hg := Lib.hid (getc_some x hx.toOk c hdc w v b r none buf h)
  have HSUF := Lib.hid h.suf
  have HX := Lib.hid hx
  have HD := Lib.hid hdc
  have HNO := Lib.hid hno
  have HB := Lib.hid hb
  have hc := h.dec.cell
  have hf := h.dec.frozen
  have he : v.err = .nilIface := h.err
  have hb60 := u8ne hb (n := 60) rfl
  have hb60' : ((b.toNat : Int) != 60) = true := by simpa using hb60
  clear h hx hdc hno hb
  refine calls_fr (vs := [_]) 731 Tryz.func23 rfl rfl (Nat.le_of_ble_eq_true rfl) fun f => ?_
  simp only [argSlots]
  (repeat (first|(with_reducible first|refine zA fun K hK=>?_|refine zB ?_|refine zC ?_)|((with_reducible first|refine zD rfl fun K hK=>?_|refine zE fun K hK=>?_);go_simp)|(with_reducible first|((repeat ((fail_if_success refine hK _ _ ?_);clear hK K));refine hK _ _ ?_;clear hK K)|refine zT (by go_simp;first|done|omega) ?_|refine zF (by go_simp;first|done|omega) ?_|refine zG ?_|refine zR ?_|refine zK ?_|refine zL ?_|refine zN ?_|refine zS ?_)|simp only [Exit.then,Exit.inBlock,Exit.noGoto,↓reduceIte,Nat.reduceEqDiff]|simp only [undef,reduceCtorEq,↓reduceIte]))
  refine hg.out.mono ?_
  rintro e1 w1 ⟨rfl, v1, h1, hn1, hb1, hm1, _⟩
  have hun := Lib.hid (ungetc_c x HX.out.toOk c w1 v1 b r _ h1 hn1 HSUF.out)
  have HS1 := Lib.hid (hm1.stp hb1)
  clear h1 hn1 hb1 hm1 hg hc hf
  go_simp
  (repeat (first|(with_reducible first|refine zA fun K hK=>?_|refine zB ?_|refine zC ?_)|((with_reducible first|refine zD rfl fun K hK=>?_|refine zE fun K hK=>?_);go_simp)|(with_reducible first|((repeat ((fail_if_success refine hK _ _ ?_);clear hK K));refine hK _ _ ?_;clear hK K)|refine zT (by go_simp;first|done|omega) ?_|refine zF (by go_simp;first|done|omega) ?_|refine zG ?_|refine zR ?_|refine zK ?_|refine zL ?_|refine zN ?_|refine zS ?_)|simp only [Exit.then,Exit.inBlock,Exit.noGoto,↓reduceIte,Nat.reduceEqDiff]|simp only [undef,reduceCtorEq,↓reduceIte]))
  refine hun.out.mono ?_
  rintro e2 w2 ⟨rfl, v2, h2, _, hb2, hm2, _⟩
  have htx := Lib.hid (text_c x HX.out c HD.out HNO.out none false w2 v2 (b :: r) none buf h2 (fun h => absurd rfl h) (fun _ _ => ⟨b, r, rfl, HB.out⟩))
  have HS2 := Lib.hid (HS1.out.s0 hm2 hb2)
  clear h2 hb2 hm2 hun he
  go_simp
  (repeat (first|(with_reducible first|refine zA fun K hK=>?_|refine zB ?_|refine zC ?_)|((with_reducible first|refine zD rfl fun K hK=>?_|refine zE fun K hK=>?_);go_simp)|(with_reducible first|((repeat ((fail_if_success refine hK _ _ ?_);clear hK K));refine hK _ _ ?_;clear hK K)|refine zT (by go_simp;first|done|omega) ?_|refine zF (by go_simp;first|done|omega) ?_|refine zG ?_|refine zR ?_|refine zK ?_|refine zL ?_|refine zN ?_|refine zS ?_)|simp only [Exit.then,Exit.inBlock,Exit.noGoto,↓reduceIte,Nat.reduceEqDiff]|simp only [undef,reduceCtorEq,↓reduceIte]))
  rw [show (-1 : Int) = qI none from rfl]
  refine htx.out.mono ?_
  rintro e3 w3 ⟨v3, hs3, hp⟩
  have HS3 := Lib.hid (HS2.out.trans hs3)
  clear hs3 htx
  cases hres : textL x.o none false (b :: r) 0 0 [] with
  | error k =>
    rw [hres] at hp
    obtain ⟨rfl, hE⟩ := hp
    have hc := hE.dec.cell
    have hf := hE.dec.frozen
    have HE := Lib.hid hE
    have HRES := Lib.hid hres
    clear hE hres
    have q1 := fun w => slNil w
    go_simp
    (repeat (first|(with_reducible first|refine zA fun K hK=>?_|refine zB ?_|refine zC ?_)|((with_reducible first|refine zD rfl fun K hK=>?_|refine zE fun K hK=>?_);go_simp)|(with_reducible first|((repeat ((fail_if_success refine hK _ _ ?_);clear hK K));refine hK _ _ ?_;clear hK K)|refine zT (by go_simp;first|done|omega) ?_|refine zF (by go_simp;first|done|omega) ?_|refine zG ?_|refine zR ?_|refine zK ?_|refine zL ?_|refine zN ?_|refine zS ?_)|simp only [Exit.then,Exit.inBlock,Exit.noGoto,↓reduceIte,Nat.reduceEqDiff]|simp only [undef,reduceCtorEq,↓reduceIte]))
    (refine wp_keep [0] (fun f => ?_); simp only [keep_cons, keep_nil, lk_cons, lk_nil, Nat.reduceEqDiff, ↓reduceIte])
    go_quiet (fail)
    (repeat (first|(with_reducible first|refine zA fun K hK=>?_|refine zB ?_|refine zC ?_)|((with_reducible first|refine zD rfl fun K hK=>?_|refine zE fun K hK=>?_);go_simp)|(with_reducible first|((repeat ((fail_if_success refine hK _ _ ?_);clear hK K));refine hK _ _ ?_;clear hK K)|refine zT (by go_simp;first|done|omega) ?_|refine zF (by go_simp;first|done|omega) ?_|refine zG ?_|refine zR ?_|refine zK ?_|refine zL ?_|refine zN ?_|refine zS ?_)|simp only [Exit.then,Exit.inBlock,Exit.noGoto,↓reduceIte,Nat.reduceEqDiff]|simp only [undef,reduceCtorEq,↓reduceIte]))
    (refine fr_out2 rfl (by decide) (by decide) (by simp only [lk_cons, lk_nil, Nat.reduceEqDiff, ↓reduceIte]; rfl) (by simp only [lk_cons, lk_nil, Nat.reduceEqDiff, ↓reduceIte]; rfl) ?_)
    refine ⟨v3, HS3.out.trans (Stp.drewN _), ?_⟩
    rw [HRES.out]
    exact ⟨rfl, ⟨Below_drewN HE.out.base _, HE.out.dec, HE.out.err⟩⟩
  | ok dr =>
    obtain ⟨d, r'⟩ := dr
    rw [hres] at hp
    obtain ⟨g, cap, e, b', rfl, hR, hbv, hd1, hd2, hend, _⟩ := hp
    have HR := Lib.hid hR
    have HBV := Lib.hid hbv
    have HD1 := Lib.hid hd1
    have HEND := Lib.hid hend
    have HRES := Lib.hid hres
    clear hR hbv hd1 hend hres
    have q1 := fun a l c w => slSome a l c w
    go_simp
    (repeat (first|(with_reducible first|refine zA fun K hK=>?_|refine zB ?_|refine zC ?_)|((with_reducible first|refine zD rfl fun K hK=>?_|refine zE fun K hK=>?_);go_simp)|(with_reducible first|((repeat ((fail_if_success refine hK _ _ ?_);clear hK K));refine hK _ _ ?_;clear hK K)|refine zT (by go_simp;first|done|omega) ?_|refine zF (by go_simp;first|done|omega) ?_|refine zG ?_|refine zR ?_|refine zK ?_|refine zL ?_|refine zN ?_|refine zS ?_)|simp only [Exit.then,Exit.inBlock,Exit.noGoto,↓reduceIte,Nat.reduceEqDiff]|simp only [undef,reduceCtorEq,↓reduceIte]))
    (refine fr_out2 rfl (by decide) (by decide) (by simp only [lk_cons, lk_nil, Nat.reduceEqDiff, ↓reduceIte]; rfl) (by simp only [lk_cons, lk_nil, Nat.reduceEqDiff, ↓reduceIte]; rfl) ?_)
    refine ⟨v3, HS3.out, ?_⟩
    rw [HRES.out]
    exact ⟨g, cap, e, b', rfl, HR.out, HBV.out, HD1.out, hd2, HEND.out rfl rfl⟩
theorem rawErr (x : Cx) (c : DC) (w : World) (v : DV) (h : DecAt w x.d c v) (t : TypeId) (u : Value) (he : v.err = .iface t u) :
    Calls Tryz.prog 23 #[decP x] w fun en w' => en = .returned (.tuple #[.nilIface, v.err]) ∧ ∃ k, w' = w.drewN k := by
  have hc := h.cell
  have hf := h.frozen
  clear h
  refine calls_fr (vs := [_]) 731 Tryz.func23 rfl rfl (Nat.le_of_ble_eq_true rfl) fun f => ?_
  simp only [argSlots]
  (repeat (first|(with_reducible first|refine zA fun K hK=>?_|refine zB ?_|refine zC ?_)|((with_reducible first|refine zD rfl fun K hK=>?_|refine zE fun K hK=>?_);go_simp)|(with_reducible first|((repeat ((fail_if_success refine hK _ _ ?_);clear hK K));refine hK _ _ ?_;clear hK K)|refine zT (by go_simp;first|done|omega) ?_|refine zF (by go_simp;first|done|omega) ?_|refine zG ?_|refine zR ?_|refine zK ?_|refine zL ?_|refine zN ?_|refine zS ?_)|simp only [Exit.then,Exit.inBlock,Exit.noGoto,↓reduceIte,Nat.reduceEqDiff]|simp only [undef,reduceCtorEq,↓reduceIte]))
  (refine wp_keep [0] (fun f => ?_); simp only [keep_cons, keep_nil, lk_cons, lk_nil, Nat.reduceEqDiff, ↓reduceIte])
  go_quiet (fail)
  (repeat (first|(with_reducible first|refine zA fun K hK=>?_|refine zB ?_|refine zC ?_)|((with_reducible first|refine zD rfl fun K hK=>?_|refine zE fun K hK=>?_);go_simp)|(with_reducible first|((repeat ((fail_if_success refine hK _ _ ?_);clear hK K));refine hK _ _ ?_;clear hK K)|refine zT (by go_simp;first|done|omega) ?_|refine zF (by go_simp;first|done|omega) ?_|refine zG ?_|refine zR ?_|refine zK ?_|refine zL ?_|refine zN ?_|refine zS ?_)|simp only [Exit.then,Exit.inBlock,Exit.noGoto,↓reduceIte,Nat.reduceEqDiff]|simp only [undef,reduceCtorEq,↓reduceIte]))
  (refine fr_out2 rfl (by decide) (by decide) (by simp only [lk_cons, lk_nil, Nat.reduceEqDiff, ↓reduceIte]; rfl) (by simp only [lk_cons, lk_nil, Nat.reduceEqDiff, ↓reduceIte]; rfl) ?_)
  exact ⟨by rw [he], _, rfl⟩
end Go.Proofs.YtkjnockljapnbaaGreatDoor
namespace Go.Proofs.YtkjnockljapnbaaGreatDoor
open Go Go.RowKit
theorem ptrNil (w : World) : (binOp .neq 80 (.pointer none) (.pointer none)).run Tryz.prog w = .ok (.bool false) w := by kernel_rfl
theorem ptrNilE (w : World) : (binOp .eql 80 (.pointer none) (.pointer none)).run Tryz.prog w = .ok (.bool true) w := by kernel_rfl
theorem anyNil (w : World) : (binOp .neq 53 .nilIface .nilIface).run Tryz.prog w = .ok (.bool false) w := by kernel_rfl
abbrev zStr : Value := .string ⟨#[]⟩
theorem taChS (v : Value) (w : World) : (Instr.typeAssert (chV v) 53 94 true).run Tryz.prog w = .ok (.tuple #[.agg #[zStr, zStr, .slice none 0 0], .bool false]) w := by kernel_rfl
theorem taChE (v : Value) (w : World) : (Instr.typeAssert (chV v) 53 103 true).run Tryz.prog w = .ok (.tuple #[.agg #[zStr, zStr], .bool false]) w := by kernel_rfl
theorem anyNilE (w : World) : (binOp .eql 53 .nilIface .nilIface).run Tryz.prog w = .ok (.bool true) w := by kernel_rfl
end Go.Proofs.YtkjnockljapnbaaGreatDoor
namespace Go.Proofs.YtkjnockljapnbaaGreatDoor
open Go Go.RowKit
abbrev tokV (kind : Int) (space loc : Bs) (attrs : Value) (text : Bs) (at' line col : Int) : Value := .agg #[.int .i64 kind, strV space, strV loc, attrs, strV text, .int .i64 at', .int .i64 line, .int .i64 col]
theorem Blk.drew {w : World} {b : Nat} {cs : Array Value} {t : TypeId} (h : Blk w b cs t) : Blk w.drew b cs t := h
theorem BytesAt.setCell {w : World} {b off : Nat} {l : Bs} (h : BytesAt w b off l) {a : Addr} (hn : b ≠ a.block) (u : Value) : BytesAt (w.setCell a u) b off l := fun j hj => (cell_of_heap (heap_setCell_ne _ _ _ _ hn) _).trans (h j hj)
theorem BytesAt.drew {w : World} {b off : Nat} {l : Bs} (h : BytesAt w b off l) : BytesAt w.drew b off l := h
theorem BytesAt.drewN {w : World} {b off : Nat} {l : Bs} (h : BytesAt w b off l) (n : Nat) : BytesAt (w.drewN n) b off l := h
theorem taChC (v : Value) (w : World) : (Instr.typeAssert (chV v) 53 114 true).run Tryz.prog w = .ok (.tuple #[v, .bool true]) w := by kernel_rfl
theorem conv_ch (l : Bs) (w : World) (b off cap : Nat) (h : BytesAt w b off l) : (convert 114 9 (.slice (some ⟨b, off, none⟩) l.length cap)).run Tryz.prog w = .ok (strV l) w :=
  Lib.run_convert_whole (P := Tryz.prog) w 114 5 9 Tryz.underlying114 Tryz.underlying5 Tryz.underlying9 b off ⟨l.toArray⟩ h.toBytes cap
end Go.Proofs.YtkjnockljapnbaaGreatDoor
namespace Go.Proofs.YtkjnockljapnbaaGreatDoor
open Go Go.RowKit
theorem mapK : Maps.Keyed Tryz.prog 9 := Maps.string_keyed Tryz.underlying9
def NsAt (w : World) (m n : Nat) (ns : Bs → Option Bs) : Prop :=
  ∃ D : DataW Unit, w.ownsMap Tryz.prog 9 (plainElem Tryz.prog 9) m n D ∧ ∀ k, (ns k = none → ∀ z, D.atKey (.string k) z = z) ∧ (∀ s, ns k = some s → ∀ z, D.atKey (.string k) z = .lit (.string s)) ∧ Maps.has D (.string k) = (ns k).isSome
theorem strKey (s : Bs) (h : s.length ≤ maxLen) : keyOf Tryz.prog 9 (strV s) = some (.string s) := by
  have := WideMaps.keyOf_string_mk (P := Tryz.prog) (k := 9) Tryz.underlying9 (s := ⟨s.toArray⟩) h
  simpa using this
theorem NsAt.made (w : World) : NsAt (w.alloc (.map #[] 0)) w.heap.size 0 (fun _ => none) :=
  ⟨.map [], World.ownsMap_made w _ _ _, fun k => ⟨fun _ z => rfl, ⟨fun s h => (by cases h), rfl⟩⟩⟩
theorem NsAt.lt {w : World} {m n : Nat} {ns : Bs → Option Bs} (h : NsAt w m n ns) : m < w.heap.size := by
  obtain ⟨D, h, _⟩ := h; exact h.lt
theorem NsAt.mono {w : World} {m n n' : Nat} {ns : Bs → Option Bs} (h : NsAt w m n ns) (hn : n ≤ n') : NsAt w m n' ns := by
  obtain ⟨D, h, h2⟩ := h; exact ⟨D, h.mono hn, h2⟩
theorem NsAt.mod {w w' : World} {m n : Nat} {ns : Bs → Option Bs} {S : Nat → Prop} (h : NsAt w m n ns) (hm : Mod S w w') (hS : ¬ S m) : NsAt w' m n ns := by
  obtain ⟨D, h1, h2⟩ := h
  refine ⟨D, ?_, h2⟩
  obtain ⟨es, cl, hb, F, hs, hD⟩ := h1
  exact ⟨es, cl, (hm.block m (by
    rcases Nat.lt_or_ge m w.heap.size with h' | h'
    · exact h'
    · simp [Array.getElem?_eq_none h'] at hb) hS).trans hb, F, hs, hD⟩
theorem strZero (w : World) : (zeroValue 9).run Tryz.prog w = .ok (.string ⟨#[]⟩) w := by kernel_rfl
theorem strElem (s : Bs) (h : s.length ≤ maxLen) : plainElem (H := Unit) Tryz.prog 9 (strV s) = some (.lit (.string s), []) := by
  have := plainElem_string (H := Unit) (P := Tryz.prog) (e := 9) Tryz.underlying9 (s := ⟨s.toArray⟩) h
  simpa using this
theorem NsAt.look {w : World} {m n : Nat} {ns : Bs → Option Bs} (h : NsAt w m n ns) (k : Bs) (hkl : k.length ≤ maxLen) :
    (Instr.lookup 68 (.map (some m)) (strV k) true).run Tryz.prog w = .ok (.tuple #[strV ((ns k).getD []), .bool (ns k).isSome]) w := by
  obtain ⟨D, h1, h2⟩ := h
  obtain ⟨a1, a2, a3⟩ := h2 k
  obtain ⟨v, ps, hr, hv⟩ := h1.look_ok (t := 68) (e := 9) mapK Tryz.underlying68 (strZero w) (zd := .lit (.string [])) (zp := []) (strElem [] (by simp)) (strKey k hkl)
  rw [hr, a3]
  obtain ⟨s, rfl, hz, _⟩ := plainElem_string_inv Tryz.underlying9 hv
  have hs : DataW.lit (H := Unit) (.string s.data.toList) = .lit (.string ((ns k).getD [])) := by
    have hz1 := (congrArg Prod.fst hz).symm
    simp only at hz1
    rw [hz1]
    cases hk : ns k with
    | none => rw [a1 hk]; rfl
    | some t => rw [a2 t hk]; rfl
  have hs2 : s.data.toList = (ns k).getD [] := by
    simp only [DataW.lit.injEq, Lit.string.injEq] at hs; exact hs
  have hs3 : s = ⟨((ns k).getD []).toArray⟩ := by
    apply ByteArray.ext; apply Array.toList_inj.1; rw [hs2]
  rw [hs3]
theorem turned_mod {w w' : World} {m : Nat} (h : w.mapTurned w' m) : Mod (fun k => k = m) w w' := by
  have g := h.grown
  exact ⟨g.os, g.tape, g.output, g.size, fun k hk hn => g.block k hk (by simpa using hn)⟩
theorem isKeyLit_str (s : Bs) : WideAt.IsKeyLit (.string s) := trivial
theorem NsAt.store {w : World} {m n : Nat} {ns : Bs → Option Bs} (h : NsAt w m n ns) (hn : n < maxLen) (k v : Bs) (hkl : k.length ≤ maxLen) (hv : v.length ≤ maxLen) :
    ∃ w', (Instr.mapUpdate 68 (.map (some m)) (strV k) (strV v)).run Tryz.prog w = .ok () w' ∧ NsAt w' m (n + 1) (setNs ns k (some v)) ∧ w.mapTurned w' m := by
  obtain ⟨D, h1, h2⟩ := h
  obtain ⟨w', hr, ho, ht⟩ := h1.store (t := 68) (e := 9) mapK Tryz.underlying68 hn (strKey k hkl) (strElem v hv)
  refine ⟨w', hr, ⟨_, ho, fun k' => ?_⟩, ht⟩
  unfold setNs
  by_cases hk : k' = k
  · subst hk
    simp only [if_true]
    refine ⟨fun hh => (by cases hh), fun s hs z => ?_, ?_⟩
    · cases hs; exact Maps.atKey_put_same h1.isMap (isKeyLit_str _) _ _
    · exact Maps.has_put_same h1.isMap (isKeyLit_str _) _
  · simp only [if_neg hk]
    have hne : Lit.string k' ≠ Lit.string k := by simpa using hk
    obtain ⟨a1, a2, a3⟩ := h2 k'
    exact ⟨fun hh z => by rw [Maps.atKey_put_other hne]; exact a1 hh z, fun s hs z => by rw [Maps.atKey_put_other hne]; exact a2 s hs z, by rw [Maps.has_put_other hne]; exact a3⟩
theorem NsAt.drop {w : World} {m n : Nat} {ns : Bs → Option Bs} (h : NsAt w m n ns) (k : Bs) (hkl : k.length ≤ maxLen) (ty : TypeId) :
    ∃ w', (Builtin.delete_ #[68, 9] ty #[.map (some m), strV k]).run Tryz.prog w = .ok (.tuple #[]) w' ∧ NsAt w' m n (setNs ns k none) ∧ w.mapTurned w' m := by
  obtain ⟨D, h1, h2⟩ := h
  obtain ⟨w', hr, ho, ht⟩ := h1.drop (t := 68) (e := 9) mapK Tryz.underlying68 (strKey k hkl) ty
  refine ⟨w', hr, ⟨_, ho, fun k' => ?_⟩, ht⟩
  unfold setNs
  by_cases hk : k' = k
  · subst hk
    simp only [if_true]
    exact ⟨fun _ z => Maps.atKey_del_same z, fun s hs => (by cases hs), Maps.has_del_same⟩
  · simp only [if_neg hk]
    have hne : Lit.string k' ≠ Lit.string k := by simpa using hk
    obtain ⟨a1, a2, a3⟩ := h2 k'
    exact ⟨fun hh z => by rw [Maps.atKey_del_other hne]; exact a1 hh z, fun s hs z => by rw [Maps.atKey_del_other hne]; exact a2 s hs z, by rw [Maps.has_del_other hne]; exact a3⟩
@[go_sem] def skCells (nx : Value) (k : Int) (sp loc : Bs) (ok : Bool) : Array Value := #[nx, .int .i64 k, strV sp, strV loc, .bool ok]
def StkAt (w : World) : Value → List Ent → List Nat → Prop
  | p, [], [] => p = .pointer none
  | p, e :: l, b :: bs => p = .pointer (some ⟨b, 0, none⟩) ∧ ∃ nx ok, Blk w b (skCells nx e.kind e.space e.loc ok) 88 ∧ (e.kind = 1 → ok = e.ok) ∧ StkAt w nx l bs
  | _, _, _ => False
theorem StkAt.mod {w w' : World} {S : Nat → Prop} (hm : Mod S w w') : ∀ {p : Value} {l : List Ent} {bs : List Nat}, StkAt w p l bs → (∀ b ∈ bs, ¬ S b) → StkAt w' p l bs
  | p, [], [], h, _ => h
  | p, e :: l, b :: bs, h, hS => by
    obtain ⟨hp, nx, ok, hb, hk, hr⟩ := h
    exact ⟨hp, nx, ok, hb.mod hm (hS b (by simp)), hk, StkAt.mod hm hr (fun c hc => hS c (by simp [hc]))⟩
  | _, [], _ :: _, h, _ => h.elim
  | _, _ :: _, [], h, _ => h.elim
theorem StkAt.lt {w : World} : ∀ {p : Value} {l : List Ent} {bs : List Nat}, StkAt w p l bs → ∀ b ∈ bs, b < w.heap.size
  | p, [], [], h, b, hb => by simp at hb
  | p, e :: l, b :: bs, h, c, hc => by
    obtain ⟨hp, nx, ok, hb, hk, hr⟩ := h
    simp only [List.mem_cons] at hc
    rcases hc with rfl | hc
    · exact hb.lt
    · exact hr.lt c hc
  | _, [], _ :: _, h, _, _ => h.elim
  | _, _ :: _, [], h, _, _ => h.elim
structure Own (x : Cx) (w : World) (c : DC) (v : DV) (m : Nat) (sb fb : List Nat) (n : Nat) (stk : List Ent) (ns : Bs → Option Bs) : Prop where
  stk : StkAt w c.stk stk sb
  free : ∃ fl, StkAt w c.free fl fb
  map : c.ns = .map (some m)
  ns : NsAt w m n ns
  nodup : (m :: (sb ++ fb)).Nodup
  base : ∀ b ∈ m :: (sb ++ fb), x.B ≤ b
  s1 : ∀ b ∈ m :: (sb ++ fb), ¬ x.S1 v b
theorem Own.lt {x : Cx} {w : World} {c : DC} {v : DV} {m : Nat} {sb fb : List Nat} {n : Nat} {stk : List Ent} {ns : Bs → Option Bs} (h : Own x w c v m sb fb n stk ns) : ∀ b ∈ m :: (sb ++ fb), b < w.heap.size := by
  intro b hb
  simp only [List.mem_cons, List.mem_append] at hb
  rcases hb with rfl | hb | hb
  · exact h.ns.lt
  · exact h.stk.lt b hb
  · obtain ⟨fl, hf⟩ := h.free; exact hf.lt b hb
theorem Own.mod {x : Cx} {w w' : World} {c : DC} {v v' : DV} {m : Nat} {sb fb : List Nat} {n : Nat} {stk : List Ent} {ns : Bs → Option Bs} {S : Nat → Prop} (h : Own x w c v m sb fb n stk ns) (hm : Mod S w w') (hS : ∀ b ∈ m :: (sb ++ fb), ¬ S b) (hv : ∀ b ∈ m :: (sb ++ fb), ¬ x.S1 v' b) : Own x w' c v' m sb fb n stk ns := by
  obtain ⟨fl, hf⟩ := h.free
  exact ⟨h.stk.mod hm (fun b hb => hS b (by simp [hb])), ⟨fl, hf.mod hm (fun b hb => hS b (by simp [hb]))⟩, h.map, h.ns.mod hm (hS m (by simp)), h.nodup, h.base, hv⟩
theorem Own.step {x : Cx} {w w' : World} {c : DC} {v v' : DV} {m : Nat} {sb fb : List Nat} {n : Nat} {stk : List Ent} {ns : Bs → Option Bs} (h : Own x w c v m sb fb n stk ns) (hs : Stp x w v w' v') : Own x w' c v' m sb fb n stk ns := by
  refine h.mod hs.mod (fun b hb => h.s1 b hb) (fun b hb hk => ?_)
  rcases hk with hk | hk
  · exact h.s1 b hb (Or.inl hk)
  · rcases hs.buf b hk with hk | hk
    · exact h.s1 b hb (Or.inr hk)
    · have := h.lt b hb; omega
end Go.Proofs.YtkjnockljapnbaaGreatDoor
