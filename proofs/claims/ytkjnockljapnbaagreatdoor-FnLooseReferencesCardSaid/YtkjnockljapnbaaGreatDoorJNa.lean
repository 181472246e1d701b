/- Part of the proof that laws.FnLooseReferences returns true for every text (the claim of laws.FnLooseReferences: Na). No condition of its own. -/
import Derived.Test.YtkjnockljapnbaaGreatDoorJIn2
import Derived.Lib.SlBytesRow
set_option linter.all false
/- name. -/
namespace Go.Proofs.YtkjnockljapnbaaGreatDoor
open Go Go.RowKit

/-- The context, with the library's tables. -/
structure Cx.Fit (x : Cx) : Prop extends Cx.Ok x where
  u8 : Lib.Utf8Tabs 6 7 x.W0
theorem Cx.Fit.tabs {x : Cx} (hx : x.Fit) {w : World} (h : Below x.B x.W0 w) : Lib.Utf8Tabs 6 7 w := Utf8Tabs_below hx.u8 h
abbrev strV (s : Bs) : Value := .string ⟨s.toArray⟩
theorem Stp.ofS0 {x : Cx} {w w' : World} {v v' : DV} (hm : Mod x.S0 w w') (hb : ∀ k, bufBlk v'.bufv k ↔ bufBlk v.bufv k) : Stp x w v w' v' :=
  ⟨hm.mono (fun _ _ h => Or.inl h), fun k hk => Or.inl ((hb k).1 hk)⟩
/-- The bytes of a buffer that is not empty. -/
theorem BufAt.bytes {x : Cx} {w : World} {v : Value} {buf : Bs} (h : BufAt x w v buf) (hne : buf ≠ []) : ∃ g cap, v = .slice (some ⟨g, 0, none⟩) buf.length cap ∧ BytesAt w g 0 buf ∧ buf.length ≤ cap ∧ cap ≤ 9223372036854775807 ∧ x.B ≤ g ∧ ¬ x.S0 g ∧ g < w.heap.size := by
  rcases h with ⟨_, hb⟩ | ⟨g, cap, arr, hv, hg, hsz, hl, hcp, hB, hS, hel⟩
  · exact absurd hb hne
  · exact ⟨g, cap, hv, fun j hj => by rw [Nat.zero_add, hg.cell]; exact hel j hj, hl, hcp, hB, hS, hg.lt⟩
theorem BytesAt.toBytes {w : World} {b off : Nat} {l : Bs} (h : BytesAt w b off l) : Lib.Bytes w b off ⟨l.toArray⟩ := by
  intro i hi
  have hi' : i < l.length := hi
  rw [h i hi']
  simp [List.getD_eq_getElem?_getD, hi']
  rfl
/-- string(b). -/
theorem conv_str (l : Bs) (w : World) (b off cap : Nat) (h : BytesAt w b off l) : (convert 74 9 (.slice (some ⟨b, off, none⟩) l.length cap)).run Tryz.prog w = .ok (strV l) w :=
  Lib.run_convert_whole (P := Tryz.prog) w 74 5 9 Tryz.underlying74 Tryz.underlying5 Tryz.underlying9 b off ⟨l.toArray⟩ h.toBytes cap
theorem spanName_sum (l : Bs) : (spanName l).1.length + (spanName l).2.length = l.length := by
  induction l with
  | nil => rfl
  | cons b r ih => unfold spanName; split <;> simp <;> omega
/-- After an error, or with nothing but a missing name. -/
def NoName (x : Cx) (c : DC) (w : World) (v : DV) (k : EK) : Prop := ErrS x c w v k ∨ (k = .syn ∧ ∃ r b, RdS x c w v r none b)

/-- What a reading of a name answers. -/
def NamePost (x : Cx) (c : DC) (w' : World) (v' : DV) (en : Ending) : Except EK (Bs × Bs) → Prop
  | .error k => en = .returned (.tuple #[.string ⟨#[]⟩, .bool false]) ∧ NoName x c w' v' k
  | .ok (s, r) => en = .returned (.tuple #[strV s, .bool true]) ∧ RdS x c w' v' r none s
theorem mod_none {w w' : World} (hb : Below w.heap.size w w') (S : Nat → Prop) : Mod S w w' := ⟨hb.os, hb.tape, hb.output, hb.size, fun i hi _ => hb.block i hi⟩
/-- A syntax error is laid down. -/
theorem RdS.syn {x : Cx} {c : DC} {w w' : World} {v : DV} {rest : Bs} {e : Option EK} {buf : Bs} (h : RdS x c w v rest e buf) (hx : x.Ok) (hb : Below w.heap.size w w') (a : Addr) :
    ErrS x c (w'.setCell ⟨x.d, 20, none⟩ (.iface 106 (.pointer (some a)))) { v with err := .iface 106 (.pointer (some a)) } .syn :=
  ⟨(Mod.below h.base h.base.size (mod_none hb (fun _ => False)) (fun _ h => h.elim)).setCell hx.d _, (show Blk _ x.d _ _ from Blk.mod (S := fun _ => False) h.dec (mod_none hb _) id).set 20 _, ⟨a, rfl⟩⟩
theorem Stp.syn {x : Cx} {w0 w w' : World} {v0 v : DV} (h : Stp x w0 v0 w v) (hb : Below w.heap.size w w') (u : Value) : Stp x w0 v0 (w'.setCell ⟨x.d, 20, none⟩ u) { v with err := u } :=
  h.s0 ((mod_none hb x.S0).setCell (p := ⟨x.d, 20, none⟩) (Or.inl (Or.inl rfl)) u) rfl
/-- New blocks alone. -/
theorem RdS.below {x : Cx} {c : DC} {w w' : World} {v : DV} {rest : Bs} {e : Option EK} {buf : Bs} (h : RdS x c w v rest e buf) (hx : x.Ok) (hb : Below w.heap.size w w') : RdS x c w' v rest e buf := by
  obtain ⟨un, hun, hu⟩ := h.inp
  exact h.step hx (Blk.mod (S := fun _ => False) h.dec (mod_none hb _) id) (mod_none hb _) ⟨un, hun.mod (mod_none hb (fun _ => False)) id id id, hu⟩ h.pos h.err h.fin rfl
theorem nameL_end {f : Bool} {rest : Bs} (h : (spanName rest).2 = []) : nameL f rest = .error (mustE f) := by unfold nameL; rw [if_pos h]
theorem nameL_none {f : Bool} {rest : Bs} (h : (spanName rest).2 ≠ []) (h1 : (spanName rest).1 = []) : nameL f rest = .error .syn := by unfold nameL; rw [if_neg h, if_pos h1]
theorem nameL_some {f : Bool} {rest : Bs} (h : (spanName rest).2 ≠ []) (h1 : (spanName rest).1 ≠ []) : nameL f rest = if isNameL (spanName rest).1 then .ok (spanName rest) else .error .syn := by unfold nameL; rw [if_neg h, if_neg h1]

set_option maxHeartbeats 2000000 in
set_option maxRecDepth 100000 in
theorem name_c (x : Cx) (hx : x.Fit) (c : DC) (hdc : DcOk x c) (w : World) (v : DV) (rest : Bs) (e : Option EK) (buf : Bs) (h : RdS x c w v rest e buf) :
    Calls Tryz.prog 41 #[.pointer (some ⟨x.d, 0, none⟩)] w fun en w' => ∃ v', Stp x w v w' v' ∧
      NamePost x c w' v' en (nameL x.o.fails rest) := by
  have HX := Lib.hid hx
  have HD := Lib.hid hdc
  have HLL := Lib.hid (show rest.length ≤ 1000000000 from Nat.le_trans (h.suf.length_le) hx.len)
  have hrs := Lib.hid (reset_c x hx.toOk c w v rest e buf h)
  clear h hx hdc
  go_enter Tryz.func41, Tryz.ntmps41
  go_wp2_with fail
  refine hrs.out.mono ?_
  rintro e1 w1 ⟨rfl, v1, h1, hn1, hb1, hm1, hz1⟩
  have hrn := Lib.hid (readName_c x HX.out.toOk c HD.out w1 v1 rest e [] h1 (by simp))
  have HS1 := Lib.hid (Stp.ofS0 hm1 hb1)
  clear h1 hn1 hb1 hm1 hz1 hrs
  go_wp2_with fail
  refine hrn.out.mono ?_
  rintro e2 w2 ⟨v2, hs2, hq⟩
  have HS2 := Lib.hid (HS1.out.trans hs2)
  clear hs2 hrn
  rcases hq with ⟨hsp, rfl, he⟩ | ⟨hsp, hs1, rfl, hr⟩ | ⟨hsp, hs1, rfl, hr⟩
  · have HE := Lib.hid he
    have HSP := Lib.hid hsp
    clear he hsp
    go_wp2
    go_ret2
    refine ⟨v2, HS2.out, ?_⟩
    rw [nameL_end HSP.out]
    exact ⟨rfl, Or.inl HE.out⟩
  · have HR := Lib.hid hr
    have HSP := Lib.hid hsp
    have HS1 := Lib.hid hs1
    clear hr hsp hs1
    go_wp2
    go_ret2
    refine ⟨v2, HS2.out, ?_⟩
    rw [nameL_none HSP.out HS1.out]
    exact ⟨rfl, Or.inr ⟨rfl, _, _, HR.out⟩⟩
  · rw [List.nil_append] at hr
    obtain ⟨l, hl⟩ : ∃ l, l = (spanName rest).1 := ⟨_, rfl⟩
    have hll : l.length ≤ 1000000000 := by have := spanName_sum rest; have := HLL.out; rw [hl]; omega
    have HNL := Lib.hid (show nameL x.o.fails rest = if isNameL l then .ok (l, (spanName rest).2) else .error .syn by
      rw [nameL_some hsp hs1, hl])
    rw [← hl] at hr hs1
    obtain ⟨g, cap, hv, hbytes, hlc, hcm, hBg, hSg, hglt⟩ := hr.bf.bytes hs1
    have hby := Lib.hid (bytes_c x c w2 v2 _ none l hr)
    have hin := Lib.hid (fun k => isName_c l g 0 cap (w2.drewN k) hs1 (HX.out.tabs (Below_drewN hr.base k)) hbytes (by omega) hlc hcm)
    have HR := Lib.hid hr
    have HBY := Lib.hid hbytes
    clear hr hbytes hsp hl hBg hSg
    rw [hv] at hby
    go_wp2_with fail
    refine hby.out.mono ?_
    rintro e3 w3 ⟨rfl, k, rfl⟩
    go_wp2_with fail
    refine (hin.out k).mono ?_
    rintro e4 w4 ⟨rfl, hb4⟩
    have hb4' : Below w2.heap.size w2 w4 := ⟨hb4.os, hb4.tape, hb4.output, hb4.size, hb4.block⟩
    have h4 := HR.out.below HX.out.toOk hb4'
    have HS4 := Lib.hid (HS2.out.s0 (mod_none hb4' _) rfl)
    have hconv := conv_str l w4 g 0 cap (HBY.out.below hb4')
    have H4 := Lib.hid h4
    clear hb4 hb4' hin hby h4
    have hcase : isNameL l = true ∨ isNameL l = false := by cases isNameL l <;> simp
    rcases hcase with hc | hc
    · have HN := Lib.hid (show nameL x.o.fails rest = .ok (l, (spanName rest).2) by rw [HNL.out, if_pos hc])
      go_wp2
      go_ret2
      refine ⟨v2, HS4.out, ?_⟩
      rw [HN.out]
      exact ⟨rfl, H4.out⟩
    · have HN := Lib.hid (show nameL x.o.fails rest = .error .syn by rw [HNL.out, hc]; rfl)
      have hsy := Lib.hid (synErr x.d c v2 w4 H4.out.dec)
      go_wp2_with fail
      refine (hsy.out _).mono ?_
      rintro e5 w5 ⟨rfl, hw5⟩
      have hb5 : Below w4.heap.size w4 w5 := by rw [hw5]; exact (Below.refl _ w4).alloc (Nat.le_refl _) _
      have hd5 : DecAt w5 x.d c v2 := Blk.mod (S := fun _ => False) H4.out.dec (mod_none hb5 _) id
      have hc5 := hd5.cell
      have hf5 := hd5.frozen
      have HB5 := Lib.hid hb5
      clear hw5 hd5 hb5
      go_wp2
      go_ret2
      refine ⟨{ v2 with err := .iface 106 (.pointer (some ⟨w4.heap.size, 0, none⟩)) }, HS4.out.syn HB5.out _, ?_⟩
      rw [HN.out]
      exact ⟨rfl, Or.inl (H4.out.syn HX.out.toOk HB5.out _)⟩
end Go.Proofs.YtkjnockljapnbaaGreatDoor
