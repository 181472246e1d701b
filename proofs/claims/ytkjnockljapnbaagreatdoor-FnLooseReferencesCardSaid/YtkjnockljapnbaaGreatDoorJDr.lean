/- Part of the proof that laws.FnLooseReferences returns true for every text (the claim of laws.FnLooseReferences: Dr, Run). No condition of its own. -/
import Derived.Test.YtkjnockljapnbaaGreatDoorJNm
import Derived.Shelf.Spec.DecodeRune
import Derived.Test.YtkjnockljapnbaaGreatDoorJBuf
set_option linter.all false
/- DecodeRune over a slice of bytes. -/
namespace Go.Proofs.YtkjnockljapnbaaGreatDoor
open Go Go.RowKit

def dr_ren : Go.Shelf.Ren := ⟨fun | 32 => 65 | 49 => 84 | n => n,
  fun | 0 => 0 | 3 => 3 | 4 => 4 | 5 => 5 | 21 => 21 | 25 => 119 | 30 => 74 | 33 => 167 | 66 => 234 | 68 => 236 | 69 => 237 | n => n,
  fun | 2 => 6 | 3 => 7 | n => n⟩

set_option maxRecDepth 100000 in
theorem dr_lays : Go.Proofs.Lays7.n32 Tryz.prog dr_ren := {
  mixed := by first | kernel_rfl | (intro w; kernel_rfl) | (intro w; rfl) | decide,
  f32 := by first | kernel_rfl | (intro w; kernel_rfl) | (intro w; rfl) | decide,
  f49 := by first | kernel_rfl | (intro w; kernel_rfl) | (intro w; rfl) | decide,
  t0 := by first | kernel_rfl | (intro w; kernel_rfl) | (intro w; rfl) | decide,
  a0 := by first | kernel_rfl | (intro w; kernel_rfl) | (intro w; rfl) | decide,
  z0 := by first | kernel_rfl | (intro w; kernel_rfl) | (intro w; rfl) | decide,
  v0 := by first | kernel_rfl | (intro w; kernel_rfl) | (intro w; rfl) | decide,
  i0 := by first | kernel_rfl | (intro w; kernel_rfl) | (intro w; rfl) | decide,
  t3 := by first | kernel_rfl | (intro w; kernel_rfl) | (intro w; rfl) | decide,
  a3 := by first | kernel_rfl | (intro w; kernel_rfl) | (intro w; rfl) | decide,
  z3 := by first | kernel_rfl | (intro w; kernel_rfl) | (intro w; rfl) | decide,
  v3 := by first | kernel_rfl | (intro w; kernel_rfl) | (intro w; rfl) | decide,
  i3 := by first | kernel_rfl | (intro w; kernel_rfl) | (intro w; rfl) | decide,
  t4 := by first | kernel_rfl | (intro w; kernel_rfl) | (intro w; rfl) | decide,
  a4 := by first | kernel_rfl | (intro w; kernel_rfl) | (intro w; rfl) | decide,
  z4 := by first | kernel_rfl | (intro w; kernel_rfl) | (intro w; rfl) | decide,
  v4 := by first | kernel_rfl | (intro w; kernel_rfl) | (intro w; rfl) | decide,
  i4 := by first | kernel_rfl | (intro w; kernel_rfl) | (intro w; rfl) | decide,
  t5 := by first | kernel_rfl | (intro w; kernel_rfl) | (intro w; rfl) | decide,
  a5 := by first | kernel_rfl | (intro w; kernel_rfl) | (intro w; rfl) | decide,
  z5 := by first | kernel_rfl | (intro w; kernel_rfl) | (intro w; rfl) | decide,
  v5 := by first | kernel_rfl | (intro w; kernel_rfl) | (intro w; rfl) | decide,
  i5 := by first | kernel_rfl | (intro w; kernel_rfl) | (intro w; rfl) | decide,
  t21 := by first | kernel_rfl | (intro w; kernel_rfl) | (intro w; rfl) | decide,
  a21 := by first | kernel_rfl | (intro w; kernel_rfl) | (intro w; rfl) | decide,
  z21 := by first | kernel_rfl | (intro w; kernel_rfl) | (intro w; rfl) | decide,
  v21 := by first | kernel_rfl | (intro w; kernel_rfl) | (intro w; rfl) | decide,
  i21 := by first | kernel_rfl | (intro w; kernel_rfl) | (intro w; rfl) | decide,
  t25 := by first | kernel_rfl | (intro w; kernel_rfl) | (intro w; rfl) | decide,
  a25 := by first | kernel_rfl | (intro w; kernel_rfl) | (intro w; rfl) | decide,
  z25 := by first | kernel_rfl | (intro w; kernel_rfl) | (intro w; rfl) | decide,
  v25 := by first | kernel_rfl | (intro w; kernel_rfl) | (intro w; rfl) | decide,
  i25 := by first | kernel_rfl | (intro w; kernel_rfl) | (intro w; rfl) | decide,
  t30 := by first | kernel_rfl | (intro w; kernel_rfl) | (intro w; rfl) | decide,
  a30 := by first | kernel_rfl | (intro w; kernel_rfl) | (intro w; rfl) | decide,
  z30 := by first | kernel_rfl | (intro w; kernel_rfl) | (intro w; rfl) | decide,
  v30 := by first | kernel_rfl | (intro w; kernel_rfl) | (intro w; rfl) | decide,
  i30 := by first | kernel_rfl | (intro w; kernel_rfl) | (intro w; rfl) | decide,
  t33 := by first | kernel_rfl | (intro w; kernel_rfl) | (intro w; rfl) | decide,
  a33 := by first | kernel_rfl | (intro w; kernel_rfl) | (intro w; rfl) | decide,
  z33 := by first | kernel_rfl | (intro w; kernel_rfl) | (intro w; rfl) | decide,
  v33 := by first | kernel_rfl | (intro w; kernel_rfl) | (intro w; rfl) | decide,
  i33 := by first | kernel_rfl | (intro w; kernel_rfl) | (intro w; rfl) | decide,
  t66 := by first | kernel_rfl | (intro w; kernel_rfl) | (intro w; rfl) | decide,
  a66 := by first | kernel_rfl | (intro w; kernel_rfl) | (intro w; rfl) | decide,
  z66 := by first | kernel_rfl | (intro w; kernel_rfl) | (intro w; rfl) | decide,
  t68 := by first | kernel_rfl | (intro w; kernel_rfl) | (intro w; rfl) | decide,
  a68 := by first | kernel_rfl | (intro w; kernel_rfl) | (intro w; rfl) | decide,
  z68 := by first | kernel_rfl | (intro w; kernel_rfl) | (intro w; rfl) | decide,
  v68 := by first | kernel_rfl | (intro w; kernel_rfl) | (intro w; rfl) | decide,
  i68 := by first | kernel_rfl | (intro w; kernel_rfl) | (intro w; rfl) | decide,
  t69 := by first | kernel_rfl | (intro w; kernel_rfl) | (intro w; rfl) | decide,
  a69 := by first | kernel_rfl | (intro w; kernel_rfl) | (intro w; rfl) | decide,
  z69 := by first | kernel_rfl | (intro w; kernel_rfl) | (intro w; rfl) | decide,
  v69 := by first | kernel_rfl | (intro w; kernel_rfl) | (intro w; rfl) | decide,
  i69 := by first | kernel_rfl | (intro w; kernel_rfl) | (intro w; rfl) | decide,
  g2 := by first | kernel_rfl | (intro w; kernel_rfl) | (intro w; rfl) | decide,
  g3 := by first | kernel_rfl | (intro w; kernel_rfl) | (intro w; rfl) | decide }
theorem decodeRune_c (s : ByteArray) (b off cap : Nat) (w : World) (hT : Lib.Utf8Tabs 6 7 w) (hp : ∀ j, j < s.size → w.cell? ⟨b, off + j, none⟩ = some (.int .u8 (s.get! j).toNat)) :
    Calls Tryz.prog 65 #[.slice (some ⟨b, off, none⟩) s.size cap] w fun e w' => e = .returned (.tuple #[.int .i32 (Lib.decodeGo s).1, .int .i64 (Lib.decodeGo s).2]) ∧ Below w.heap.size w w' :=
  Any7.utf8_DecodeRune dr_lays s b off cap w hT hp
end Go.Proofs.YtkjnockljapnbaaGreatDoor

/- A straight run, reckoned by the kernel; the tables of the letters. -/
namespace Go.Proofs.YtkjnockljapnbaaGreatDoor
open Go Go.RowKit

def runOps (P : Program) (ops : Array Oper) : List Oper → Act → World → Option (Act × World)
  | [], a, w => some (a, w)
  | o :: l, a, w =>
    if Region.wanted o (yielded ops a.tmps) then
      match (execOp a.eval o).run P w with
      | .ok (.value v) w' => runOps P ops l (a.put o.dst v) w'
      | .ok .skip w' => runOps P ops l (a.put o.dst undef) w'
      | _ => none
    else runOps P ops l (a.put o.dst undef) w
theorem wpList_run {P : Program} {ops : Array Oper} {Q : Exit → Act → World → Prop} : ∀ (l : List Oper) (a : Act) (w : World) (r : Act × World), runOps P ops l a w = some r → Q .normal r.1 r.2 → wpList P ops Q l a w
  | [], a, w, r, h, hq => by simp only [runOps, Option.some.injEq] at h; subst h; exact hq
  | o :: l, a, w, r, h, hq => by
    unfold runOps at h
    unfold wpList
    split at h
    · rename_i hw
      rw [if_pos hw]
      refine Or.inl ?_
      unfold Oper.wp
      generalize (execOp a.eval o).run P w = res at *
      cases res with
      | ok n w' =>
        cases n <;> simp only [Oper.upon] <;> simp only [reduceCtorEq] at h
        · exact wpList_run l _ _ r h hq
        · exact wpList_run l _ _ r h hq
      | halt x w' => simp only [reduceCtorEq] at h
    · rename_i hw
      rw [if_neg hw]
      exact wpList_run l _ _ r h hq
def runCode (P : Program) : Code → Act → World → Option (Bool × Act × World)
  | .skip, a, w => some (false, a, w)
  | .region _ ops false, a, w => (runOps P ops ops.toList a w).map fun r => (false, r.1, r.2)
  | .seq x y, a, w => match runCode P x a w with
    | some (false, a', w') => runCode P y a' w'
    | r => r
  | .ret, a, w => some (true, a, w)
  | _, _, _ => none
theorem wp_run {P : Program} : ∀ (c : Code) (Q : Exit → Act → World → Prop) (a : Act) (w : World) (r : Bool × Act × World), runCode P c a w = some r → Q (if r.1 then .ret else .normal) r.2.1 r.2.2 → c.wp P Q a w
  | .skip, Q, a, w, r, h, hq => by simp only [runCode, Option.some.injEq] at h; subst h; exact wp_skip (by simpa using hq)
  | .ret, Q, a, w, r, h, hq => by simp only [runCode, Option.some.injEq] at h; subst h; exact wp_ret (by simpa using hq)
  | .region id ops false, Q, a, w, r, h, hq => by
    simp only [runCode, Option.map_eq_some_iff] at h
    obtain ⟨s, hs, rfl⟩ := h
    have := wpList_run (Q := Q) ops.toList a w s hs (by simpa using hq)
    exact wp_region_list this
  | .seq x y, Q, a, w, r, h, hq => by
    unfold runCode at h
    split at h
    · rename_i a' w' hx
      exact wp_seq (wp_run x _ a w _ hx (by simpa [Exit.then] using wp_run y Q a' w' r h hq))
    · rename_i hx
      obtain ⟨b, a', w'⟩ := r
      cases b with
      | false => exact absurd h (hx _ _)
      | true => exact wp_seq (wp_run x _ a w _ h (by simpa [Exit.then] using hq))
  | .region id ops true, Q, a, w, r, h, hq => by simp [runCode] at h
  | .cond .., _, _, _, _, h, _ => by simp [runCode] at h
  | .block .., _, _, _, _, h, _ => by simp [runCode] at h
  | .loop .., _, _, _, _, h, _ => by simp [runCode] at h
  | .rangeFunc .., _, _, _, _, h, _ => by simp [runCode] at h
  | .exit .., _, _, _, _, h, _ => by simp [runCode] at h
  | .scope .., _, _, _, _, h, _ => by simp [runCode] at h
  | .label .., _, _, _, _, h, _ => by simp [runCode] at h
  | .goto .., _, _, _, _, h, _ => by simp [runCode] at h
  | .refuse .., _, _, _, _, h, _ => by simp [runCode] at h
/-- A function that runs straight to its end, one result. -/
theorem calls_run {P : Program} {f : FuncId} {fn : Func} {c : Code} {args : Array Value} {w w' : World} {v : Value} (t : Tmp) (hf : P.funcs[f]? = some fn) (hb : fn.body = some c) (hres : fn.results = #[.tmp t])
    (h : (runCode P c { tmps := args ++ Array.replicate (fn.ntmps - args.size) undef, defers := [] } w).map (fun r => (r.1, r.2.1.tmps.getD t undef, r.2.1.defers.isEmpty, r.2.2)) = some (true, v, true, w')) :
    Calls P f args w fun e w'' => e = .returned v ∧ w'' = w' := by
  rw [Option.map_eq_some_iff] at h
  obtain ⟨⟨b, a, w1⟩, h1, h2⟩ := h
  simp only [Prod.mk.injEq] at h2
  obtain ⟨rfl, h2, h3, rfl⟩ := h2
  refine calls_of_wp hf hb (wp_run c _ _ w _ h1 ?_)
  simp only [if_true]
  exact bodyPost_ret (results_tmp hres _ _ _) (by simpa using h3) ⟨by rw [h2], rfl⟩

/-- The cells of a table. -/
def rgCells (T : Array Lib.Rg) : Array Value := (T.toList.flatMap fun r => [Value.int .u16 r.1, .int .u16 r.2.1, .int .u16 r.2.2]).toArray
def tabWorld (T : Lib.RTab) (w : World) : World := (w.alloc (.cells (rgCells T.r16) 229)).alloc (.cells #[.slice (some ⟨w.heap.size, 0, none⟩) T.r16.size T.r16.size, .slice none 0 0, .int .i64 0] 226)
end Go.Proofs.YtkjnockljapnbaaGreatDoor
