/- Part of the proof that laws.FnLooseReferences returns true for every text (the claim of laws.FnLooseReferences: Fr). No condition of its own. -/
import Derived.WalkKit
import Derived.BigFrame
import Derived.Scope
import Derived.Deep.LoopGhost
set_option linter.all false
/- A frame of which only some slots are told: plain lemmas, for walks through functions with hundreds of slots. -/
namespace Go.Proofs.YtkjnockljapnbaaGreatDoor
open Go

/-- What a slot holds. -/
def lk (f : Nat → Value) : List (Nat × Value) → Nat → Value
  | [], t => f t
  | (d, v) :: L, t => if t = d then v else lk f L t
/-- A frame of n slots: those of the list are told, the others are f's. -/
def fr0 (n : Nat) (f : Nat → Value) (L : List (Nat × Value)) : Act := ⟨Array.ofFn (n := n) fun i => lk f L i.val, []⟩
theorem lk_nil (f : Nat → Value) (t : Nat) : lk f [] t = f t := of_eq_true (eq_self _)
theorem lk_cons (f : Nat → Value) (d : Nat) (v : Value) (L : List (Nat × Value)) (t : Nat) : lk f ((d, v) :: L) t = if t = d then v else lk f L t := of_eq_true (eq_self _)
/-- All that a walk needs of it. -/
structure FrOk (F : Nat → (Nat → Value) → List (Nat × Value) → Act) : Prop where
  is : F = fr0
theorem fr0_get? {n : Nat} {f : Nat → Value} {L : List (Nat × Value)} {t : Nat} (h : t < n) : (fr0 n f L).tmps[t]? = some (lk f L t) := by
  simp [fr0, h]
theorem fr0_set {n : Nat} {f : Nat → Value} {L : List (Nat × Value)} {d : Nat} (_h : d < n) (v : Value) : (fr0 n f L).tmps.setIfInBounds d v = (fr0 n f ((d, v) :: L)).tmps := by
  apply Array.ext
  · simp [fr0]
  · intro i h1 h2
    simp [fr0] at h1
    rw [Array.getElem_setIfInBounds (by simpa [fr0] using h1)]
    simp only [fr0, Array.getElem_ofFn, lk]
    by_cases hd : d = i
    · subst hd; simp
    · rw [if_neg hd, if_neg (fun e => hd e.symm)]
/-- Not to be unfolded by whoever checks a walk. -/
noncomputable def frP : { F : Nat → (Nat → Value) → List (Nat × Value) → Act // FrOk F } := Classical.choice ⟨⟨fr0, ⟨rfl⟩⟩⟩
noncomputable def fr (n : Nat) (f : Nat → Value) (L : List (Nat × Value)) : Act := frP.val n f L
theorem fr_is (n : Nat) (f : Nat → Value) (L : List (Nat × Value)) : fr n f L = fr0 n f L := by
  unfold fr; rw [frP.property.is]
theorem fr_defers (n : Nat) (f : Nat → Value) (L : List (Nat × Value)) : (fr n f L).defers = [] := by rw [fr_is]; rfl
theorem fr_get? {n : Nat} {f : Nat → Value} {L : List (Nat × Value)} {t : Nat} (h : t < n) : (fr n f L).tmps[t]? = some (lk f L t) := by
  rw [fr_is]; exact fr0_get? h
theorem fr_getD {n : Nat} {f : Nat → Value} {L : List (Nat × Value)} {t : Nat} (h : t < n) (u : Value) : (fr n f L).tmps.getD t u = lk f L t := by
  rw [Array.getD_eq_getD_getElem?, fr_get? h]; rfl
theorem fr_set {n : Nat} {f : Nat → Value} {L : List (Nat × Value)} {d : Nat} (h : d < n) (v : Value) : (fr n f L).tmps.setIfInBounds d v = (fr n f ((d, v) :: L)).tmps := by
  rw [fr_is, fr_is]; exact fr0_set h v
theorem fr_eta (n : Nat) (f : Nat → Value) (L : List (Nat × Value)) : (⟨(fr n f L).tmps, []⟩ : Act) = fr n f L := by rw [fr_is]; rfl
theorem fr_eval {n : Nat} {f : Nat → Value} {L : List (Nat × Value)} {t : Nat} (h : t < n) : (fr n f L).eval (.tmp t) = lk f L t := fr_getD h _
theorem fr_put {n : Nat} {f : Nat → Value} {L : List (Nat × Value)} {d : Nat} (h : d < n) (v : Value) : (fr n f L).put (some d) v = fr n f ((d, v) :: L) := by
  show (⟨(fr n f L).tmps.setIfInBounds d v, (fr n f L).defers⟩ : Act) = _
  rw [fr_set h, fr_defers, fr_eta]
theorem fr_put_none (n : Nat) (f : Nat → Value) (L : List (Nat × Value)) (v : Value) : (fr n f L).put none v = fr n f L := rfl
/-- Of the told slots these stay told. -/
def keep (f : Nat → Value) (L : List (Nat × Value)) : List Nat → List (Nat × Value)
  | [] => []
  | k :: ks => (k, lk f L k) :: keep f L ks
theorem keep_nil (f : Nat → Value) (L : List (Nat × Value)) : keep f L [] = [] := of_eq_true (eq_self _)
theorem keep_cons (f : Nat → Value) (L : List (Nat × Value)) (k : Nat) (ks : List Nat) : keep f L (k :: ks) = (k, lk f L k) :: keep f L ks := of_eq_true (eq_self _)
theorem lk_keep (f : Nat → Value) (L : List (Nat × Value)) : ∀ (ks : List Nat) (t : Nat), lk (lk f L) (keep f L ks) t = lk f L t
  | [], t => rfl
  | k :: ks, t => by
    simp only [keep, lk]
    split
    · rename_i h; subst h; rfl
    · exact lk_keep f L ks t
theorem fr_keep (n : Nat) (f : Nat → Value) (L : List (Nat × Value)) (ks : List Nat) : fr n f L = fr n (lk f L) (keep f L ks) := by
  rw [fr_is, fr_is]; simp only [fr0, lk_keep]
theorem wp_keep {P : Program} {c : Code} {Q : Exit → Act → World → Prop} {n : Nat} {f : Nat → Value} {L : List (Nat × Value)} {w : World} (ks : List Nat) (h : ∀ g, c.wp P Q (fr n g (keep f L ks)) w) : c.wp P Q (fr n f L) w := by
  rw [fr_keep n f L ks]; exact h _
theorem K_keep {K : Act → World → Prop} {n : Nat} {f : Nat → Value} {L : List (Nat × Value)} {w : World} (ks : List Nat) (h : ∀ g, K (fr n g (keep f L ks)) w) : K (fr n f L) w := by
  rw [fr_keep n f L ks]; exact h _
theorem Q_keep {Q : Exit → Act → World → Prop} {e : Exit} {n : Nat} {f : Nat → Value} {L : List (Nat × Value)} {w : World} (ks : List Nat) (h : ∀ g, Q e (fr n g (keep f L ks)) w) : Q e (fr n f L) w := by
  rw [fr_keep n f L ks]; exact h _
/-- Whatever frame of the size: nothing is told. -/
theorem fr_of {a : Act} {n : Nat} (hs : a.tmps.size = n) (hd : a.defers = []) : ∃ f, a = fr n f [] := by
  refine ⟨fun t => a.tmps.getD t undef, ?_⟩
  obtain ⟨t, d⟩ := a
  simp only at hs hd
  subst hd
  rw [fr_is]
  simp only [fr0, lk]
  congr 1
  apply Array.ext
  · simp [hs]
  · intro i h1 h2
    simp [Array.getD, h1]
def argSlots : Nat → List Value → List (Nat × Value)
  | _, [] => []
  | i, v :: vs => (i, v) :: argSlots (i + 1) vs
theorem lk_argSlots (f : Nat → Value) : ∀ (vs : List Value) (i t : Nat), i ≤ t → lk f (argSlots i vs) t = (vs[t - i]?).getD (f t)
  | [], i, t, _ => by simp [argSlots, lk]
  | v :: vs, i, t, h => by
    simp only [argSlots, lk]
    split
    · rename_i e; subst e; simp
    · rw [lk_argSlots f vs (i + 1) t (by omega), show t - i = (t - (i + 1)) + 1 by omega, List.getElem?_cons_succ]
theorem calls_fr {P : Program} {fid : FuncId} {fn : Func} {c : Code} {vs : List Value} {w : World} {R : Ending → World → Prop} (n : Nat) (hf : P.funcs[fid]? = some fn) (hb : fn.body = some c) (hn : fn.ntmps = n) (hle : vs.length ≤ n)
    (h : ∀ f, c.wp P (bodyPost P fn R) (fr n f (argSlots 0 vs)) w) : Calls P fid vs.toArray w R := by
  refine calls_of_wp hf hb ?_
  have e : ({ tmps := vs.toArray ++ Array.replicate (fn.ntmps - vs.toArray.size) undef, defers := [] } : Act) = fr n (fun _ => undef) (argSlots 0 vs) := by
    subst hn
    rw [fr_is]
    simp only [fr0]
    congr 1
    apply Array.ext
    · simp; omega
    · intro i h1 h2
      simp only [Array.getElem_ofFn]
      rw [lk_argSlots _ vs 0 i (Nat.zero_le _)]
      by_cases hi : i < vs.length
      · simp [Array.getElem_append, hi]
      · simp [Array.getElem_append, hi]
  rw [e]; exact h _
theorem fr_ret1 {P : Program} {fn : Func} {R : Ending → World → Prop} {n : Nat} {f : Nat → Value} {L : List (Nat × Value)} {w : World} {t : Nat} (hr : fn.results = #[.tmp t]) (ht : t < n) (h : R (.returned (lk f L t)) w) : bodyPost P fn R .ret (fr n f L) w := by
  refine bodyPost_ret (v := lk f L t) ?_ (fr_defers n f L) h
  rw [results_tmp hr, fr_getD ht]
theorem fr_ret2 {P : Program} {fn : Func} {R : Ending → World → Prop} {n : Nat} {f : Nat → Value} {L : List (Nat × Value)} {w : World} {t u : Nat} (hr : fn.results = #[.tmp t, .tmp u]) (ht : t < n) (hu : u < n) (h : R (.returned (.tuple #[lk f L t, lk f L u])) w) : bodyPost P fn R .ret (fr n f L) w := by
  refine bodyPost_ret (v := .tuple #[lk f L t, lk f L u]) ?_ (fr_defers n f L) h
  rw [results_tmp2 hr, fr_getD ht, fr_getD hu]
theorem fr_ret0 {P : Program} {fn : Func} {R : Ending → World → Prop} {n : Nat} {f : Nat → Value} {L : List (Nat × Value)} {w : World} (hr : fn.results = #[]) (h : R (.returned (.tuple #[])) w) : bodyPost P fn R .ret (fr n f L) w := by
  refine bodyPost_ret (v := .tuple #[]) ?_ (fr_defers n f L) h
  rw [results_none hr]
theorem fr_out1 {P : Program} {fn : Func} {R : Ending → World → Prop} {n : Nat} {f : Nat → Value} {L : List (Nat × Value)} {w : World} {t : Nat} {v : Value} (hr : fn.results = #[.tmp t]) (ht : t < n) (h1 : lk f L t = v) (h : R (.returned v) w) : bodyPost P fn R .ret (fr n f L) w := by
  subst h1; exact fr_ret1 hr ht h
theorem fr_out2 {P : Program} {fn : Func} {R : Ending → World → Prop} {n : Nat} {f : Nat → Value} {L : List (Nat × Value)} {w : World} {t u : Nat} {v v' : Value} (hr : fn.results = #[.tmp t, .tmp u]) (ht : t < n) (hu : u < n) (h1 : lk f L t = v) (h2 : lk f L u = v') (h : R (.returned (.tuple #[v, v'])) w) : bodyPost P fn R .ret (fr n f L) w := by
  subst h1; subst h2; exact fr_ret2 hr ht hu h
theorem fr_normal {P : Program} {fn : Func} {R : Ending → World → Prop} {a : Act} {w : World} (h : bodyPost P fn R .ret a w) : bodyPost P fn R .normal a w := h
attribute [irreducible] fr lk keep
attribute [go_sem] fr_defers fr_get? fr_getD fr_set fr_eta lk_nil lk_cons
/-- A part of a function's text: what stands from the region of this number on. -/
def Code.startsAt (id : Nat) : Code → Bool
  | .region i _ _ => i == id
  | .seq a _ => Code.startsAt id a
  | _ => false
def Code.partAt (id : Nat) : Code → Option Code
  | .seq a b => if Code.startsAt id a then some (.seq a b) else match Code.partAt id a with
    | some c => some c
    | none => Code.partAt id b
  | .region i o d => if i == id then some (.region i o d) else none
  | .cond _ a b => match Code.partAt id a with
    | some c => some c
    | none => Code.partAt id b
  | .block _ c => Code.partAt id c
  | .loop c => Code.partAt id c
  | .scope c => Code.partAt id c
  | _ => none
/-- For a walk that stops at the region n. -/
theorem wp_stop {P : Program} {ops : Array Oper} {d : Bool} {rest : Code} {Q : Exit → Act → World → Prop} {a : Act} {w : World} (n : Nat) (h : ((Code.region n ops d).seq rest).wp P Q a w) : ((Code.region n ops d).seq rest).wp P Q a w := h
theorem wp_stop2 {P : Program} {ops : Array Oper} {d : Bool} {rest rest' : Code} {Q : Exit → Act → World → Prop} {a : Act} {w : World} (n : Nat) (h : (((Code.region n ops d).seq rest).seq rest').wp P Q a w) : (((Code.region n ops d).seq rest).seq rest').wp P Q a w := h
theorem wp_code {P : Program} {c c' : Code} {Q : Exit → Act → World → Prop} {a : Act} {w : World} (h : c.wp P Q a w) (e : c' = c) : c'.wp P Q a w := e ▸ h
end Go.Proofs.YtkjnockljapnbaaGreatDoor
