/- Part of the proof that laws.FnLooseReferences returns true for every text (the claim of laws.FnLooseReferences: Pj). No condition of its own. -/
import Derived.Deep.Quiet
import Derived.Deep.QuietTactic
import Derived.Deep.RegionHeld3
import Derived.NoCompiler
set_option linter.all false
/- The laws (in plain text) of drawn regions by a plan: the reading operations in whatever order, each effect when nothing else can come up. -/
namespace Go.Proofs.YtkjnockljapnbaaGreatDoor
open Go

section
variable {P : Program} {ops : Array Oper} {md : Region.Mode} {L : List Nat}

theorem listed_none {listed : Array Bool} {i : Nat} (h : listed.getD i true = false) : listed.getD i false = false := by
  rcases Nat.lt_or_ge i listed.size with h' | h'
  · simp [h'] at h ⊢; exact h
  · simp [Array.getElem?_eq_none h'] at h

/-- The same value in every world, and the world left alone. -/
def freeUpon (w : World) (v : Value) : Result Next → Prop
  | .ok (.value u) w' => w' = w ∧ u = v
  | _ => False
def freeAt (P : Program) (o : Oper) (a : Act) (w : World) (v : Value) : Prop := freeUpon w v ((execOp a.eval o).run P w)
def freely (P : Program) (o : Oper) (a : Act) (next : Act → Prop) : Prop := ∃ v, (∀ w, freeAt P o a w v) ∧ next (a.put o.dst v)
attribute [go_sem] freeUpon freeAt freely

/-- One operation, by its class: 0 free, 1 quiet, 2 an effect. -/
def cOp (P : Program) (ops : Array Oper) (L : List Nat) (Q : Exit → Act → World → Prop) (i : Nat) (K : Act → (World → Prop) → Prop) (a : Act) (C : World → Prop) : Prop :=
  match ops[i]? with
  | none => False
  | some o => match L.getD i 2 with
    | 0 => ∃ v, Yields P ops o v a ∧ K (a.put o.dst v) C
    | 1 => ∃ v, YieldsIn P ops C o v a ∧ K (a.put o.dst v) C
    | _ => ∀ w, C w → wpOp P ops Q i (fun a' w' => ∃ C', C' w' ∧ K a' C') a w

theorem cOp_mono {Q : Exit → Act → World → Prop} {i : Nat} {K K' : Act → (World → Prop) → Prop} {a : Act} {C : World → Prop} (h : ∀ a C, K a C → K' a C) (hh : cOp P ops L Q i K a C) : cOp P ops L Q i K' a C := by
  unfold cOp at *
  split
  · simp_all
  · rename_i o ho
    simp only [ho] at hh
    split
    · rename_i h0; simp only [h0] at hh; obtain ⟨v, h1, h2⟩ := hh; exact ⟨v, h1, h _ _ h2⟩
    · rename_i h0; simp only [h0] at hh; obtain ⟨v, h1, h2⟩ := hh; exact ⟨v, h1, h _ _ h2⟩
    · rename_i h0 h1
      split at hh
      · exact absurd (by assumption) h0
      · exact absurd (by assumption) h1
      · exact fun w hw => wpOp_mono (fun a' w' ⟨C', h1, h2⟩ => ⟨C', h1, h _ _ h2⟩) (hh w hw)

def wpAnyM (P : Program) (md : Region.Mode) (ops : Array Oper) (L : List Nat) (Q : Exit → Act → World → Prop) : Nat → Array Bool → Act → (World → Prop) → Prop
  | 0, listed, a, C => Region.ready md ops listed = [] ∧ ∀ w, C w → Q .normal a w
  | fuel + 1, listed, a, C =>
    (Region.ready md ops listed = [] → ∀ w, C w → Q .normal a w) ∧
    ∀ i ∈ Region.ready md ops listed, cOp P ops L Q i (wpAnyM P md ops L Q fuel (listed.setIfInBounds i true)) a C

theorem wpAny_of_M {Q : Exit → Act → World → Prop} : ∀ (fuel : Nat) (listed : Array Bool) (a : Act) (C : World → Prop) (w : World), C w → wpAnyM P md ops L Q fuel listed a C → wpAny P md ops Q fuel listed a w
  | 0, _, _, _, w, hw, h => ⟨h.1, h.2 w hw⟩
  | fuel + 1, _, _, C, w, hw, h => ⟨fun h0 => h.1 h0 w hw, fun i hi => by
    have h1 := h.2 i hi
    unfold cOp at h1
    split at h1
    · exact h1.elim
    · rename_i o ho
      split at h1
      · obtain ⟨v, hy, hK⟩ := h1
        exact hy.wpOp ho (wpAny_of_M fuel _ _ C w hw hK)
      · obtain ⟨v, hy, hK⟩ := h1
        exact wpOp_of_qOp (C := C) (K := fun a' => wpAnyM P md ops L Q fuel _ a' C) hw (fun a' w' hw' h' => wpAny_of_M fuel _ _ C w' hw' h') (hy.qOp ho hK)
      · exact wpOp_mono (fun a' w' ⟨C', h1, h2⟩ => wpAny_of_M fuel _ _ C' w' h1 h2) (h1 w hw)⟩

/-- What has come up cannot be what waits. -/
structure WaitInv (md : Region.Mode) (ops : Array Oper) (L : List Nat) (i : Nat) (wt : Nat → Bool) (listed : Array Bool) : Prop where
  out : ∀ j, wt j = true → listed.getD j false = false
  cov : ∀ j, j ≠ i → listed.getD j true = false → 2 ≤ L.getD j 2 → wt j = true
def WaitSound (md : Region.Mode) (ops : Array Oper) (i : Nat) (wt : Nat → Bool) : Prop := ∀ j, wt j = true → ∃ oj, ops[j]? = some oj ∧ ∃ e ∈ oj.after, Region.binds md e = true ∧ (e.on = i ∨ wt e.on = true)

theorem WaitInv.not_ready {i j : Nat} {wt : Nat → Bool} {listed : Array Bool} (hs : WaitSound md ops i wt) (h : WaitInv md ops L i wt listed) (hi : listed.getD i true = false) (hj : j ∈ Region.ready md ops listed) : wt j = false := by
  cases hw : wt j with
  | false => rfl
  | true =>
    obtain ⟨oj, hoj, e, he, hb, ho⟩ := hs j hw
    obtain ⟨_, o, ho', hall⟩ := mem_ready.1 hj
    have : o = oj := Option.some.inj (ho'.symm.trans hoj)
    subst this
    have h1 := hall e he hb
    rcases ho with ho | ho
    · rw [ho, listed_none hi] at h1; cases h1
    · rw [h.out _ ho] at h1; cases h1
theorem WaitInv.set {i j : Nat} {wt : Nat → Bool} {listed : Array Bool} (h : WaitInv md ops L i wt listed) (hj : wt j = false) : WaitInv md ops L i wt (listed.setIfInBounds j true) := by
  refine ⟨fun k hk => ?_, fun k hk hu hl => ?_⟩
  · have : j ≠ k := fun e => by subst e; rw [hj] at hk; cases hk
    rw [getD_set_ne false this]; exact h.out k hk
  · by_cases hjk : j = k
    · subst hjk
      rcases Nat.lt_or_ge j listed.size with h' | h'
      · simp [h'] at hu
      · simp at hu
    · rw [getD_set_ne true hjk] at hu
      exact h.cov k hk hu hl

theorem wpAnyM_first {Q : Exit → Act → World → Prop} {i : Nat} {oi : Oper} {v : Value} (hi : ops[i]? = some oi) (hsel : ∀ (j : Nat) (o : Oper) cs b, ops[j]? = some o → o.op ≠ .select cs b)
    (hQ : ∀ c a w, Q (.panic c) (a.put oi.dst v) w → Q (.panic c) a w) (wt : Nat → Bool) (hws : L.getD i 2 = 1 → WaitSound md ops i wt) (hc : L.getD i 2 = 0 ∨ L.getD i 2 = 1) :
    ∀ (fuel : Nat) (listed : Array Bool) (a : Act) (C : World → Prop),
      (∀ j oj, ops[j]? = some oj → j ≠ i → listed.getD j true = false → (∀ e ∈ oj.after, Region.binds md e = true → e.on ≠ i) → oi.apart ops oj = true) →
      (L.getD i 2 = 1 → WaitInv md ops L i wt listed) →
      i ∈ Region.ready md ops listed → (L.getD i 2 = 0 → Yields P ops oi v a) → (L.getD i 2 = 1 → YieldsIn P ops C oi v a) →
      wpAnyM P md ops L Q fuel (listed.setIfInBounds i true) (a.put oi.dst v) C → wpAnyM P md ops L Q (fuel + 1) listed a C := by
  intro fuel
  have self : ∀ (fuel : Nat) (listed : Array Bool) (a : Act) (C : World → Prop), (L.getD i 2 = 0 → Yields P ops oi v a) → (L.getD i 2 = 1 → YieldsIn P ops C oi v a) →
      wpAnyM P md ops L Q fuel (listed.setIfInBounds i true) (a.put oi.dst v) C → cOp P ops L Q i (wpAnyM P md ops L Q fuel (listed.setIfInBounds i true)) a C := by
    intro fuel listed a C h0 h1 H
    unfold cOp
    simp only [hi]
    rcases hc with hc | hc
    · simp only [hc]; exact ⟨v, h0 hc, H⟩
    · simp only [hc]; exact ⟨v, h1 hc, H⟩
  induction fuel with
  | zero =>
    intro listed a C _ _ hr h0 h1 H
    refine ⟨fun h => (by rw [h] at hr; cases hr), fun j hj => ?_⟩
    by_cases hji : j = i
    · subst hji; exact self _ _ _ _ h0 h1 H
    · have := ready_mono hj hji
      rw [H.1] at this
      cases this
  | succ fuel ih =>
    intro listed a C hfree hwi hr h0 h1 H
    refine ⟨fun h => (by rw [h] at hr; cases hr), fun j hj => ?_⟩
    by_cases hji : j = i
    · subst hji; exact self _ _ _ _ h0 h1 H
    · have hh := H.2 j (ready_mono hj hji)
      obtain ⟨hjun, oj, hoj, hall⟩ := mem_ready.1 hj
      have hiun := (mem_ready.1 hr).1
      have hnot : ∀ e ∈ oj.after, Region.binds md e = true → e.on ≠ i := fun e he hb heq => by
        have h1 := hall e he hb
        rw [heq, listed_none hiun] at h1
        cases h1
      have hap := hfree j oj hoj hji hjun hnot
      have hfree' : ∀ k ok, ops[k]? = some ok → k ≠ i → (listed.setIfInBounds j true).getD k true = false →
          (∀ e ∈ ok.after, Region.binds md e = true → e.on ≠ i) → oi.apart ops ok = true := fun k ok hk hki hun hno => by
        refine hfree k ok hk hki ?_ hno
        by_cases hjk : j = k
        · subst hjk; exact hjun
        · rw [getD_set_ne true hjk] at hun; exact hun
      have hwi' : L.getD i 2 = 1 → WaitInv md ops L i wt (listed.setIfInBounds j true) := fun h => (hwi h).set ((hwi h).not_ready (hws h) hiun hj)
      have hr' := ready_mono hr (Ne.symm hji)
      obtain ⟨p1, p2, p3⟩ := Oper.apart_spec hap
      have hsi := fun cs b => hsel i oi cs b hi
      have hsj := fun cs b => hsel j oj cs b hoj
      have keep0 : ∀ (a : Act), (L.getD i 2 = 0 → Yields P ops oi v a) → ∀ u, (L.getD i 2 = 0 → Yields P ops oi v (a.put oj.dst u)) := fun a hy u h =>
        (hy h).of_same (execOp_put oi hsi a oj.dst u p3) (wanted_put oi a oj.dst u p3)
      have keep1 : ∀ (a : Act), (L.getD i 2 = 1 → YieldsIn P ops C oi v a) → ∀ u, (L.getD i 2 = 1 → YieldsIn P ops C oi v (a.put oj.dst u)) := fun a hy u h =>
        (hy h).of_same (execOp_put oi hsi a oj.dst u p3) (wanted_put oi a oj.dst u p3)
      unfold cOp at hh ⊢
      simp only [hoj] at hh ⊢
      split
      · rename_i hcj
        simp only [hcj] at hh
        obtain ⟨u, hy, hK⟩ := hh
        refine ⟨u, hy.of_same (execOp_put oj hsj a oi.dst v p1).symm (wanted_put oj a oi.dst v p1).symm, ih _ _ _ hfree' hwi' hr' (keep0 a h0 u) (keep1 a h1 u) ?_⟩
        rw [Array.setIfInBounds_comm _ _ hji, ← Act.put_comm a v u p2]
        exact hK
      · rename_i hcj
        simp only [hcj] at hh
        obtain ⟨u, hy, hK⟩ := hh
        refine ⟨u, hy.of_same (execOp_put oj hsj a oi.dst v p1).symm (wanted_put oj a oi.dst v p1).symm, ih _ _ _ hfree' hwi' hr' (keep0 a h0 u) (keep1 a h1 u) ?_⟩
        rw [Array.setIfInBounds_comm _ _ hji, ← Act.put_comm a v u p2]
        exact hK
      · rename_i hc0 hc1
        rcases hc with hc | hc
        · split at hh
          · exact absurd (by assumption) hc0
          · exact absurd (by assumption) hc1
          · intro w hw
            have h2 := wpOp_put hoj hap hsi hsj hQ (h0 hc) (hh w hw)
            refine wpOp_mono (fun a' w' h3 => ?_) h2
            obtain ⟨hy, C', hC', hK⟩ := h3
            refine ⟨C', hC', ih _ _ _ hfree' hwi' hr' (fun _ => hy) (fun h => by rw [hc] at h; cases h) ?_⟩
            rw [Array.setIfInBounds_comm _ _ hji]
            exact hK
        · have h2 := (hwi hc).not_ready (hws hc) hiun hj
          rw [(hwi hc).cov j hji hjun (by
            rcases Nat.lt_or_ge (L.getD j 2) 2 with hl | hl
            · have : L.getD j 2 = 0 ∨ L.getD j 2 = 1 := by omega
              rcases this with h | h
              · exact absurd h hc0
              · exact absurd h hc1
            · exact hl)] at h2
          cases h2

/-! ### The plan and its check -/
def waitTab (md : Region.Mode) (ops : Array Oper) (i : Nat) : Array Bool :=
  ops.foldl (fun acc o => acc.push (o.after.any fun e => Region.binds md e && (e.on == i || acc.getD e.on false))) #[]
def waitOk (md : Region.Mode) (ops : Array Oper) (L : List Nat) (listed : Array Bool) (i : Nat) : Bool :=
  let wt := waitTab md ops i
  decide (wt.size = ops.size) && (List.range ops.size).all fun j =>
    (j == i || listed.getD j true || decide (L.getD j 2 < 2) || wt.getD j false) &&
    (!wt.getD j false || (!listed.getD j false && match ops[j]? with
      | some oj => oj.after.any fun e => Region.binds md e && (e.on == i || wt.getD e.on false)
      | none => false))
theorem waitOk_spec {listed : Array Bool} {i : Nat} (hz : listed.size = ops.size) (h : waitOk md ops L listed i = true) : WaitSound md ops i (fun j => (waitTab md ops i).getD j false) ∧ WaitInv md ops L i (fun j => (waitTab md ops i).getD j false) listed := by
  simp only [waitOk, Bool.and_eq_true, decide_eq_true_eq, List.all_eq_true, List.mem_range] at h
  obtain ⟨hs, h⟩ := h
  have inr : ∀ j, (waitTab md ops i).getD j false = true → j < ops.size := fun j hj => by
    rcases Nat.lt_or_ge j (waitTab md ops i).size with h' | h'
    · omega
    · simp [Array.getElem?_eq_none h'] at hj
  refine ⟨fun j hj => ?_, fun j hj => ?_, fun j hji hun hl => ?_⟩
  · have h1 := (h j (inr j hj)).2
    simp only [hj, Bool.not_true, Bool.false_or, Bool.and_eq_true] at h1
    have h2 := h1.2
    split at h2
    · rename_i oj hoj
      obtain ⟨e, he, hb⟩ := Array.any_eq_true'.1 h2
      simp only [Bool.and_eq_true, Bool.or_eq_true, beq_iff_eq] at hb
      exact ⟨oj, hoj, e, he, hb.1, hb.2⟩
    · cases h2
  · have h1 := (h j (inr j hj)).2
    simp only [hj, Bool.not_true, Bool.false_or, Bool.and_eq_true, Bool.not_eq_true'] at h1
    exact h1.1
  · have hj : j < ops.size := by
      rcases Nat.lt_or_ge j listed.size with h' | h'
      · omega
      · simp [Array.getElem?_eq_none h'] at hun
    have h1 := (h j hj).1
    simp only [Bool.or_eq_true, beq_iff_eq, hji, hun, decide_eq_true_eq] at h1
    rcases h1 with ((h1 | h1) | h1) | h1
    · exact h1.elim
    · cases h1
    · omega
    · exact h1

def planOk (md : Region.Mode) (ops : Array Oper) (L : List Nat) : List Nat → Array Bool → Bool
  | [], listed => (Region.ready md ops listed).isEmpty
  | k :: π, listed => (Region.ready md ops listed).contains k && (match L.getD k 2 with
      | 0 => Region.free md ops listed k
      | 1 => Region.free md ops listed k && waitOk md ops L listed k
      | _ => Region.ready md ops listed == [k]) && planOk md ops L π (listed.setIfInBounds k true)
/-- The plan: free operations as soon as they can come up, then the quiet ones, then the effects. -/
def planOf (md : Region.Mode) (ops : Array Oper) (L : List Nat) : Nat → Array Bool → List Nat
  | 0, _ => []
  | f + 1, listed =>
    let r := Region.ready md ops listed
    match r.find? fun k => L.getD k 2 == 0 with
    | some k => k :: planOf md ops L f (listed.setIfInBounds k true)
    | none => match r.find? fun k => L.getD k 2 == 1 && waitOk md ops L listed k with
      | some k => k :: planOf md ops L f (listed.setIfInBounds k true)
      | none => match r with
        | [k] => k :: planOf md ops L f (listed.setIfInBounds k true)
        | _ => []

def wpPi (P : Program) (ops : Array Oper) (L : List Nat) (Q : Exit → Act → World → Prop) : List Nat → Act → (World → Prop) → Prop
  | [], a, C => ∀ w, C w → Q .normal a w
  | k :: π, a, C => cOp P ops L Q k (wpPi P ops L Q π) a C

theorem wpAnyM_pi {Q : Exit → Act → World → Prop} (hs : Region.noSelect ops = true) (hQ : ∀ c a w, ¬ Q (.panic c) a w) : ∀ (π : List Nat) (listed : Array Bool) (a : Act) (C : World → Prop), listed.size = ops.size →
    planOk md ops L π listed = true → wpPi P ops L Q π a C → wpAnyM P md ops L Q π.length listed a C
  | [], _, _, _, _, hB, h => ⟨by simpa [planOk] using hB, h⟩
  | k :: π, listed, a, C, hz, hB, h => by
    simp only [planOk, Bool.and_eq_true] at hB
    obtain ⟨⟨hr, hf⟩, hB'⟩ := hB
    have hr' : k ∈ Region.ready md ops listed := by simpa using hr
    have hz' : (listed.setIfInBounds k true).size = ops.size := by simpa using hz
    have hrec := fun a' C' => wpAnyM_pi hs hQ π (listed.setIfInBounds k true) a' C' hz' hB'
    have h' : cOp P ops L Q k (wpAnyM P md ops L Q π.length (listed.setIfInBounds k true)) a C := cOp_mono hrec h
    have h2 := h'
    unfold cOp at h2
    split at h2
    · exact h2.elim
    · rename_i o ho
      split at h2
      · rename_i hc
        simp only [hc] at hf
        obtain ⟨v, hy, hK⟩ := h2
        exact wpAnyM_first ho (Region.noSelect_spec hs) (fun c a w hh => (hQ _ _ _ hh).elim) (fun _ => false) (fun hh => by rw [hc] at hh; cases hh) (.inl hc) _ _ _ _ (Region.free_spec ho hf)
          (fun hh => by rw [hc] at hh; cases hh) hr' (fun _ => hy) (fun hh => by rw [hc] at hh; cases hh) hK
      · rename_i hc
        simp only [hc, Bool.and_eq_true] at hf
        obtain ⟨v, hy, hK⟩ := h2
        obtain ⟨w1, w2⟩ := waitOk_spec hz hf.2
        exact wpAnyM_first ho (Region.noSelect_spec hs) (fun c a w hh => (hQ _ _ _ hh).elim) _ (fun _ => w1) (.inr hc) _ _ _ _ (Region.free_spec ho hf.1)
          (fun _ => w2) hr' (fun hh => by rw [hc] at hh; cases hh) (fun _ => hy) hK
      · rename_i h0 h1
        have hone : Region.ready md ops listed = [k] := by
          split at hf
          · exact absurd (by assumption) h0
          · exact absurd (by assumption) h1
          · simpa using hf
        refine ⟨fun hh => (by rw [hone] at hh; cases hh), fun i hi => ?_⟩
        rw [hone] at hi
        have : i = k := by simpa using hi
        subst this
        exact h'

theorem wp_region_pi {id : Nat} {Q : Exit → Act → World → Prop} {a : Act} {w : World} {l : List Oper} (L π : List Nat) (hm : P.follows .mixedOrders = true)
    (hB : (Region.noSelect l.toArray && planOk .any l.toArray L π (Array.replicate l.length false) && π.length == l.length) = true)
    (h : wpPi P l.toArray L (NoPanic Q) π a (fun w' => ∃ n, w' = w.drewN n)) : (Code.region id l.toArray true).wp P Q a w := by
  simp only [Bool.and_eq_true, beq_iff_eq] at hB
  obtain ⟨⟨hs, hp⟩, hl⟩ := hB
  refine wp_region_noPanic (wp_region_any hm ?_)
  have := wpAnyM_pi (md := .any) hs (fun c a w hh => hh) π (Array.replicate l.length false) a _ (by simp) hp h
  rw [hl] at this
  have h2 := wpAny_of_M (md := .any) _ _ _ _ { w with drawn := w.drawn + 1 } ⟨1, rfl⟩ this
  simpa using h2

theorem wpPi_nil {Q : Exit → Act → World → Prop} {a : Act} {w : World} (h : ∀ n, Q .normal a (w.drewN n)) : wpPi P ops L (NoPanic Q) [] a (fun w' => ∃ n, w' = w.drewN n) := by
  rintro _ ⟨n, rfl⟩
  exact NoPanic.normal (h n)
theorem wpPi_free {Q : Exit → Act → World → Prop} {a : Act} {C : World → Prop} {k : Nat} {π : List Nat} {o : Oper} (ho : ops[k]? = some o) (hc : L.getD k 2 = 0)
    (h : ∀ K : Act → Prop, (∀ a, wpPi P ops L Q π a C → K a) → if Region.wanted o (yielded ops a.tmps) then freely P o a K else K (a.put o.dst undef)) : wpPi P ops L Q (k :: π) a C := by
  have := h (fun a' => wpPi P ops L Q π a' C) (fun _ h => h)
  simp only [wpPi, cOp, ho, hc]
  split at this
  · rename_i hw
    obtain ⟨v, h1, h2⟩ := this
    refine ⟨v, .inl ⟨hw, fun w => ?_⟩, h2⟩
    have h3 := h1 w
    unfold freeAt at h3
    generalize (execOp a.eval o).run P w = r at *
    cases r with
    | ok n w' => cases n <;> simp only [freeUpon] at h3; rw [h3.1, h3.2]
    | halt x w' => simp only [freeUpon] at h3
  · rename_i hw
    exact ⟨undef, .inr ⟨by simpa using hw, rfl⟩, this⟩
theorem wpPi_quiet {Q : Exit → Act → World → Prop} {a : Act} {C : World → Prop} {k : Nat} {π : List Nat} {o : Oper} (ho : ops[k]? = some o) (hc : L.getD k 2 = 1)
    (h : ∀ K : Act → Prop, (∀ a, wpPi P ops L Q π a C → K a) → if Region.wanted o (yielded ops a.tmps) then o.quiet P a C K else K (a.put o.dst undef)) : wpPi P ops L Q (k :: π) a C := by
  have := h (fun a' => wpPi P ops L Q π a' C) (fun _ h => h)
  simp only [wpPi, cOp, ho, hc]
  split at this
  · rename_i hw
    obtain ⟨v, h1, h2⟩ := this
    exact ⟨v, .inl ⟨hw, h1⟩, h2⟩
  · rename_i hw
    exact ⟨undef, .inr ⟨by simpa using hw, rfl⟩, this⟩
theorem wpPi_eff {Q : Exit → Act → World → Prop} {a : Act} {w : World} {k : Nat} {π : List Nat} {o : Oper} (ho : ops[k]? = some o) (hc : L.getD k 2 = 2)
    (h : ∀ (n : Nat) (K : Act → World → Prop), Shut (∀ a' w', wpPi P ops L Q π a' (fun w'' => ∃ n, w'' = w'.drewN n) → K a' w') → if Region.wanted o (yielded ops a.tmps) = true then Oper.wp P o a (w.drewN n) K Q else K (a.put o.dst undef) (w.drewN n)) :
    wpPi P ops L Q (k :: π) a (fun w' => ∃ n, w' = w.drewN n) := by
  simp only [wpPi, cOp, ho, hc]
  rintro _ ⟨n, rfl⟩
  refine wpOp_mono (fun a' w' h' => ⟨fun w'' => ∃ n, w'' = w'.drewN n, ⟨0, rfl⟩, h'⟩) (wpOp_step ho fun K' hK => h n K' hK)
end

end Go.Proofs.YtkjnockljapnbaaGreatDoor
