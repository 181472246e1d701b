/- Part of the proof that laws.FnBalanced returns true for every argument (Pj, Bx, Wb). No condition of its own. -/
import Derived.Deep.Quiet
import Derived.Deep.QuietTactic
import Derived.Deep.RegionHeld3
import Derived.NoCompiler
import Derived.Test.YtkjnockljapnbaaGreatDoorO07
set_option linter.all false
set_option maxHeartbeats 8000000
set_option maxRecDepth 100000
namespace Go.Proofs.YtkjnockljapnbaaGreatDoor
open Go
section
variable {P:Program} {ops:Array Oper} {md:Region.Mode} {L:List Nat}
theorem listed_none {listed:Array Bool} {i:Nat} (h:listed.getD i true=false):listed.getD i false=false:=by
  rcases Nat.lt_or_ge i listed.size with h'|h'
  · simp [h'] at h ⊢;exact h
  · simp [Array.getElem?_eq_none h'] at h
def freeUpon (w:World) (v:Value):Result Next → Prop
  | .ok (.value u) w'=>w'=w∧u=v
  | _=>False
def freeAt (P:Program) (o:Oper) (a:Act) (w:World) (v:Value):Prop:=freeUpon w v ((execOp a.eval o).run P w)
def freely (P:Program) (o:Oper) (a:Act) (next:Act → Prop):Prop:=∃ v,(∀ w,freeAt P o a w v)∧next (a.put o.dst v)
attribute [go_sem] freeUpon freeAt freely
def cOp (P:Program) (ops:Array Oper) (L:List Nat) (Q:Exit → Act → World → Prop) (i:Nat) (K:Act → (World → Prop) → Prop) (a:Act) (C:World → Prop):Prop:=
  match ops[i]? with
  | none=>False
  | some o=>match L.getD i 2 with
    | 0=>∃ v,Yields P ops o v a∧K (a.put o.dst v) C
    | 1=>∃ v,YieldsIn P ops C o v a∧K (a.put o.dst v) C
    | _=>∀ w,C w → wpOp P ops Q i (fun a' w'=>∃ C',C' w'∧K a' C') a w
theorem cOp_mono {Q:Exit → Act → World → Prop} {i:Nat} {K K':Act → (World → Prop) → Prop} {a:Act} {C:World → Prop} (h:∀ a C,K a C → K' a C) (hh:cOp P ops L Q i K a C):cOp P ops L Q i K' a C:=by
  unfold cOp at *
  split
  · simp_all
  · rename_i o ho
    simp only [ho] at hh
    split
    · rename_i h0;simp only [h0] at hh;obtain ⟨v,h1,h2⟩:=hh;exact ⟨v,h1,h _ _ h2⟩
    · rename_i h0;simp only [h0] at hh;obtain ⟨v,h1,h2⟩:=hh;exact ⟨v,h1,h _ _ h2⟩
    · rename_i h0 h1
      split at hh
      · exact absurd (by assumption) h0
      · exact absurd (by assumption) h1
      · exact fun w hw=>wpOp_mono (fun a' w' ⟨C',h1,h2⟩=>⟨C',h1,h _ _ h2⟩) (hh w hw)
def wpAnyM (P:Program) (md:Region.Mode) (ops:Array Oper) (L:List Nat) (Q:Exit → Act → World → Prop):Nat → Array Bool → Act → (World → Prop) → Prop
  | 0,listed,a,C=>Region.ready md ops listed=[]∧∀ w,C w → Q .normal a w
  | fuel + 1,listed,a,C=>
    (Region.ready md ops listed=[] → ∀ w,C w → Q .normal a w) ∧
    ∀ i ∈ Region.ready md ops listed,cOp P ops L Q i (wpAnyM P md ops L Q fuel (listed.setIfInBounds i true)) a C
theorem wpAny_of_M {Q:Exit → Act → World → Prop}:∀ (fuel:Nat) (listed:Array Bool) (a:Act) (C:World → Prop) (w:World),C w → wpAnyM P md ops L Q fuel listed a C → wpAny P md ops Q fuel listed a w
  | 0,_,_,_,w,hw,h=>⟨h.1,h.2 w hw⟩
  | fuel + 1,_,_,C,w,hw,h=>⟨fun h0=>h.1 h0 w hw,fun i hi=>by
    have h1:=h.2 i hi
    unfold cOp at h1
    split at h1
    · exact h1.elim
    · rename_i o ho
      split at h1
      · obtain ⟨v,hy,hK⟩:=h1
        exact hy.wpOp ho (wpAny_of_M fuel _ _ C w hw hK)
      · obtain ⟨v,hy,hK⟩:=h1
        exact wpOp_of_qOp (C:=C) (K:=fun a'=>wpAnyM P md ops L Q fuel _ a' C) hw (fun a' w' hw' h'=>wpAny_of_M fuel _ _ C w' hw' h') (hy.qOp ho hK)
      · exact wpOp_mono (fun a' w' ⟨C',h1,h2⟩=>wpAny_of_M fuel _ _ C' w' h1 h2) (h1 w hw)⟩
structure WaitInv (md:Region.Mode) (ops:Array Oper) (L:List Nat) (i:Nat) (wt:Nat → Bool) (listed:Array Bool):Prop where
  out:∀ j,wt j=true → listed.getD j false=false
  cov:∀ j,j ≠ i → listed.getD j true=false → 2 ≤ L.getD j 2 → wt j=true
def WaitSound (md:Region.Mode) (ops:Array Oper) (i:Nat) (wt:Nat → Bool):Prop:=∀ j,wt j=true → ∃ oj,ops[j]?=some oj∧∃ e ∈ oj.after,Region.binds md e=true∧(e.on=i ∨ wt e.on=true)
theorem WaitInv.not_ready {i j:Nat} {wt:Nat → Bool} {listed:Array Bool} (hs:WaitSound md ops i wt) (h:WaitInv md ops L i wt listed) (hi:listed.getD i true=false) (hj:j ∈ Region.ready md ops listed):wt j=false:=by
  cases hw:wt j with
  | false=>rfl
  | true=>
    obtain ⟨oj,hoj,e,he,hb,ho⟩:=hs j hw
    obtain ⟨_,o,ho',hall⟩:=mem_ready.1 hj
    have:o=oj:=Option.some.inj (ho'.symm.trans hoj)
    subst this
    have h1:=hall e he hb
    rcases ho with ho|ho
    · rw [ho,listed_none hi] at h1;cases h1
    · rw [h.out _ ho] at h1;cases h1
theorem WaitInv.set {i j:Nat} {wt:Nat → Bool} {listed:Array Bool} (h:WaitInv md ops L i wt listed) (hj:wt j=false):WaitInv md ops L i wt (listed.setIfInBounds j true):=by
  refine ⟨fun k hk=>?_,fun k hk hu hl=>?_⟩
  · have:j ≠ k:=fun e=>by subst e;rw [hj] at hk;cases hk
    rw [getD_set_ne false this];exact h.out k hk
  · by_cases hjk:j=k
    · subst hjk
      rcases Nat.lt_or_ge j listed.size with h'|h'
      · simp [h'] at hu
      · simp at hu
    · rw [getD_set_ne true hjk] at hu
      exact h.cov k hk hu hl
theorem wpAnyM_first {Q:Exit → Act → World → Prop} {i:Nat} {oi:Oper} {v:Value} (hi:ops[i]?=some oi) (hsel:∀ (j:Nat) (o:Oper) cs b,ops[j]?=some o → o.op ≠ .select cs b)
    (hQ:∀ c a w,Q (.panic c) (a.put oi.dst v) w → Q (.panic c) a w) (wt:Nat → Bool) (hws:L.getD i 2=1 → WaitSound md ops i wt) (hc:L.getD i 2=0 ∨ L.getD i 2=1) :
    ∀ (fuel:Nat) (listed:Array Bool) (a:Act) (C:World → Prop),
      (∀ j oj,ops[j]?=some oj → j ≠ i → listed.getD j true=false → (∀ e ∈ oj.after,Region.binds md e=true → e.on ≠ i) → oi.apart ops oj=true) →
      (L.getD i 2=1 → WaitInv md ops L i wt listed) →
      i ∈ Region.ready md ops listed → (L.getD i 2=0 → Yields P ops oi v a) → (L.getD i 2=1 → YieldsIn P ops C oi v a) →
      wpAnyM P md ops L Q fuel (listed.setIfInBounds i true) (a.put oi.dst v) C → wpAnyM P md ops L Q (fuel + 1) listed a C:=by
  intro fuel
  have self:∀ (fuel:Nat) (listed:Array Bool) (a:Act) (C:World → Prop),(L.getD i 2=0 → Yields P ops oi v a) → (L.getD i 2=1 → YieldsIn P ops C oi v a) →
      wpAnyM P md ops L Q fuel (listed.setIfInBounds i true) (a.put oi.dst v) C → cOp P ops L Q i (wpAnyM P md ops L Q fuel (listed.setIfInBounds i true)) a C:=by
    intro fuel listed a C h0 h1 H
    unfold cOp
    simp only [hi]
    rcases hc with hc|hc
    · simp only [hc];exact ⟨v,h0 hc,H⟩
    · simp only [hc];exact ⟨v,h1 hc,H⟩
  induction fuel with
  | zero=>
    intro listed a C _ _ hr h0 h1 H
    refine ⟨fun h=>(by rw [h] at hr;cases hr),fun j hj=>?_⟩
    by_cases hji:j=i
    · subst hji;exact self _ _ _ _ h0 h1 H
    · have:=ready_mono hj hji
      rw [H.1] at this
      cases this
  | succ fuel ih=>
    intro listed a C hfree hwi hr h0 h1 H
    refine ⟨fun h=>(by rw [h] at hr;cases hr),fun j hj=>?_⟩
    by_cases hji:j=i
    · subst hji;exact self _ _ _ _ h0 h1 H
    · have hh:=H.2 j (ready_mono hj hji)
      obtain ⟨hjun,oj,hoj,hall⟩:=mem_ready.1 hj
      have hiun:=(mem_ready.1 hr).1
      have hnot:∀ e ∈ oj.after,Region.binds md e=true → e.on ≠ i:=fun e he hb heq=>by
        have h1:=hall e he hb
        rw [heq,listed_none hiun] at h1
        cases h1
      have hap:=hfree j oj hoj hji hjun hnot
      have hfree':∀ k ok,ops[k]?=some ok → k ≠ i → (listed.setIfInBounds j true).getD k true=false →
          (∀ e ∈ ok.after,Region.binds md e=true → e.on ≠ i) → oi.apart ops ok=true:=fun k ok hk hki hun hno=>by
        refine hfree k ok hk hki ?_ hno
        by_cases hjk:j=k
        · subst hjk;exact hjun
        · rw [getD_set_ne true hjk] at hun;exact hun
      have hwi':L.getD i 2=1 → WaitInv md ops L i wt (listed.setIfInBounds j true):=fun h=>(hwi h).set ((hwi h).not_ready (hws h) hiun hj)
      have hr':=ready_mono hr (Ne.symm hji)
      obtain ⟨p1,p2,p3⟩:=Oper.apart_spec hap
      have hsi:=fun cs b=>hsel i oi cs b hi
      have hsj:=fun cs b=>hsel j oj cs b hoj
      have keep0:∀ (a:Act),(L.getD i 2=0 → Yields P ops oi v a) → ∀ u,(L.getD i 2=0 → Yields P ops oi v (a.put oj.dst u)):=fun a hy u h=>
        (hy h).of_same (execOp_put oi hsi a oj.dst u p3) (wanted_put oi a oj.dst u p3)
      have keep1:∀ (a:Act),(L.getD i 2=1 → YieldsIn P ops C oi v a) → ∀ u,(L.getD i 2=1 → YieldsIn P ops C oi v (a.put oj.dst u)):=fun a hy u h=>
        (hy h).of_same (execOp_put oi hsi a oj.dst u p3) (wanted_put oi a oj.dst u p3)
      unfold cOp at hh ⊢
      simp only [hoj] at hh ⊢
      split
      · rename_i hcj
        simp only [hcj] at hh
        obtain ⟨u,hy,hK⟩:=hh
        refine ⟨u,hy.of_same (execOp_put oj hsj a oi.dst v p1).symm (wanted_put oj a oi.dst v p1).symm,ih _ _ _ hfree' hwi' hr' (keep0 a h0 u) (keep1 a h1 u) ?_⟩
        rw [Array.setIfInBounds_comm _ _ hji,← Act.put_comm a v u p2]
        exact hK
      · rename_i hcj
        simp only [hcj] at hh
        obtain ⟨u,hy,hK⟩:=hh
        refine ⟨u,hy.of_same (execOp_put oj hsj a oi.dst v p1).symm (wanted_put oj a oi.dst v p1).symm,ih _ _ _ hfree' hwi' hr' (keep0 a h0 u) (keep1 a h1 u) ?_⟩
        rw [Array.setIfInBounds_comm _ _ hji,← Act.put_comm a v u p2]
        exact hK
      · rename_i hc0 hc1
        rcases hc with hc|hc
        · split at hh
          · exact absurd (by assumption) hc0
          · exact absurd (by assumption) hc1
          · intro w hw
            have h2:=wpOp_put hoj hap hsi hsj hQ (h0 hc) (hh w hw)
            refine wpOp_mono (fun a' w' h3=>?_) h2
            obtain ⟨hy,C',hC',hK⟩:=h3
            refine ⟨C',hC',ih _ _ _ hfree' hwi' hr' (fun _=>hy) (fun h=>by rw [hc] at h;cases h) ?_⟩
            rw [Array.setIfInBounds_comm _ _ hji]
            exact hK
        · have h2:=(hwi hc).not_ready (hws hc) hiun hj
          rw [(hwi hc).cov j hji hjun (by
            rcases Nat.lt_or_ge (L.getD j 2) 2 with hl|hl
            · have:L.getD j 2=0 ∨ L.getD j 2=1:=by omega
              rcases this with h|h
              · exact absurd h hc0
              · exact absurd h hc1
            · exact hl)] at h2
          cases h2
def waitTab (md:Region.Mode) (ops:Array Oper) (i:Nat):Array Bool:=
  ops.foldl (fun acc o=>acc.push (o.after.any fun e=>Region.binds md e && (e.on == i || acc.getD e.on false))) #[]
def waitOk (md:Region.Mode) (ops:Array Oper) (L:List Nat) (listed:Array Bool) (i:Nat):Bool:=
  let wt:=waitTab md ops i
  decide (wt.size=ops.size) && (List.range ops.size).all fun j=>
    (j == i || listed.getD j true || decide (L.getD j 2 < 2) || wt.getD j false) &&
    (!wt.getD j false || (!listed.getD j false && match ops[j]? with
      | some oj=>oj.after.any fun e=>Region.binds md e && (e.on == i || wt.getD e.on false)
      | none=>false))
theorem waitOk_spec {listed:Array Bool} {i:Nat} (hz:listed.size=ops.size) (h:waitOk md ops L listed i=true):WaitSound md ops i (fun j=>(waitTab md ops i).getD j false)∧WaitInv md ops L i (fun j=>(waitTab md ops i).getD j false) listed:=by
  simp only [waitOk,Bool.and_eq_true,decide_eq_true_eq,List.all_eq_true,List.mem_range] at h
  obtain ⟨hs,h⟩:=h
  have inr:∀ j,(waitTab md ops i).getD j false=true → j < ops.size:=fun j hj=>by
    rcases Nat.lt_or_ge j (waitTab md ops i).size with h'|h'
    · omega
    · simp [Array.getElem?_eq_none h'] at hj
  refine ⟨fun j hj=>?_,fun j hj=>?_,fun j hji hun hl=>?_⟩
  · have h1:=(h j (inr j hj)).2
    simp only [hj,Bool.not_true,Bool.false_or,Bool.and_eq_true] at h1
    have h2:=h1.2
    split at h2
    · rename_i oj hoj
      obtain ⟨e,he,hb⟩:=Array.any_eq_true'.1 h2
      simp only [Bool.and_eq_true,Bool.or_eq_true,beq_iff_eq] at hb
      exact ⟨oj,hoj,e,he,hb.1,hb.2⟩
    · cases h2
  · have h1:=(h j (inr j hj)).2
    simp only [hj,Bool.not_true,Bool.false_or,Bool.and_eq_true,Bool.not_eq_true'] at h1
    exact h1.1
  · have hj:j < ops.size:=by
      rcases Nat.lt_or_ge j listed.size with h'|h'
      · omega
      · simp [Array.getElem?_eq_none h'] at hun
    have h1:=(h j hj).1
    simp only [Bool.or_eq_true,beq_iff_eq,hji,hun,decide_eq_true_eq] at h1
    rcases h1 with ((h1|h1)|h1)|h1
    · exact h1.elim
    · cases h1
    · omega
    · exact h1
def planOk (md:Region.Mode) (ops:Array Oper) (L:List Nat):List Nat → Array Bool → Bool
  | [],listed=>(Region.ready md ops listed).isEmpty
  | k :: π,listed=>(Region.ready md ops listed).contains k && (match L.getD k 2 with
      | 0=>Region.free md ops listed k
      | 1=>Region.free md ops listed k && waitOk md ops L listed k
      | _=>Region.ready md ops listed == [k]) && planOk md ops L π (listed.setIfInBounds k true)
def wpPi (P:Program) (ops:Array Oper) (L:List Nat) (Q:Exit → Act → World → Prop):List Nat → Act → (World → Prop) → Prop
  | [],a,C=>∀ w,C w → Q .normal a w
  | k :: π,a,C=>cOp P ops L Q k (wpPi P ops L Q π) a C
theorem wpAnyM_pi {Q:Exit → Act → World → Prop} (hs:Region.noSelect ops=true) (hQ:∀ c a w,¬ Q (.panic c) a w):∀ (π:List Nat) (listed:Array Bool) (a:Act) (C:World → Prop),listed.size=ops.size →
    planOk md ops L π listed=true → wpPi P ops L Q π a C → wpAnyM P md ops L Q π.length listed a C
  | [],_,_,_,_,hB,h=>⟨by simpa [planOk] using hB,h⟩
  | k :: π,listed,a,C,hz,hB,h=>by
    simp only [planOk,Bool.and_eq_true] at hB
    obtain ⟨⟨hr,hf⟩,hB'⟩:=hB
    have hr':k ∈ Region.ready md ops listed:=by simpa using hr
    have hz':(listed.setIfInBounds k true).size=ops.size:=by simpa using hz
    have hrec:=fun a' C'=>wpAnyM_pi hs hQ π (listed.setIfInBounds k true) a' C' hz' hB'
    have h':cOp P ops L Q k (wpAnyM P md ops L Q π.length (listed.setIfInBounds k true)) a C:=cOp_mono hrec h
    have h2:=h'
    unfold cOp at h2
    split at h2
    · exact h2.elim
    · rename_i o ho
      split at h2
      · rename_i hc
        simp only [hc] at hf
        obtain ⟨v,hy,hK⟩:=h2
        exact wpAnyM_first ho (Region.noSelect_spec hs) (fun c a w hh=>(hQ _ _ _ hh).elim) (fun _=>false) (fun hh=>by rw [hc] at hh;cases hh) (.inl hc) _ _ _ _ (Region.free_spec ho hf)
          (fun hh=>by rw [hc] at hh;cases hh) hr' (fun _=>hy) (fun hh=>by rw [hc] at hh;cases hh) hK
      · rename_i hc
        simp only [hc,Bool.and_eq_true] at hf
        obtain ⟨v,hy,hK⟩:=h2
        obtain ⟨w1,w2⟩:=waitOk_spec hz hf.2
        exact wpAnyM_first ho (Region.noSelect_spec hs) (fun c a w hh=>(hQ _ _ _ hh).elim) _ (fun _=>w1) (.inr hc) _ _ _ _ (Region.free_spec ho hf.1)
          (fun _=>w2) hr' (fun hh=>by rw [hc] at hh;cases hh) (fun _=>hy) hK
      · rename_i h0 h1
        have hone:Region.ready md ops listed=[k]:=by
          split at hf
          · exact absurd (by assumption) h0
          · exact absurd (by assumption) h1
          · simpa using hf
        refine ⟨fun hh=>(by rw [hone] at hh;cases hh),fun i hi=>?_⟩
        rw [hone] at hi
        have:i=k:=by simpa using hi
        subst this
        exact h'
theorem wp_region_pi {id:Nat} {Q:Exit → Act → World → Prop} {a:Act} {w:World} {l:List Oper} (L π:List Nat) (hm:P.follows .mixedOrders=true)
    (hB:(Region.noSelect l.toArray && planOk .any l.toArray L π (Array.replicate l.length false) && π.length == l.length)=true)
    (h:wpPi P l.toArray L (NoPanic Q) π a (fun w'=>∃ n,w'=w.drewN n)):(Code.region id l.toArray true).wp P Q a w:=by
  simp only [Bool.and_eq_true,beq_iff_eq] at hB
  obtain ⟨⟨hs,hp⟩,hl⟩:=hB
  refine wp_region_noPanic (wp_region_any hm ?_)
  have:=wpAnyM_pi (md:=.any) hs (fun c a w hh=>hh) π (Array.replicate l.length false) a _ (by simp) hp h
  rw [hl] at this
  have h2:=wpAny_of_M (md:=.any) _ _ _ _ { w with drawn:=w.drawn + 1 } ⟨1,rfl⟩ this
  simpa using h2
theorem wpPi_nil {Q:Exit → Act → World → Prop} {a:Act} {w:World} (h:∀ n,Q .normal a (w.drewN n)):wpPi P ops L (NoPanic Q) [] a (fun w'=>∃ n,w'=w.drewN n):=by
  rintro _ ⟨n,rfl⟩
  exact NoPanic.normal (h n)
theorem wpPi_free {Q:Exit → Act → World → Prop} {a:Act} {C:World → Prop} {k:Nat} {π:List Nat} {o:Oper} (ho:ops[k]?=some o) (hc:L.getD k 2=0)
    (h:∀ K:Act → Prop,(∀ a,wpPi P ops L Q π a C → K a) → if Region.wanted o (yielded ops a.tmps) then freely P o a K else K (a.put o.dst undef)):wpPi P ops L Q (k :: π) a C:=by
  have:=h (fun a'=>wpPi P ops L Q π a' C) (fun _ h=>h)
  simp only [wpPi,cOp,ho,hc]
  split at this
  · rename_i hw
    obtain ⟨v,h1,h2⟩:=this
    refine ⟨v,.inl ⟨hw,fun w=>?_⟩,h2⟩
    have h3:=h1 w
    unfold freeAt at h3
    generalize (execOp a.eval o).run P w=r at *
    cases r with
    | ok n w'=>cases n <;> simp only [freeUpon] at h3;rw [h3.1,h3.2]
    | halt x w'=>simp only [freeUpon] at h3
  · rename_i hw
    exact ⟨undef,.inr ⟨by simpa using hw,rfl⟩,this⟩
theorem wpPi_quiet {Q:Exit → Act → World → Prop} {a:Act} {C:World → Prop} {k:Nat} {π:List Nat} {o:Oper} (ho:ops[k]?=some o) (hc:L.getD k 2=1)
    (h:∀ K:Act → Prop,(∀ a,wpPi P ops L Q π a C → K a) → if Region.wanted o (yielded ops a.tmps) then o.quiet P a C K else K (a.put o.dst undef)):wpPi P ops L Q (k :: π) a C:=by
  have:=h (fun a'=>wpPi P ops L Q π a' C) (fun _ h=>h)
  simp only [wpPi,cOp,ho,hc]
  split at this
  · rename_i hw
    obtain ⟨v,h1,h2⟩:=this
    exact ⟨v,.inl ⟨hw,h1⟩,h2⟩
  · rename_i hw
    exact ⟨undef,.inr ⟨by simpa using hw,rfl⟩,this⟩
theorem wpPi_eff {Q:Exit → Act → World → Prop} {a:Act} {w:World} {k:Nat} {π:List Nat} {o:Oper} (ho:ops[k]?=some o) (hc:L.getD k 2=2)
    (h:∀ (n:Nat) (K:Act → World → Prop),Shut (∀ a' w',wpPi P ops L Q π a' (fun w''=>∃ n,w''=w'.drewN n) → K a' w') → if Region.wanted o (yielded ops a.tmps)=true then Oper.wp P o a (w.drewN n) K Q else K (a.put o.dst undef) (w.drewN n)) :
    wpPi P ops L Q (k :: π) a (fun w'=>∃ n,w'=w.drewN n):=by
  simp only [wpPi,cOp,ho,hc]
  rintro _ ⟨n,rfl⟩
  refine wpOp_mono (fun a' w' h'=>⟨fun w''=>∃ n,w''=w'.drewN n,⟨0,rfl⟩,h'⟩) (wpOp_step ho fun K' hK=>h n K' hK)
end
end Go.Proofs.YtkjnockljapnbaaGreatDoor
namespace Go.Proofs.YtkjnockljapnbaaGreatDoor
open Go Go.RowKit
theorem grow_some (x:Cx) (hx:x.Ok) (c:DC) (w:World) (v:DV) (rest:Bs) (e:Option EK) (buf:Bs) (h:RdS x c w v rest e buf) (g cap:Nat) (arr:Array Value) (hv:v.bufv=.slice (some ⟨g,0,none⟩) buf.length cap)
    (hg:Blk w g arr 5) (hsz:arr.size=cap) (hlc:buf.length ≤ cap) (hel:∀ j,j < buf.length → arr[j]?=some (.int .u8 (buf.getD j 0).toNat))
    (n:Nat) (hn:1 ≤ n) (hr:cap < buf.length + n) (hlim:buf.length + n ≤ 100000000000000) :
    Calls Tryz.prog 70 #[.pointer (some ⟨x.d,7,none⟩),.int .i64 n] w fun en w'=>en=.returned (.int .i64 buf.length)∧∃ g cap arr,GrowPost x c w v buf n w' g cap arr:=by
  have hc:=h.dec.cell
  have hf:=h.dec.frozen
  have hlen:=Lib.hid (len_c x c w v rest e buf h)
  have HX:=Lib.hid hx
  have H:=Lib.hid h
  have htry:=Lib.hid (fun k=>tryGrow_no x.d c v (w.drewN k) h.dec _ _ _ n hv hlc hr (by omega))
  have hgr:=Lib.hid (fun k=>Tryz.bytes_growSlice_row g buf.length cap n arr (w.drewN k) hg hsz hlc hn (by omega) (by omega) (by
    intro u hu
    obtain ⟨j,hj,rfl⟩:=List.mem_iff_getElem.1 hu
    have hj':j < buf.length:=by simp at hj;omega
    have:=hel j hj'
    simp only [List.getElem_take]
    rw [Array.getElem?_eq_some_iff] at this
    obtain ⟨h1,h2⟩:=this
    simp [h2,Value.oneCell']))
  have HEL:=Lib.hid hel
  have hmax:¬ ((9223372036854775807:Int) - (cap:Int) - (n:Int) < (cap:Int)):=by omega
  have hq:¬ ((n:Int) ≤ (cap:Int) / 2 - (buf.length:Int)):=by omega
  have hcap:(cap:Int) ≤ 100000000000000:=by omega
  have hb0:(0:Int) ≤ (buf.length:Int):=by omega
  have hbl:(buf.length:Int) ≤ 100000000000000:=by omega
  have hnl:(n:Int) ≤ 100000000000000:=by omega
  have hwn:IntKind.i64.wrap (n:Int)=n:=IntWalk.i64_in _ (by omega)
  obtain ⟨sb,sl,snb,serr,sline,sls,soff⟩:=v
  simp only at hv
  subst hv
  clear h hx hel hg
  obtain ⟨L,hL⟩:∃ L,L=buf.length:=⟨_,rfl⟩
  rw [← hL] at hc hlen hgr HEL hq hb0 hbl H hlc hr hlim
  have HL:=Lib.hid hL
  rw [← hL]
  clear hL
  have hz:((L:Int) == 0)=true ∨ ((L:Int) == 0)=false:=by cases ((L:Int) == 0) <;> simp
  rcases hz with hz|hz
  all_goals
    go_enter Tryz.func70,Tryz.ntmps70
    go_wp2_with fail
    refine hlen.out.mono ?_
    rintro e1 w1 ⟨rfl,k,rfl⟩
    have hc':∀ o,(w.drewN k).cell? ⟨x.d,o,none⟩=(dcells c ⟨.slice (some ⟨g,0,none⟩) L cap,sl,snb,serr,sline,sls,soff⟩)[o]?:=hc
    have hf':∀ o,(w.drewN k).frozen? ⟨x.d,o,none⟩=false:=hf
    have heql:=fun (w:World) (a:Option Addr) (n c:Nat)=>Lib.run_eql_slice_nil (P:=Tryz.prog) w 74 5 a n c 0 0 Tryz.underlying74
    go_wp2_with fail
    refine (htry.out _).mono ?_
    rintro e2 w2 ⟨rfl,rfl⟩
    go_wp2_with fail
    (refine wp_region_pi [0,0,0,0,1,0,0,0,1,1,0,0,0,1,0,1,2,0,0,2] [0,1,2,3,5,6,7,10,11,12,14,4,8,9,13,15,16,17,18,19] (by kernel_rfl) (by kernel_rfl) ?_;repeat (first|(with_reducible refine wpPi_nil (fun nq=>?_))|((with_reducible refine wpPi_free rfl rfl (fun K hK=>?_));go_simp;refine hK _ ?_;clear hK K)|((with_reducible refine wpPi_quiet rfl rfl (fun K hK=>?_));go_simp;refine hK _ ?_;clear hK K)|((with_reducible refine wpPi_eff rfl rfl (fun nq K hK=>?_));go_simp;refine hK.out _ _ ?_;clear hK K)))
    refine wpPi_eff rfl rfl (fun nq K hK=>?_)
    go_simp
    go_at_call 85
    refine (hgr.out _).mono ?_
    rintro e3 w3 ⟨cap2,cells,rfl,k1,k2,k3,k4,k5,k6⟩
    have hd3:=Blk.mod (w:=w) (w':=w3) (S:=fun _=>False) H.out.dec ⟨k6.os,k6.tape,k6.output,k6.size,fun i hi _=>k6.block i hi⟩ id
    have hc3:=hd3.cell
    have hf3:=hd3.frozen
    have HD3:=Lib.hid hd3
    have HK1:=Lib.hid k1
    have HK3:=Lib.hid k3
    have HK6:=Lib.hid k6
    have h4:(L:Int) + (n:Int) ≤ (cap2:Int):=by omega
    have h5:(cap2:Int) ≤ 9223372036854775807:=by unfold maxLen at k5;omega
    clear hd3 k1 k3 k6 k5
    go_wp2_with fail
    refine hK.out _ _ ?_
    clear hK K
    (repeat (first|(with_reducible refine wpPi_nil (fun nq=>?_))|((with_reducible refine wpPi_free rfl rfl (fun K hK=>?_));go_simp;refine hK _ ?_;clear hK K)|((with_reducible refine wpPi_quiet rfl rfl (fun K hK=>?_));go_simp;refine hK _ ?_;clear hK K)|((with_reducible refine wpPi_eff rfl rfl (fun nq K hK=>?_));go_simp;refine hK.out _ _ ?_;clear hK K)))
    go_wp2
    go_ret
    have hgd:w.heap.size ≠ x.d:=fun h=>by have:=H.out.dec.lt;omega
    have hm3:Mod (fun k=>k=x.d) w w3:=⟨HK6.out.os,HK6.out.tape,HK6.out.output,HK6.out.size,fun i hi _=>HK6.out.block i hi⟩
    have hb:Blk w3 w.heap.size cells 5:=HK1.out
    refine ⟨by trivial,w.heap.size,cap2,cells,?_,?_,by assumption,by rw [← HL.out];assumption,by omega,Nat.le_refl _,?_,?_⟩
    · rw [← HL.out]
      exact ((HD3.out.set 7 (.slice (some ⟨w.heap.size,0,none⟩) L cap2)).set 8 (.int .i64 0)).set 7 (.slice (some ⟨w.heap.size,0,none⟩) (L + n) cap2)
    · exact ((hb.set_ne (a:=⟨x.d,7,none⟩) hgd (.slice (some ⟨w.heap.size,0,none⟩) L cap2)).set_ne (a:=⟨x.d,8,none⟩) hgd (.int .i64 0)).set_ne (a:=⟨x.d,7,none⟩) hgd (.slice (some ⟨w.heap.size,0,none⟩) (L + n) cap2)
    · intro j hj
      have hjL:j < L:=by rw [HL.out];exact hj
      have h1:=HEL.out j hjL
      have h2:=congrArg (fun l=>l[j]?) HK3.out
      simp only [List.getElem?_take,hjL,if_true,Array.getElem?_toList] at h2
      rw [h2];exact h1
    · exact (((((hm3.drewN _).setCell (p:=⟨x.d,7,none⟩) (Or.inl rfl) (.slice (some ⟨w.heap.size,0,none⟩) L cap2)).drewN _).setCell (p:=⟨x.d,8,none⟩) (Or.inl rfl) (.int .i64 0)).setCell (p:=⟨x.d,7,none⟩) (Or.inl rfl) (.slice (some ⟨w.heap.size,0,none⟩) (L + n) cap2))
end Go.Proofs.YtkjnockljapnbaaGreatDoor
namespace Go.Proofs.YtkjnockljapnbaaGreatDoor
open Go Go.RowKit
theorem grow_any (x:Cx) (hx:x.Ok) (c:DC) (w:World) (v:DV) (rest:Bs) (e:Option EK) (buf:Bs) (h:RdS x c w v rest e buf) (n:Nat) (hn:1 ≤ n) (hn2:n ≤ 64)
    (hr:∀ a len cap,v.bufv=.slice (some a) len cap → cap < buf.length + n) (hlim:buf.length + n ≤ 100000000000000) :
    Calls Tryz.prog 70 #[.pointer (some ⟨x.d,7,none⟩),.int .i64 n] w fun en w'=>en=.returned (.int .i64 buf.length)∧∃ g cap arr,GrowPost x c w v buf n w' g cap arr:=by
  rcases h.bf with ⟨hv,hb⟩|⟨g,cap,arr,hv,hg,hsz,hl,hcp,hBg,hnS,hel⟩
  · subst hb;exact grow_nil x hx c w v rest e h hv n hn hn2
  · exact grow_some x hx c w v rest e buf h g cap arr hv hg hsz hl hel n hn (hr _ _ _ hv) hlim
theorem RdS.s0lt {x:Cx} {c:DC} {w:World} {v:DV} {rest:Bs} {e:Option EK} {buf:Bs} (h:RdS x c w v rest e buf) (k:Nat) (hk:x.S0 k):k < w.heap.size:=by
  obtain ⟨un,⟨r,q,n,lb,arr,s,us,h1,h2,_,h3,_⟩,_⟩:=h.inp
  rcases hk with hk|hk|hk|hk <;> subst hk
  · exact Blk.lt h.dec
  · exact h1.lt
  · exact h2.lt
  · exact h3.lt
theorem RdS.more {x:Cx} (hx:x.Ok) {c:DC} {w:World} {v:DV} {rest:Bs} {e:Option EK} {buf:Bs} (h:RdS x c w v rest e buf) (bs:Bs) (w':World) (v':DV) (g cap:Nat) (arr:Array Value)
    (dec:DecAt w' x.d c v') (hbv:v'.bufv=.slice (some ⟨g,0,none⟩) (buf.length + bs.length) cap) (blk:Blk w' g arr 5) (sz:arr.size=cap) (cp:buf.length + bs.length ≤ cap) (cm:cap ≤ 9223372036854775807)
    (hg:(bufBlk v.bufv g∧x.B ≤ g∧¬ x.S0 g) ∨ w.heap.size ≤ g) (el:∀ j,j < buf.length → arr[j]?=some (.int .u8 (buf.getD j 0).toNat)) (el2:∀ j,j < bs.length → arr[buf.length + j]?=some (.int .u8 (bs.getD j 0).toNat))
    (hm:Mod (fun k=>k=x.d ∨ bufBlk v.bufv k) w w') (h1:v'.nb=v.nb) (h2:v'.err=v.err) (h3:v'.line=v.line) (h4:v'.lstart=v.lstart) (h5:v'.off=v.off) :
    RdS x c w' v' rest e (buf ++ bs)∧v'.nb=v.nb∧Stp x w v w' v':=by
  have hgg:x.B ≤ g∧¬ x.S0 g:=by
    rcases hg with ⟨_,b,c⟩|hg
    · exact ⟨b,c⟩
    · refine ⟨Nat.le_trans ?_ hg,fun hs=>?_⟩
      · exact h.base.size
      · have:=h.s0lt g hs;omega
  refine ⟨h.buf hx dec hm h1 h2 h3 h4 h5 (Or.inr ⟨g,cap,arr,by rw [List.length_append];exact hbv,blk,sz,by rw [List.length_append];exact cp,cm,hgg.1,hgg.2,fun j hj=>?_⟩),h1,⟨hm.mono (fun k _ hk=>by
    rcases hk with hk|hk
    · exact Or.inl (Or.inl hk)
    · exact Or.inr hk),fun k hk=>?_⟩⟩
  · rw [List.length_append] at hj
    by_cases hjl:j < buf.length
    · rw [el j hjl];simp [List.getD_eq_getElem?_getD,List.getElem?_append_left hjl]
    · have:=el2 (j - buf.length) (by omega)
      rw [show buf.length + (j - buf.length)=j by omega] at this
      rw [this];simp [List.getD_eq_getElem?_getD,List.getElem?_append_right (Nat.le_of_not_lt hjl)]
  · rw [hbv] at hk
    have:k=g:=hk
    subst this
    rcases hg with ⟨a,_⟩|hg
    · exact Or.inl a
    · exact Or.inr hg
theorem cell_of_heap {w w':World} {g:Nat} (h:w'.heap[g]?=w.heap[g]?) (j:Nat):w'.cell? ⟨g,j,none⟩=w.cell? ⟨g,j,none⟩:=by
  unfold World.cell?;simp [h]
def OldKept (v:DV) (buf:Bs) (w w':World):Prop:=∀ g l cap,v.bufv=.slice (some ⟨g,0,none⟩) l cap → ∀ j,j < buf.length → w'.cell? ⟨g,j,none⟩=w.cell? ⟨g,j,none⟩
theorem writeByte_k (x:Cx) (hx:x.Ok) (c:DC) (w:World) (v:DV) (rest:Bs) (e:Option EK) (buf:Bs) (h:RdS x c w v rest e buf) (b:UInt8) (hlim:buf.length ≤ 50000000000000) :
    Calls Tryz.prog 43 #[.pointer (some ⟨x.d,7,none⟩),.int .u8 b.toNat] w fun en w'=>en=.returned .nilIface∧∃ v',(RdS x c w' v' rest e (buf ++ [b])∧v'.nb=v.nb∧Stp x w v w' v')∧OldKept v buf w w':=by
  have HX:=Lib.hid hx
  have hd9:DecAt (w.setCell ⟨x.d,9,none⟩ (.int .i8 0)) x.d c { v with lastRead:=0 }:=h.dec.set 9 (.int .i8 0)
  have hm9:Mod (fun k=>k=x.d ∨ bufBlk v.bufv k) w (w.setCell ⟨x.d,9,none⟩ (.int .i8 0)):=(Mod.refl _ w).setCell (Or.inl (Or.inl rfl)) _
  have hbx:∀ k,bufBlk v.bufv k → k ≠ x.d:=fun k hk e=>h.bf.notS0 k hk (Or.inl e)
  have h9:RdS x c (w.setCell ⟨x.d,9,none⟩ (.int .i8 0)) { v with lastRead:=0 } rest e buf:=h.buf hx hd9 hm9 rfl rfl rfl rfl rfl (h.bf.mod ((Mod.refl (fun k=>k=x.d) w).setCell (p:=⟨x.d,9,none⟩) (Or.inl rfl) _) hbx)
  have hcase:(∃ g cap arr,v.bufv=.slice (some ⟨g,0,none⟩) buf.length cap∧Blk w g arr 5∧arr.size=cap∧buf.length + 1 ≤ cap∧cap ≤ 9223372036854775807∧x.B ≤ g∧¬ x.S0 g∧(∀ j,j < buf.length → arr[j]?=some (.int .u8 (buf.getD j 0).toNat))) ∨
      (∃ a l cap,v.bufv=.slice a l cap∧l ≤ cap∧cap < l + 1∧cap ≤ 9223372036854775807∧∀ a len cap,v.bufv=.slice (some a) len cap → cap < buf.length + 1):=by
    rcases h.bf with ⟨hv,hb⟩|⟨g,cap,arr,hv,hg,hsz,hl,hcp,hBg,hnS,hel⟩
    · exact Or.inr ⟨none,0,0,hv,by omega,by omega,by omega,fun a l c' h'=>by rw [hv] at h';cases h'⟩
    · by_cases hr:buf.length + 1 ≤ cap
      · exact Or.inl ⟨g,cap,arr,hv,hg,hsz,hr,hcp,hBg,hnS,hel⟩
      · exact Or.inr ⟨_,_,_,hv,hl,by omega,hcp,fun a l c' h'=>by rw [hv] at h';cases h';omega⟩
  have H:=Lib.hid h
  have H9:=Lib.hid h9
  have HM9:=Lib.hid hm9
  have hc:=h.dec.cell
  have hf:=h.dec.frozen
  have HB:=Lib.hid hbx
  have hb0:(0:Int) ≤ (buf.length:Int):=by omega
  clear h h9 hm9 hbx hx
  rcases hcase with ⟨g,cap,arr,hv,hg,hsz,hl,hcp,hBg,hnS,hel⟩|⟨a,l,cap,hv,hl,hr,hcp,hrr⟩
  · have hty:=Lib.hid (tryGrow_yes x.d c { v with lastRead:=0 } _ hd9 g buf.length cap 1 hv hl hcp)
    have hgd:x.d ≠ g:=fun e=>hnS (Or.inl e.symm)
    have hgd':g ≠ x.d:=fun e=>hnS (Or.inl e)
    have hcg:=hg.cell
    have hfg:=hg.frozen
    have HEL:=Lib.hid hel
    have HG:=Lib.hid hg
    have hil:(buf.length:Int) < (buf.length:Int) + 1:=by omega
    have hcur:∃ u,arr[buf.length]?=some u:=by
      have:buf.length < arr.size:=by omega
      exact ⟨_,Array.getElem?_eq_getElem this⟩
    obtain ⟨u,hu⟩:=hcur
    obtain ⟨sb,sl,snb,serr,sline,sls,soff⟩:=v
    simp only at hv
    subst hv
    obtain ⟨L,hL⟩:∃ L,L=buf.length:=⟨_,rfl⟩
    have HL:=Lib.hid hL
    rw [← hL] at hc hty hb0 hil hu hl
    have HBg:=Lib.hid hBg
    clear hL hg hel hd9 hBg
    go_enter Tryz.func43,Tryz.ntmps43
    go_wp2_with fail
    refine hty.out.mono ?_
    rintro e1 w1 ⟨rfl,rfl⟩
    go_wp2
    go_ret
    have HGo:Blk w g arr 5:=HG.out
    refine ⟨by trivial,⟨.slice (some ⟨g,0,none⟩) (L + 1) cap,0,snb,serr,sline,sls,soff⟩,(H.out.more HX.out [b] _ _ g cap (arr.setIfInBounds L (.int .u8 b.toNat)) ?_ (by rw [HL.out];rfl) ?_ (by simpa using hsz) (by rw [← HL.out];exact hl) hcp (Or.inl ⟨rfl,HBg.out,hnS⟩) ?_ ?_ ?_ rfl rfl rfl rfl rfl),?_⟩
    · exact Blk.set_ne (a:=⟨g,L,none⟩) (show Blk _ x.d _ _ from (H.out.dec.set 9 (.int .i8 0)).set 7 (.slice (some ⟨g,0,none⟩) (L + 1) cap)) hgd (.int .u8 b.toNat)
    · exact ((HGo.set_ne (a:=⟨x.d,9,none⟩) hgd' (.int .i8 0)).set_ne (a:=⟨x.d,7,none⟩) hgd' (.slice (some ⟨g,0,none⟩) (L + 1) cap)).set L (.int .u8 b.toNat)
    · intro j hj
      rw [Array.getElem?_setIfInBounds_ne (by have:=HL.out;omega)];exact HEL.out j hj
    · intro j hj
      have:j=0:=by simpa using hj
      subst this
      rw [← HL.out,Array.getElem?_setIfInBounds]
      have:L < arr.size:=by omega
      simp [this]
    · exact (((Mod.refl _ w).setCell (p:=⟨x.d,9,none⟩) (Or.inl (Or.inl rfl)) (.int .i8 0)).setCell (p:=⟨x.d,7,none⟩) (Or.inl (Or.inl rfl)) (.slice (some ⟨g,0,none⟩) (L + 1) cap)).setCell (p:=⟨g,L,none⟩) (Or.inl (Or.inr rfl)) (.int .u8 b.toNat)
    · intro g' l' cap' he j hj
      cases he
      have h1:=(((HGo.set_ne (a:=⟨x.d,9,none⟩) hgd' (.int .i8 0)).set_ne (a:=⟨x.d,7,none⟩) hgd' (.slice (some ⟨g,0,none⟩) (L + 1) cap)).set L (.int .u8 b.toNat)).cell j
      rw [Array.getElem?_setIfInBounds_ne (by have:=HL.out;omega)] at h1
      exact h1.trans (HGo.cell j).symm
  · have hty:=Lib.hid (tryGrow_no x.d c { v with lastRead:=0 } _ hd9 a l cap 1 hv hl hr hcp)
    have hgr:=Lib.hid (grow_any x HX.out c _ { v with lastRead:=0 } rest e buf H9.out 1 (by omega) (by omega) hrr (by omega))
    obtain ⟨sb,sl,snb,serr,sline,sls,soff⟩:=v
    simp only at hv
    subst hv
    have hbl:(buf.length:Int) ≤ 50000000000000:=by omega
    clear hd9 hrr
    obtain ⟨L,hL⟩:∃ L,L=buf.length:=⟨_,rfl⟩
    have HL:=Lib.hid hL
    rw [← hL] at hgr hb0 hbl
    clear hL
    go_enter Tryz.func43,Tryz.ntmps43
    go_wp2_with fail
    refine hty.out.mono ?_
    rintro e1 w1 ⟨rfl,rfl⟩
    go_wp2_with fail
    refine hgr.out.mono ?_
    rintro e1 w1 ⟨rfl,g,cap',arr,hG⟩
    have hil:(L:Int) < (L:Int) + 1:=by omega
    have hd':=hG.dec
    have HD':DecAt w1 x.d c ⟨.slice (some ⟨g,0,none⟩) (L + 1) cap',0,snb,serr,sline,sls,soff⟩:=by rw [HL.out];exact hd'
    have hc1:=HD'.cell
    have hf1:=Blk.frozen HD'
    have hcg:=hG.blk.cell
    have hfg:=hG.blk.frozen
    have hcp':L + 1 ≤ cap':=by rw [HL.out];exact hG.cp
    have hsz:=hG.sz
    have hcur:∃ u,arr[L]?=some u:=by
      have:L < arr.size:=by omega
      exact ⟨_,Array.getElem?_eq_getElem this⟩
    obtain ⟨u,hu⟩:=hcur
    have hgd':g ≠ x.d:=fun e=>by
      have h1:=Blk.lt H9.out.dec
      have h2:=hG.new
      omega
    have hgd:x.d ≠ g:=fun e=>hgd' e.symm
    have HG:=Lib.hid hG
    have HD:=Lib.hid HD'
    clear hG hd' HD' hc hf
    go_wp2
    go_ret
    have hsz0:(w.setCell ⟨x.d,9,none⟩ (.int .i8 0)).heap.size=w.heap.size:=by simp [World.setCell]
    refine ⟨by trivial,⟨.slice (some ⟨g,0,none⟩) (L + 1) cap',0,snb,serr,sline,sls,soff⟩,(H.out.more HX.out [b] _ _ g cap' (arr.setIfInBounds L (.int .u8 b.toNat)) ?_ (by rw [HL.out];rfl) ?_ (by simpa using hsz) (by rw [← HL.out];exact hcp') HG.out.cm (Or.inr (by have:=HG.out.new;omega)) ?_ ?_ ?_ rfl rfl rfl rfl rfl),?_⟩
    · exact Blk.set_ne (a:=⟨g,L,none⟩) (show Blk _ x.d _ _ from HD.out) hgd (.int .u8 b.toNat)
    · exact HG.out.blk.set L (.int .u8 b.toNat)
    · intro j hj
      rw [Array.getElem?_setIfInBounds_ne (by have:=HL.out;omega)];exact HG.out.el j hj
    · intro j hj
      have:j=0:=by simpa using hj
      subst this
      rw [← HL.out,Array.getElem?_setIfInBounds]
      have:L < arr.size:=by omega
      simp [this]
    · refine Mod.setCell ?_ (p:=⟨g,L,none⟩) (Or.inr (by have:=HG.out.new;show w.heap.size ≤ g;omega)) (.int .u8 b.toNat)
      exact HM9.out.trans HG.out.mod (fun i _ hi=>Or.inl hi)
    · intro g' l' cap' he j hj
      have hbf:=H.out.bf
      rcases hbf with ⟨h1,h2⟩|⟨g0,cap0,arr0,h1,h2,_,_,_,_,h7,_⟩
      · rw [h2] at hj;simp at hj
      · simp only at h1 he
        rw [h1] at he
        simp only [Value.slice.injEq,Option.some.injEq,Addr.mk.injEq] at he
        obtain ⟨⟨hg0,_⟩,_⟩:=he
        subst hg0
        have hlt:=h2.lt
        have hnd:g0 ≠ x.d:=fun e=>h7 (Or.inl e)
        have hng:g0 ≠ g:=fun e=>by
          have:=HG.out.new
          rw [hsz0] at this
          omega
        refine cell_of_heap ?_ j
        rw [heap_setCell_ne _ _ _ _ hng]
        have hm:=HG.out.mod.block g0 (by rw [hsz0];exact hlt) hnd
        rw [hm]
        exact heap_setCell_ne w ⟨x.d,9,none⟩ _ g0 hnd
theorem writeByte_c (x:Cx) (hx:x.Ok) (c:DC) (w:World) (v:DV) (rest:Bs) (e:Option EK) (buf:Bs) (h:RdS x c w v rest e buf) (b:UInt8) (hlim:buf.length ≤ 50000000000000) :
    Calls Tryz.prog 43 #[.pointer (some ⟨x.d,7,none⟩),.int .u8 b.toNat] w fun en w'=>en=.returned .nilIface∧∃ v',RdS x c w' v' rest e (buf ++ [b])∧v'.nb=v.nb∧Stp x w v w' v':=
  (writeByte_k x hx c w v rest e buf h b hlim).mono fun _ _ ⟨he,v',h1,_⟩=>⟨he,v',h1⟩
end Go.Proofs.YtkjnockljapnbaaGreatDoor
