/- Part of the proof that laws.FnBeginning, laws.FnPlaces returns true for every argument (Mb). No condition of its own. -/
import Derived.Test.YtkjnockljapnbaaGreatDoorK02
set_option linter.all false
set_option maxHeartbeats 8000000
set_option maxRecDepth 100000
namespace Go.Proofs.YtkjnockljapnbaaGreatDoor
open Go
inductive Toks (fold:Bs → Bs → Bool) (o:Opt):St → List (RTok × St) → EK → Prop
  | stop {s e}:stepL fold o s=.error e → Toks fold o s [] e
  | more {s t s' l e}:stepL fold o s=.ok (t,s') → Toks fold o s' l e → Toks fold o s ((t,s') :: l) e
theorem Toks.det {fold:Bs → Bs → Bool} {o:Opt} {s:St} {l l':List (RTok × St)} {e e':EK} (h:Toks fold o s l e) (h':Toks fold o s l' e'):l=l'∧e=e':=by
  induction h generalizing l' e' with
  | stop h1=>
    cases h' with
    | stop h2=>rw [h1] at h2;cases h2;exact ⟨rfl,rfl⟩
    | more h2 _=>rw [h1] at h2;cases h2
  | more h1 _ ih=>
    cases h' with
    | stop h2=>rw [h1] at h2;cases h2
    | more h2 h3=>
      rw [h1] at h2
      simp only [Except.ok.injEq,Prod.mk.injEq] at h2
      obtain ⟨rfl,rfl⟩:=h2
      obtain ⟨rfl,rfl⟩:=ih h3
      exact ⟨rfl,rfl⟩
theorem autoL_nil {fold:Bs → Bs → Bool} {o:Opt} (h:o.auto=[]) (t:RTok) (s:St):autoL fold o t s=none:=by
  unfold autoL
  rw [h]
  split
  · rfl
  · split <;> simp
def tok0 (o:Opt) (s:St):Except EK (RTok × St):=
  match rawL o s with
  | .error e=>.error (if e=.eof∧s.stk ≠ [] then .syn else e)
  | .ok (t,s')=>workL o t s'
theorem tokL_nil {fold:Bs → Bs → Bool} {o:Opt} (h:o.auto=[]) {s:St} (hn:s.next=none):tokL fold o s=tok0 o s:=by
  unfold tokL tok0
  rw [hn]
  cases rawL o s with
  | error e=>rfl
  | ok p=>
    obtain ⟨t,s'⟩:=p
    simp only [autoL_nil h]
    split <;> rfl
def step0 (o:Opt) (s:St):Except EK (RTok × St):=if o.raw then rawL o s else tok0 o s
theorem stepL_nil {fold:Bs → Bs → Bool} {o:Opt} (h:o.auto=[]) {s:St} (hn:s.next=none):stepL fold o s=step0 o s:=by
  unfold stepL step0
  rw [tokL_nil h hn]
theorem bindL_len:∀ (as:List At3) (stk:List Ent) (ns:Bs → Option Bs),(bindL as stk ns).1.length ≤ stk.length + as.length
  | [],stk,ns=>by simp [bindL]
  | (sp,loc,v) :: as,stk,ns=>by
    unfold bindL
    by_cases h1:sp=xmlnsB
    · have h2:¬ (sp=[]∧loc=xmlnsB):=by rintro ⟨h,_⟩;rw [h1] at h;cases h
      simp only [if_pos h1,if_neg h2]
      have:=bindL_len as ({ kind:=1,space:=(ns loc).getD [],loc:=loc,ok:=(ns loc).isSome } :: stk) (setNs ns loc (some v))
      simp only [List.length_cons] at this ⊢;omega
    · by_cases h2:sp=[]∧loc=xmlnsB
      · simp only [if_neg h1,if_pos h2]
        have:=bindL_len as ({ kind:=1,space:=(ns []).getD [],loc:=[],ok:=(ns []).isSome } :: stk) (setNs ns [] (some v))
        simp only [List.length_cons] at this ⊢;omega
      · simp only [if_neg h1,if_neg h2]
        have:=bindL_len as stk ns
        simp only [List.length_cons] at this ⊢;omega
theorem undoL_len:∀ (stk:List Ent) (ns:Bs → Option Bs),(undoL stk ns).1.length ≤ stk.length
  | [],_=>by simp [undoL]
  | e :: stk,ns=>by
    unfold undoL
    split
    · exact Nat.le_refl _
    · have:=undoL_len stk (setNs ns e.loc (if e.ok then some e.space else none))
      simp only [List.length_cons];omega
theorem workL_ok {o:Opt} {t t':RTok} {s s':St} (h:workL o t s=.ok (t',s')) :
    s'.rest=s.rest∧s'.ended=s.ended∧s'.next=s.next∧((∃ nm as,t=.start nm as) ↔ (∃ nm as,t'=.start nm as))∧((∃ nm,t=.fin nm) ↔ ∃ nm,t'=.fin nm) ∧
    (s'.toClose=s.toClose ∨ (o.strict=false∧∃ nm,t=.fin nm))∧((∃ nm,t=.fin nm) → s'.stk.length < s.stk.length)∧((¬ ∃ nm,t=.fin nm) → s'.stk.length + 1 ≤ s.stk.length + 1 + t.wt):=by
  unfold workL at h
  split at h
  · rename_i nm as
    simp only [Except.ok.injEq,Prod.mk.injEq] at h
    obtain ⟨rfl,rfl⟩:=h
    refine ⟨rfl,rfl,rfl,⟨fun _=>⟨_,_,rfl⟩,fun _=>⟨_,_,rfl⟩⟩,⟨by simp,by simp⟩,Or.inl rfl,by simp,fun _=>?_⟩
    have:=bindL_len as s.stk s.ns
    simp only [List.length_cons,RTok.wt];omega
  · rename_i nm
    unfold popL at h
    split at h
    · cases h
    · rename_i e stk hs
      split at h
      · cases h
      · split at h
        · split at h
          · cases h
          · rename_i hst
            simp only [Except.ok.injEq,Prod.mk.injEq] at h
            obtain ⟨rfl,rfl⟩:=h
            refine ⟨rfl,rfl,rfl,⟨by simp,by simp⟩,⟨fun _=>⟨_,rfl⟩,fun _=>⟨_,rfl⟩⟩,Or.inr ⟨by simpa using hst,_,rfl⟩,fun _=>by rw [hs];simp,fun hh=>absurd ⟨_,rfl⟩ hh⟩
        · split at h
          · cases h
          · simp only [Except.ok.injEq,Prod.mk.injEq] at h
            obtain ⟨rfl,rfl⟩:=h
            refine ⟨rfl,rfl,rfl,⟨by simp,by simp⟩,⟨fun _=>⟨_,rfl⟩,fun _=>⟨_,rfl⟩⟩,Or.inl rfl,fun _=>?_,fun hh=>absurd ⟨_,rfl⟩ hh⟩
            have:=undoL_len stk s.ns
            rw [hs];simp only [List.length_cons];omega
  · rename_i t1 h1 h2
    simp only [Except.ok.injEq,Prod.mk.injEq] at h
    obtain ⟨rfl,rfl⟩:=h
    refine ⟨rfl,rfl,rfl,Iff.rfl,Iff.rfl,Or.inl rfl,fun ⟨nm,hh⟩=>absurd hh (h2 nm),fun _=>by omega⟩
def St.mu (s:St):Nat:=8 * s.rest.length + 4 * s.stk.length + (if s.toClose.isSome then 1 else 0)
theorem mu_tc (s:St):(if s.toClose.isSome then 1 else 0) ≤ 1:=by split <;> omega
theorem raw_mu {o:Opt} {s s':St} {t:RTok} (h:rawL o s=.ok (t,s')):s'.mu < s.mu∧((¬ ∃ nm,t=.fin nm) → s'.mu + 4 * t.wt < s.mu)∧s'.stk=s.stk∧s'.rest <:+ s.rest:=by
  obtain ⟨_,h1,_,_,h2,_,h3⟩:=rawL_ok h
  refine ⟨?_,?_,h1,h2⟩
  · rcases h3 with ⟨nm,h4,_,rfl⟩|⟨h4,h5,_⟩
    · unfold St.mu;simp [h4]
    · have:=mu_tc s'
      have h6:1 ≤ t.wt:=by unfold RTok.wt;split <;> omega
      unfold St.mu;rw [h1,h4];simp;omega
  · intro hn
    rcases h3 with ⟨nm,_,h4,_⟩|⟨h4,h5,_⟩
    · exact absurd ⟨nm,h4⟩ hn
    · have:=mu_tc s'
      have h6:1 ≤ t.wt:=by unfold RTok.wt;split <;> omega
      unfold St.mu;rw [h1,h4];simp;omega
theorem step0_ok {o:Opt} {s s':St} {t:RTok} (h:step0 o s=.ok (t,s')):s'.mu < s.mu∧s'.rest <:+ s.rest∧s'.next=s.next:=by
  unfold step0 at h
  split at h
  · exact ⟨(raw_mu h).1,(raw_mu h).2.2.2,(rawL_ok h).2.2.2.1⟩
  · unfold tok0 at h
    split at h
    · cases h
    · rename_i t1 s1 h1
      obtain ⟨m1,m2,m3,m4⟩:=raw_mu h1
      obtain ⟨w1,w2,w3,w4,w5,w6,w7,w8⟩:=workL_ok h
      refine ⟨?_,by rw [w1];exact m4,w3.trans (rawL_ok h1).2.2.2.1⟩
      by_cases hf:∃ nm,t1=.fin nm
      · have:=w7 hf
        have h5:=mu_tc s'
        unfold St.mu at m1 ⊢
        rw [w1];split at m1 <;> omega
      · have:=w8 hf
        have h5:=m2 hf
        have h6:s'.toClose=s1.toClose:=by
          rcases w6 with w6|⟨_,w6⟩
          · exact w6
          · exact absurd w6 hf
        unfold St.mu at h5 ⊢
        rw [w1,h6];omega
theorem Toks.next0 {fold:Bs → Bs → Bool} {o:Opt} (ha:o.auto=[]) {s:St} {l:List (RTok × St)} {e:EK} (h:Toks fold o s l e) (hn:s.next=none) :
    (∃ e',step0 o s=.error e∧l=[]∧e'=e) ∨ ∃ t s' l',step0 o s=.ok (t,s')∧l=(t,s') :: l'∧Toks fold o s' l' e∧s'.next=none:=by
  cases h with
  | stop h1=>rw [stepL_nil ha hn] at h1;exact Or.inl ⟨e,h1,rfl,rfl⟩
  | more h1 h2=>
    rw [stepL_nil ha hn] at h1
    exact Or.inr ⟨_,_,_,h1,rfl,h2,(step0_ok h1).2.2.trans hn⟩
def St.at' (T:Bs) (s:St):Nat:=T.length - s.rest.length
def RTok.isStart:RTok → Bool
  | .start _ _=>true
  | _=>false
def RTok.isFin:RTok → Bool
  | .fin _=>true
  | _=>false
theorem isStart_iff (t:RTok):t.isStart=true ↔ ∃ nm as,t=.start nm as:=by cases t <;> simp [RTok.isStart]
theorem isFin_iff (t:RTok):t.isFin=true ↔ ∃ nm,t=.fin nm:=by cases t <;> simp [RTok.isFin]
def PlOk (T:Bs):Nat → Bool → List (RTok × St) → Prop
  | _,_,[]=>True
  | a,ps,(t,s) :: l=>a ≤ s.at' T∧s.at' T ≤ T.length∧(s.at' T=a → t.isFin=true∧ps=true)∧PlOk T (s.at' T) t.isStart l
def lastAt (T:Bs):Nat → List (RTok × St) → Nat
  | a,[]=>a
  | _,(_,s) :: l=>lastAt T (s.at' T) l
theorem rawL_eof {o:Opt} {s:St} (he:s.ended=true → s.rest=[]) (h:rawL o s=.error .eof):s.rest=[]:=by
  have hm:∀ f,mustE f ≠ .eof:=by intro f;cases f <;> simp [mustE]
  have hnm:∀ {f l},nameL f l ≠ .error .eof:=by
    intro f l h;unfold nameL at h
    split at h
    · exact hm f (by simpa using h)
    · split at h
      · cases h
      · split at h <;> cases h
  have hns:∀ {f l},nsnameL f l ≠ .error .eof:=by
    intro f l h;unfold nsnameL at h
    split at h
    · rename_i h1;simp only [Except.error.injEq] at h;subst h;exact hnm h1
    · split at h <;> cases h
  have hnr:∀ {f hx p l},numRef f hx p l ≠ .error .eof:=by
    intro f hx p l h;unfold numRef at h
    split at h
    · exact hm f (by simpa using h)
    · split at h <;> cases h
  have hrf:∀ {f en l},refL f en l ≠ .error .eof:=by
    intro f en l h;unfold refL at h
    split at h
    · exact hm f (by simpa using h)
    · split at h
      · split at h
        · exact hm f (by simpa using h)
        · split at h
          · split at h
            · exact hm f (by simpa using h)
            · exact hnr h
          · exact hnr h
      · split at h
        · exact hm f (by simpa using h)
        · split at h <;> cases h
  have htx:∀ n {q cd l b0 b1 buf},l.length ≤ n → textL o q cd l b0 b1 buf ≠ .error .eof:=by
    intro n
    induction n with
    | zero=>
      intro q cd l b0 b1 buf hl h
      have:l=[]:=List.eq_nil_of_length_eq_zero (by omega)
      subst this
      unfold textL at h
      split at h
      · exact hm _ (by simpa using h)
      · split at h <;> cases h
    | succ n ih=>
      intro q cd l b0 b1 buf hl h
      cases l with
      | nil=>
        unfold textL at h
        split at h
        · exact hm _ (by simpa using h)
        · split at h <;> cases h
      | cons b t=>
        have ht:t.length ≤ n:=by simp at hl;omega
        unfold textL at h
        split at h
        · split at h
          · split at h <;> cases h
          · cases h
        · split at h
          · split at h
            · split at h <;> cases h
            · cases h
          · split at h
            · split at h <;> cases h
            · split at h
              · split at h
                · rename_i h1;simp only [Except.error.injEq] at h;subst h;exact hrf h1
                · rename_i hr;exact ih (by have:=suf_len (refL_suf hr);omega) h
                · rename_i hr
                  split at h
                  · cases h
                  · exact ih (by have:=suf_len (refL_suf hr);omega) h
              · exact ih ht h
  have hav:∀ {l},attrvalL o l ≠ .error .eof:=by
    intro l h;unfold attrvalL at h
    split at h
    · exact hm _ (by simpa using h)
    · split at h
      · exact htx _ (Nat.le_refl _) h
      · split at h
        · cases h
        · split at h
          · exact hm _ (by simpa using h)
          · cases h
  have hat:∀ {l},attrL o l ≠ .error .eof:=by
    intro l h;unfold attrL at h
    split at h
    · rename_i h1;simp only [Except.error.injEq] at h;subst h;exact hns h1
    · split at h
      · exact hm _ (by simpa using h)
      · split at h
        · split at h
          · rename_i h1;simp only [Except.error.injEq] at h;subst h;exact hav h1
          · cases h
        · split at h <;> cases h
  have has:∀ k {l acc},attrsL o k l acc ≠ .error .eof:=by
    intro k
    induction k with
    | zero=>intro l acc h;unfold attrsL at h;cases h
    | succ k ih=>
      intro l acc h;unfold attrsL at h
      split at h
      · exact hm _ (by simpa using h)
      · split at h
        · split at h
          · exact hm _ (by simpa using h)
          · split at h <;> cases h
        · split at h
          · cases h
          · split at h
            · rename_i h1;simp only [Except.error.injEq] at h;subst h;exact hat h1
            · exact ih h
  have hco:∀ {f l b0 b1 buf},commentL f l b0 b1 buf ≠ .error .eof:=by
    intro f l
    induction l with
    | nil=>intro b0 b1 buf h;unfold commentL at h;exact hm _ (by simpa using h)
    | cons b l ih=>
      intro b0 b1 buf h;unfold commentL at h
      split at h
      · split at h <;> cases h
      · exact ih h
  have hpr:∀ {f l b0 buf},procL f l b0 buf ≠ .error .eof:=by
    intro f l
    induction l with
    | nil=>intro b0 buf h;unfold procL at h;exact hm _ (by simpa using h)
    | cons b l ih=>
      intro b0 buf h;unfold procL at h
      split at h
      · cases h
      · exact ih h
  have hsk:∀ {f l b0 b1},skipComL f l b0 b1 ≠ .error .eof:=by
    intro f l
    induction l with
    | nil=>intro b0 b1 h;unfold skipComL at h;exact hm _ (by simpa using h)
    | cons b l ih=>
      intro b0 b1 h;unfold skipComL at h
      split at h
      · cases h
      · exact ih h
  have hdi:∀ n {f},(∀ {l inq dp buf},l.length ≤ n → dirL f l inq dp buf ≠ .error .eof)∧(∀ {b l inq dp buf},l.length ≤ n → dirB f b l inq dp buf ≠ .error .eof):=by
    intro n f
    induction n with
    | zero=>
      have h1:∀ {l inq dp buf},l.length ≤ 0 → dirL f l inq dp buf ≠ .error .eof:=by
        intro l inq dp buf hl h
        have:l=[]:=List.eq_nil_of_length_eq_zero (by omega)
        subst this
        unfold dirL at h;exact hm _ (by simpa using h)
      refine ⟨h1,?_⟩
      intro b l inq dp buf hl h
      have:l=[]:=List.eq_nil_of_length_eq_zero (by omega)
      subst this
      unfold dirB at h
      repeat' split at h
      all_goals first
        | exact h1 (Nat.le_refl _) h
        | exact hm _ (by simpa using h)
        | simp_all
    | succ n ih=>
      obtain ⟨ih1,ih2⟩:=ih
      have h1:∀ {l inq dp buf},l.length ≤ n + 1 → dirL f l inq dp buf ≠ .error .eof:=by
        intro l inq dp buf hl h
        unfold dirL at h
        split at h
        · exact hm _ (by simpa using h)
        · split at h
          · cases h
          · exact ih2 (by simp at hl;omega) h
      refine ⟨h1,?_⟩
      intro b l inq dp buf hl h
      unfold dirB at h
      split at h
      · exact h1 hl h
      · split at h
        · exact h1 hl h
        · split at h
          · exact h1 hl h
          · split at h
            · exact h1 hl h
            · split at h
              · split at h
                · exact hm _ (by simpa using h)
                · split at h
                  · split at h
                    · exact hm _ (by simpa using h)
                    · split at h
                      · split at h
                        · exact hm _ (by simpa using h)
                        · split at h
                          · split at h
                            · rename_i hk;simp only [Except.error.injEq] at h;subst h;exact hsk hk
                            · rename_i r4 hk
                              have:=suf_len (skipComL_suf hk)
                              exact h1 (by simp at hl;omega) h
                          · exact ih2 (by simp at hl;omega) h
                      · exact ih2 (by simp at hl;omega) h
                  · exact ih2 (by simp at hl;omega) h
              · exact h1 hl h
  have hma:∀ {f p l},matchL f p l ≠ .error .eof:=by
    intro f p
    induction p with
    | nil=>intro l h;unfold matchL at h;cases h
    | cons p ps ih=>
      intro l h
      cases l with
      | nil=>unfold matchL at h;exact hm _ (by simpa using h)
      | cons b l=>
        unfold matchL at h
        split at h
        · exact ih h
        · cases h
  unfold rawL at h
  split at h
  · rename_i h1;exact he h1
  · split at h
    · cases h
    · split at h
      · assumption
      · exfalso
        split at h
        · split at h
          · rename_i h1;simp only [Except.error.injEq] at h;subst h;exact htx _ (Nat.le_refl _) h1
          · cases h
        · split at h
          · exact hm _ (by simpa using h)
          · split at h
            · split at h
              · rename_i h1;simp only [Except.error.injEq] at h;subst h
                unfold endL at h1
                split at h1
                · rename_i h2;simp only [Except.error.injEq] at h1;subst h1;exact hns h2
                · split at h1
                  · exact hm _ (by simpa using h1)
                  · split at h1 <;> cases h1
              · cases h
            · split at h
              · split at h
                · rename_i h1;simp only [Except.error.injEq] at h;subst h
                  unfold piL at h1
                  split at h1
                  · rename_i h2;simp only [Except.error.injEq] at h1;subst h1;exact hnm h2
                  · split at h1
                    · rename_i h2;simp only [Except.error.injEq] at h1;subst h1;exact hpr h2
                    · split at h1 <;> cases h1
                · cases h
              · split at h
                · split at h
                  · rename_i h1;simp only [Except.error.injEq] at h;subst h
                    unfold bangL at h1
                    split at h1
                    · exact hm _ (by simpa using h1)
                    · split at h1
                      · split at h1
                        · exact hm _ (by simpa using h1)
                        · split at h1
                          · split at h1
                            · rename_i h2;simp only [Except.error.injEq] at h1;subst h1;exact hco h2
                            · cases h1
                          · cases h1
                      · split at h1
                        · split at h1
                          · rename_i h2;simp only [Except.error.injEq] at h1;subst h1;exact hma h2
                          · split at h1
                            · rename_i h2;simp only [Except.error.injEq] at h1;subst h1;exact htx _ (Nat.le_refl _) h2
                            · cases h1
                        · split at h1
                          · rename_i h2;simp only [Except.error.injEq] at h1;subst h1;exact (hdi _).1 (Nat.le_refl _) h2
                          · cases h1
                  · cases h
                · split at h
                  · rename_i h1;simp only [Except.error.injEq] at h;subst h
                    unfold startL at h1
                    split at h1
                    · rename_i h2;simp only [Except.error.injEq] at h1;subst h1;exact hns h2
                    · split at h1
                      · rename_i h2;simp only [Except.error.injEq] at h1;subst h1;exact has _ h2
                      · cases h1
                  · cases h
theorem step0_eof {o:Opt} {s:St} (he:s.ended=true → s.rest=[]) (h:step0 o s=.error .eof):s.rest=[]∧(o.raw=false → s.stk=[]):=by
  unfold step0 at h
  split at h
  · rename_i hr
    exact ⟨rawL_eof he h,fun h2=>by rw [hr] at h2;cases h2⟩
  · unfold tok0 at h
    split at h
    · rename_i e1 h1
      by_cases hq:e1=.eof∧s.stk ≠ []
      · rw [if_pos hq] at h;cases h
      · rw [if_neg hq] at h
        simp only [Except.error.injEq] at h
        subst h
        exact ⟨rawL_eof he h1,fun _=>Classical.byContradiction fun hh=>hq ⟨rfl,hh⟩⟩
    · rename_i t1 s1 h1
      unfold workL at h
      split at h
      · cases h
      · unfold popL at h
        repeat' split at h
        all_goals cases h
      · cases h
theorem step0_ended {o:Opt} {s s':St} {t:RTok} (_he:s.ended=true → s.rest=[]) (h:step0 o s=.ok (t,s')):s'.ended=true → s'.rest=[]:=by
  unfold step0 at h
  split at h
  · exact (rawL_ok h).2.2.2.2.2.1
  · unfold tok0 at h
    split at h
    · cases h
    · rename_i t1 s1 h1
      obtain ⟨w1,w2,_⟩:=workL_ok h
      rw [w1,w2];exact (rawL_ok h1).2.2.2.2.2.1
theorem step0_place {o:Opt} (hst:o.strict=true) {s s':St} {t:RTok} (h:step0 o s=.ok (t,s')) :
    (s'.toClose ≠ none → t.isStart=true)∧(s'.rest.length=s.rest.length → t.isFin=true∧s.toClose ≠ none):=by
  have hraw:∀ {t1 s1},rawL o s=.ok (t1,s1) → (s1.toClose ≠ none → t1.isStart=true)∧(s1.rest.length=s.rest.length → t1.isFin=true∧s.toClose ≠ none):=by
    intro t1 s1 h1
    obtain ⟨_,_,_,_,_,_,h3⟩:=rawL_ok h1
    rcases h3 with ⟨nm,h4,rfl,rfl⟩|⟨h4,h5,_,h6⟩
    · exact ⟨fun hh=>absurd rfl hh,fun _=>⟨rfl,by rw [h4];simp⟩⟩
    · refine ⟨fun hh=>?_,fun hh=>?_⟩
      · cases hc:s1.toClose with
        | none=>exact absurd hc hh
        | some nm=>obtain ⟨as,rfl⟩:=h6 nm hc;rfl
      · have h6:1 ≤ t1.wt:=by unfold RTok.wt;split <;> omega
        omega
  unfold step0 at h
  split at h
  · exact hraw h
  · unfold tok0 at h
    split at h
    · cases h
    · rename_i t1 s1 h1
      obtain ⟨r1,r2⟩:=hraw h1
      obtain ⟨w1,w2,w3,w4,w5,w6,_⟩:=workL_ok h
      have h6:s'.toClose=s1.toClose:=by
        rcases w6 with w6|⟨w6,_⟩
        · exact w6
        · rw [hst] at w6;cases w6
      refine ⟨fun hh=>?_,fun hh=>?_⟩
      · rw [h6] at hh
        rw [isStart_iff,← w4,← isStart_iff];exact r1 hh
      · rw [w1] at hh
        obtain ⟨q1,q2⟩:=r2 hh
        exact ⟨by rw [isFin_iff,← w5,← isFin_iff];exact q1,q2⟩
theorem places {fold:Bs → Bs → Bool} {o:Opt} (ha:o.auto=[]) (hst:o.strict=true) (T:Bs):∀ (l:List (RTok × St)) (s:St) (e:EK) (ps:Bool),Toks fold o s l e → s.next=none → s.rest <:+ T → (s.toClose ≠ none → ps=true) → (s.ended=true → s.rest=[]) →
    PlOk T (s.at' T) ps l∧(e=.eof → lastAt T (s.at' T) l=T.length)
  | [],s,e,ps,h,hn,hsuf,hc,he=>by
    rcases h.next0 ha hn with ⟨_,h1,_,_⟩|⟨_,_,_,_,h1,_⟩
    · refine ⟨trivial,fun h2=>?_⟩
      subst h2
      have:=(step0_eof he h1).1
      simp [lastAt,St.at',this]
    · cases h1
  | (t,s') :: l,s,e,ps,h,hn,hsuf,hc,he=>by
    rcases h.next0 ha hn with ⟨_,_,h1,_⟩|⟨t1,s1,l1,h1,h2,h3,h4⟩
    · cases h1
    · simp only [List.cons.injEq,Prod.mk.injEq] at h2
      obtain ⟨⟨rfl,rfl⟩,rfl⟩:=h2
      obtain ⟨m1,m2,m3⟩:=step0_ok h1
      obtain ⟨p1,p2⟩:=step0_place hst h1
      obtain ⟨i1,i2⟩:=places ha hst T l s' e t.isStart h3 h4 (m2.trans hsuf) p1 (step0_ended he h1)
      have l1:=suf_len m2
      have l2:=suf_len hsuf
      refine ⟨⟨by unfold St.at';omega,by unfold St.at';omega,fun hh=>?_,i1⟩,i2⟩
      have:s'.rest.length=s.rest.length:=by unfold St.at' at hh;omega
      obtain ⟨q1,q2⟩:=p2 this
      exact ⟨q1,hc q2⟩
end Go.Proofs.YtkjnockljapnbaaGreatDoor
