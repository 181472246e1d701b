/- Part of the proof that laws.FnBalanced returns true for every argument (Me). No condition of its own. -/
import Derived.Test.YtkjnockljapnbaaGreatDoorO02
set_option linter.all false
set_option maxHeartbeats 8000000
set_option maxRecDepth 100000
namespace Go.Proofs.YtkjnockljapnbaaGreatDoor
open Go
def balStep (strict:Bool) (op:List (Bs × Bs)):RTok → Option (List (Bs × Bs))
  | .start nm _=>some (nm :: op)
  | .fin nm=>match op with
    | []=>none
    | q :: op=>if (strict=true∧q.1 ≠ nm.1) ∨ q.2 ≠ nm.2 then none else some op
  | _=>some op
def balRun (strict:Bool):List (Bs × Bs) → List (RTok × St) → Option (List (Bs × Bs))
  | op,[]=>some op
  | op,(t,_) :: l=>match balStep strict op t with
    | none=>none
    | some op'=>balRun strict op' l
inductive Nest (o:Opt):List Ent → (Bs → Option Bs) → List (Bs × Bs) → Prop
  | nil (ns):Nest o [] ns []
  | elem {stk ns op} (nm:Bs × Bs) (as:List At3):Nest o stk ns op → Nest o ({ kind:=0,space:=nm.1,loc:=nm.2,ok:=false } :: (bindL as stk ns).1) (bindL as stk ns).2 (transL o (bindL as stk ns).2 nm true :: op)
theorem setNs_undo (ns:Bs → Option Bs) (k v:Bs):setNs (setNs ns k (some v)) k (if (ns k).isSome=true then some ((ns k).getD []) else none)=ns:=by
  funext x
  unfold setNs
  split
  · rename_i h
    subst h
    cases ns x <;> simp
  · rfl
theorem undo_bind:∀ (as:List At3) (stk:List Ent) (ns:Bs → Option Bs),undoL (bindL as stk ns).1 (bindL as stk ns).2=undoL stk ns
  | [],stk,ns=>rfl
  | (sp,loc,v) :: as,stk,ns=>by
    unfold bindL
    by_cases h1:sp=xmlnsB
    · have h2:¬ (sp=[]∧loc=xmlnsB):=by rintro ⟨h,_⟩;rw [h1] at h;cases h
      simp only [if_pos h1,if_neg h2]
      rw [undo_bind as]
      conv=>lhs;unfold undoL
      simp only [Nat.one_ne_zero,if_false]
      rw [setNs_undo]
    · by_cases h2:sp=[]∧loc=xmlnsB
      · simp only [if_neg h1,if_pos h2]
        rw [undo_bind as]
        conv=>lhs;unfold undoL
        simp only [Nat.one_ne_zero,if_false]
        rw [setNs_undo]
      · simp only [if_neg h1,if_neg h2]
        exact undo_bind as stk ns
theorem Nest.undo {o:Opt} {stk:List Ent} {ns:Bs → Option Bs} {op:List (Bs × Bs)} (h:Nest o stk ns op):undoL stk ns=(stk,ns):=by
  cases h with
  | nil=>rfl
  | elem=>unfold undoL;simp
theorem transL_loc (o:Opt) (ns:Bs → Option Bs) (nm:Bs × Bs) (b:Bool):(transL o ns nm b).2=nm.2:=by
  unfold transL
  repeat' split
  all_goals simp only []
  all_goals repeat' split
  all_goals rfl
theorem bal_strict {o:Opt} {t t':RTok} {s s':St} (hst:o.strict=true) (h:workL o t s=.ok (t',s')) {op:List (Bs × Bs)} (hN:Nest o s.stk s.ns op) :
    ∃ op',balStep true op t'=some op'∧Nest o s'.stk s'.ns op':=by
  unfold workL at h
  split at h
  · rename_i nm as
    simp only [Except.ok.injEq,Prod.mk.injEq] at h
    obtain ⟨rfl,rfl⟩:=h
    exact ⟨_,rfl,Nest.elem nm as hN⟩
  · rename_i nm
    unfold popL at h
    split at h
    · cases h
    · rename_i e stk hs
      split at h
      · cases h
      · split at h
        · first|(rw [if_pos hst] at h;cases h)|cases h
        · rename_i h2
          split at h
          · cases h
          · rename_i h3
            simp only [Except.ok.injEq,Prod.mk.injEq] at h
            obtain ⟨rfl,rfl⟩:=h
            rw [hs] at hN
            generalize hns:s.ns=ns at hN ⊢
            cases hN with
            | elem nm' as hN0=>
              have hnm:nm'=nm:=Prod.ext (by simpa using h3) (by simpa using h2)
              subst hnm
              simp only [balStep]
              refine ⟨_,by simp;rfl,?_⟩
              rw [undo_bind,hN0.undo]
              exact hN0
  · rename_i t1 h1 h2
    simp only [Except.ok.injEq,Prod.mk.injEq] at h
    obtain ⟨rfl,rfl⟩:=h
    refine ⟨op,?_,hN⟩
    cases t <;> first
      | exact absurd rfl (h1 _ _)
      | exact absurd rfl (h2 _)
      | rfl
def elemsOf (stk:List Ent):List Bs:=(stk.filter fun e=>e.kind == 0).map (·.loc)
theorem elems_bind:∀ (as:List At3) (stk:List Ent) (ns:Bs → Option Bs),elemsOf (bindL as stk ns).1=elemsOf stk
  | [],stk,ns=>rfl
  | (sp,loc,v) :: as,stk,ns=>by
    unfold bindL
    by_cases h1:sp=xmlnsB
    · have h2:¬ (sp=[]∧loc=xmlnsB):=by rintro ⟨h,_⟩;rw [h1] at h;cases h
      simp only [if_pos h1,if_neg h2]
      rw [elems_bind as];rfl
    · by_cases h2:sp=[]∧loc=xmlnsB
      · simp only [if_neg h1,if_pos h2]
        rw [elems_bind as];rfl
      · simp only [if_neg h1,if_neg h2]
        exact elems_bind as stk ns
theorem elems_undo:∀ (stk:List Ent) (ns:Bs → Option Bs),elemsOf (undoL stk ns).1=elemsOf stk
  | [],_=>rfl
  | e :: stk,ns=>by
    unfold undoL
    split
    · rfl
    · rename_i h
      rw [elems_undo]
      unfold elemsOf
      rw [List.filter_cons_of_neg (by simpa using h)]
theorem bal_loose {o:Opt} {t t':RTok} {s s':St} (h:workL o t s=.ok (t',s')) {op:List (Bs × Bs)} (hN:op.map (·.2)=elemsOf s.stk) :
    ∃ op',balStep false op t'=some op'∧op'.map (·.2)=elemsOf s'.stk:=by
  unfold workL at h
  split at h
  · rename_i nm as
    simp only [Except.ok.injEq,Prod.mk.injEq] at h
    obtain ⟨rfl,rfl⟩:=h
    refine ⟨_,rfl,?_⟩
    have:=elems_bind as s.stk s.ns
    simp only [List.map_cons,transL_loc,hN]
    unfold elemsOf at this ⊢
    rw [List.filter_cons_of_pos (by rfl),List.map_cons,this]
  · rename_i nm
    unfold popL at h
    split at h
    · cases h
    · rename_i e stk hs
      split at h
      · cases h
      · rename_i h1
        have hk:e.kind=0:=by simpa using h1
        have he:elemsOf s.stk=e.loc :: elemsOf stk:=by
          rw [hs];unfold elemsOf;rw [List.filter_cons_of_pos (by simp [hk])];rfl
        rw [he] at hN
        cases op with
        | nil=>cases hN
        | cons q op=>
          simp only [List.map_cons,List.cons.injEq] at hN
          split at h
          · split at h
            · cases h
            · simp only [Except.ok.injEq,Prod.mk.injEq] at h
              obtain ⟨rfl,rfl⟩:=h
              refine ⟨op,?_,hN.2⟩
              simp [balStep,hN.1]
          · rename_i h2
            have h2':e.loc=nm.2:=by simpa using h2
            split at h
            · cases h
            · simp only [Except.ok.injEq,Prod.mk.injEq] at h
              obtain ⟨rfl,rfl⟩:=h
              refine ⟨op,?_,by simp only [elems_undo];exact hN.2⟩
              simp [balStep,transL_loc,hN.1,h2']
  · rename_i t1 h1 h2
    simp only [Except.ok.injEq,Prod.mk.injEq] at h
    obtain ⟨rfl,rfl⟩:=h
    refine ⟨op,?_,hN⟩
    cases t <;> first
      | exact absurd rfl (h1 _ _)
      | exact absurd rfl (h2 _)
      | rfl
theorem tokL_work {fold:Bs → Bs → Bool} {o:Opt} {s s':St} {t:RTok} (h:tokL fold o s=.ok (t,s')):∃ t1 s1,s1.stk=s.stk∧s1.ns=s.ns∧workL o t1 s1=.ok (t,s'):=by
  unfold tokL at h
  have hgot:∀ {g:Except EK (RTok × St)} {t0 s0},g=.ok (t0,s0) → (s0.stk=s.stk∧s0.ns=s.ns) → (match g with
      | .error e=>.error e
      | .ok (t,s)=>if o.strict then workL o t s else match autoL fold o t s with
        | none=>workL o t s
        | some nm=>workL o (.fin nm) { s with next:=some t })=Except.ok (t,s') → ∃ t1 s1,s1.stk=s.stk∧s1.ns=s.ns∧workL o t1 s1=.ok (t,s'):=by
    intro g t0 s0 hg h0 hh
    rw [hg] at hh
    simp only at hh
    split at hh
    · exact ⟨t0,s0,h0.1,h0.2,hh⟩
    · split at hh
      · exact ⟨t0,s0,h0.1,h0.2,hh⟩
      · exact ⟨_,{ s0 with next:=some t0 },h0.1,h0.2,hh⟩
  cases hn:s.next with
  | some t0=>
    rw [hn] at h
    exact hgot (g:=.ok (t0,{ s with next:=none })) rfl ⟨rfl,rfl⟩ h
  | none=>
    rw [hn] at h
    cases hr:rawL o s with
    | error e=>rw [hr] at h;cases h
    | ok p=>
      obtain ⟨t0,s0⟩:=p
      rw [hr] at h
      obtain ⟨_,h1,h2,_⟩:=rawL_ok hr
      exact hgot (g:=.ok (t0,s0)) rfl ⟨h1,h2⟩ h
theorem tokL_eof {fold:Bs → Bs → Bool} {o:Opt} {s:St} (h:tokL fold o s=.error .eof):s.stk=[]:=by
  have hw:∀ t s1,workL o t s1 ≠ .error .eof:=by
    intro t s1 hh
    unfold workL at hh
    split at hh
    · cases hh
    · unfold popL at hh
      repeat' split at hh
      all_goals cases hh
    · cases hh
  unfold tokL at h
  cases hn:s.next with
  | some t0=>
    exfalso
    rw [hn] at h
    simp only at h
    split at h
    · exact hw _ _ h
    · split at h <;> exact hw _ _ h
  | none=>
    rw [hn] at h
    cases hr:rawL o s with
    | error e=>
      rw [hr] at h
      simp only [Except.error.injEq] at h
      by_cases hq:e=.eof∧s.stk ≠ []
      · rw [if_pos hq] at h;cases h
      · rw [if_neg hq] at h
        exact Classical.byContradiction fun hh=>hq ⟨h,hh⟩
    | ok p=>
      exfalso
      obtain ⟨t0,s0⟩:=p
      rw [hr] at h
      simp only at h
      split at h
      · exact hw _ _ h
      · split at h <;> exact hw _ _ h
theorem balanced {fold:Bs → Bs → Bool} {o:Opt} (hr:o.raw=false):∀ (l:List (RTok × St)) (s:St) (e:EK) (op:List (Bs × Bs)),Toks fold o s l e →
    (if o.strict then Nest o s.stk s.ns op else op.map (·.2)=elemsOf s.stk) → ∃ op',balRun o.strict op l=some op'∧(e=.eof → op'=[])
  | [],s,e,op,h,hN=>by
    refine ⟨op,rfl,fun he=>?_⟩
    subst he
    cases h with
    | stop h1=>
      have h2:tokL fold o s=.error .eof:=by unfold stepL at h1;rw [hr] at h1;exact h1
      have h3:=tokL_eof h2
      rw [h3] at hN
      split at hN
      · cases hN;rfl
      · simpa [elemsOf] using hN
  | (t,s') :: l,s,e,op,h,hN=>by
    cases h with
    | more h1 h2=>
      have h3:tokL fold o s=.ok (t,s'):=by unfold stepL at h1;rw [hr] at h1;exact h1
      obtain ⟨t1,s1,e1,e2,h4⟩:=tokL_work h3
      have hstep:∃ op',balStep o.strict op t=some op'∧(if o.strict then Nest o s'.stk s'.ns op' else op'.map (·.2)=elemsOf s'.stk):=by
        cases hst:o.strict with
        | true=>
          rw [hst] at hN
          simp only [if_true] at hN ⊢
          exact bal_strict hst h4 (by rw [e1,e2];exact hN)
        | false=>
          rw [hst] at hN
          simp only [Bool.false_eq_true,if_false] at hN ⊢
          exact bal_loose h4 (by rw [e1];exact hN)
      obtain ⟨op',h5,h6⟩:=hstep
      obtain ⟨op2,h7,h8⟩:=balanced hr l s' e op' h2 h6
      exact ⟨op2,by unfold balRun;rw [h5];exact h7,h8⟩
theorem balanced_all {fold:Bs → Bs → Bool} {o:Opt} (hr:o.raw=false) (T:Bs) {l:List (RTok × St)} {e:EK} (h:Toks fold o (St.init T) l e):∃ op,balRun o.strict [] l=some op∧(e=.eof → op=[]):=by
  refine balanced hr l _ e [] h ?_
  split
  · exact Nest.nil _
  · rfl
end Go.Proofs.YtkjnockljapnbaaGreatDoor
