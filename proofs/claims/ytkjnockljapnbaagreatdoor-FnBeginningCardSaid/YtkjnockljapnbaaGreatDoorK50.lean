/- Part of the proof that laws.FnBeginning, laws.FnPlaces returns true for every argument (Md). No condition of its own. -/
import Derived.Test.YtkjnockljapnbaaGreatDoorK18
set_option linter.all false
set_option maxHeartbeats 8000000
set_option maxRecDepth 100000
namespace Go.Proofs.YtkjnockljapnbaaGreatDoor
open Go
theorem endL_loc {o:Opt} {a z r:Bs} {t:RTok} (h:endL o (a ++ z)=.ok (t,r ++ z)):endL o a=.ok (t,r):=by
  unfold endL at h
  split at h
  · cases h
  · rename_i nm r1 h1
    split at h
    · cases h
    · rename_i b r2 h2
      have s2:=skipWs_suf r1
      rw [h2] at s2
      split at h
      · rename_i hb
        simp only [Except.ok.injEq,Prod.mk.injEq] at h
        obtain ⟨h3,rfl⟩:=h
        have l3:=suf_len s2
        simp only [List.length_cons,List.length_append] at l3
        cases r1 with
        | nil=>simp at l3
        | cons x r1=>
          simp only [List.length_cons] at l3
          obtain ⟨q2,rfl,_⟩:=suf_split' (nsnameL_suf h1).1 (by omega)
          have e1:=nsnameL_loc h1
          have e2:skipWs (x :: q2)=b :: r:=skipWs_loc (a:=x :: q2) h2
          unfold endL
          rw [e1]
          simp only [e2,if_pos hb]
          rw [h3]
      · cases h
theorem piL_loc {o:Opt} {a z r:Bs} {t:RTok} (h:piL o (a ++ z)=.ok (t,r ++ z)):piL o a=.ok (t,r):=by
  unfold piL at h
  split at h
  · cases h
  · rename_i tg r1 h1
    split at h
    · cases h
    · rename_i i r2 h2
      have hp:procL o.fails (skipWs r1) 0 []=.ok (i,r2):=h2
      have hlt:r2.length < (skipWs r1).length:=by
        cases hs:skipWs r1 with
        | nil=>rw [hs] at h2;unfold procL at h2;cases h2
        | cons b t1=>
          rw [hs] at h2
          unfold procL at h2
          rw [if_neg (by rintro ⟨h,_⟩;exact absurd h (by decide))] at h2
          have:=suf_len (procL_suf h2)
          simp;omega
      have l3:=suf_len (skipWs_suf r1)
      split at h
      · cases h
      · rename_i hd
        simp only [Except.ok.injEq,Prod.mk.injEq] at h
        obtain ⟨h3,rfl⟩:=h
        simp only [List.length_append] at hlt
        cases r1 with
        | nil=>simp only [List.length_nil] at l3;omega
        | cons x r1=>
          simp only [List.length_cons] at l3
          obtain ⟨q2,rfl,_⟩:=suf_split' (nameL_suf h1).1 (by omega)
          have e1:=nameL_loc h1
          obtain ⟨q3,hq3⟩:=suf_split (a:=x :: q2) (skipWs_suf (x :: (q2 ++ z))) (by omega)
          rw [hq3] at h2
          have e3:=procL_loc h2
          have e2:skipWs (x :: q2)=q3:=by
            cases q3 with
            | nil=>unfold procL at e3;cases e3
            | cons y q3=>exact skipWs_loc (a:=x :: q2) hq3
          unfold piL
          rw [e1]
          simp only [e2,e3,if_neg hd]
          rw [h3]
theorem bangL_loc {o:Opt} (hst:o.strict=true) {a z r:Bs} {t:RTok} (h:bangL o (a ++ z)=.ok (t,r ++ z)):bangL o a=.ok (t,r):=by
  cases a with
  | nil=>
    exfalso
    simp only [List.nil_append] at h
    cases z with
    | nil=>unfold bangL at h;cases h
    | cons b z=>
      have hl:(r ++ b :: z).length ≤ z.length:=by
        unfold bangL at h
        simp only at h
        split at h
        · split at h
          · cases h
          · split at h
            · split at h
              · cases h
              · rename_i h3
                simp only [Except.ok.injEq,Prod.mk.injEq] at h
                have:=suf_len (commentL_suf h3)
                rw [← h.2];simp;omega
            · cases h
        · split at h
          · split at h
            · cases h
            · rename_i h2
              split at h
              · cases h
              · rename_i h3
                simp only [Except.ok.injEq,Prod.mk.injEq] at h
                have l1:=suf_len (textL_rest h3)
                have l2:=suf_len (matchL_suf h2)
                rw [← h.2];omega
          · split at h
            · cases h
            · rename_i h2
              simp only [Except.ok.injEq,Prod.mk.injEq] at h
              have l1:=suf_len (dirL_suf h2)
              rw [← h.2];exact l1
      simp at hl;omega
  | cons b a=>
    simp only [List.cons_append] at h
    unfold bangL at h ⊢
    simp only at h ⊢
    split
    · rename_i h1;rw [if_pos h1] at h
      cases a with
      | nil=>
        exfalso
        simp only [List.nil_append] at h
        split at h
        · cases h
        · rename_i c r2
          split at h
          · split at h
            · cases h
            · rename_i h3
              simp only [Except.ok.injEq,Prod.mk.injEq] at h
              have:=suf_len (commentL_suf h3)
              rw [h.2] at this;simp at this;omega
          · cases h
      | cons c a=>
        simp only [List.cons_append] at h ⊢
        split
        · rename_i h2;rw [if_pos h2] at h
          split at h
          · cases h
          · rename_i d r3 h3
            simp only [Except.ok.injEq,Prod.mk.injEq] at h
            obtain ⟨h4,rfl⟩:=h
            have e1:=commentL_loc h3
            simp only [e1]
            rw [h4]
        · rename_i h2;rw [if_neg h2] at h;cases h
    · rename_i h1;rw [if_neg h1] at h
      split
      · rename_i h2;rw [if_pos h2] at h
        split at h
        · cases h
        · rename_i r2 h3
          split at h
          · cases h
          · rename_i d r3 h4
            simp only [Except.ok.injEq,Prod.mk.injEq] at h
            obtain ⟨h5,rfl⟩:=h
            have l1:=suf_len (textL_rest h4)
            obtain ⟨q,rfl⟩:=suf_split (matchL_suf h3) (by simp at l1;omega)
            have e1:=matchL_loc h3
            have e2:=textL_loc' hst h4
            simp only [e1,e2]
            rw [h5]
      · rename_i h2;rw [if_neg h2] at h
        split at h
        · cases h
        · rename_i d r2 h3
          simp only [Except.ok.injEq,Prod.mk.injEq] at h
          obtain ⟨h4,rfl⟩:=h
          have e1:=(dir_loc o.fails z a.length).1 a (Nat.le_refl _) _ _ _ _ _ h3
          simp only [e1]
          rw [h4]
theorem startL_loc {o:Opt} (hst:o.strict=true) {a z r:Bs} {x:(Bs × Bs) × List At3} {em:Bool} (h:startL o (a ++ z)=.ok (x,em,r ++ z)):startL o a=.ok (x,em,r):=by
  unfold startL at h
  split at h
  · cases h
  · rename_i nm r1 h1
    split at h
    · cases h
    · rename_i as em1 r2 h2
      simp only [Except.ok.injEq,Prod.mk.injEq] at h
      obtain ⟨h3,h4,rfl⟩:=h
      have l1:=(attrsL_suf h2).2
      simp only [List.length_append,List.length_nil] at l1
      cases r1 with
      | nil=>simp at l1
      | cons y r1=>
        simp only [List.length_cons] at l1
        obtain ⟨q2,rfl,_⟩:=suf_split' (nsnameL_suf h1).1 (by omega)
        have e1:=nsnameL_loc h1
        have e2:=attrsL_loc hst (a:=y :: q2) (z:=z) (r:=r) h2
        have e3:attrsL o ((y :: q2).length + 1) (y :: q2) []=.ok (as,em1,r):=by
          rw [← e2];exact attrsL_fuel (by omega) (by simp;omega)
        unfold startL
        rw [e1]
        simp only [e3]
        rw [h3,h4]
theorem rawL_loc {o:Opt} (hst:o.strict=true) {s s2:St} {t:RTok} {a z r:Bs} (hs:s.rest=a ++ z) (h:rawL o s=.ok (t,s2)) (hr:s2.rest=r ++ z) :
    ∃ en,rawL o { s with rest:=a }=.ok (t,{ s2 with rest:=r,ended:=en })∧(r ≠ [] → en=s2.ended)∧(en=true → r=[]∧s2.toClose=none):=by
  have hh:=rawL_ok h
  obtain ⟨he,_,_,_,_,_,hw⟩:=hh
  have hw2:s.toClose=none → s2.rest.length < s.rest.length:=by
    intro hc
    rcases hw with ⟨nm,h4,_⟩|⟨_,h5,_⟩
    · rw [hc] at h4;cases h4
    · have h6:1 ≤ t.wt:=by unfold RTok.wt;split <;> omega
      omega
  unfold rawL at h
  rw [if_neg (by simp [he])] at h
  unfold rawL
  simp only
  rw [if_neg (by simp [he])]
  cases hc:s.toClose with
  | some nm=>
    rw [hc] at h
    simp only [Except.ok.injEq,Prod.mk.injEq] at h
    obtain ⟨rfl,rfl⟩:=h
    have:r=a:=app_cancel (z:=z) (by rw [← hr,← hs])
    subst this
    exact ⟨s.ended,rfl,fun _=>rfl,fun h=>by rw [he] at h;cases h⟩
  | none=>
    have hlt:=hw2 hc
    rw [hc,hs] at h
    rw [hr,hs] at hlt
    simp only [List.length_append] at hlt
    cases a with
    | nil=>exfalso;simp only [List.length_nil] at hlt;omega
    | cons b a=>
      simp only [List.cons_append] at h ⊢
      split
      · rename_i hb
        rw [if_pos hb] at h
        split at h
        · cases h
        · rename_i d r2 h2
          simp only [Except.ok.injEq,Prod.mk.injEq] at h
          obtain ⟨rfl,rfl⟩:=h
          simp only at hr
          subst hr
          have e1:=textL_loc' hst (a:=b :: a) h2
          simp only [e1]
          refine ⟨r == [],rfl,fun hn=>?_,fun hn=>⟨by simpa using hn,by first|exact hc|trivial|rfl⟩⟩
          cases r with
          | nil=>exact absurd rfl hn
          | cons=>rfl
      · rename_i hb
        rw [if_neg hb] at h
        cases a with
        | nil=>
          exfalso
          simp only [List.nil_append] at h
          split at h
          · cases h
          · rename_i c r2
            simp at hlt
            have l0:∀ r3:Bs,r3=r ++ (c :: r2) → ¬ r3.length ≤ r2.length:=by
              intro r3 e;rw [e];simp;omega
            split at h
            · split at h
              · cases h
              · rename_i h3
                simp only [Except.ok.injEq,Prod.mk.injEq] at h
                exact l0 _ (by rw [← hr,← h.2]) (suf_len (endL_suf h3).1)
            · split at h
              · split at h
                · cases h
                · rename_i h3
                  simp only [Except.ok.injEq,Prod.mk.injEq] at h
                  exact l0 _ (by rw [← hr,← h.2]) (suf_len (piL_suf h3).1)
              · split at h
                · split at h
                  · cases h
                  · rename_i h3
                    simp only [Except.ok.injEq,Prod.mk.injEq] at h
                    exact l0 _ (by rw [← hr,← h.2]) (suf_len (bangL_suf h3).1)
                · split at h
                  · cases h
                  · rename_i h3
                    simp only [Except.ok.injEq,Prod.mk.injEq] at h
                    have:=(startL_suf h3).2
                    simp at this
                    have l9:=l0 s2.rest hr
                    rw [← h.2] at l9
                    simp only at l9
                    omega
        | cons c a=>
          simp only [List.cons_append] at h ⊢
          split
          · rename_i h1;rw [if_pos h1] at h
            split at h
            · cases h
            · rename_i t1 r3 h3
              simp only [Except.ok.injEq,Prod.mk.injEq] at h
              obtain ⟨rfl,rfl⟩:=h
              simp only at hr
              subst hr
              have e1:=endL_loc h3
              simp only [e1]
              exact ⟨s.ended,rfl,fun _=>rfl,fun h=>by rw [he] at h;cases h⟩
          · rename_i h1;rw [if_neg h1] at h
            split
            · rename_i h2;rw [if_pos h2] at h
              split at h
              · cases h
              · rename_i t1 r3 h3
                simp only [Except.ok.injEq,Prod.mk.injEq] at h
                obtain ⟨rfl,rfl⟩:=h
                simp only at hr
                subst hr
                have e1:=piL_loc h3
                simp only [e1]
                exact ⟨s.ended,rfl,fun _=>rfl,fun h=>by rw [he] at h;cases h⟩
            · rename_i h2;rw [if_neg h2] at h
              split
              · rename_i h2;rw [if_pos h2] at h
                split at h
                · cases h
                · rename_i t1 r3 h3
                  simp only [Except.ok.injEq,Prod.mk.injEq] at h
                  obtain ⟨rfl,rfl⟩:=h
                  simp only at hr
                  subst hr
                  have e1:=bangL_loc hst h3
                  simp only [e1]
                  exact ⟨s.ended,rfl,fun _=>rfl,fun h=>by rw [he] at h;cases h⟩
              · rename_i h2;rw [if_neg h2] at h
                split at h
                · cases h
                · rename_i nm as em r3 h3
                  simp only [Except.ok.injEq,Prod.mk.injEq] at h
                  obtain ⟨rfl,rfl⟩:=h
                  simp only at hr
                  subst hr
                  have e1:=startL_loc hst (a:=c :: a) h3
                  simp only [e1]
                  exact ⟨s.ended,rfl,fun _=>rfl,fun h=>by rw [he] at h;cases h⟩
theorem workL_rest {o:Opt} {t t':RTok} {s s':St} (h:workL o t s=.ok (t',s')) (a:Bs) (en:Bool):workL o t { s with rest:=a,ended:=en }=.ok (t',{ s' with rest:=a,ended:=en }):=by
  unfold workL at h ⊢
  split
  · rename_i nm as
    simp only [Except.ok.injEq,Prod.mk.injEq] at h ⊢
    obtain ⟨rfl,rfl⟩:=h
    exact ⟨rfl,rfl⟩
  · rename_i nm
    simp only [popL] at h ⊢
    split
    · rename_i hs;rw [hs] at h;cases h
    · rename_i e stk hs
      rw [hs] at h
      simp only at h
      split
      · rename_i h1;rw [if_pos h1] at h;cases h
      · rename_i h1;rw [if_neg h1] at h
        split
        · rename_i h2;rw [if_pos h2] at h
          split
          · rename_i h3;rw [if_pos h3] at h;cases h
          · rename_i h3;rw [if_neg h3] at h
            simp only [Except.ok.injEq,Prod.mk.injEq] at h ⊢
            obtain ⟨rfl,rfl⟩:=h
            exact ⟨rfl,rfl⟩
        · rename_i h2;rw [if_neg h2] at h
          split
          · rename_i h3;rw [if_pos h3] at h;cases h
          · rename_i h3;rw [if_neg h3] at h
            simp only [Except.ok.injEq,Prod.mk.injEq] at h ⊢
            obtain ⟨rfl,rfl⟩:=h
            exact ⟨rfl,rfl⟩
  · rename_i t1 h1 h2
    have h3:t=t'∧s=s':=by
      cases t <;> first
        | exact absurd rfl (h1 _ _)
        | exact absurd rfl (h2 _)
        | (simp only [Except.ok.injEq,Prod.mk.injEq] at h;exact h)
    obtain ⟨rfl,rfl⟩:=h3
    rfl
theorem step0_loc {o:Opt} (hst:o.strict=true) {s s2:St} {t:RTok} {a z r:Bs} (hs:s.rest=a ++ z) (h:step0 o s=.ok (t,s2)) (hr:s2.rest=r ++ z) :
    ∃ en,step0 o { s with rest:=a }=.ok (t,{ s2 with rest:=r,ended:=en })∧(r ≠ [] → en=s2.ended)∧(en=true → r=[]∧s2.toClose=none):=by
  unfold step0 at h ⊢
  split
  · rename_i h1;rw [if_pos h1] at h;exact rawL_loc hst hs h hr
  · rename_i h1;rw [if_neg h1] at h
    unfold tok0 at h
    split at h
    · cases h
    · rename_i t1 s1 h2
      obtain ⟨w1,w2,_,_,_,w6,_⟩:=workL_ok h
      have w7:s2.toClose=s1.toClose:=by
        rcases w6 with w6|⟨w6,_⟩
        · exact w6
        · rw [hst] at w6;cases w6
      obtain ⟨en,e1,e2,e3⟩:=rawL_loc hst hs h2 (by rw [← w1];exact hr)
      have e4:=workL_rest h r en
      refine ⟨en,?_,fun hn=>by rw [w2];exact e2 hn,fun hn=>by rw [w7];exact e3 hn⟩
      unfold tok0
      simp only [e1]
      exact e4
theorem Toks.suf {fold:Bs → Bs → Bool} {o:Opt} (ha:o.auto=[]) {s:St} {l:List (RTok × St)} {e:EK} (h:Toks fold o s l e) (hn:s.next=none):∀ p ∈ l,p.2.rest <:+ s.rest:=by
  induction h with
  | stop=>intro p hp;cases hp
  | more h1 h2 ih=>
    rw [stepL_nil ha hn] at h1
    obtain ⟨m1,m2,m3⟩:=step0_ok h1
    intro p hp
    simp only [List.mem_cons] at hp
    rcases hp with rfl|hp
    · exact m2
    · exact (ih (m3.trans hn) p hp).trans m2
theorem begin_run {fold:Bs → Bs → Bool} {o:Opt} (ha:o.auto=[]) (hst:o.strict=true) (z:Bs):∀ (n:Nat) (l:List (RTok × St)) (s:St) (e:EK) (a:Bs) (en:Bool) (l':List (RTok × St)) (e':EK),
    Toks fold o s l e → s.next=none → s.rest=a ++ z → Toks fold o { s with rest:=a,ended:=en } l' e' → (a ≠ [] → en=s.ended) → (en=true → a=[]∧s.toClose=none) → (h:n < l.length) → l[n].2.rest.length=z.length →
    ∀ i,i ≤ n → ∃ p p',l[i]?=some p∧l'[i]?=some p'∧p'.1=p.1∧p.2.rest=p'.2.rest ++ z
  | n,l,s,e,a,en,l',e',hT,hn,hs,hT',hen1,hen2,hl,hz,i,hi=>by
    cases l with
    | nil=>simp at hl
    | cons q l=>
      obtain ⟨t,s2⟩:=q
      rcases hT.next0 ha hn with ⟨_,_,h1,_⟩|⟨t1,s1,l1,h1,h2,h3,h4⟩
      · cases h1
      · simp only [List.cons.injEq,Prod.mk.injEq] at h2
        obtain ⟨⟨rfl,rfl⟩,rfl⟩:=h2
        have hsz:z.length ≤ s2.rest.length:=by
          cases n with
          | zero=>simp only [List.getElem_cons_zero] at hz;omega
          | succ n=>
            simp only [List.getElem_cons_succ] at hz
            have:=suf_len (h3.suf ha h4 _ (List.getElem_mem (by simpa using hl)))
            rw [hz] at this;exact this
        have hsuf:=(step0_ok h1).2.1
        rw [hs] at hsuf
        obtain ⟨r,hr⟩:=suf_split hsuf hsz
        have hstep:∃ en2,step0 o { s with rest:=a,ended:=en }=.ok (t,{ s2 with rest:=r,ended:=en2 })∧(r ≠ [] → en2=s2.ended)∧(en2=true → r=[]∧s2.toClose=none):=by
          have hse:s.ended=en:=by
            cases en with
            | false=>
              unfold step0 at h1
              split at h1
              · exact (rawL_ok h1).1
              · unfold tok0 at h1
                split at h1
                · cases h1
                · rename_i h5;exact (rawL_ok h5).1
            | true=>
              exfalso
              obtain ⟨h5,h6⟩:=hen2 rfl
              have hlt:s2.rest.length < s.rest.length:=by
                have hraw:∀ {t1 s1},rawL o s=.ok (t1,s1) → s1.rest.length < s.rest.length:=by
                  intro t1 s1 h7
                  obtain ⟨_,_,_,_,_,_,hw⟩:=rawL_ok h7
                  rcases hw with ⟨nm,h8,_⟩|⟨_,h8,_⟩
                  · rw [h6] at h8;cases h8
                  · have h9:1 ≤ t1.wt:=by unfold RTok.wt;split <;> omega
                    omega
                unfold step0 at h1
                split at h1
                · exact hraw h1
                · unfold tok0 at h1
                  split at h1
                  · cases h1
                  · rename_i h7
                    rw [(workL_ok h1).1];exact hraw h7
              rw [hs,h5] at hlt
              simp at hlt;omega
          rw [← hse]
          exact step0_loc hst hs h1 hr
        obtain ⟨en2,g1,g2,g3⟩:=hstep
        rcases hT'.next0 ha hn with ⟨_,k1,_⟩|⟨t3,s3,l3,k1,k2,k3,k4⟩
        · rw [g1] at k1;cases k1
        · rw [g1] at k1
          simp only [Except.ok.injEq,Prod.mk.injEq] at k1
          obtain ⟨rfl,rfl⟩:=k1
          subst k2
          cases i with
          | zero=>exact ⟨_,_,rfl,rfl,rfl,hr⟩
          | succ i=>
            cases n with
            | zero=>omega
            | succ n=>
              simp only [List.getElem?_cons_succ]
              exact begin_run ha hst z n l s2 e r en2 l3 e' h3 h4 hr k3 g2 g3 (by simpa using hl) (by simpa using hz) i (by omega)
theorem begin_law {fold:Bs → Bs → Bool} {o:Opt} (ha:o.auto=[]) (hst:o.strict=true) (T:Bs) {l l':List (RTok × St)} {e e':EK} (hT:Toks fold o (St.init T) l e) (n:Nat) (p:RTok × St) (hp:l[n]?=some p)
    (hT':Toks fold o (St.init (T.take (p.2.at' T))) l' e'):∀ i,i ≤ n → ∃ p p',l[i]?=some p∧l'[i]?=some p'∧p'.1=p.1∧p'.2.at' (T.take (St.at' T (l[n]?.getD p).2))=p.2.at' T:=by
  intro i hi
  obtain ⟨hn,hpn⟩:=List.getElem?_eq_some_iff.1 hp
  have hsuf:=hT.suf ha rfl p (List.mem_of_getElem? hp)
  have hle:=suf_len hsuf
  simp only [St.init] at hsuf hle
  obtain ⟨a,haT⟩:=hsuf
  have hat:p.2.at' T=a.length:=by
    unfold St.at'
    rw [← haT];simp
  have htake:T.take (p.2.at' T)=a:=by rw [hat,← haT];simp
  rw [htake] at hT'
  obtain ⟨q,q',h1,h2,h3,h4⟩:=begin_run ha hst p.2.rest n l (St.init T) e a false l' e' hT rfl haT.symm hT' (fun _=>rfl) (fun h=>by cases h) hn (by rw [hpn]) i hi
  refine ⟨q,q',h1,h2,h3,?_⟩
  rw [hp]
  simp only [Option.getD_some]
  rw [htake]
  unfold St.at'
  rw [h4,← haT]
  simp
  omega
end Go.Proofs.YtkjnockljapnbaaGreatDoor
