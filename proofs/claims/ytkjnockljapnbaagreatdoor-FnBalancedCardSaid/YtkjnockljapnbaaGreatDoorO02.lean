/- Part of the proof that laws.FnBalanced returns true for every argument (Ma, Mb). No condition of its own. -/
import Derived.Test.YtkjnockljapnbaaGreatDoorO01
set_option linter.all false
set_option maxHeartbeats 8000000
set_option maxRecDepth 100000
namespace Go.Proofs.YtkjnockljapnbaaGreatDoor
open Go
theorem suf_len {a b:Bs} (h:a <:+ b):a.length ≤ b.length:=h.length_le
theorem skipWs_suf (l:Bs):skipWs l <:+ l:=by
  induction l with
  | nil=>exact List.suffix_refl _
  | cons b r ih=>unfold skipWs;split;exact ih.trans (List.suffix_cons b r);exact List.suffix_refl _
theorem spanName_app (l:Bs):(spanName l).1 ++ (spanName l).2=l:=by
  induction l with
  | nil=>rfl
  | cons b r ih=>unfold spanName;split <;> simp [ih]
theorem spanDig_app (hex:Bool) (l:Bs):(spanDig hex l).1 ++ (spanDig hex l).2=l:=by
  induction l with
  | nil=>rfl
  | cons b r ih=>unfold spanDig;split <;> simp [ih]
theorem spanUnq_app (l:Bs):(spanUnq l).1 ++ (spanUnq l).2=l:=by
  induction l with
  | nil=>rfl
  | cons b r ih=>unfold spanUnq;split <;> simp [ih]
theorem spanName_suf (l:Bs):(spanName l).2 <:+ l:=⟨_,spanName_app l⟩
theorem spanDig_suf (hex:Bool) (l:Bs):(spanDig hex l).2 <:+ l:=⟨_,spanDig_app hex l⟩
theorem spanUnq_suf (l:Bs):(spanUnq l).2 <:+ l:=⟨_,spanUnq_app l⟩
theorem nameL_ok {f:Bool} {l n r:Bs} (h:nameL f l=.ok (n,r)):spanName l=(n,r)∧r ≠ []∧n ≠ []∧isNameL n=true:=by
  unfold nameL at h
  split at h
  · cases h
  · rename_i h1
    split at h
    · cases h
    · rename_i h2
      split at h
      · rename_i h3
        simp only [Except.ok.injEq] at h
        rw [h] at h1 h2 h3
        exact ⟨h,h1,h2,h3⟩
      · cases h
theorem nameL_suf {f:Bool} {l n r:Bs} (h:nameL f l=.ok (n,r)):r <:+ l∧r.length < l.length:=by
  obtain ⟨h1,_,h3,_⟩:=nameL_ok h
  have h4:=spanName_app l
  rw [h1] at h4
  refine ⟨⟨_,h4⟩,?_⟩
  have:=List.length_pos_iff.2 h3
  rw [← h4];simp;exact this
theorem nsnameL_name {f:Bool} {l r:Bs} {nm:Bs × Bs} (h:nsnameL f l=.ok (nm,r)):∃ s,nameL f l=.ok (s,r)∧¬ 1 < cntColon s∧nm=splitName s:=by
  unfold nsnameL at h
  split at h
  · cases h
  · rename_i s r' h1
    split at h
    · cases h
    · rename_i h2
      simp only [Except.ok.injEq,Prod.mk.injEq] at h
      obtain ⟨rfl,rfl⟩:=h
      exact ⟨s,h1,h2,rfl⟩
theorem nsnameL_suf {f:Bool} {l r:Bs} {nm:Bs × Bs} (h:nsnameL f l=.ok (nm,r)):r <:+ l∧r.length < l.length:=by
  obtain ⟨s,h1,_⟩:=nsnameL_name h
  exact nameL_suf h1
theorem numRef_suf {fails hex:Bool} {pre rest a:Bs} {t:Option Bs} {r:Bs} (h:numRef fails hex pre rest=.ok (a,t,r)):r <:+ rest:=by
  unfold numRef at h
  have hl:=spanDig_suf hex rest
  split at h
  · cases h
  · rename_i b after hs
    rw [hs] at hl
    split at h <;> (simp only [Except.ok.injEq,Prod.mk.injEq] at h;obtain ⟨_,_,rfl⟩:=h)
    · exact (List.suffix_cons b _).trans hl
    · exact hl
theorem refL_suf {fails:Bool} {ents:Option (Bs → Option Bs)} {rest a:Bs} {t:Option Bs} {r:Bs} (h:refL fails ents rest=.ok (a,t,r)):r <:+ rest:=by
  unfold refL at h
  split at h
  · cases h
  · rename_i c r0
    split at h
    · split at h
      · cases h
      · rename_i d r2
        split at h
        · split at h
          · cases h
          · exact ((numRef_suf h).trans (List.suffix_cons d _)).trans (List.suffix_cons c _)
        · exact (numRef_suf h).trans (List.suffix_cons c _)
    · have hl:=spanName_suf (c :: r0)
      split at h
      · cases h
      · rename_i b after hs
        rw [hs] at hl
        split at h <;> (simp only [Except.ok.injEq,Prod.mk.injEq] at h;obtain ⟨_,_,rfl⟩:=h)
        · exact (List.suffix_cons b _).trans hl
        · exact hl
theorem textL_suf (o:Opt) (q:Option UInt8) (cd:Bool):∀ (n:Nat) (rest:Bs),rest.length ≤ n → ∀ (b0 b1:UInt8) (buf d r:Bs),textL o q cd rest b0 b1 buf=.ok (d,r) → r <:+ rest:=by
  intro n
  induction n with
  | zero=>
    intro rest hn b0 b1 buf d r h
    have:rest=[]:=List.eq_nil_of_length_eq_zero (by omega)
    subst this
    unfold textL at h
    split at h
    · cases h
    · split at h
      · simp only [Except.ok.injEq,Prod.mk.injEq] at h;rw [← h.2];exact List.suffix_refl _
      · cases h
  | succ n ih=>
    intro rest hn b0 b1 buf d r h
    cases rest with
    | nil=>
      unfold textL at h
      split at h
      · cases h
      · split at h
        · simp only [Except.ok.injEq,Prod.mk.injEq] at h;rw [← h.2];exact List.suffix_refl _
        · cases h
    | cons b t=>
      have ht:t.length ≤ n:=by simp at hn;omega
      have hc:=List.suffix_cons b t
      unfold textL at h
      split at h
      · split at h
        · split at h
          · simp only [Except.ok.injEq,Prod.mk.injEq] at h;rw [← h.2];exact hc
          · cases h
        · cases h
      · split at h
        · split at h
          · split at h
            · simp only [Except.ok.injEq,Prod.mk.injEq] at h;rw [← h.2];exact List.suffix_refl _
            · cases h
          · cases h
        · split at h
          · split at h
            · simp only [Except.ok.injEq,Prod.mk.injEq] at h;rw [← h.2];exact hc
            · cases h
          · split at h
            · split at h
              · cases h
              · rename_i hr
                have hs:=refL_suf hr
                exact ((ih _ (by have:=suf_len hs;omega) _ _ _ _ _ h).trans hs).trans hc
              · rename_i hr
                have hs:=refL_suf hr
                split at h
                · cases h
                · exact ((ih _ (by have:=suf_len hs;omega) _ _ _ _ _ h).trans hs).trans hc
            · exact (ih _ ht _ _ _ _ _ h).trans hc
theorem textL_rest {o:Opt} {q:Option UInt8} {cd:Bool} {rest:Bs} {b0 b1:UInt8} {buf d r:Bs} (h:textL o q cd rest b0 b1 buf=.ok (d,r)):r <:+ rest:=textL_suf o q cd rest.length rest (Nat.le_refl _) b0 b1 buf d r h
theorem textL_first {o:Opt} {b:UInt8} {t d r:Bs} (hb:b ≠ 60) (h:textL o none false (b :: t) 0 0 []=.ok (d,r)):r <:+ t:=by
  unfold textL at h
  split at h
  · rename_i h1;exact absurd h1.2.1 (by decide)
  · split at h
    · rename_i h1;exact absurd h1.1 hb
    · split at h
      · rename_i h1;cases h1
      · split at h
        · split at h
          · cases h
          · rename_i hr
            exact (textL_rest h).trans (refL_suf hr)
          · rename_i hr
            split at h
            · cases h
            · exact (textL_rest h).trans (refL_suf hr)
        · exact textL_rest h
theorem attrvalL_suf {o:Opt} {l d r:Bs} (h:attrvalL o l=.ok (d,r)):r <:+ l:=by
  unfold attrvalL at h
  split at h
  · cases h
  · rename_i q t
    split at h
    · exact (textL_rest h).trans (List.suffix_cons q _)
    · split at h
      · cases h
      · split at h
        · cases h
        · simp only [Except.ok.injEq] at h
          have:=spanUnq_suf (q :: t)
          rw [h] at this
          exact this
theorem attrL_suf {o:Opt} {l:Bs} {a:At3} {r:Bs} (h:attrL o l=.ok (a,r)):r <:+ l∧r.length < l.length:=by
  unfold attrL at h
  split at h
  · cases h
  · rename_i nm r2 h1
    obtain ⟨s1,s2⟩:=nsnameL_suf h1
    have s3:=skipWs_suf r2
    split at h
    · cases h
    · rename_i b r4 h2
      rw [h2] at s3
      split at h
      · split at h
        · cases h
        · rename_i v r5 h3
          simp only [Except.ok.injEq,Prod.mk.injEq] at h
          obtain ⟨_,rfl⟩:=h
          have s4:=(((attrvalL_suf h3).trans (skipWs_suf r4)).trans (List.suffix_cons b r4)).trans s3
          exact ⟨s4.trans s1,by have:=suf_len s4;omega⟩
      · split at h
        · cases h
        · simp only [Except.ok.injEq,Prod.mk.injEq] at h
          obtain ⟨_,rfl⟩:=h
          exact ⟨s3.trans s1,by have:=suf_len s3;omega⟩
theorem attrsL_suf {o:Opt}:∀ {k:Nat} {rest:Bs} {acc as:List At3} {em:Bool} {r:Bs},attrsL o k rest acc=.ok (as,em,r) → r <:+ rest∧as.length + r.length + 1 ≤ acc.length + rest.length
  | 0,_,_,_,_,_,h=>by unfold attrsL at h;cases h
  | k + 1,rest,acc,as,em,r,h=>by
    unfold attrsL at h
    have s1:=skipWs_suf rest
    split at h
    · cases h
    · rename_i b r2 h1
      rw [h1] at s1
      have l1:=suf_len s1
      simp only [List.length_cons] at l1
      split at h
      · split at h
        · cases h
        · rename_i c r3
          split at h
          · simp only [Except.ok.injEq,Prod.mk.injEq] at h
            obtain ⟨rfl,_,rfl⟩:=h
            exact ⟨((List.suffix_cons c _).trans (List.suffix_cons b _)).trans s1,by simp only [List.length_cons] at l1;omega⟩
          · cases h
      · split at h
        · simp only [Except.ok.injEq,Prod.mk.injEq] at h
          obtain ⟨rfl,_,rfl⟩:=h
          exact ⟨(List.suffix_cons b _).trans s1,by omega⟩
        · split at h
          · cases h
          · rename_i a r5 h3
            obtain ⟨s2,s3⟩:=attrL_suf h3
            obtain ⟨s4,s5⟩:=attrsL_suf h
            exact ⟨(s4.trans s2).trans s1,by simp only [List.length_append,List.length_cons,List.length_nil] at s5 s3;omega⟩
theorem commentL_suf {f:Bool}:∀ {l:Bs} {b0 b1:UInt8} {buf d r:Bs},commentL f l b0 b1 buf=.ok (d,r) → r <:+ l
  | [],_,_,_,_,_,h=>by unfold commentL at h;cases h
  | b :: l,b0,b1,buf,d,r,h=>by
    unfold commentL at h
    split at h
    · split at h
      · simp only [Except.ok.injEq,Prod.mk.injEq] at h;rw [← h.2];exact List.suffix_cons b l
      · cases h
    · exact (commentL_suf h).trans (List.suffix_cons b l)
theorem procL_suf {f:Bool}:∀ {l:Bs} {b0:UInt8} {buf d r:Bs},procL f l b0 buf=.ok (d,r) → r <:+ l
  | [],_,_,_,_,h=>by unfold procL at h;cases h
  | b :: l,b0,buf,d,r,h=>by
    unfold procL at h
    split at h
    · simp only [Except.ok.injEq,Prod.mk.injEq] at h;rw [← h.2];exact List.suffix_cons b l
    · exact (procL_suf h).trans (List.suffix_cons b l)
theorem skipComL_suf {f:Bool}:∀ {l:Bs} {b0 b1:UInt8} {r:Bs},skipComL f l b0 b1=.ok r → r <:+ l
  | [],_,_,_,h=>by unfold skipComL at h;cases h
  | b :: l,b0,b1,r,h=>by
    unfold skipComL at h
    split at h
    · simp only [Except.ok.injEq] at h;rw [← h];exact List.suffix_cons b l
    · exact (skipComL_suf h).trans (List.suffix_cons b l)
theorem dir_suf (f:Bool):∀ n:Nat,(∀ rest:Bs,rest.length ≤ n → ∀ (inq:UInt8) (dp:Int) (buf d r:Bs),dirL f rest inq dp buf=.ok (d,r) → r <:+ rest) ∧
    (∀ rest:Bs,rest.length ≤ n → ∀ (b inq:UInt8) (dp:Int) (buf d r:Bs),dirB f b rest inq dp buf=.ok (d,r) → r <:+ rest):=by
  intro n
  induction n with
  | zero=>
    have hL:∀ rest:Bs,rest.length ≤ 0 → ∀ (inq:UInt8) (dp:Int) (buf d r:Bs),dirL f rest inq dp buf=.ok (d,r) → r <:+ rest:=by
      intro rest hn inq dp buf d r h
      have:rest=[]:=List.eq_nil_of_length_eq_zero (by omega)
      subst this
      unfold dirL at h;cases h
    refine ⟨hL,?_⟩
    intro rest hn b inq dp buf d r h
    have:rest=[]:=List.eq_nil_of_length_eq_zero (by omega)
    subst this
    unfold dirB at h
    repeat' split at h
    all_goals first
      | exact hL [] (Nat.le_refl _) _ _ _ _ _ h
      | (cases h;done)
      | (rename_i hq _;cases hq;done)
      | simp_all
  | succ n ih=>
    obtain ⟨ih1,ih2⟩:=ih
    have hL:∀ rest:Bs,rest.length ≤ n + 1 → ∀ (inq:UInt8) (dp:Int) (buf d r:Bs),dirL f rest inq dp buf=.ok (d,r) → r <:+ rest:=by
      intro rest hn inq dp buf d r h
      unfold dirL at h
      split at h
      · cases h
      · rename_i b t
        split at h
        · simp only [Except.ok.injEq,Prod.mk.injEq] at h;rw [← h.2];exact List.suffix_cons b _
        · exact (ih2 _ (by simp at hn;omega) _ _ _ _ _ _ h).trans (List.suffix_cons b _)
    refine ⟨hL,?_⟩
    intro rest hn b inq dp buf d r h
    unfold dirB at h
    split at h
    · exact hL _ hn _ _ _ _ _ h
    · split at h
      · exact hL _ hn _ _ _ _ _ h
      · split at h
        · exact hL _ hn _ _ _ _ _ h
        · split at h
          · exact hL _ hn _ _ _ _ _ h
          · split at h
            · split at h
              · cases h
              · rename_i c1 r1
                have e1:=List.suffix_cons c1 r1
                split at h
                · split at h
                  · cases h
                  · rename_i c2 r2
                    have e2:=List.suffix_cons c2 r2
                    split at h
                    · split at h
                      · cases h
                      · rename_i c3 r3
                        have e3:=List.suffix_cons c3 r3
                        split at h
                        · split at h
                          · cases h
                          · rename_i r4 hk
                            have e4:=skipComL_suf hk
                            have:=suf_len e4
                            exact ((((hL _ (by simp at hn;omega) _ _ _ _ _ h).trans e4).trans e3).trans e2).trans e1
                        · exact (((ih2 _ (by simp at hn;omega) _ _ _ _ _ _ h).trans e3).trans e2).trans e1
                    · exact ((ih2 _ (by simp at hn;omega) _ _ _ _ _ _ h).trans e2).trans e1
                · exact (ih2 _ (by simp at hn;omega) _ _ _ _ _ _ h).trans e1
            · exact hL _ hn _ _ _ _ _ h
theorem dirL_suf {f:Bool} {rest:Bs} {inq:UInt8} {dp:Int} {buf d r:Bs} (h:dirL f rest inq dp buf=.ok (d,r)):r <:+ rest:=(dir_suf f rest.length).1 rest (Nat.le_refl _) _ _ _ _ _ h
theorem endL_suf {o:Opt} {l:Bs} {t:RTok} {r:Bs} (h:endL o l=.ok (t,r)):r <:+ l∧∃ nm,t=.fin nm:=by
  unfold endL at h
  split at h
  · cases h
  · rename_i nm r1 h1
    have s1:=skipWs_suf r1
    split at h
    · cases h
    · rename_i b r2 h2
      rw [h2] at s1
      split at h
      · simp only [Except.ok.injEq,Prod.mk.injEq] at h
        obtain ⟨rfl,rfl⟩:=h
        exact ⟨((List.suffix_cons b _).trans s1).trans (nsnameL_suf h1).1,nm,rfl⟩
      · cases h
theorem piL_suf {o:Opt} {l:Bs} {t:RTok} {r:Bs} (h:piL o l=.ok (t,r)):r <:+ l∧∃ a b,t=.proc a b:=by
  unfold piL at h
  split at h
  · cases h
  · rename_i tg r1 h1
    split at h
    · cases h
    · rename_i i r2 h2
      split at h
      · cases h
      · simp only [Except.ok.injEq,Prod.mk.injEq] at h
        obtain ⟨rfl,rfl⟩:=h
        exact ⟨((procL_suf h2).trans (skipWs_suf r1)).trans (nameL_suf h1).1,tg,i,rfl⟩
theorem matchL_suf {f:Bool}:∀ {p l r:Bs},matchL f p l=.ok r → r <:+ l
  | [],l,r,h=>by unfold matchL at h;simp only [Except.ok.injEq] at h;rw [h];exact List.suffix_refl _
  | _ :: _,[],r,h=>by unfold matchL at h;cases h
  | p :: ps,b :: l,r,h=>by
    unfold matchL at h
    split at h
    · exact (matchL_suf h).trans (List.suffix_cons b l)
    · cases h
theorem bangL_suf {o:Opt} {l:Bs} {t:RTok} {r:Bs} (h:bangL o l=.ok (t,r)):r <:+ l∧((∃ d,t=.comment d) ∨ (∃ d,t=.text d) ∨ ∃ d,t=.dir d):=by
  unfold bangL at h
  split at h
  · cases h
  · rename_i b r1
    have e1:=List.suffix_cons b r1
    split at h
    · split at h
      · cases h
      · rename_i c r2
        have e2:=List.suffix_cons c r2
        split at h
        · split at h
          · cases h
          · rename_i d r3 h3
            simp only [Except.ok.injEq,Prod.mk.injEq] at h
            obtain ⟨rfl,rfl⟩:=h
            exact ⟨((commentL_suf h3).trans e2).trans e1,Or.inl ⟨d,rfl⟩⟩
        · cases h
    · split at h
      · split at h
        · cases h
        · rename_i r2 h2
          split at h
          · cases h
          · rename_i d r3 h3
            simp only [Except.ok.injEq,Prod.mk.injEq] at h
            obtain ⟨rfl,rfl⟩:=h
            exact ⟨((textL_rest h3).trans (matchL_suf h2)).trans e1,Or.inr (Or.inl ⟨d,rfl⟩)⟩
      · split at h
        · cases h
        · rename_i d r2 h2
          simp only [Except.ok.injEq,Prod.mk.injEq] at h
          obtain ⟨rfl,rfl⟩:=h
          exact ⟨(dirL_suf h2).trans e1,Or.inr (Or.inr ⟨d,rfl⟩)⟩
theorem startL_suf {o:Opt} {l:Bs} {nm:Bs × Bs} {as:List At3} {em:Bool} {r:Bs} (h:startL o l=.ok ((nm,as),em,r)):r <:+ l∧as.length + r.length + 2 ≤ l.length:=by
  unfold startL at h
  split at h
  · cases h
  · rename_i nm1 r1 h1
    split at h
    · cases h
    · rename_i as1 em1 r2 h2
      simp only [Except.ok.injEq,Prod.mk.injEq] at h
      obtain ⟨⟨rfl,rfl⟩,rfl,rfl⟩:=h
      obtain ⟨s1,s2⟩:=nsnameL_suf h1
      obtain ⟨s3,s4⟩:=attrsL_suf h2
      exact ⟨s3.trans s1,by simp at s4;omega⟩
def RTok.wt:RTok → Nat
  | .start _ as=>1 + as.length
  | _=>1
theorem rawL_ok {o:Opt} {s s':St} {t:RTok} (h:rawL o s=.ok (t,s')) :
    s.ended=false∧s'.stk=s.stk∧s'.ns=s.ns∧s'.next=s.next∧s'.rest <:+ s.rest∧(s'.ended=true → s'.rest=[]) ∧
    ((∃ nm,s.toClose=some nm∧t=.fin nm∧s'={ s with toClose:=none }) ∨
      (s.toClose=none∧t.wt + s'.rest.length ≤ s.rest.length∧(s'.ended=true → ∃ d,t=.text d)∧(∀ nm,s'.toClose=some nm → ∃ as,t=.start nm as))):=by
  unfold rawL at h
  split at h
  · cases h
  · rename_i he
    have he':s.ended=false:=by simpa using he
    refine ⟨he',?_⟩
    split at h
    · rename_i nm hc
      simp only [Except.ok.injEq,Prod.mk.injEq] at h
      obtain ⟨rfl,rfl⟩:=h
      exact ⟨rfl,rfl,rfl,List.suffix_refl _,(fun hh=>by rw [he'] at hh;cases hh),Or.inl ⟨nm,hc,rfl,rfl⟩⟩
    · rename_i hc
      split at h
      · cases h
      · rename_i b r hr
        split at h
        · rename_i hb
          split at h
          · cases h
          · rename_i d r2 h2
            simp only [Except.ok.injEq,Prod.mk.injEq] at h
            obtain ⟨rfl,rfl⟩:=h
            have s1:=textL_first hb h2
            refine ⟨rfl,rfl,rfl,by rw [hr];exact s1.trans (List.suffix_cons b r),fun hh=>by simpa using hh,Or.inr ⟨hc,?_,fun _=>⟨d,rfl⟩,fun nm hn=>by rw [hc] at hn;cases hn⟩⟩
            have:=suf_len s1
            simp only [RTok.wt,List.length_cons,hr];omega
        · split at h
          · cases h
          · rename_i c r2
            have e1:=(List.suffix_cons c r2).trans (List.suffix_cons b (c :: r2))
            split at h
            · split at h
              · cases h
              · rename_i t1 r3 h3
                simp only [Except.ok.injEq,Prod.mk.injEq] at h
                obtain ⟨rfl,rfl⟩:=h
                obtain ⟨s1,nm,rfl⟩:=endL_suf h3
                have:=suf_len s1
                exact ⟨rfl,rfl,rfl,by rw [hr];exact s1.trans e1,(fun hh=>by rw [he'] at hh;cases hh),Or.inr ⟨hc,by simp only [RTok.wt,List.length_cons,hr];omega,(fun hh=>by rw [he'] at hh;cases hh),fun nm hn=>by rw [hc] at hn;cases hn⟩⟩
            · split at h
              · split at h
                · cases h
                · rename_i t1 r3 h3
                  simp only [Except.ok.injEq,Prod.mk.injEq] at h
                  obtain ⟨rfl,rfl⟩:=h
                  obtain ⟨s1,x,y,rfl⟩:=piL_suf h3
                  have:=suf_len s1
                  exact ⟨rfl,rfl,rfl,by rw [hr];exact s1.trans e1,(fun hh=>by rw [he'] at hh;cases hh),Or.inr ⟨hc,by simp only [RTok.wt,List.length_cons,hr];omega,(fun hh=>by rw [he'] at hh;cases hh),fun nm hn=>by rw [hc] at hn;cases hn⟩⟩
              · split at h
                · split at h
                  · cases h
                  · rename_i t1 r3 h3
                    simp only [Except.ok.injEq,Prod.mk.injEq] at h
                    obtain ⟨rfl,rfl⟩:=h
                    obtain ⟨s1,hk⟩:=bangL_suf h3
                    have:=suf_len s1
                    have hw:t1.wt=1:=by rcases hk with ⟨d,rfl⟩|⟨d,rfl⟩|⟨d,rfl⟩ <;> rfl
                    exact ⟨rfl,rfl,rfl,by rw [hr];exact s1.trans e1,(fun hh=>by rw [he'] at hh;cases hh),Or.inr ⟨hc,by simp only [hw,List.length_cons,hr];omega,(fun hh=>by rw [he'] at hh;cases hh),fun nm hn=>by rw [hc] at hn;cases hn⟩⟩
                · split at h
                  · cases h
                  · rename_i nm as em r3 h3
                    simp only [Except.ok.injEq,Prod.mk.injEq] at h
                    obtain ⟨rfl,rfl⟩:=h
                    obtain ⟨s1,s2⟩:=startL_suf h3
                    refine ⟨rfl,rfl,rfl,by rw [hr];exact s1.trans (List.suffix_cons b _),(fun hh=>by rw [he'] at hh;cases hh),Or.inr ⟨hc,by simp only [RTok.wt,List.length_cons,hr] at s2 ⊢;omega,(fun hh=>by rw [he'] at hh;cases hh),fun nm' hn=>?_⟩⟩
                    cases em
                    · cases hn
                    · simp at hn;subst hn;exact ⟨as,rfl⟩
end Go.Proofs.YtkjnockljapnbaaGreatDoor
namespace Go.Proofs.YtkjnockljapnbaaGreatDoor
open Go
inductive Toks (fold:Bs → Bs → Bool) (o:Opt):St → List (RTok × St) → EK → Prop
  | stop {s e}:stepL fold o s=.error e → Toks fold o s [] e
  | more {s t s' l e}:stepL fold o s=.ok (t,s') → Toks fold o s' l e → Toks fold o s ((t,s') :: l) e
theorem Toks.det {fold:Bs → Bs → Bool} {o:Opt} {s:St} {l l':List (RTok × St)} {e e':EK} (h:Toks fold o s l e) (h':Toks fold o s l' e'):l=l'∧e=e':=by
  induction h generalizing l' e' with
  | stop h1=>
    cases h' with
    | stop h2=>rw [h1] at h2;cases h2;exact ⟨rfl,rfl⟩
    | more h2 _=>rw [h1] at h2;cases h2
  | more h1 _ ih=>
    cases h' with
    | stop h2=>rw [h1] at h2;cases h2
    | more h2 h3=>
      rw [h1] at h2
      simp only [Except.ok.injEq,Prod.mk.injEq] at h2
      obtain ⟨rfl,rfl⟩:=h2
      obtain ⟨rfl,rfl⟩:=ih h3
      exact ⟨rfl,rfl⟩
theorem autoL_nil {fold:Bs → Bs → Bool} {o:Opt} (h:o.auto=[]) (t:RTok) (s:St):autoL fold o t s=none:=by
  unfold autoL
  rw [h]
  split
  · rfl
  · split <;> simp
def tok0 (o:Opt) (s:St):Except EK (RTok × St):=
  match rawL o s with
  | .error e=>.error (if e=.eof∧s.stk ≠ [] then .syn else e)
  | .ok (t,s')=>workL o t s'
theorem tokL_nil {fold:Bs → Bs → Bool} {o:Opt} (h:o.auto=[]) {s:St} (hn:s.next=none):tokL fold o s=tok0 o s:=by
  unfold tokL tok0
  rw [hn]
  cases rawL o s with
  | error e=>rfl
  | ok p=>
    obtain ⟨t,s'⟩:=p
    simp only [autoL_nil h]
    split <;> rfl
def step0 (o:Opt) (s:St):Except EK (RTok × St):=if o.raw then rawL o s else tok0 o s
theorem stepL_nil {fold:Bs → Bs → Bool} {o:Opt} (h:o.auto=[]) {s:St} (hn:s.next=none):stepL fold o s=step0 o s:=by
  unfold stepL step0
  rw [tokL_nil h hn]
theorem bindL_len:∀ (as:List At3) (stk:List Ent) (ns:Bs → Option Bs),(bindL as stk ns).1.length ≤ stk.length + as.length
  | [],stk,ns=>by simp [bindL]
  | (sp,loc,v) :: as,stk,ns=>by
    unfold bindL
    by_cases h1:sp=xmlnsB
    · have h2:¬ (sp=[]∧loc=xmlnsB):=by rintro ⟨h,_⟩;rw [h1] at h;cases h
      simp only [if_pos h1,if_neg h2]
      have:=bindL_len as ({ kind:=1,space:=(ns loc).getD [],loc:=loc,ok:=(ns loc).isSome } :: stk) (setNs ns loc (some v))
      simp only [List.length_cons] at this ⊢;omega
    · by_cases h2:sp=[]∧loc=xmlnsB
      · simp only [if_neg h1,if_pos h2]
        have:=bindL_len as ({ kind:=1,space:=(ns []).getD [],loc:=[],ok:=(ns []).isSome } :: stk) (setNs ns [] (some v))
        simp only [List.length_cons] at this ⊢;omega
      · simp only [if_neg h1,if_neg h2]
        have:=bindL_len as stk ns
        simp only [List.length_cons] at this ⊢;omega
theorem undoL_len:∀ (stk:List Ent) (ns:Bs → Option Bs),(undoL stk ns).1.length ≤ stk.length
  | [],_=>by simp [undoL]
  | e :: stk,ns=>by
    unfold undoL
    split
    · exact Nat.le_refl _
    · have:=undoL_len stk (setNs ns e.loc (if e.ok then some e.space else none))
      simp only [List.length_cons];omega
theorem workL_ok {o:Opt} {t t':RTok} {s s':St} (h:workL o t s=.ok (t',s')) :
    s'.rest=s.rest∧s'.ended=s.ended∧s'.next=s.next∧((∃ nm as,t=.start nm as) ↔ (∃ nm as,t'=.start nm as))∧((∃ nm,t=.fin nm) ↔ ∃ nm,t'=.fin nm) ∧
    (s'.toClose=s.toClose ∨ (o.strict=false∧∃ nm,t=.fin nm))∧((∃ nm,t=.fin nm) → s'.stk.length < s.stk.length)∧((¬ ∃ nm,t=.fin nm) → s'.stk.length + 1 ≤ s.stk.length + 1 + t.wt):=by
  unfold workL at h
  split at h
  · rename_i nm as
    simp only [Except.ok.injEq,Prod.mk.injEq] at h
    obtain ⟨rfl,rfl⟩:=h
    refine ⟨rfl,rfl,rfl,⟨fun _=>⟨_,_,rfl⟩,fun _=>⟨_,_,rfl⟩⟩,⟨by simp,by simp⟩,Or.inl rfl,by simp,fun _=>?_⟩
    have:=bindL_len as s.stk s.ns
    simp only [List.length_cons,RTok.wt];omega
  · rename_i nm
    unfold popL at h
    split at h
    · cases h
    · rename_i e stk hs
      split at h
      · cases h
      · split at h
        · split at h
          · cases h
          · rename_i hst
            simp only [Except.ok.injEq,Prod.mk.injEq] at h
            obtain ⟨rfl,rfl⟩:=h
            refine ⟨rfl,rfl,rfl,⟨by simp,by simp⟩,⟨fun _=>⟨_,rfl⟩,fun _=>⟨_,rfl⟩⟩,Or.inr ⟨by simpa using hst,_,rfl⟩,fun _=>by rw [hs];simp,fun hh=>absurd ⟨_,rfl⟩ hh⟩
        · split at h
          · cases h
          · simp only [Except.ok.injEq,Prod.mk.injEq] at h
            obtain ⟨rfl,rfl⟩:=h
            refine ⟨rfl,rfl,rfl,⟨by simp,by simp⟩,⟨fun _=>⟨_,rfl⟩,fun _=>⟨_,rfl⟩⟩,Or.inl rfl,fun _=>?_,fun hh=>absurd ⟨_,rfl⟩ hh⟩
            have:=undoL_len stk s.ns
            rw [hs];simp only [List.length_cons];omega
  · rename_i t1 h1 h2
    simp only [Except.ok.injEq,Prod.mk.injEq] at h
    obtain ⟨rfl,rfl⟩:=h
    refine ⟨rfl,rfl,rfl,Iff.rfl,Iff.rfl,Or.inl rfl,fun ⟨nm,hh⟩=>absurd hh (h2 nm),fun _=>by omega⟩
def St.mu (s:St):Nat:=8 * s.rest.length + 4 * s.stk.length + (if s.toClose.isSome then 1 else 0)
theorem mu_tc (s:St):(if s.toClose.isSome then 1 else 0) ≤ 1:=by split <;> omega
theorem raw_mu {o:Opt} {s s':St} {t:RTok} (h:rawL o s=.ok (t,s')):s'.mu < s.mu∧((¬ ∃ nm,t=.fin nm) → s'.mu + 4 * t.wt < s.mu)∧s'.stk=s.stk∧s'.rest <:+ s.rest:=by
  obtain ⟨_,h1,_,_,h2,_,h3⟩:=rawL_ok h
  refine ⟨?_,?_,h1,h2⟩
  · rcases h3 with ⟨nm,h4,_,rfl⟩|⟨h4,h5,_⟩
    · unfold St.mu;simp [h4]
    · have:=mu_tc s'
      have h6:1 ≤ t.wt:=by unfold RTok.wt;split <;> omega
      unfold St.mu;rw [h1,h4];simp;omega
  · intro hn
    rcases h3 with ⟨nm,_,h4,_⟩|⟨h4,h5,_⟩
    · exact absurd ⟨nm,h4⟩ hn
    · have:=mu_tc s'
      have h6:1 ≤ t.wt:=by unfold RTok.wt;split <;> omega
      unfold St.mu;rw [h1,h4];simp;omega
def St.at' (T:Bs) (s:St):Nat:=T.length - s.rest.length
end Go.Proofs.YtkjnockljapnbaaGreatDoor
