/- Part of the proof that laws.FnBeginning, laws.FnPlaces returns true for every argument (Me, Mc). No condition of its own. -/
import Derived.Test.YtkjnockljapnbaaGreatDoorK03
set_option linter.all false
set_option maxHeartbeats 8000000
set_option maxRecDepth 100000
namespace Go.Proofs.YtkjnockljapnbaaGreatDoor
open Go
theorem transL_loc (o:Opt) (ns:Bs → Option Bs) (nm:Bs × Bs) (b:Bool):(transL o ns nm b).2=nm.2:=by
  unfold transL
  repeat' split
  all_goals simp only []
  all_goals repeat' split
  all_goals rfl
end Go.Proofs.YtkjnockljapnbaaGreatDoor
namespace Go.Proofs.YtkjnockljapnbaaGreatDoor
open Go
theorem app_cancel {a b z:Bs} (h:a ++ z=b ++ z):a=b:=List.append_cancel_right h
theorem skipWs_loc {z:Bs} {b:UInt8} {r:Bs}:∀ {a:Bs},skipWs (a ++ z)=b :: (r ++ z) → skipWs a=b :: r
  | [],h=>by
    have:=suf_len (skipWs_suf z)
    simp only [List.nil_append] at h
    rw [h] at this;simp at this;omega
  | c :: a,h=>by
    simp only [List.cons_append,skipWs] at h ⊢
    split
    · rename_i hw;rw [if_pos hw] at h;exact skipWs_loc h
    · rename_i hw;rw [if_neg hw] at h
      simp only [List.cons.injEq] at h
      rw [h.1,app_cancel h.2]
theorem spanName_loc {z:Bs} {b:UInt8} {r:Bs}:∀ {a n:Bs},spanName (a ++ z)=(n,b :: (r ++ z)) → spanName a=(n,b :: r)
  | [],n,h=>by
    have:=suf_len (spanName_suf z)
    simp only [List.nil_append] at h
    rw [h] at this;simp at this;omega
  | c :: a,n,h=>by
    simp only [List.cons_append,spanName] at h ⊢
    split
    · rename_i hw
      rw [if_pos hw] at h
      simp only [Prod.mk.injEq] at h
      cases n with
      | nil=>cases h.1
      | cons x n=>
        simp only [List.cons.injEq] at h
        have:=spanName_loc (a:=a) (n:=n) (by rw [← h.1.2,← h.2])
        rw [this,h.1.1]
    · rename_i hw
      rw [if_neg hw] at h
      simp only [Prod.mk.injEq,List.cons.injEq] at h
      rw [← h.1,h.2.1,app_cancel h.2.2]
theorem spanDig_loc {hex:Bool} {z:Bs} {b:UInt8} {r:Bs}:∀ {a n:Bs},spanDig hex (a ++ z)=(n,b :: (r ++ z)) → spanDig hex a=(n,b :: r)
  | [],n,h=>by
    have:=suf_len (spanDig_suf hex z)
    simp only [List.nil_append] at h
    rw [h] at this;simp at this;omega
  | c :: a,n,h=>by
    simp only [List.cons_append,spanDig] at h ⊢
    split
    · rename_i hw
      rw [if_pos hw] at h
      simp only [Prod.mk.injEq] at h
      cases n with
      | nil=>cases h.1
      | cons x n=>
        simp only [List.cons.injEq] at h
        have:=spanDig_loc (a:=a) (n:=n) (by rw [← h.1.2,← h.2])
        rw [this,h.1.1]
    · rename_i hw
      rw [if_neg hw] at h
      simp only [Prod.mk.injEq,List.cons.injEq] at h
      rw [← h.1,h.2.1,app_cancel h.2.2]
theorem nameL_loc {f:Bool} {a z n r:Bs} {b:UInt8} (h:nameL f (a ++ z)=.ok (n,b :: (r ++ z))):nameL f a=.ok (n,b :: r):=by
  obtain ⟨h1,_,h3,h4⟩:=nameL_ok h
  have h5:=spanName_loc h1
  unfold nameL
  rw [h5]
  simp [h3,h4]
theorem nsnameL_loc {f:Bool} {a z r:Bs} {nm:Bs × Bs} {b:UInt8} (h:nsnameL f (a ++ z)=.ok (nm,b :: (r ++ z))):nsnameL f a=.ok (nm,b :: r):=by
  obtain ⟨s,h1,h2,h3⟩:=nsnameL_name h
  have:=nameL_loc h1
  unfold nsnameL
  rw [this]
  simp [h2,h3]
theorem suf_split {a z r:Bs} (h:r <:+ a ++ z) (hl:z.length ≤ r.length):∃ q,r=q ++ z:=by
  obtain ⟨p,hp⟩:=h
  have h1:z <:+ r:=List.suffix_of_suffix_length_le (⟨a,rfl⟩:z <:+ a ++ z) (⟨p,hp⟩:r <:+ a ++ z) hl
  obtain ⟨q,hq⟩:=h1
  exact ⟨q,hq.symm⟩
theorem suf_split' {a z r:Bs} {b:UInt8} (h:(b :: r) <:+ a ++ z) (hl:z.length ≤ r.length):∃ q,r=q ++ z∧(b :: q) <:+ a:=by
  obtain ⟨q,rfl⟩:=suf_split ((List.suffix_cons b r).trans h) hl
  refine ⟨q,rfl,?_⟩
  obtain ⟨p,hp⟩:=h
  exact ⟨p,app_cancel (z:=z) (by rw [← hp];simp)⟩
theorem numRef_loc {fails hex:Bool} {pre a z raw t r:Bs} (h:numRef fails hex pre (a ++ z)=.ok (raw,some t,r ++ z)):numRef fails hex pre a=.ok (raw,some t,r):=by
  unfold numRef at h
  have hs:=spanDig_app hex (a ++ z)
  split at h
  · cases h
  · rename_i b after h1
    split at h
    · rename_i hb
      simp only [Except.ok.injEq,Prod.mk.injEq] at h
      obtain ⟨h2,h3,rfl⟩:=h
      have h4:spanDig hex (a ++ z)=((spanDig hex (a ++ z)).1,b :: (r ++ z)):=by rw [← h1]
      have h5:=spanDig_loc h4
      unfold numRef
      rw [h5]
      simp only [hb,if_true]
      rw [← h2,← h3]
    · simp only [Except.ok.injEq,Prod.mk.injEq] at h
      cases h.2.1
theorem refL_loc {fails:Bool} {ents:Option (Bs → Option Bs)} {a z raw t r:Bs} (h:refL fails ents (a ++ z)=.ok (raw,some t,r ++ z)):refL fails ents a=.ok (raw,some t,r):=by
  have hl:z.length ≤ (r ++ z).length:=by simp
  cases a with
  | nil=>
    exfalso
    simp only [List.nil_append] at h
    unfold refL at h
    split at h
    · cases h
    · rename_i c r0
      split at h
      · split at h
        · cases h
        · split at h
          · split at h
            · cases h
            · have:=numRef_len h;simp at this hl;omega
          · have:=numRef_len h;simp at this hl;omega
      · have hs:=spanName_len (c :: r0)
        split at h
        · cases h
        · rename_i b after h1
          rw [h1] at hs
          split at h <;> simp only [Except.ok.injEq,Prod.mk.injEq] at h
          · rw [h.2.2] at hs;simp at hs hl;omega
          · cases h.2.1
  | cons c a=>
    simp only [List.cons_append] at h
    unfold refL at h ⊢
    simp only at h ⊢
    split
    · rename_i hc
      rw [if_pos hc] at h
      cases a with
      | nil=>
        exfalso
        simp only [List.nil_append] at h
        split at h
        · cases h
        · rename_i d r2
          split at h
          · split at h
            · cases h
            · have:=numRef_len h;simp at this hl;omega
          · unfold numRef at h
            have hs:=spanDig_len false (d :: r2)
            split at h
            · cases h
            · rename_i b after h1
              rw [h1] at hs
              split at h <;> simp only [Except.ok.injEq,Prod.mk.injEq] at h
              · rw [h.2.2] at hs;simp at hs hl;omega
              · cases h.2.1
      | cons d a=>
        simp only [List.cons_append] at h ⊢
        split
        · rename_i hd
          rw [if_pos hd] at h
          cases a with
          | nil=>
            exfalso
            simp only [List.nil_append] at h
            split at h
            · cases h
            · rename_i l2 hne
              unfold numRef at h
              have hs:=spanDig_len true z
              split at h
              · cases h
              · rename_i b after h1
                rw [h1] at hs
                split at h <;> simp only [Except.ok.injEq,Prod.mk.injEq] at h
                · rw [h.2.2] at hs;simp at hs hl;omega
                · cases h.2.1
          | cons x a=>
            simp only [List.cons_append] at h ⊢
            exact numRef_loc (a:=x :: a) h
        · rename_i hd
          rw [if_neg hd] at h
          exact numRef_loc (a:=d :: a) h
    · rename_i hc
      rw [if_neg hc] at h
      split at h
      · cases h
      · rename_i b after h1
        split at h
        · rename_i hb
          simp only [Except.ok.injEq,Prod.mk.injEq] at h
          obtain ⟨h2,h3,rfl⟩:=h
          have h4:spanName ((c :: a) ++ z)=((spanName (c :: (a ++ z))).1,b :: (r ++ z)):=by rw [← h1];rfl
          have h5:=spanName_loc h4
          rw [h5]
          simp only [hb,if_true]
          rw [← h2,← h3]
        · simp only [Except.ok.injEq,Prod.mk.injEq] at h
          cases h.2.1
theorem textL_loc (o:Opt) (hst:o.strict=true) (q:Option UInt8) (cd:Bool):∀ (n:Nat) (a z:Bs),a.length ≤ n → ∀ (b0 b1:UInt8) (buf d r:Bs),textL o q cd (a ++ z) b0 b1 buf=.ok (d,r ++ z) → textL o q cd a b0 b1 buf=.ok (d,r):=by
  intro n
  induction n with
  | zero=>
    intro a z hn b0 b1 buf d r h
    have:a=[]:=List.eq_nil_of_length_eq_zero (by omega)
    subst this
    simp only [List.nil_append] at h
    have hr:r=[]:=by
      have:=suf_len (textL_rest h)
      simp at this
      exact List.eq_nil_of_length_eq_zero (by omega)
    subst hr
    simp only [List.nil_append] at h
    cases z with
    | nil=>exact h
    | cons b t=>
      unfold textL at h
      unfold textL
      split at h
      · split at h
        · split at h
          · simp only [Except.ok.injEq,Prod.mk.injEq] at h
            have:=congrArg List.length h.2;simp at this
          · cases h
        · cases h
      · split at h
        · rename_i h1
          split at h
          · split at h
            · rename_i hc
              simp only [Except.ok.injEq,Prod.mk.injEq] at h
              rw [if_neg (by rw [h1.2];simp),if_pos hc,h.1]
            · cases h
          · cases h
        · split at h
          · split at h
            · simp only [Except.ok.injEq,Prod.mk.injEq] at h
              have:=congrArg List.length h.2;simp at this
            · cases h
          · exfalso
            split at h
            · split at h
              · cases h
              · rename_i hr
                have h1:=suf_len (textL_rest h)
                have h2:=suf_len (refL_suf hr)
                simp at h1;omega
              · cases h
            · have h1:=suf_len (textL_rest h)
              simp at h1;omega
  | succ n ih=>
    intro a z hn b0 b1 buf d r h
    cases a with
    | nil=>exact ih [] z (by simp) b0 b1 buf d r h
    | cons b a=>
      have hn':a.length ≤ n:=by simp at hn;omega
      simp only [List.cons_append] at h
      rw [textL.eq_def] at h
      rw [textL.eq_def]
      simp only at h ⊢
      split
      · rename_i h1
        rw [if_pos h1] at h
        split
        · rename_i h2
          rw [if_pos h2] at h
          split
          · rename_i h3
            rw [if_pos h3] at h
            simp only [Except.ok.injEq,Prod.mk.injEq] at h ⊢
            exact ⟨h.1,app_cancel h.2⟩
          · rename_i h3;rw [if_neg h3] at h;cases h
        · rename_i h2;rw [if_neg h2] at h;cases h
      · rename_i h1
        rw [if_neg h1] at h
        split
        · rename_i h2
          rw [if_pos h2] at h
          split
          · rename_i h3
            rw [if_pos h3] at h
            split
            · rename_i h4
              rw [if_pos h4] at h
              simp only [Except.ok.injEq,Prod.mk.injEq] at h ⊢
              exact ⟨h.1,app_cancel (z:=z) (by rw [← h.2];simp)⟩
            · rename_i h4;rw [if_neg h4] at h;cases h
          · rename_i h3;rw [if_neg h3] at h;cases h
        · rename_i h2
          rw [if_neg h2] at h
          split
          · rename_i h3
            rw [if_pos h3] at h
            split
            · rename_i h4
              rw [if_pos h4] at h
              simp only [Except.ok.injEq,Prod.mk.injEq] at h ⊢
              exact ⟨h.1,app_cancel h.2⟩
            · rename_i h4;rw [if_neg h4] at h;cases h
          · rename_i h3
            rw [if_neg h3] at h
            split
            · rename_i h4
              rw [if_pos h4] at h
              split at h
              · cases h
              · rename_i raw t r' hr
                have hl:=suf_len (textL_rest h)
                obtain ⟨q',rfl⟩:=suf_split (refL_suf hr) (by simp at hl;omega)
                have h5:=refL_loc hr
                have h6:=ih q' z (by have:=suf_len (refL_suf h5);omega) _ _ _ _ _ h
                split
                · rename_i h7;rw [h5] at h7;cases h7
                · rename_i h7
                  rw [h5] at h7
                  simp only [Except.ok.injEq,Prod.mk.injEq,Option.some.injEq] at h7
                  obtain ⟨_,rfl,rfl⟩:=h7
                  exact h6
                · rename_i h7
                  rw [h5] at h7
                  simp only [Except.ok.injEq,Prod.mk.injEq] at h7
                  cases h7.2.1
              · rw [if_pos hst] at h;cases h
            · rename_i h4
              rw [if_neg h4] at h
              exact ih a z hn' _ _ _ _ _ h
theorem textL_loc' {o:Opt} (hst:o.strict=true) {q:Option UInt8} {cd:Bool} {a z:Bs} {b0 b1:UInt8} {buf d r:Bs} (h:textL o q cd (a ++ z) b0 b1 buf=.ok (d,r ++ z)):textL o q cd a b0 b1 buf=.ok (d,r):=
  textL_loc o hst q cd a.length a z (Nat.le_refl _) _ _ _ _ _ h
theorem attrvalL_loc {o:Opt} (hst:o.strict=true) {a z d r:Bs} (h:attrvalL o (a ++ z)=.ok (d,r ++ z)):attrvalL o a=.ok (d,r):=by
  cases a with
  | nil=>
    exfalso
    simp only [List.nil_append] at h
    unfold attrvalL at h
    split at h
    · cases h
    · split at h
      · have:=suf_len (textL_rest h);simp at this;omega
      · cases h
  | cons b a=>
    simp only [List.cons_append] at h
    unfold attrvalL at h ⊢
    simp only at h ⊢
    split
    · rename_i h1
      rw [if_pos h1] at h
      exact textL_loc' hst h
    · rename_i h1
      rw [if_neg h1,if_pos hst] at h
      cases h
theorem attrL_loc {o:Opt} (hst:o.strict=true) {a z r:Bs} {t:At3} (h:attrL o (a ++ z)=.ok (t,r ++ z)):attrL o a=.ok (t,r):=by
  have hl0:z.length ≤ (r ++ z).length:=by simp
  unfold attrL at h
  split at h
  · cases h
  · rename_i nm r2 h1
    split at h
    · cases h
    · rename_i b r4 h2
      have s2:=skipWs_suf r2
      rw [h2] at s2
      split at h
      · rename_i hb
        split at h
        · cases h
        · rename_i v r5 h3
          simp only [Except.ok.injEq,Prod.mk.injEq] at h
          obtain ⟨h4,rfl⟩:=h
          have l1:=suf_len (attrvalL_suf h3)
          have l2:=suf_len (skipWs_suf r4)
          have l3:=suf_len s2
          simp only [List.length_cons] at l3
          have sn:=(nsnameL_suf h1).1
          cases r2 with
          | nil=>simp at l3
          | cons x r2=>
            simp only [List.length_cons] at l3
            obtain ⟨q2,rfl,sq2⟩:=suf_split' sn (by omega)
            obtain ⟨q4,rfl⟩:=suf_split (a:=x :: q2) (((List.suffix_cons b r4).trans s2)) (by omega)
            have e1:=nsnameL_loc h1
            have e2:skipWs (x :: q2)=b :: q4:=skipWs_loc (a:=x :: q2) h2
            have l5:z.length ≤ (skipWs (q4 ++ z)).length:=by omega
            obtain ⟨q5,hq5⟩:=suf_split (skipWs_suf (q4 ++ z)) l5
            rw [hq5] at h3
            have e3:=attrvalL_loc hst h3
            have e4:skipWs q4=q5:=by
              cases q5 with
              | nil=>
                exfalso
                unfold attrvalL at e3;cases e3
              | cons y q5=>exact skipWs_loc hq5
            unfold attrL
            rw [e1]
            simp only [e2,if_pos hb,e4,e3]
            rw [h4]
      · cases h
theorem attrsL_fuel {o:Opt}:∀ {k k':Nat} {rest:Bs} {acc:List At3},rest.length < k → rest.length < k' → attrsL o k rest acc=attrsL o k' rest acc
  | 0,_,_,_,h,_=>by omega
  | _ + 1,0,_,_,_,h=>by omega
  | k + 1,k' + 1,rest,acc,h,h'=>by
    unfold attrsL
    cases hs:skipWs rest with
    | nil=>rfl
    | cons b r2=>
      have l1:=suf_len (skipWs_suf rest)
      rw [hs] at l1
      simp only
      split
      · rfl
      · split
        · rfl
        · cases ha:attrL o (b :: r2) with
          | error e=>rfl
          | ok p=>
            obtain ⟨a,r5⟩:=p
            have:=(attrL_suf ha).2
            exact attrsL_fuel (by omega) (by omega)
theorem attrsL_loc {o:Opt} (hst:o.strict=true) {z:Bs}:∀ {k:Nat} {a:Bs} {acc as:List At3} {em:Bool} {r:Bs},attrsL o k (a ++ z) acc=.ok (as,em,r ++ z) → attrsL o k a acc=.ok (as,em,r)
  | 0,_,_,_,_,_,h=>by unfold attrsL at h;cases h
  | k + 1,a,acc,as,em,r,h=>by
    have hl0:z.length ≤ (r ++ z).length:=by simp
    have hh:=h
    unfold attrsL at h
    have s1:=skipWs_suf (a ++ z)
    split at h
    · cases h
    · rename_i b r2 h1
      rw [h1] at s1
      split at h
      · rename_i hb
        split at h
        · cases h
        · rename_i c r3
          split at h
          · rename_i hc
            simp only [Except.ok.injEq,Prod.mk.injEq] at h
            obtain ⟨h2,h3,rfl⟩:=h
            have e1:skipWs (a ++ z)=b :: ((c :: r) ++ z):=h1
            have e2:=skipWs_loc e1
            unfold attrsL
            simp only [e2,if_pos hb,if_pos hc]
            rw [h2,h3]
          · cases h
      · rename_i hb
        split at h
        · rename_i hc
          simp only [Except.ok.injEq,Prod.mk.injEq] at h
          obtain ⟨h2,h3,rfl⟩:=h
          have e2:=skipWs_loc h1
          unfold attrsL
          simp only [e2,if_neg hb,if_pos hc]
          rw [h2,h3]
        · rename_i hc
          split at h
          · cases h
          · rename_i t r5 h3
            have l1:=(attrsL_suf h).1
            have l2:=suf_len l1
            obtain ⟨s3,s4⟩:=attrL_suf h3
            simp only [List.length_cons] at s4
            obtain ⟨q2,hq2⟩:=suf_split ((List.suffix_cons b r2).trans s1) (by omega)
            subst hq2
            have e2:=skipWs_loc h1
            obtain ⟨q5,hq5⟩:=suf_split (a:=b :: q2) s3 (by omega)
            subst hq5
            have e3:attrL o (b :: q2)=.ok (t,q5):=attrL_loc hst (a:=b :: q2) h3
            have e4:=attrsL_loc hst h
            unfold attrsL
            simp only [e2,if_neg hb,if_neg hc,e3,e4]
theorem commentL_loc {f:Bool} {z:Bs}:∀ {a:Bs} {b0 b1:UInt8} {buf d r:Bs},commentL f (a ++ z) b0 b1 buf=.ok (d,r ++ z) → commentL f a b0 b1 buf=.ok (d,r)
  | [],b0,b1,buf,d,r,h=>by
    exfalso
    simp only [List.nil_append] at h
    cases z with
    | nil=>unfold commentL at h;cases h
    | cons b t=>
      unfold commentL at h
      split at h
      · split at h
        · simp only [Except.ok.injEq,Prod.mk.injEq] at h
          have:=congrArg List.length h.2;simp at this;omega
        · cases h
      · have:=suf_len (commentL_suf h);simp at this;omega
  | b :: a,b0,b1,buf,d,r,h=>by
    simp only [List.cons_append,commentL] at h ⊢
    split
    · rename_i h1;rw [if_pos h1] at h
      split
      · rename_i h2;rw [if_pos h2] at h
        simp only [Except.ok.injEq,Prod.mk.injEq] at h ⊢
        exact ⟨h.1,app_cancel h.2⟩
      · rename_i h2;rw [if_neg h2] at h;cases h
    · rename_i h1;rw [if_neg h1] at h
      exact commentL_loc h
theorem procL_loc {f:Bool} {z:Bs}:∀ {a:Bs} {b0:UInt8} {buf d r:Bs},procL f (a ++ z) b0 buf=.ok (d,r ++ z) → procL f a b0 buf=.ok (d,r)
  | [],b0,buf,d,r,h=>by
    exfalso
    simp only [List.nil_append] at h
    cases z with
    | nil=>unfold procL at h;cases h
    | cons b t=>
      unfold procL at h
      split at h
      · simp only [Except.ok.injEq,Prod.mk.injEq] at h
        have:=congrArg List.length h.2;simp at this;omega
      · have:=suf_len (procL_suf h);simp at this;omega
  | b :: a,b0,buf,d,r,h=>by
    simp only [List.cons_append,procL] at h ⊢
    split
    · rename_i h1;rw [if_pos h1] at h
      simp only [Except.ok.injEq,Prod.mk.injEq] at h ⊢
      exact ⟨h.1,app_cancel h.2⟩
    · rename_i h1;rw [if_neg h1] at h
      exact procL_loc h
theorem skipComL_loc {f:Bool} {z:Bs}:∀ {a:Bs} {b0 b1:UInt8} {r:Bs},skipComL f (a ++ z) b0 b1=.ok (r ++ z) → skipComL f a b0 b1=.ok r
  | [],b0,b1,r,h=>by
    exfalso
    simp only [List.nil_append] at h
    have:=skipComL_len h
    simp at this;omega
  | b :: a,b0,b1,r,h=>by
    simp only [List.cons_append,skipComL] at h ⊢
    split
    · rename_i h1;rw [if_pos h1] at h
      simp only [Except.ok.injEq] at h ⊢
      exact app_cancel h
    · rename_i h1;rw [if_neg h1] at h
      exact skipComL_loc h
theorem dir_lt (f:Bool):∀ n:Nat,∀ rest:Bs,rest.length ≤ n → ∀ (inq:UInt8) (dp:Int) (buf d r:Bs),dirL f rest inq dp buf=.ok (d,r) → r.length < rest.length:=by
  intro n rest hn inq dp buf d r h
  unfold dirL at h
  split at h
  · cases h
  · rename_i b t
    split at h
    · simp only [Except.ok.injEq,Prod.mk.injEq] at h;rw [← h.2];simp
    · have:=suf_len ((dir_suf f t.length).2 t (Nat.le_refl _) _ _ _ _ _ _ h)
      simp;omega
theorem dirB_lt {f:Bool} {rest:Bs} {b inq:UInt8} {dp:Int} {buf d r:Bs} (h:dirB f b rest inq dp buf=.ok (d,r)):r.length < rest.length:=by
  have hL:∀ {rest inq dp buf},dirL f rest inq dp buf=.ok (d,r) → r.length < rest.length:=fun h=>dir_lt f _ _ (Nat.le_refl _) _ _ _ _ _ h
  have hB:∀ {rest b inq dp buf},dirB f b rest inq dp buf=.ok (d,r) → r.length ≤ rest.length:=fun h=>suf_len ((dir_suf f _).2 _ (Nat.le_refl _) _ _ _ _ _ _ h)
  unfold dirB at h
  split at h
  · exact hL h
  · split at h
    · exact hL h
    · split at h
      · exact hL h
      · split at h
        · exact hL h
        · split at h
          · split at h
            · cases h
            · split at h
              · split at h
                · cases h
                · split at h
                  · split at h
                    · cases h
                    · split at h
                      · split at h
                        · cases h
                        · rename_i hk
                          have h1:=hL h
                          have h2:=skipComL_len hk
                          simp;omega
                      · have:=hB h;simp;omega
                  · have:=hB h;simp;omega
              · have:=hB h;simp;omega
          · exact hL h
theorem dir_loc (f:Bool) (z:Bs):∀ n:Nat,(∀ a:Bs,a.length ≤ n → ∀ (inq:UInt8) (dp:Int) (buf d r:Bs),dirL f (a ++ z) inq dp buf=.ok (d,r ++ z) → dirL f a inq dp buf=.ok (d,r)) ∧
    (∀ a:Bs,a.length ≤ n → ∀ (b inq:UInt8) (dp:Int) (buf d r:Bs),dirB f b (a ++ z) inq dp buf=.ok (d,r ++ z) → dirB f b a inq dp buf=.ok (d,r)):=by
  intro n
  induction n with
  | zero=>
    refine ⟨?_,?_⟩
    · intro a hn inq dp buf d r h
      have:a=[]:=List.eq_nil_of_length_eq_zero (by omega)
      subst this
      simp only [List.nil_append] at h
      have:=dir_lt f _ _ (Nat.le_refl _) _ _ _ _ _ h
      simp at this;omega
    · intro a hn b inq dp buf d r h
      have:a=[]:=List.eq_nil_of_length_eq_zero (by omega)
      subst this
      simp only [List.nil_append] at h
      have:=dirB_lt h
      simp at this;omega
  | succ n ih=>
    obtain ⟨ih1,ih2⟩:=ih
    have hL:∀ a:Bs,a.length ≤ n + 1 → ∀ (inq:UInt8) (dp:Int) (buf d r:Bs),dirL f (a ++ z) inq dp buf=.ok (d,r ++ z) → dirL f a inq dp buf=.ok (d,r):=by
      intro a hn inq dp buf d r h
      cases a with
      | nil=>exact ih1 [] (by simp) _ _ _ _ _ h
      | cons b a=>
        simp only [List.cons_append] at h
        rw [dirL.eq_def] at h ⊢
        simp only at h ⊢
        split
        · rename_i h1;rw [if_pos h1] at h
          simp only [Except.ok.injEq,Prod.mk.injEq] at h ⊢
          exact ⟨h.1,app_cancel h.2⟩
        · rename_i h1;rw [if_neg h1] at h
          exact ih2 a (by simp at hn;omega) _ _ _ _ _ _ h
    refine ⟨hL,?_⟩
    intro a hn b inq dp buf d r h
    unfold dirB at h
    unfold dirB
    split
    · rename_i h1;rw [if_pos h1] at h;exact hL a hn _ _ _ _ _ h
    · rename_i h1;rw [if_neg h1] at h
      split
      · rename_i h2;rw [if_pos h2] at h;exact hL a hn _ _ _ _ _ h
      · rename_i h2;rw [if_neg h2] at h
        split
        · rename_i h3;rw [if_pos h3] at h;exact hL a hn _ _ _ _ _ h
        · rename_i h3;rw [if_neg h3] at h
          split
          · rename_i h4;rw [if_pos h4] at h;exact hL a hn _ _ _ _ _ h
          · rename_i h4;rw [if_neg h4] at h
            split
            · rename_i h5;rw [if_pos h5] at h
              cases a with
              | nil=>
                exfalso
                have hB:∀ {rest b inq dp buf},dirB f b rest inq dp buf=.ok (d,r ++ z) → (r ++ z).length < rest.length:=fun h=>dirB_lt h
                have hL':∀ {rest inq dp buf},dirL f rest inq dp buf=.ok (d,r ++ z) → (r ++ z).length < rest.length:=fun h=>dir_lt f _ _ (Nat.le_refl _) _ _ _ _ _ h
                simp only [List.nil_append] at h
                split at h
                · cases h
                · split at h
                  · split at h
                    · cases h
                    · split at h
                      · split at h
                        · cases h
                        · split at h
                          · split at h
                            · cases h
                            · rename_i hk
                              have l1:=hL' h
                              have l2:=skipComL_len hk
                              simp at l1 l2;omega
                          · have:=hB h;simp at this;omega
                      · have:=hB h;simp at this;omega
                  · have:=hB h;simp at this;omega
              | cons c1 a=>
                simp only [List.cons_append] at h ⊢
                split
                · rename_i h6;rw [if_pos h6] at h
                  cases a with
                  | nil=>
                    exfalso
                    have hB:∀ {rest b inq dp buf},dirB f b rest inq dp buf=.ok (d,r ++ z) → (r ++ z).length < rest.length:=fun h=>dirB_lt h
                    have hL':∀ {rest inq dp buf},dirL f rest inq dp buf=.ok (d,r ++ z) → (r ++ z).length < rest.length:=fun h=>dir_lt f _ _ (Nat.le_refl _) _ _ _ _ _ h
                    simp only [List.nil_append] at h
                    split at h
                    · cases h
                    · split at h
                      · split at h
                        · cases h
                        · split at h
                          · split at h
                            · cases h
                            · rename_i hk
                              have l1:=hL' h
                              have l2:=skipComL_len hk
                              simp at l1 l2;omega
                          · have:=hB h;simp at this;omega
                      · have:=hB h;simp at this;omega
                  | cons c2 a=>
                    simp only [List.cons_append] at h ⊢
                    split
                    · rename_i h7;rw [if_pos h7] at h
                      cases a with
                      | nil=>
                        exfalso
                        have hB:∀ {rest b inq dp buf},dirB f b rest inq dp buf=.ok (d,r ++ z) → (r ++ z).length < rest.length:=fun h=>dirB_lt h
                        have hL':∀ {rest inq dp buf},dirL f rest inq dp buf=.ok (d,r ++ z) → (r ++ z).length < rest.length:=fun h=>dir_lt f _ _ (Nat.le_refl _) _ _ _ _ _ h
                        simp only [List.nil_append] at h
                        split at h
                        · cases h
                        · split at h
                          · split at h
                            · cases h
                            · rename_i hk
                              have l1:=hL' h
                              have l2:=skipComL_len hk
                              simp at l1 l2;omega
                          · have:=hB h;simp at this;omega
                      | cons c3 a=>
                        simp only [List.cons_append] at h ⊢
                        split
                        · rename_i h8;rw [if_pos h8] at h
                          split at h
                          · cases h
                          · rename_i r4 hk
                            have l1:=dir_lt f _ _ (Nat.le_refl _) _ _ _ _ _ h
                            obtain ⟨q4,rfl⟩:=suf_split (skipComL_suf hk) (by simp at l1;omega)
                            have e1:=skipComL_loc hk
                            have e2:=skipComL_len e1
                            have e3:=hL q4 (by simp at hn;omega) _ _ _ _ _ h
                            split
                            · rename_i h9;rw [e1] at h9;cases h9
                            · rename_i r5 h9
                              rw [e1] at h9
                              simp only [Except.ok.injEq] at h9
                              subst h9
                              exact e3
                        · rename_i h8;rw [if_neg h8] at h
                          exact ih2 a (by simp at hn;omega) _ _ _ _ _ _ h
                    · rename_i h7;rw [if_neg h7] at h
                      exact ih2 a (by simp at hn;omega) _ _ _ _ _ _ h
                · rename_i h6;rw [if_neg h6] at h
                  exact ih2 a (by simp at hn;omega) _ _ _ _ _ _ h
            · rename_i h5;rw [if_neg h5] at h
              exact hL a hn _ _ _ _ _ h
theorem matchL_loc {f:Bool} {z:Bs}:∀ {p a r:Bs},matchL f p (a ++ z)=.ok (r ++ z) → matchL f p a=.ok r
  | [],a,r,h=>by unfold matchL at h ⊢;simp only [Except.ok.injEq] at h ⊢;exact app_cancel h
  | p :: ps,[],r,h=>by
    exfalso
    simp only [List.nil_append] at h
    cases z with
    | nil=>unfold matchL at h;cases h
    | cons b t=>
      unfold matchL at h
      split at h
      · have:=suf_len (matchL_suf h);simp at this;omega
      · cases h
  | p :: ps,b :: a,r,h=>by
    simp only [List.cons_append,matchL] at h ⊢
    split
    · rename_i h1;rw [if_pos h1] at h;exact matchL_loc h
    · rename_i h1;rw [if_neg h1] at h;cases h
end Go.Proofs.YtkjnockljapnbaaGreatDoor
