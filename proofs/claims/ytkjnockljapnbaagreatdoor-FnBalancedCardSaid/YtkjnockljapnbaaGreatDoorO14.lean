/- Part of the proof that laws.FnBalanced returns true for every argument (Tx, Mf, Mg). No condition of its own. -/
import Derived.Test.YtkjnockljapnbaaGreatDoorO13
import Derived.Laws.Cover4
import Derived.Test.YtkjnockljapnbaaGreatDoorO02
set_option linter.all false
set_option maxHeartbeats 8000000
set_option maxRecDepth 100000
namespace Go.Proofs.YtkjnockljapnbaaGreatDoor
open Go Go.RowKit
def refStep (o:Opt) (r buf:Bs):Except EK (Bs × Bs):=
  match refL o.fails o.ents r with
  | .error e=>.error e
  | .ok (_,some t,r')=>.ok (r',buf ++ t)
  | .ok (raw,none,r')=>if o.strict then .error .syn else .ok (r',buf ++ raw)
theorem textL_step (o:Opt) (q:Option UInt8) (r:Bs) (b0 b1:UInt8) (buf:Bs) (h:q ≠ some 38) :
    textL o q false (38 :: r) b0 b1 buf=match refStep o r buf with|.error e=>.error e|.ok (r',buf')=>textL o q false r' 0 0 buf':=by
  rw [textL_ref o q r b0 b1 buf h]
  unfold refStep
  generalize refL o.fails o.ents r=R
  rcases R with e|⟨raw,t,r'⟩
  · rfl
  · cases t with
    | none=>by_cases hs:o.strict=true <;> simp [hs]
    | some t=>rfl
theorem runeBs_len (n:Nat):(runeBs n).length ≤ 4:=by
  rw [runeBs,Array.length_toList,ByteArray.size_data]
  exact encode_size_le _
theorem numRef_t {fails hex:Bool} {pre rest raw t r:Bs} (h:numRef fails hex pre rest=.ok (raw,some t,r)):t.length ≤ 4:=by
  unfold numRef at h
  split at h
  · cases h
  · split at h
    · simp only [Except.ok.injEq,Prod.mk.injEq] at h
      obtain ⟨_,h,_⟩:=h
      split at h
      · cases h
      · simp only [Option.some.injEq] at h
        rw [← h]
        exact runeBs_len _
    · simp at h
theorem numRef_raw {fails hex:Bool} {pre rest raw r:Bs} {t:Option Bs} (hp:1 ≤ pre.length) (h:numRef fails hex pre rest=.ok (raw,t,r)):1 ≤ raw.length:=by
  unfold numRef at h
  split at h
  · cases h
  · split at h <;> (simp only [Except.ok.injEq,Prod.mk.injEq] at h;obtain ⟨h,_⟩:=h;subst h;simp;omega)
theorem stdEnt_len {s t:Bs} (h:stdEnt s=some t):t.length ≤ 4:=by
  unfold stdEnt at h
  repeat' split at h
  all_goals first|(cases h;simp)|cases h
theorem refL_t {fails:Bool} {rest raw t r:Bs} (h:refL fails none rest=.ok (raw,some t,r)):t.length ≤ 4:=by
  unfold refL at h
  split at h
  · cases h
  · split at h
    · split at h
      · cases h
      · split at h
        · split at h
          · cases h
          · exact numRef_t h
        · exact numRef_t h
    · split at h
      · cases h
      · split at h
        · simp only [Except.ok.injEq,Prod.mk.injEq] at h
          obtain ⟨_,h,_⟩:=h
          split at h
          · unfold entL at h
            split at h
            · rename_i hs
              simp only [Option.some.injEq] at h
              subst h
              exact stdEnt_len hs
            · cases h
          · cases h
        · simp at h
theorem refL_raw {fails:Bool} {ents:Option (Bs → Option Bs)} {rest raw r:Bs} {t:Option Bs} (h:refL fails ents rest=.ok (raw,t,r)):1 ≤ raw.length:=by
  unfold refL at h
  split at h
  · cases h
  · split at h
    · split at h
      · cases h
      · split at h
        · split at h
          · cases h
          · exact numRef_raw (by simp) h
        · exact numRef_raw (by simp) h
    · split at h
      · cases h
      · split at h <;> (simp only [Except.ok.injEq,Prod.mk.injEq] at h;obtain ⟨h,_⟩:=h;subst h;simp)
theorem numRef_rawlen {fails hex:Bool} {pre rest raw r:Bs} {t:Option Bs} (h:numRef fails hex pre rest=.ok (raw,t,r)):raw.length + r.length ≤ pre.length + rest.length:=by
  have hs:(spanDig hex rest).1.length + (spanDig hex rest).2.length=rest.length:=by
    generalize rest=l
    induction l with
    | nil=>rfl
    | cons b r ih=>unfold spanDig;split <;> simp <;> omega
  unfold numRef at h
  split at h
  · cases h
  · rename_i b after hb
    rw [hb] at hs
    split at h <;> (simp only [Except.ok.injEq,Prod.mk.injEq] at h;obtain ⟨h,_,h2⟩:=h;subst h;subst h2;simp at hs ⊢;omega)
theorem refL_rawlen {fails:Bool} {ents:Option (Bs → Option Bs)} {rest raw r:Bs} {t:Option Bs} (h:refL fails ents rest=.ok (raw,t,r)):raw.length + r.length ≤ 1 + rest.length:=by
  unfold refL at h
  split at h
  · cases h
  · rename_i c r0
    split at h
    · split at h
      · cases h
      · split at h
        · split at h
          · cases h
          · have:=numRef_rawlen h;simp at this ⊢;omega
        · have:=numRef_rawlen h;simp at this ⊢;omega
    · have hs:=spanName_sum (c :: r0)
      split at h
      · cases h
      · rename_i b after hb
        rw [hb] at hs
        split at h <;> (simp only [Except.ok.injEq,Prod.mk.injEq] at h;obtain ⟨h,_,h2⟩:=h;subst h;subst h2;simp at hs ⊢;omega)
structure RefFin (x:Cx) (c:DC) (w:World) (v:DV) (qv cv:Value) (Q:Exit → Act → World → Prop) (res:Except EK (Bs × Bs)):Prop where
  ok:∀ r' buf',res=.ok (r',buf') → ∀ f w' v',RdS x c w' v' r' none buf' → Stp x w v w' v' → NonNil v' → Q (.exit 1) (fr 381 f [(0,decP x),(1,qv),(2,cv),(7,.int .u8 0),(8,.int .u8 0),(9,.int .i64 0)]) w'
  bad:∀ k,res=.error k → ∀ f w' v',ErrS x c w' v' k → Stp x w v w' v' → Q .ret (fr 381 f [(6,.slice none 0 0)]) w'
theorem textRef (x:Cx) (hx:x.All) (c:DC) (hdc:DcOk x c) (hent:c.ent=.map none) (hents:x.o.ents=none) (w:World) (v:DV) (r buf:Bs) (h:RdS x c w v r none buf) (hsuf:(38 :: r) <:+ x.T) (hl:buf.length ≤ 9000000000000)
    (qv cv:Value) (Q:Exit → Act → World → Prop) (hQ:RefFin x c w v qv cv Q (refStep x.o r buf)) (f:Nat → Value) :
    (txCode 22).wp Tryz.prog Q (fr 381 f [(0,decP x),(1,qv),(2,cv),(9,.int .i64 0)]) w:=by
  have hlen:=Lib.hid (len_c x c w v r none _ h)
  have hwb:=Lib.hid (fun (k:Nat)=>writeByte_c x hx.toOk c (w.drewN k) v r none _ (h.drewN hx.toOk k) 38 (by omega))
  have HX:=Lib.hid hx
  have HD:=Lib.hid hdc
  have HQ:=Lib.hid hQ
  have HENT:=Lib.hid hent
  have HENTS:=Lib.hid hents
  have HSUF:=Lib.hid hsuf
  have HL:=Lib.hid hl
  have HRL:=Lib.hid (show r.length ≤ 1000000000 by have h1:=hsuf.length_le;have h2:=hx.len;simp at h1;omega)
  clear hQ h hsuf hx hdc hent hents hl
  unfold txCode
  conv=>arg 2;whnf
  (repeat (first|(with_reducible first|refine zA fun K hK=>?_|refine zB ?_|refine zC ?_)|((with_reducible first|refine zD rfl fun K hK=>?_|refine zE fun K hK=>?_);go_simp)|(with_reducible first|((repeat ((fail_if_success refine hK _ _ ?_);clear hK K));refine hK _ _ ?_;clear hK K)|refine zt ?_|refine zf ?_|refine zG ?_|refine zR ?_|refine zK ?_|refine zL ?_|refine zN ?_|refine zS ?_)|simp only [Exit.then,Exit.inBlock,Exit.noGoto,↓reduceIte,Nat.reduceEqDiff]|simp only [undef,reduceCtorEq,↓reduceIte]))
  refine hlen.out.mono ?_
  rintro e0 w0 ⟨rfl,k0,rfl⟩
  go_simp
  (repeat (first|(with_reducible first|refine zA fun K hK=>?_|refine zB ?_|refine zC ?_)|((with_reducible first|refine zD rfl fun K hK=>?_|refine zE fun K hK=>?_);go_simp)|(with_reducible first|((repeat ((fail_if_success refine hK _ _ ?_);clear hK K));refine hK _ _ ?_;clear hK K)|refine zt ?_|refine zf ?_|refine zG ?_|refine zR ?_|refine zK ?_|refine zL ?_|refine zN ?_|refine zS ?_)|simp only [Exit.then,Exit.inBlock,Exit.noGoto,↓reduceIte,Nat.reduceEqDiff]|simp only [undef,reduceCtorEq,↓reduceIte]))
  refine (hwb.out k0).mono ?_
  rintro e1 w1 ⟨rfl,v1,h1,_,hs1⟩
  have H1:=Lib.hid h1
  have HS1:=Lib.hid ((Stp.drewN k0).trans hs1)
  clear h1 hs1 hwb
  go_simp
  (repeat (first|(with_reducible first|refine zA fun K hK=>?_|refine zB ?_|refine zC ?_)|((with_reducible first|refine zD rfl fun K hK=>?_|refine zE fun K hK=>?_);go_simp)|(with_reducible first|((repeat ((fail_if_success refine hK _ _ ?_);clear hK K));refine hK _ _ ?_;clear hK K)|refine zt ?_|refine zf ?_|refine zG ?_|refine zR ?_|refine zK ?_|refine zL ?_|refine zN ?_|refine zS ?_)|simp only [Exit.then,Exit.inBlock,Exit.noGoto,↓reduceIte,Nat.reduceEqDiff]|simp only [undef,reduceCtorEq,↓reduceIte]))
  cases r with
  | nil=>
    have hmg:=Lib.hid (mustgetc_none x HX.out.toOk c HD.out w1 v1 none _ H1.out)
    refine hmg.out.mono ?_
    rintro e3 w3 ⟨rfl,v6,h6,hb6,hm6⟩
    have HS6:=Lib.hid (HS1.out.s0 hm6 hb6)
    have H6:=Lib.hid h6
    clear h6 hb6 hm6 hmg
    go_simp
    (repeat (first|(with_reducible first|refine zA fun K hK=>?_|refine zB ?_|refine zC ?_)|((with_reducible first|refine zD rfl fun K hK=>?_|refine zE fun K hK=>?_);go_simp)|(with_reducible first|((repeat ((fail_if_success refine hK _ _ ?_);clear hK K));refine hK _ _ ?_;clear hK K)|refine zt ?_|refine zf ?_|refine zG ?_|refine zR ?_|refine zK ?_|refine zL ?_|refine zN ?_|refine zS ?_)|simp only [Exit.then,Exit.inBlock,Exit.noGoto,↓reduceIte,Nat.reduceEqDiff]|simp only [undef,reduceCtorEq,↓reduceIte]))
    refine Q_keep [6] (fun f=>?_);simp only [keep_cons,keep_nil,lk_cons,lk_nil,Nat.reduceEqDiff,↓reduceIte]
    exact HQ.out.bad _ rfl f w3 v6 H6.out HS6.out
  | cons b r2=>
    have hmg:=Lib.hid (mustgetc_some x HX.out.toOk c HD.out w1 v1 b r2 none _ H1.out)
    refine hmg.out.mono ?_
    rintro e3 w3 ⟨rfl,v6,h6,hn6,hb6,hm6,_⟩
    have HS6:=Lib.hid (HS1.out.s0 hm6 hb6)
    have H6:=Lib.hid h6
    have HN6:=Lib.hid hn6
    clear h6 hb6 hm6 hmg hn6
    have HT:=Lib.hid (show ∀ K:Act → World → Prop,(∀ a w,(txCode 75).wp Tryz.prog Q a w → K a w) → RefOut x c w3 v6 qv cv buf (Exit.then K Q) (refL x.o.fails none (b :: r2)) from fun K hK=>⟨fun raw t r' hres f w' v' hr hs hnn=>by
        show K _ _
        refine hK _ _ ?_
        have hraw:=refL_raw hres
        have hrl:=refL_rawlen hres
        have hst:=HD.out.strict
        have hl2:=HL.out
        have hrl2:=HRL.out
        simp only [List.length_cons] at hrl hrl2
        cases t with
        | some t=>
          have ht:=refL_t hres
          refine textTail_have x HX.out.toFit c w' v' r' buf raw t hr hnn (by omega) (by omega) qv cv Q ⟨fun f w2 v2 r2' b2 h2 hs2 hn2 hg=>?_,fun hF=>hF.elim⟩ f
          obtain ⟨rfl,rfl⟩:=hg
          exact HQ.out.ok _ _ (by unfold refStep;rw [HENTS.out,hres]) f w2 v2 h2 ((HS6.out.trans hs).trans hs2) hn2
        | none=>
          by_cases hs0:x.o.strict=true
          · refine textTail_bad x HX.out.toFit c (hst.trans hs0) w' v' r' buf raw hr hraw (by rw [List.length_append];omega) qv cv (strV []) Q (fun _ _=>False) ⟨fun f w2 v2 r2' b2 h2 hs2 hn2 hg=>hg.elim,fun _ f w2 v2 he hs2=>?_⟩ f
            exact HQ.out.bad .syn (by unfold refStep;rw [HENTS.out,hres];simp [hs0]) f w2 v2 he ((HS6.out.trans hs).trans hs2)
          · refine textTail_loose x c (by rw [hst];simpa using hs0) w' v' r' (buf ++ raw) hr hnn qv cv (strV []) Q ⟨fun f w2 v2 r2' b2 h2 hs2 hn2 hg=>?_,fun hF=>hF.elim⟩ _ f
            obtain ⟨rfl,rfl⟩:=hg
            exact HQ.out.ok _ _ (by unfold refStep;rw [HENTS.out,hres];simp [hs0]) f w2 v2 h2 ((HS6.out.trans hs).trans hs2) hn2,
      fun k hres f w' v' he hs=>HQ.out.bad k (by unfold refStep;rw [HENTS.out,hres]) f w' v' he (HS6.out.trans hs)⟩)
    by_cases hb:b=35
    · subst hb
      go_simp
      (repeat ((fail_if_success with_reducible refine wp_stop 31 ?_);(fail_if_success with_reducible refine wp_stop2 31 ?_);(first|(with_reducible first|refine zA fun K hK=>?_|refine zB ?_|refine zC ?_)|((with_reducible first|refine zD rfl fun K hK=>?_|refine zE fun K hK=>?_);go_simp)|(with_reducible first|((repeat ((fail_if_success refine hK _ _ ?_);clear hK K));refine hK _ _ ?_;clear hK K)|refine zt ?_|refine zf ?_|refine zG ?_|refine zR ?_|refine zK ?_|refine zL ?_|refine zN ?_|refine zS ?_)|simp only [Exit.then,Exit.inBlock,Exit.noGoto,↓reduceIte,Nat.reduceEqDiff]|simp only [undef,reduceCtorEq,↓reduceIte])))
      (refine wp_keep [0,1,2,9,10,12,14,15] (fun f=>?_);simp only [keep_cons,keep_nil,lk_cons,lk_nil,Nat.reduceEqDiff,↓reduceIte])
      refine wp_code (numHead x HX.out c HD.out w3 v6 r2 buf H6.out ((List.suffix_cons _ _).trans HSUF.out) (by have:=HL.out;omega) qv cv _ none (HT.out _ (fun a w h=>?_)) f) (by kernel_rfl)
      exact hK _ _ (wp_code h (by kernel_rfl))
    · have hb1:=u8ne hb (n:=35) rfl
      have HB:=Lib.hid hb
      clear hb
      go_simp
      (repeat ((fail_if_success with_reducible refine wp_stop 56 ?_);(fail_if_success with_reducible refine wp_stop2 56 ?_);(first|(with_reducible first|refine zA fun K hK=>?_|refine zB ?_|refine zC ?_)|((with_reducible first|refine zD rfl fun K hK=>?_|refine zE fun K hK=>?_);go_simp)|(with_reducible first|((repeat ((fail_if_success refine hK _ _ ?_);clear hK K));refine hK _ _ ?_;clear hK K)|refine zt ?_|refine zf ?_|refine zG ?_|refine zR ?_|refine zK ?_|refine zL ?_|refine zN ?_|refine zS ?_)|simp only [Exit.then,Exit.inBlock,Exit.noGoto,↓reduceIte,Nat.reduceEqDiff]|simp only [undef,reduceCtorEq,↓reduceIte])))
      (refine wp_keep [0,1,2,9,10,12,14,15] (fun f=>?_);simp only [keep_cons,keep_nil,lk_cons,lk_nil,Nat.reduceEqDiff,↓reduceIte])
      refine wp_code (nameHead x HX.out c HD.out HENT.out w3 v6 b HB.out r2 buf H6.out HN6.out ((List.suffix_cons _ _).trans HSUF.out) (by have:=HL.out;omega) qv cv _ (HT.out _ (fun a w h=>?_)) f) (by kernel_rfl)
      exact hK _ _ (wp_code h (by kernel_rfl))
end Go.Proofs.YtkjnockljapnbaaGreatDoor
namespace Go.Proofs.YtkjnockljapnbaaGreatDoor
open Go
theorem textL_len {o:Opt} (hno:o.ents=none) (q:Option UInt8) (cd:Bool):∀ (n:Nat) (rest:Bs),rest.length ≤ n → ∀ (b0 b1:UInt8) (buf d r:Bs),textL o q cd rest b0 b1 buf=.ok (d,r) → d.length ≤ buf.length + 8 * rest.length:=by
  intro n
  induction n with
  | zero=>
    intro rest hn b0 b1 buf d r h
    have:rest=[]:=List.eq_nil_of_length_eq_zero (by omega)
    subst this
    unfold textL at h
    split at h
    · cases h
    · split at h
      · simp only [Except.ok.injEq,Prod.mk.injEq] at h;rw [← h.1];omega
      · cases h
  | succ n ih=>
    intro rest hn b0 b1 buf d r h
    cases rest with
    | nil=>
      unfold textL at h
      split at h
      · cases h
      · split at h
        · simp only [Except.ok.injEq,Prod.mk.injEq] at h;rw [← h.1];omega
        · cases h
    | cons b t=>
      have ht:t.length ≤ n:=by simp at hn;omega
      simp only [List.length_cons]
      unfold textL at h
      split at h
      · split at h
        · split at h
          · simp only [Except.ok.injEq,Prod.mk.injEq] at h;rw [← h.1,List.length_take];omega
          · cases h
        · cases h
      · split at h
        · split at h
          · split at h
            · simp only [Except.ok.injEq,Prod.mk.injEq] at h;rw [← h.1];omega
            · cases h
          · cases h
        · split at h
          · split at h
            · simp only [Except.ok.injEq,Prod.mk.injEq] at h;rw [← h.1];omega
            · cases h
          · split at h
            · split at h
              · cases h
              · rename_i hr
                have hs:=suf_len (refL_suf hr)
                rw [hno] at hr
                have h4:=refL_t hr
                have:=ih _ (by omega) _ _ _ _ _ h
                rw [List.length_append] at this;omega
              · rename_i hr
                have hs:=suf_len (refL_suf hr)
                have h4:=refL_rawlen hr
                split at h
                · cases h
                · have:=ih _ (by omega) _ _ _ _ _ h
                  rw [List.length_append] at this;omega
            · have:=ih _ ht _ _ _ _ _ h
              split at this
              · rw [List.length_append] at this;simp at this;omega
              · split at this
                · omega
                · rw [List.length_append] at this;simp at this;omega
theorem splitName_le (s:Bs):(splitName s).1.length ≤ s.length∧(splitName s).2.length ≤ s.length:=by
  unfold splitName
  split
  · simp
  · rename_i b loc h
    have h1:loc.length ≤ s.length:=by
      have h2:=(List.dropWhile_suffix (fun x:UInt8=>x != 58) (l:=s)).length_le
      rw [h] at h2;simp at h2;omega
    have h3:=(List.takeWhile_prefix (fun x:UInt8=>x != 58) (l:=s)).length_le
    split
    · simp
    · exact ⟨h3,h1⟩
theorem nsnameL_le {f:Bool} {l r:Bs} {nm:Bs × Bs} (h:nsnameL f l=.ok (nm,r)):nm.1.length ≤ l.length∧nm.2.length ≤ l.length:=by
  obtain ⟨s,h1,_,rfl⟩:=nsnameL_name h
  obtain ⟨h2,_⟩:=nameL_ok h1
  have h3:=spanName_app l
  rw [h2] at h3
  have h4:s.length ≤ l.length:=by rw [← h3];simp
  have:=splitName_le s
  omega
def AtLe (N:Nat) (a:At3):Prop:=a.1.length ≤ N∧a.2.1.length ≤ N∧a.2.2.length ≤ 8 * N
theorem attrvalL_le {o:Opt} (hno:o.ents=none) {l d r:Bs} (h:attrvalL o l=.ok (d,r)):d.length ≤ 8 * l.length:=by
  unfold attrvalL at h
  split at h
  · cases h
  · rename_i q t
    split at h
    · have:=textL_len hno _ _ t.length t (Nat.le_refl _) _ _ _ _ _ h
      simp at this ⊢;omega
    · split at h
      · cases h
      · split at h
        · cases h
        · simp only [Except.ok.injEq] at h
          have:=spanUnq_app (q :: t)
          rw [h] at this
          have:=congrArg List.length this
          simp at this ⊢;omega
theorem attrL_le {o:Opt} (hno:o.ents=none) {l:Bs} {a:At3} {r:Bs} (h:attrL o l=.ok (a,r)):AtLe l.length a:=by
  unfold attrL at h
  split at h
  · cases h
  · rename_i nm r2 h1
    have hn:=nsnameL_le h1
    have l1:=suf_len (nsnameL_suf h1).1
    have l2:=suf_len (skipWs_suf r2)
    split at h
    · cases h
    · rename_i b r4 h2
      rw [h2] at l2
      simp only [List.length_cons] at l2
      split at h
      · split at h
        · cases h
        · rename_i v r5 h3
          simp only [Except.ok.injEq,Prod.mk.injEq] at h
          obtain ⟨rfl,_⟩:=h
          have h4:=attrvalL_le hno h3
          have l3:=suf_len (skipWs_suf r4)
          exact ⟨hn.1,hn.2,by simp only;omega⟩
      · split at h
        · cases h
        · simp only [Except.ok.injEq,Prod.mk.injEq] at h
          obtain ⟨rfl,_⟩:=h
          exact ⟨hn.1,hn.2,by simp only;omega⟩
theorem AtLe.mono {N M:Nat} {a:At3} (h:AtLe N a) (hm:N ≤ M):AtLe M a:=by
  obtain ⟨h1,h2,h3⟩:=h
  exact ⟨by omega,by omega,by omega⟩
theorem attrsL_le {o:Opt} (hno:o.ents=none) (N:Nat):∀ {k:Nat} {rest:Bs} {acc ats:List At3} {em:Bool} {r:Bs},attrsL o k rest acc=.ok (ats,em,r) → rest.length ≤ N → (∀ a ∈ acc,AtLe N a) → ∀ a ∈ ats,AtLe N a
  | 0,_,_,_,_,_,h,_,_=>by unfold attrsL at h;cases h
  | k + 1,rest,acc,ats,em,r,h,hN,ha=>by
    unfold attrsL at h
    have s1:=suf_len (skipWs_suf rest)
    split at h
    · cases h
    · rename_i b r2 h1
      rw [h1] at s1
      split at h
      · split at h
        · cases h
        · split at h
          · simp only [Except.ok.injEq,Prod.mk.injEq] at h
            rw [← h.1];exact ha
          · cases h
      · split at h
        · simp only [Except.ok.injEq,Prod.mk.injEq] at h
          rw [← h.1];exact ha
        · split at h
          · cases h
          · rename_i a r5 h3
            have h4:=attrL_le hno h3
            have h5:=(attrL_suf h3).2
            refine attrsL_le hno N h (by omega) (fun a' ha'=>?_)
            rcases List.mem_append.1 ha' with h6|h6
            · exact ha a' h6
            · simp at h6;subst h6;exact h4.mono (by omega)
def TkLe (N:Nat):RTok → Prop
  | .start nm ats=>nm.1.length ≤ N∧nm.2.length ≤ N∧(∀ a ∈ ats,AtLe N a)∧ats.length ≤ N
  | .fin nm=>nm.1.length ≤ N∧nm.2.length ≤ N
  | _=>True
theorem rawL_le {o:Opt} (hno:o.ents=none) {s s':St} {t:RTok} {N:Nat} (h:rawL o s=.ok (t,s')) (hN:s.rest.length ≤ N) (hc:∀ nm,s.toClose=some nm → nm.1.length ≤ N∧nm.2.length ≤ N) :
    TkLe N t∧∀ nm,s'.toClose=some nm → nm.1.length ≤ N∧nm.2.length ≤ N:=by
  unfold rawL at h
  split at h
  · cases h
  · split at h
    · rename_i nm hq
      simp only [Except.ok.injEq,Prod.mk.injEq] at h
      obtain ⟨rfl,rfl⟩:=h
      exact ⟨hc nm hq,fun nm h=>by cases h⟩
    · rename_i hq
      have hc':∀ nm,s.toClose=some nm → nm.1.length ≤ N∧nm.2.length ≤ N:=hc
      rw [hq] at hc'
      split at h
      · cases h
      · rename_i b r hr
        rw [hr] at hN
        simp only [List.length_cons] at hN
        split at h
        · split at h
          · cases h
          · simp only [Except.ok.injEq,Prod.mk.injEq] at h
            obtain ⟨rfl,rfl⟩:=h
            exact ⟨trivial,hc⟩
        · split at h
          · cases h
          · rename_i c r2
            simp only [List.length_cons] at hN
            split at h
            · split at h
              · cases h
              · rename_i t1 r3 h3
                simp only [Except.ok.injEq,Prod.mk.injEq] at h
                obtain ⟨rfl,rfl⟩:=h
                refine ⟨?_,hc⟩
                unfold endL at h3
                split at h3
                · cases h3
                · rename_i nm r4 h4
                  have:=nsnameL_le h4
                  split at h3
                  · cases h3
                  · split at h3
                    · simp only [Except.ok.injEq,Prod.mk.injEq] at h3
                      obtain ⟨rfl,_⟩:=h3
                      exact ⟨by omega,by omega⟩
                    · cases h3
            · split at h
              · split at h
                · cases h
                · rename_i t1 r3 h3
                  simp only [Except.ok.injEq,Prod.mk.injEq] at h
                  obtain ⟨rfl,rfl⟩:=h
                  obtain ⟨_,x,y,rfl⟩:=piL_suf h3
                  exact ⟨trivial,hc⟩
              · split at h
                · split at h
                  · cases h
                  · rename_i t1 r3 h3
                    simp only [Except.ok.injEq,Prod.mk.injEq] at h
                    obtain ⟨rfl,rfl⟩:=h
                    obtain ⟨_,hk⟩:=bangL_suf h3
                    exact ⟨by rcases hk with ⟨d,rfl⟩|⟨d,rfl⟩|⟨d,rfl⟩ <;> trivial,hc⟩
                · split at h
                  · cases h
                  · rename_i nm ats em r3 h3
                    simp only [Except.ok.injEq,Prod.mk.injEq] at h
                    obtain ⟨rfl,rfl⟩:=h
                    have hsl:=(startL_suf h3).2
                    simp only [List.length_cons] at hsl
                    unfold startL at h3
                    split at h3
                    · cases h3
                    · rename_i nm2 r4 h4
                      have h5:=nsnameL_le h4
                      have h6:=(nsnameL_suf h4).2
                      simp only [List.length_cons] at h5 h6
                      split at h3
                      · cases h3
                      · rename_i ats2 em2 r5 h7
                        simp only [Except.ok.injEq,Prod.mk.injEq] at h3
                        obtain ⟨⟨rfl,rfl⟩,rfl,rfl⟩:=h3
                        have h8:=attrsL_le hno N h7 (by omega) (fun a h=>by cases h)
                        refine ⟨⟨by omega,by omega,h8,by omega⟩,fun nm' h=>?_⟩
                        cases em2
                        · cases h
                        · simp at h;subst h;exact ⟨by omega,by omega⟩
end Go.Proofs.YtkjnockljapnbaaGreatDoor
namespace Go.Proofs.YtkjnockljapnbaaGreatDoor
open Go
theorem mustE_no (f:Bool):mustE f ≠ .other:=by unfold mustE;split <;> decide
theorem endE_no (f:Bool):endE f ≠ .other:=by unfold endE;split <;> decide
abbrev NoO {α:Type} (r:Except EK α):Prop:=r ≠ .error .other
theorem noO_must {α:Type} (f:Bool):NoO (.error (mustE f):Except EK α):=fun h=>mustE_no f (by simpa using h)
theorem noO_syn {α:Type}:NoO (.error .syn:Except EK α):=fun h=>by cases h
theorem noO_ok {α:Type} (a:α):NoO (.ok a:Except EK α):=fun h=>by cases h
theorem numRef_no (f hex:Bool) (p r:Bs):NoO (numRef f hex p r):=by
  unfold numRef
  split
  · (first|exact noO_must _|exact noO_syn|exact noO_ok _)
  · split <;> (first|exact noO_must _|exact noO_syn|exact noO_ok _)
theorem refL_no (f:Bool) (en:Option (Bs → Option Bs)) (r:Bs):NoO (refL f en r):=by
  unfold refL
  split
  · (first|exact noO_must _|exact noO_syn|exact noO_ok _)
  · split
    · split
      · (first|exact noO_must _|exact noO_syn|exact noO_ok _)
      · split
        · split
          · (first|exact noO_must _|exact noO_syn|exact noO_ok _)
          · exact numRef_no _ _ _ _
        · exact numRef_no _ _ _ _
    · split
      · (first|exact noO_must _|exact noO_syn|exact noO_ok _)
      · split <;> (first|exact noO_must _|exact noO_syn|exact noO_ok _)
theorem textL_no (o:Opt) (q:Option UInt8) (cd:Bool):∀ (n:Nat) (rest:Bs),rest.length ≤ n → ∀ (b0 b1:UInt8) (buf:Bs),NoO (textL o q cd rest b0 b1 buf):=by
  intro n
  induction n with
  | zero=>
    intro rest hn b0 b1 buf
    have:rest=[]:=List.eq_nil_of_length_eq_zero (by omega)
    subst this
    unfold textL
    split
    · (first|exact noO_must _|exact noO_syn|exact noO_ok _)
    · split <;> (first|exact noO_must _|exact noO_syn|exact noO_ok _)
  | succ n ih=>
    intro rest hn b0 b1 buf
    cases rest with
    | nil=>
      unfold textL
      split
      · (first|exact noO_must _|exact noO_syn|exact noO_ok _)
      · split <;> (first|exact noO_must _|exact noO_syn|exact noO_ok _)
    | cons b t=>
      have ht:t.length ≤ n:=by simp at hn;omega
      unfold textL
      split
      · split
        · split <;> (first|exact noO_must _|exact noO_syn|exact noO_ok _)
        · (first|exact noO_must _|exact noO_syn|exact noO_ok _)
      · split
        · split
          · split <;> (first|exact noO_must _|exact noO_syn|exact noO_ok _)
          · (first|exact noO_must _|exact noO_syn|exact noO_ok _)
        · split
          · split <;> (first|exact noO_must _|exact noO_syn|exact noO_ok _)
          · split
            · split
              · rename_i e he
                intro h
                simp only [Except.error.injEq] at h
                subst h
                exact refL_no _ _ _ he
              · rename_i he
                have:=refL_len he
                exact ih _ (by omega) _ _ _
              · rename_i he
                have:=refL_len he
                split
                · (first|exact noO_must _|exact noO_syn|exact noO_ok _)
                · exact ih _ (by omega) _ _ _
            · exact ih _ ht _ _ _
theorem nameL_no (f:Bool) (r:Bs):NoO (nameL f r):=by
  unfold nameL
  split
  · (first|exact noO_must _|exact noO_syn|exact noO_ok _)
  · split
    · (first|exact noO_must _|exact noO_syn|exact noO_ok _)
    · split <;> (first|exact noO_must _|exact noO_syn|exact noO_ok _)
theorem err_no {α β:Type} {r:Except EK α} {e:EK} (h:NoO r) (he:r=.error e):NoO (.error e:Except EK β):=by
  intro hh
  simp only [Except.error.injEq] at hh
  subst hh
  exact h he
theorem nsnameL_no (f:Bool) (r:Bs):NoO (nsnameL f r):=by
  unfold nsnameL
  split
  · rename_i he;exact err_no (nameL_no _ _) he
  · split <;> (first|exact noO_must _|exact noO_syn|exact noO_ok _)
theorem attrvalL_no (o:Opt) (r:Bs):NoO (attrvalL o r):=by
  unfold attrvalL
  split
  · (first|exact noO_must _|exact noO_syn|exact noO_ok _)
  · split
    · exact textL_no _ _ _ _ _ (Nat.le_refl _) _ _ _
    · split
      · (first|exact noO_must _|exact noO_syn|exact noO_ok _)
      · split <;> (first|exact noO_must _|exact noO_syn|exact noO_ok _)
theorem attrL_no (o:Opt) (r:Bs):NoO (attrL o r):=by
  unfold attrL
  split
  · rename_i he;exact err_no (nsnameL_no _ _) he
  · split
    · (first|exact noO_must _|exact noO_syn|exact noO_ok _)
    · split
      · split
        · rename_i he;exact err_no (attrvalL_no _ _) he
        · (first|exact noO_must _|exact noO_syn|exact noO_ok _)
      · split <;> (first|exact noO_must _|exact noO_syn|exact noO_ok _)
theorem attrL_lt {o:Opt} {r r':Bs} {a:At3} (h:attrL o r=.ok (a,r')):r'.length < r.length:=(attrL_suf h).2
theorem attrsL_no (o:Opt):∀ (k:Nat) (rest:Bs) (acc:List At3),rest.length < k → NoO (attrsL o k rest acc)
  | 0,_,_,h=>by omega
  | k + 1,rest,acc,h=>by
    unfold attrsL
    split
    · (first|exact noO_must _|exact noO_syn|exact noO_ok _)
    · rename_i b r2 hs
      split
      · split
        · (first|exact noO_must _|exact noO_syn|exact noO_ok _)
        · split <;> (first|exact noO_must _|exact noO_syn|exact noO_ok _)
      · split
        · (first|exact noO_must _|exact noO_syn|exact noO_ok _)
        · split
          · rename_i he;exact err_no (attrL_no _ _) he
          · rename_i a r5 he
            have h1:=attrL_lt he
            have h2:(skipWs rest).length ≤ rest.length:=(skipWs_suf rest).length_le
            rw [hs] at h2
            exact attrsL_no o k r5 _ (by omega)
theorem startL_no (o:Opt) (r:Bs):NoO (startL o r):=by
  unfold startL
  split
  · rename_i he;exact err_no (nsnameL_no _ _) he
  · split
    · rename_i he;exact err_no (attrsL_no _ _ _ _ (Nat.lt_succ_self _)) he
    · (first|exact noO_must _|exact noO_syn|exact noO_ok _)
theorem endL_no (o:Opt) (r:Bs):NoO (endL o r):=by
  unfold endL
  split
  · rename_i he;exact err_no (nsnameL_no _ _) he
  · split
    · (first|exact noO_must _|exact noO_syn|exact noO_ok _)
    · split <;> (first|exact noO_must _|exact noO_syn|exact noO_ok _)
theorem commentL_no (f:Bool):∀ (r:Bs) (b0 b1:UInt8) (buf:Bs),NoO (commentL f r b0 b1 buf)
  | [],_,_,_=>by unfold commentL;(first|exact noO_must _|exact noO_syn|exact noO_ok _)
  | b :: r,b0,b1,buf=>by
    unfold commentL
    split
    · split <;> (first|exact noO_must _|exact noO_syn|exact noO_ok _)
    · exact commentL_no f r _ _ _
theorem skipComL_no (f:Bool):∀ (r:Bs) (b0 b1:UInt8),NoO (skipComL f r b0 b1)
  | [],_,_=>by unfold skipComL;(first|exact noO_must _|exact noO_syn|exact noO_ok _)
  | b :: r,b0,b1=>by
    unfold skipComL
    split
    · (first|exact noO_must _|exact noO_syn|exact noO_ok _)
    · exact skipComL_no f r _ _
theorem dir_no (f:Bool):∀ (n:Nat),(∀ (r:Bs),r.length ≤ n → ∀ (b inq:UInt8) (d:Int) (buf:Bs),NoO (dirB f b r inq d buf))∧(∀ (r:Bs),r.length ≤ n → ∀ (inq:UInt8) (d:Int) (buf:Bs),NoO (dirL f r inq d buf)):=by
  intro n
  induction n with
  | zero=>
    have hl:∀ (r:Bs),r.length ≤ 0 → ∀ (inq:UInt8) (d:Int) (buf:Bs),NoO (dirL f r inq d buf):=by
      intro r hr inq d buf
      have:r=[]:=List.eq_nil_of_length_eq_zero (by omega)
      subst this
      unfold dirL;(first|exact noO_must _|exact noO_syn|exact noO_ok _)
    refine ⟨fun r hr b inq d buf=>?_,hl⟩
    have:r=[]:=List.eq_nil_of_length_eq_zero (by omega)
    subst this
    unfold dirB
    repeat' split
    all_goals first|(first|exact noO_must _|exact noO_syn|exact noO_ok _)|contradiction|exact hl _ (by simp) _ _ _
  | succ n ih=>
    have hl:∀ (r:Bs),r.length ≤ n + 1 → ∀ (inq:UInt8) (d:Int) (buf:Bs),NoO (dirL f r inq d buf):=by
      intro r hr inq d buf
      cases r with
      | nil=>unfold dirL;(first|exact noO_must _|exact noO_syn|exact noO_ok _)
      | cons b r=>
        unfold dirL
        split
        · (first|exact noO_must _|exact noO_syn|exact noO_ok _)
        · exact ih.1 _ (by simp at hr;omega) _ _ _ _
    refine ⟨fun r hr b inq d buf=>?_,hl⟩
    unfold dirB
    split
    · exact hl _ hr _ _ _
    · split
      · exact hl _ hr _ _ _
      · split
        · exact hl _ hr _ _ _
        · split
          · exact hl _ hr _ _ _
          · split
            · split
              · (first|exact noO_must _|exact noO_syn|exact noO_ok _)
              · simp only [List.length_cons] at hr
                split
                · split
                  · (first|exact noO_must _|exact noO_syn|exact noO_ok _)
                  · simp only [List.length_cons] at hr
                    split
                    · split
                      · (first|exact noO_must _|exact noO_syn|exact noO_ok _)
                      · simp only [List.length_cons] at hr
                        split
                        · split
                          · rename_i he;exact err_no (skipComL_no _ _ _ _) he
                          · rename_i he
                            have:=skipComL_len he
                            exact ih.2 _ (by omega) _ _ _
                        · exact ih.1 _ (by omega) _ _ _ _
                    · exact ih.1 _ (by omega) _ _ _ _
                · exact ih.1 _ (by omega) _ _ _ _
            · exact hl _ hr _ _ _
theorem matchL_no (f:Bool):∀ (p r:Bs),NoO (matchL f p r)
  | [],_=>by unfold matchL;(first|exact noO_must _|exact noO_syn|exact noO_ok _)
  | _ :: _,[]=>by unfold matchL;(first|exact noO_must _|exact noO_syn|exact noO_ok _)
  | p :: ps,b :: r=>by
    unfold matchL
    split
    · exact matchL_no f ps r
    · (first|exact noO_must _|exact noO_syn|exact noO_ok _)
theorem bangL_no (o:Opt) (r:Bs):NoO (bangL o r):=by
  unfold bangL
  split
  · (first|exact noO_must _|exact noO_syn|exact noO_ok _)
  · split
    · split
      · (first|exact noO_must _|exact noO_syn|exact noO_ok _)
      · split
        · split
          · rename_i he;exact err_no (commentL_no _ _ _ _ _) he
          · (first|exact noO_must _|exact noO_syn|exact noO_ok _)
        · (first|exact noO_must _|exact noO_syn|exact noO_ok _)
    · split
      · split
        · rename_i he;exact err_no (matchL_no _ _ _) he
        · split
          · rename_i he;exact err_no (textL_no _ _ _ _ _ (Nat.le_refl _) _ _ _) he
          · (first|exact noO_must _|exact noO_syn|exact noO_ok _)
      · split
        · rename_i he;exact err_no ((dir_no _ _).2 _ (Nat.le_refl _) _ _ _) he
        · (first|exact noO_must _|exact noO_syn|exact noO_ok _)
end Go.Proofs.YtkjnockljapnbaaGreatDoor
