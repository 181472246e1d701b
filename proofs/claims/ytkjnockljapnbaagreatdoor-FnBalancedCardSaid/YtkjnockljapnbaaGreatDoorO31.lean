/- Part of the proof that laws.FnBalanced returns true for every argument (Wp, Wq). No condition of its own. -/
import Derived.Test.YtkjnockljapnbaaGreatDoorO26
import Derived.Test.YtkjnockljapnbaaGreatDoorO30
set_option linter.all false
set_option maxHeartbeats 8000000
set_option maxRecDepth 100000
namespace Go.Proofs.YtkjnockljapnbaaGreatDoor
open Go Go.RowKit
structure RdTS (x:Cx) (c:DC) (w:World) (v:DV) (s:St):Prop where
  rd:∃ e b,RdS x c w v s.rest e b∧(s.ended=true → e ≠ none)∧(e ≠ none → s.toClose=none)
  nc:c.needClose=s.toClose.isSome
  tc:∀ nm,s.toClose=some nm → c.tcs=⟨nm.1.toArray⟩∧c.tcl=⟨nm.2.toArray⟩
  nb:v.nb ≠ 10
def SameC (c c':DC):Prop:=∃ b p q,c'={ c with needClose:=b,tcs:=p,tcl:=q }
theorem SameC.refl (c:DC):SameC c c:=⟨c.needClose,c.tcs,c.tcl,rfl⟩
theorem SameC.trans {a b c:DC} (h:SameC a b) (k:SameC b c):SameC a c:=by
  obtain ⟨_,_,_,rfl⟩:=h
  obtain ⟨b,p,q,rfl⟩:=k
  exact ⟨b,p,q,rfl⟩
def RawTokPost (x:Cx) (c:DC) (w:World) (v:DV) (s:St) (t e:Value) (w':World):Prop:=
  match rawL x.o s with
  | .error k=>∃ v',Stp x w v w' v'∧t=.nilIface∧e=v'.err∧ErrS x c w' v' k∧OthAt w' e k
  | .ok (tk,s')=>∃ v' c',Stp x w v w' v'∧e=.nilIface∧SameC c c'∧RdTS x c' w' v' s'∧TokAt w' v'.bufv w.heap.size t tk∧((∀ d,tk ≠ .text d) → s'.ended=false∧∃ b,RdS x c' w' v' s'.rest none b)
theorem RawPostO.tok {x:Cx} {c:DC} {w0 w:World} {v0 v:DV} {s:St} {R:Except EK (RTok × Bs)} {t e:Value} {w':World} (hs:Stp x w0 v0 w v) (hnc:c.needClose=false) (htc:s.toClose=none) (hsz:w0.heap.size ≤ w.heap.size)
    (hr:rawL x.o s=match R with|.error e=>.error e|.ok (t,r)=>.ok (t,{ s with rest:=r })) (hen:s.ended=false) (h:RawPostO x c w v R t e w'):RawTokPost x c w0 v0 s t e w':=by
  obtain ⟨⟨v',hs',hp⟩,ho⟩:=h
  unfold RawTokPost
  rw [hr]
  cases R with
  | error k=>exact ⟨v',hs.trans hs',hp.1,hp.2.1,hp.2.2,ho k rfl⟩
  | ok p=>
    obtain ⟨tk,r⟩:=p
    obtain ⟨he,e',b,hR,ht,hfin,hnb⟩:=hp
    refine ⟨v',c,hs.trans hs',he,SameC.refl c,⟨⟨e',b,hR,fun h=>(by rw [hen] at h;cases h),fun _=>htc⟩,by rw [hnc,htc];rfl,fun nm h=>(by rw [htc] at h;cases h),by rw [hnb];decide⟩,?_⟩
    cases tk with
    | start nm ats=>
      refine ⟨?_,fun _=>?_⟩
      · obtain ⟨sv,h1,h2,h3⟩:=ht
        refine ⟨sv,h1,h2,h3.1,?_⟩
        rcases h3.2 with h4|⟨g,cap,cur,h4,h5,h6⟩
        · exact Or.inl h4
        · exact Or.inr ⟨g,cap,cur,h4,Nat.le_trans hsz h5,h6⟩
      · rcases hfin with h9|⟨⟨d,h9⟩,_⟩
        · subst h9;exact ⟨hen,b,hR⟩
        · cases h9
    | text d=>exact ⟨ht,fun h=>absurd rfl (h d)⟩
    | _=>
      refine ⟨ht,fun _=>?_⟩
      rcases hfin with h9|⟨⟨d,h9⟩,_⟩
      · subst h9;exact ⟨hen,b,hR⟩
      · cases h9
theorem StPost.tok {x:Cx} {c:DC} {w0 w:World} {v0 v:DV} {s:St} {R:Except EK (((Bs × Bs) × List At3) × Bool × Bs)} {t e:Value} {w':World} (hs:Stp x w0 v0 w v) (hnc:c.needClose=false) (htc:s.toClose=none) (hsz:w0.heap.size ≤ w.heap.size)
    (hr:rawL x.o s=match R with|.error e=>.error e|.ok ((nm,ats),em,r)=>.ok (.start nm ats,{ s with rest:=r,toClose:=if em then some nm else none })) (hen:s.ended=false) (hno:NoO R) (h:StPost x c w v R t e w'):RawTokPost x c w0 v0 s t e w':=by
  obtain ⟨v',hs',hp⟩:=h
  unfold RawTokPost
  rw [hr]
  cases R with
  | error k=>exact ⟨v',hs.trans hs',hp.1,hp.2.1,hp.2.2,OthAt.no (fun hh=>hno (by rw [hh]))⟩
  | ok p=>
    obtain ⟨⟨nm,ats⟩,em,r⟩:=p
    obtain ⟨he,b,hR,ht,hnb⟩:=hp
    have hsc:SameC c (c.closing nm em):=by
      cases em
      · exact SameC.refl c
      · exact ⟨_,_,_,rfl⟩
    refine ⟨v',_,hs.trans hs',he,hsc,⟨⟨none,b,hR,fun h=>(by rw [hen] at h;cases h),fun h=>absurd rfl h⟩,?_,?_,by rw [hnb];decide⟩,?_⟩
    · cases em
      · simp [DC.closing,hnc]
      · rfl
    · intro nm' h
      cases em
      · cases h
      · simp only [if_true,Option.some.injEq] at h
        subst h
        exact ⟨rfl,rfl⟩
    · refine ⟨?_,fun _=>⟨hen,b,hR⟩⟩
      obtain ⟨sv,h1,h2,h3⟩:=ht
      refine ⟨sv,h1,h2,h3.1,?_⟩
      rcases h3.2 with h4|⟨g,cap,cur,h4,h5,h6⟩
      · exact Or.inl h4
      · exact Or.inr ⟨g,cap,cur,h4,Nat.le_trans hsz h5,h6⟩
def tagL (o:Opt) (s:St):Bs → Except EK (RTok × St)
  | []=>.error (mustE o.fails)
  | c :: r2=>
    if c=47 then (match endL o r2 with|.error e=>.error e|.ok (t,r3)=>.ok (t,{ s with rest:=r3 }))
    else if c=63 then (match piL o r2 with|.error e=>.error e|.ok (t,r3)=>.ok (t,{ s with rest:=r3 }))
    else if c=33 then (match bangL o r2 with|.error e=>.error e|.ok (t,r3)=>.ok (t,{ s with rest:=r3 }))
    else match startL o (c :: r2) with
      | .error e=>.error e
      | .ok ((nm,ats),em,r3)=>.ok (.start nm ats,{ s with rest:=r3,toClose:=if em then some nm else none })
theorem rawL_lt {o:Opt} {s:St} (hen:s.ended=false) (htc:s.toClose=none) {r:Bs} (hr:s.rest=60 :: r):rawL o s=tagL o s r:=by
  obtain ⟨rest,en,tc,stk,ns,nx⟩:=s
  simp only at hen htc hr
  subst hen htc hr
  unfold rawL tagL
  cases r <;> rfl
theorem bangL_cons (o:Opt) (b:UInt8) (r:Bs):bangL o (b :: r)=if b=45 then comL o r else if b=91 then secL o cdB r else dirAll o b r:=by
  unfold bangL comL secL dirAll
  simp only
  split
  · rfl
  · split
    · rfl
    · rfl
theorem rawTag (x:Cx) (hx:x.All) (haf:AfTab x.W0) (hafB:3 < x.B) (c:DC) (hdc:DcOk x c) (hno:NoEnt x c) (hnc:c.needClose=false) (w:World) (v:DV) (s:St) (r:Bs) (hr:s.rest=60 :: r) (hen:s.ended=false) (htc:s.toClose=none) (buf:Bs) (h:RdS x c w v (60 :: r) none buf) :
    Calls Tryz.prog 23 #[decP x] w fun en w'=>∃ t e,en=.returned (.tuple #[t,e])∧RawTokPost x c w v s t e w':=by
  have hg:=Lib.hid (getc_some x hx.toOk c hdc w v 60 r none buf h)
  have HX:=Lib.hid hx
  have HAF:=Lib.hid haf
  have HAFB:=Lib.hid hafB
  have HD:=Lib.hid hdc
  have HNO:=Lib.hid hno
  have HNC:=Lib.hid hnc
  have HEN:=Lib.hid hen
  have HTC:=Lib.hid htc
  have HRAW:=Lib.hid (rawL_lt (o:=x.o) hen htc hr)
  have hc:=h.dec.cell
  have hf:=h.dec.frozen
  have he:v.err=.nilIface:=h.err
  have HSUF:=Lib.hid h.suf
  clear h hx haf hafB hdc hno hr hen htc
  refine calls_fr (vs:=[_]) 731 Tryz.func23 rfl rfl (Nat.le_of_ble_eq_true rfl) fun f=>?_
  simp only [argSlots]
  (repeat (first|(with_reducible first|refine zA fun K hK=>?_|refine zB ?_|refine zC ?_)|((with_reducible first|refine zD rfl fun K hK=>?_|refine zE fun K hK=>?_);go_simp)|(with_reducible first|((repeat ((fail_if_success refine hK _ _ ?_);clear hK K));refine hK _ _ ?_;clear hK K)|refine zt ?_|refine zf ?_|refine zG ?_|refine zR ?_|refine zK ?_|refine zL ?_|refine zN ?_|refine zS ?_)|simp only [Exit.then,Exit.inBlock,Exit.noGoto,↓reduceIte,Nat.reduceEqDiff]|simp only [undef,reduceCtorEq,↓reduceIte]))
  refine hg.out.mono ?_
  rintro e1 w1 ⟨rfl,v1,h1,hn1,hb1,hm1,_⟩
  have HS1:=Lib.hid ((Stp.refl x w v).s0 hm1 hb1)
  have HR1:=Lib.hid h1
  clear h1 hn1 hb1 hm1 hg hc hf he hnc
  have HOUT:=Lib.hid (show ∀ f w' t e,RawTokPost x c w v s t e w' → bodyPost Tryz.prog Tryz.f23 (fun en w'=>∃ t e,en=.returned (.tuple #[t,e])∧RawTokPost x c w v s t e w') .ret (fr 731 f [(2,t),(3,e)]) w' from
    fun f w' t e hP=>fr_out2 rfl (by decide) (by decide) (by simp only [keep_cons,keep_nil,lk_cons,lk_nil,Nat.reduceEqDiff,↓reduceIte]) (by simp only [keep_cons,keep_nil,lk_cons,lk_nil,Nat.reduceEqDiff,↓reduceIte]) ⟨t,e,rfl,hP⟩)
  cases r with
  | nil=>
    have hmg:=Lib.hid (mustgetc_none x HX.out.toOk c HD.out w1 v1 none buf HR1.out)
    go_simp
    (repeat (first|(with_reducible first|refine zA fun K hK=>?_|refine zB ?_|refine zC ?_)|((with_reducible first|refine zD rfl fun K hK=>?_|refine zE fun K hK=>?_);go_simp)|(with_reducible first|((repeat ((fail_if_success refine hK _ _ ?_);clear hK K));refine hK _ _ ?_;clear hK K)|refine zt ?_|refine zf ?_|refine zG ?_|refine zR ?_|refine zK ?_|refine zL ?_|refine zN ?_|refine zS ?_)|simp only [Exit.then,Exit.inBlock,Exit.noGoto,↓reduceIte,Nat.reduceEqDiff]|simp only [undef,reduceCtorEq,↓reduceIte]))
    refine hmg.out.mono ?_
    rintro e4 w4 ⟨rfl,v4,hE,hb4,hm4⟩
    have HS5:=Lib.hid (HS1.out.s0 hm4 hb4)
    obtain ⟨t1,u1,hu1⟩:=hE.err.iface
    have HE:=Lib.hid hE
    have hc:=hE.dec.cell
    have hf:=hE.dec.frozen
    have HU:=Lib.hid hu1
    clear hE hm4 hb4 hmg
    go_simp
    (repeat (first|(with_reducible first|refine zA fun K hK=>?_|refine zB ?_|refine zC ?_)|((with_reducible first|refine zD rfl fun K hK=>?_|refine zE fun K hK=>?_);go_simp)|(with_reducible first|((repeat ((fail_if_success refine hK _ _ ?_);clear hK K));refine hK _ _ ?_;clear hK K)|refine zt ?_|refine zf ?_|refine zG ?_|refine zR ?_|refine zK ?_|refine zL ?_|refine zN ?_|refine zS ?_)|simp only [Exit.then,Exit.inBlock,Exit.noGoto,↓reduceIte,Nat.reduceEqDiff]|simp only [undef,reduceCtorEq,↓reduceIte]))
    ((refine wp_keep [0] (fun f=>?_);simp only [keep_cons,keep_nil,lk_cons,lk_nil,Nat.reduceEqDiff,↓reduceIte]);go_quiet (fail);(repeat (first|(with_reducible first|refine zA fun K hK=>?_|refine zB ?_|refine zC ?_)|((with_reducible first|refine zD rfl fun K hK=>?_|refine zE fun K hK=>?_);go_simp)|(with_reducible first|((repeat ((fail_if_success refine hK _ _ ?_);clear hK K));refine hK _ _ ?_;clear hK K)|refine zt ?_|refine zf ?_|refine zG ?_|refine zR ?_|refine zK ?_|refine zL ?_|refine zN ?_|refine zS ?_)|simp only [Exit.then,Exit.inBlock,Exit.noGoto,↓reduceIte,Nat.reduceEqDiff]|simp only [undef,reduceCtorEq,↓reduceIte]));refine Q_keep [2,3] (fun f=>?_);simp only [keep_cons,keep_nil,lk_cons,lk_nil,Nat.reduceEqDiff,↓reduceIte])
    refine HOUT.out f _ _ _ ?_
    unfold RawTokPost
    rw [HRAW.out]
    exact ⟨v4,HS5.out.drawn _,rfl,HU.out.symm,HE.out.drewN _,OthAt.no (mustE_no _)⟩
  | cons b r2=>
    have hmg:=Lib.hid (mustgetc_some x HX.out.toOk c HD.out w1 v1 b r2 none buf HR1.out)
    go_simp
    (repeat (first|(with_reducible first|refine zA fun K hK=>?_|refine zB ?_|refine zC ?_)|((with_reducible first|refine zD rfl fun K hK=>?_|refine zE fun K hK=>?_);go_simp)|(with_reducible first|((repeat ((fail_if_success refine hK _ _ ?_);clear hK K));refine hK _ _ ?_;clear hK K)|refine zt ?_|refine zf ?_|refine zG ?_|refine zR ?_|refine zK ?_|refine zL ?_|refine zN ?_|refine zS ?_)|simp only [Exit.then,Exit.inBlock,Exit.noGoto,↓reduceIte,Nat.reduceEqDiff]|simp only [undef,reduceCtorEq,↓reduceIte]))
    refine hmg.out.mono ?_
    rintro e4 w4 ⟨rfl,v4,hR4,hn4,hb4,hm4,hz4⟩
    have HS4:=Lib.hid (HS1.out.s0 hm4 hb4)
    have HR4:=Lib.hid hR4
    have HN4:=Lib.hid hn4
    clear hR4 hn4 hm4 hb4 hz4 hmg
    by_cases h47:b=47
    · subst h47
      have HRAW2:=Lib.hid (show rawL x.o s=(match endL x.o r2 with|.error e=>.error e|.ok (t,r3)=>.ok (t,{ s with rest:=r3 })) by rw [HRAW.out];rfl)
      go_simp
      (repeat ((fail_if_success with_reducible refine wp_stop 22 ?_);(fail_if_success with_reducible refine wp_stop2 22 ?_);(first|(with_reducible first|refine zA fun K hK=>?_|refine zB ?_|refine zC ?_)|((with_reducible first|refine zD rfl fun K hK=>?_|refine zE fun K hK=>?_);go_simp)|(with_reducible first|((repeat ((fail_if_success refine hK _ _ ?_);clear hK K));refine hK _ _ ?_;clear hK K)|refine zt ?_|refine zf ?_|refine zG ?_|refine zR ?_|refine zK ?_|refine zL ?_|refine zN ?_|refine zS ?_)|simp only [Exit.then,Exit.inBlock,Exit.noGoto,↓reduceIte,Nat.reduceEqDiff]|simp only [undef,reduceCtorEq,↓reduceIte])))
      (refine wp_keep [0] (fun f=>?_);simp only [keep_cons,keep_nil,lk_cons,lk_nil,Nat.reduceEqDiff,↓reduceIte])
      refine wp_code (rawEnd x HX.out c HD.out w4 v4 r2 none buf HR4.out _ ?_ f) (by kernel_rfl)
      intro f w' t e hP
      exact HOUT.out f w' t e (RawPostO.tok HS4.out HNC.out HTC.out HS4.out.mod.size HRAW2.out HEN.out (hP.o (endL_no _ _)))
    · have t1:=u8ne (n:=47) h47 rfl
      by_cases h63:b=63
      · subst h63
        have HRAW2:=Lib.hid (show rawL x.o s=(match piL x.o r2 with|.error e=>.error e|.ok (t,r3)=>.ok (t,{ s with rest:=r3 })) by rw [HRAW.out];rfl)
        clear h47 t1
        go_simp
        (repeat ((fail_if_success with_reducible refine wp_stop 37 ?_);(fail_if_success with_reducible refine wp_stop2 37 ?_);(first|(with_reducible first|refine zA fun K hK=>?_|refine zB ?_|refine zC ?_)|((with_reducible first|refine zD rfl fun K hK=>?_|refine zE fun K hK=>?_);go_simp)|(with_reducible first|((repeat ((fail_if_success refine hK _ _ ?_);clear hK K));refine hK _ _ ?_;clear hK K)|refine zt ?_|refine zf ?_|refine zG ?_|refine zR ?_|refine zK ?_|refine zL ?_|refine zN ?_|refine zS ?_)|simp only [Exit.then,Exit.inBlock,Exit.noGoto,↓reduceIte,Nat.reduceEqDiff]|simp only [undef,reduceCtorEq,↓reduceIte])))
        (refine wp_keep [0] (fun f=>?_);simp only [keep_cons,keep_nil,lk_cons,lk_nil,Nat.reduceEqDiff,↓reduceIte])
        refine wp_code (rawPi x HX.out HAF.out HAFB.out c HD.out w4 v4 r2 none buf HR4.out _ ?_ f) (by kernel_rfl)
        intro f w' t e hP
        exact HOUT.out f w' t e (RawPostO.tok HS4.out HNC.out HTC.out HS4.out.mod.size HRAW2.out HEN.out hP)
      · have t2:=u8ne (n:=63) h63 rfl
        by_cases h33:b=33
        · subst h33
          have HRAW2:=Lib.hid (show rawL x.o s=(match bangL x.o r2 with|.error e=>.error e|.ok (t,r3)=>.ok (t,{ s with rest:=r3 })) by rw [HRAW.out];rfl)
          clear h47 h63 t1 t2
          cases r2 with
          | nil=>
            have hmg:=Lib.hid (mustgetc_none x HX.out.toOk c HD.out w4 v4 none buf HR4.out)
            go_simp
            (repeat (first|(with_reducible first|refine zA fun K hK=>?_|refine zB ?_|refine zC ?_)|((with_reducible first|refine zD rfl fun K hK=>?_|refine zE fun K hK=>?_);go_simp)|(with_reducible first|((repeat ((fail_if_success refine hK _ _ ?_);clear hK K));refine hK _ _ ?_;clear hK K)|refine zt ?_|refine zf ?_|refine zG ?_|refine zR ?_|refine zK ?_|refine zL ?_|refine zN ?_|refine zS ?_)|simp only [Exit.then,Exit.inBlock,Exit.noGoto,↓reduceIte,Nat.reduceEqDiff]|simp only [undef,reduceCtorEq,↓reduceIte]))
            refine hmg.out.mono ?_
            rintro e5 w5 ⟨rfl,v5,hE,hb5,hm5⟩
            have HS5:=Lib.hid (HS4.out.s0 hm5 hb5)
            obtain ⟨t1,u1,hu1⟩:=hE.err.iface
            have HE:=Lib.hid hE
            have hc:=hE.dec.cell
            have hf:=hE.dec.frozen
            have HU:=Lib.hid hu1
            clear hE hm5 hb5 hmg
            go_simp
            (repeat (first|(with_reducible first|refine zA fun K hK=>?_|refine zB ?_|refine zC ?_)|((with_reducible first|refine zD rfl fun K hK=>?_|refine zE fun K hK=>?_);go_simp)|(with_reducible first|((repeat ((fail_if_success refine hK _ _ ?_);clear hK K));refine hK _ _ ?_;clear hK K)|refine zt ?_|refine zf ?_|refine zG ?_|refine zR ?_|refine zK ?_|refine zL ?_|refine zN ?_|refine zS ?_)|simp only [Exit.then,Exit.inBlock,Exit.noGoto,↓reduceIte,Nat.reduceEqDiff]|simp only [undef,reduceCtorEq,↓reduceIte]))
            ((refine wp_keep [0] (fun f=>?_);simp only [keep_cons,keep_nil,lk_cons,lk_nil,Nat.reduceEqDiff,↓reduceIte]);go_quiet (fail);(repeat (first|(with_reducible first|refine zA fun K hK=>?_|refine zB ?_|refine zC ?_)|((with_reducible first|refine zD rfl fun K hK=>?_|refine zE fun K hK=>?_);go_simp)|(with_reducible first|((repeat ((fail_if_success refine hK _ _ ?_);clear hK K));refine hK _ _ ?_;clear hK K)|refine zt ?_|refine zf ?_|refine zG ?_|refine zR ?_|refine zK ?_|refine zL ?_|refine zN ?_|refine zS ?_)|simp only [Exit.then,Exit.inBlock,Exit.noGoto,↓reduceIte,Nat.reduceEqDiff]|simp only [undef,reduceCtorEq,↓reduceIte]));refine Q_keep [2,3] (fun f=>?_);simp only [keep_cons,keep_nil,lk_cons,lk_nil,Nat.reduceEqDiff,↓reduceIte])
            refine HOUT.out f _ _ _ ?_
            unfold RawTokPost
            rw [HRAW2.out]
            exact ⟨v5,HS5.out.drawn _,rfl,HU.out.symm,HE.out.drewN _,OthAt.no (mustE_no _)⟩
          | cons b2 r3=>
            have hmg:=Lib.hid (mustgetc_some x HX.out.toOk c HD.out w4 v4 b2 r3 none buf HR4.out)
            have HB:=Lib.hid (bangL_cons x.o b2 r3)
            go_simp
            (repeat (first|(with_reducible first|refine zA fun K hK=>?_|refine zB ?_|refine zC ?_)|((with_reducible first|refine zD rfl fun K hK=>?_|refine zE fun K hK=>?_);go_simp)|(with_reducible first|((repeat ((fail_if_success refine hK _ _ ?_);clear hK K));refine hK _ _ ?_;clear hK K)|refine zt ?_|refine zf ?_|refine zG ?_|refine zR ?_|refine zK ?_|refine zL ?_|refine zN ?_|refine zS ?_)|simp only [Exit.then,Exit.inBlock,Exit.noGoto,↓reduceIte,Nat.reduceEqDiff]|simp only [undef,reduceCtorEq,↓reduceIte]))
            refine hmg.out.mono ?_
            rintro e5 w5 ⟨rfl,v5,hR5,hn5,hb5,hm5,hz5⟩
            have HS5:=Lib.hid (HS4.out.s0 hm5 hb5)
            have HR5:=Lib.hid hR5
            clear hR5 hn5 hm5 hb5 hz5 hmg
            by_cases h45:b2=45
            · subst h45
              have HRAW3:=Lib.hid (show rawL x.o s=(match comL x.o r3 with|.error e=>.error e|.ok (t,r3)=>.ok (t,{ s with rest:=r3 })) by rw [HRAW2.out,HB.out,if_pos rfl])
              have HNB1:=Lib.hid (show NoO (comL x.o r3) by have h9:=bangL_no x.o (45 :: r3);rw [HB.out,if_pos rfl] at h9;exact h9)
              go_simp
              (repeat ((fail_if_success with_reducible refine wp_stop 79 ?_);(fail_if_success with_reducible refine wp_stop2 79 ?_);(first|(with_reducible first|refine zA fun K hK=>?_|refine zB ?_|refine zC ?_)|((with_reducible first|refine zD rfl fun K hK=>?_|refine zE fun K hK=>?_);go_simp)|(with_reducible first|((repeat ((fail_if_success refine hK _ _ ?_);clear hK K));refine hK _ _ ?_;clear hK K)|refine zt ?_|refine zf ?_|refine zG ?_|refine zR ?_|refine zK ?_|refine zL ?_|refine zN ?_|refine zS ?_)|simp only [Exit.then,Exit.inBlock,Exit.noGoto,↓reduceIte,Nat.reduceEqDiff]|simp only [undef,reduceCtorEq,↓reduceIte])))
              (refine wp_keep [0] (fun f=>?_);simp only [keep_cons,keep_nil,lk_cons,lk_nil,Nat.reduceEqDiff,↓reduceIte])
              refine wp_code (rawCom x HX.out c HD.out w5 v5 r3 none buf HR5.out _ ?_ f) (by kernel_rfl)
              intro f w' t e hP
              exact HOUT.out f w' t e (RawPostO.tok HS5.out HNC.out HTC.out HS5.out.mod.size HRAW3.out HEN.out (hP.o HNB1.out))
            · have t3:=u8ne (n:=45) h45 rfl
              by_cases h91:b2=91
              · subst h91
                have HRAW3:=Lib.hid (show rawL x.o s=(match secL x.o cdB r3 with|.error e=>.error e|.ok (t,r3)=>.ok (t,{ s with rest:=r3 })) by rw [HRAW2.out,HB.out,if_neg h45,if_pos rfl])
                have HNB2:=Lib.hid (show NoO (secL x.o cdB r3) by have h9:=bangL_no x.o (91 :: r3);rw [HB.out,if_neg h45,if_pos rfl] at h9;exact h9)
                clear h45 t3
                go_simp
                (repeat ((fail_if_success with_reducible refine wp_stop 100 ?_);(fail_if_success with_reducible refine wp_stop2 100 ?_);(first|(with_reducible first|refine zA fun K hK=>?_|refine zB ?_|refine zC ?_)|((with_reducible first|refine zD rfl fun K hK=>?_|refine zE fun K hK=>?_);go_simp)|(with_reducible first|((repeat ((fail_if_success refine hK _ _ ?_);clear hK K));refine hK _ _ ?_;clear hK K)|refine zt ?_|refine zf ?_|refine zG ?_|refine zR ?_|refine zK ?_|refine zL ?_|refine zN ?_|refine zS ?_)|simp only [Exit.then,Exit.inBlock,Exit.noGoto,↓reduceIte,Nat.reduceEqDiff]|simp only [undef,reduceCtorEq,↓reduceIte])))
                (refine wp_keep [0] (fun f=>?_);simp only [keep_cons,keep_nil,lk_cons,lk_nil,Nat.reduceEqDiff,↓reduceIte])
                refine wp_code (rawSec x HX.out c HD.out HNO.out w5 v5 r3 none buf HR5.out _ ?_ f) (by kernel_rfl)
                intro f w' t e hP
                exact HOUT.out f w' t e (RawPostO.tok HS5.out HNC.out HTC.out HS5.out.mod.size HRAW3.out HEN.out (hP.o HNB2.out))
              · have t4:=u8ne (n:=91) h91 rfl
                have HRAW3:=Lib.hid (show rawL x.o s=(match dirAll x.o b2 r3 with|.error e=>.error e|.ok (t,r3)=>.ok (t,{ s with rest:=r3 })) by rw [HRAW2.out,HB.out,if_neg h45,if_neg h91])
                have HNB3:=Lib.hid (show NoO (dirAll x.o b2 r3) by have h9:=bangL_no x.o (b2 :: r3);rw [HB.out,if_neg h45,if_neg h91] at h9;exact h9)
                clear h45 h91
                go_simp
                (repeat ((fail_if_success with_reducible refine wp_stop 113 ?_);(fail_if_success with_reducible refine wp_stop2 113 ?_);(first|(with_reducible first|refine zA fun K hK=>?_|refine zB ?_|refine zC ?_)|((with_reducible first|refine zD rfl fun K hK=>?_|refine zE fun K hK=>?_);go_simp)|(with_reducible first|((repeat ((fail_if_success refine hK _ _ ?_);clear hK K));refine hK _ _ ?_;clear hK K)|refine zt ?_|refine zf ?_|refine zG ?_|refine zR ?_|refine zK ?_|refine zL ?_|refine zN ?_|refine zS ?_)|simp only [Exit.then,Exit.inBlock,Exit.noGoto,↓reduceIte,Nat.reduceEqDiff]|simp only [undef,reduceCtorEq,↓reduceIte])))
                (refine wp_keep [0,4] (fun f=>?_);simp only [keep_cons,keep_nil,lk_cons,lk_nil,Nat.reduceEqDiff,↓reduceIte])
                refine wp_code (rawDir x HX.out c HD.out w5 v5 b2 r3 buf HR5.out _ ?_ f) (by kernel_rfl)
                intro f w' t e hP
                exact HOUT.out f w' t e (RawPostO.tok HS5.out HNC.out HTC.out HS5.out.mod.size HRAW3.out HEN.out (hP.o HNB3.out))
        · have t3:=u8ne (n:=33) h33 rfl
          have HRAW2:=Lib.hid (show rawL x.o s=(match startL x.o (b :: r2) with|.error e=>.error e|.ok ((nm,ats),em,r3)=>.ok (.start nm ats,{ s with rest:=r3,toClose:=if em then some nm else none })) by
            rw [HRAW.out];simp only [tagL,if_neg h47,if_neg h63,if_neg h33])
          clear h47 h63 h33
          go_simp
          (repeat ((fail_if_success with_reducible refine wp_stop 152 ?_);(fail_if_success with_reducible refine wp_stop2 152 ?_);(first|(with_reducible first|refine zA fun K hK=>?_|refine zB ?_|refine zC ?_)|((with_reducible first|refine zD rfl fun K hK=>?_|refine zE fun K hK=>?_);go_simp)|(with_reducible first|((repeat ((fail_if_success refine hK _ _ ?_);clear hK K));refine hK _ _ ?_;clear hK K)|refine zt ?_|refine zf ?_|refine zG ?_|refine zR ?_|refine zK ?_|refine zL ?_|refine zN ?_|refine zS ?_)|simp only [Exit.then,Exit.inBlock,Exit.noGoto,↓reduceIte,Nat.reduceEqDiff]|simp only [undef,reduceCtorEq,↓reduceIte])))
          (refine wp_keep [0,4] (fun f=>?_);simp only [keep_cons,keep_nil,lk_cons,lk_nil,Nat.reduceEqDiff,↓reduceIte])
          refine wp_code (rawStart x HX.out c HD.out HNO.out w4 v4 b r2 buf HR4.out HN4.out (by have:=HR1.out.suf;exact this) _ ?_ f) (by kernel_rfl)
          intro f w' t e hP
          exact HOUT.out f w' t e (hP.tok HS4.out HNC.out HTC.out HS4.out.mod.size HRAW2.out HEN.out (startL_no _ _))
end Go.Proofs.YtkjnockljapnbaaGreatDoor
namespace Go.Proofs.YtkjnockljapnbaaGreatDoor
open Go Go.RowKit
theorem textL_head {o:Opt}:∀ (n:Nat) (rest:Bs),rest.length ≤ n → ∀ (b0 b1:UInt8) (buf:Bs) {d r:Bs},textL o none false rest b0 b1 buf=.ok (d,r) → r=[] ∨ ∃ t,r=60 :: t:=by
  intro n
  induction n with
  | zero=>
    intro rest hl b0 b1 buf d r h
    have:rest=[]:=List.eq_nil_of_length_eq_zero (by omega)
    subst this
    unfold textL at h
    rw [if_neg (by simp)] at h
    split at h
    · simp only [Except.ok.injEq,Prod.mk.injEq] at h;exact Or.inl h.2.symm
    · cases h
  | succ n ih=>
    intro rest hl b0 b1 buf d r h
    cases rest with
    | nil=>
      unfold textL at h
      rw [if_neg (by simp)] at h
      split at h
      · simp only [Except.ok.injEq,Prod.mk.injEq] at h;exact Or.inl h.2.symm
      · cases h
    | cons b t=>
      have ht:t.length ≤ n:=by simp at hl;omega
      unfold textL at h
      split at h
      · split at h
        · rename_i hh;cases hh
        · cases h
      · split at h
        · rename_i hb
          rw [if_pos rfl] at h
          split at h
          · simp only [Except.ok.injEq,Prod.mk.injEq] at h
            exact Or.inr ⟨t,by rw [← h.2,hb.1]⟩
          · cases h
        · split at h
          · rename_i hh;cases hh
          · split at h
            · split at h
              · cases h
              · rename_i hr;exact ih _ (by have:=suf_len (refL_suf hr);omega) _ _ _ h
              · rename_i hr
                split at h
                · cases h
                · exact ih _ (by have:=suf_len (refL_suf hr);omega) _ _ _ h
            · exact ih _ ht _ _ _ h
theorem RdS.nb_text {x:Cx} {c:DC} {w:World} {v:DV} {r:Bs} {e:Option EK} {b:Bs} (h:RdS x c w v r e b) (hr:r=[] ∨ ∃ t,r=60 :: t):v.nb ≠ 10:=by
  obtain ⟨un,_,h1⟩:=h.inp
  rcases h1 with ⟨h1,_⟩|⟨b,h1,h2⟩
  · rw [h1];decide
  · rcases hr with hr|⟨t,hr⟩
    · rw [hr] at h2;cases h2
    · rw [hr] at h2
      simp only [List.cons.injEq] at h2
      rw [h1,← h2.1];decide
theorem rawClose (x:Cx) (hx:x.Ok) (c:DC) (w:World) (v:DV) (s:St) (nm:Bs × Bs) (hen:s.ended=false) (htc:s.toClose=some nm) (hts:RdTS x c w v s) :
    Calls Tryz.prog 23 #[decP x] w fun en w'=>∃ t e,en=.returned (.tuple #[t,e])∧RawTokPost x c w v s t e w':=by
  obtain ⟨⟨e,b,hR,h1,h2⟩,hnc,htcs,hnb⟩:=hts
  have he:e=none:=by
    cases e with
    | none=>rfl
    | some k=>have:=h2 (by simp);rw [htc] at this;cases this
  subst he
  obtain ⟨q1,q2⟩:=htcs nm htc
  rw [htc] at hnc
  have hnc':c.needClose=true:=hnc
  have hc:=hR.dec.cell
  have hf:=hR.dec.frozen
  have hve:v.err=.nilIface:=hR.err
  have HX:=Lib.hid hx
  have HR:=Lib.hid hR
  have HRAW:=Lib.hid (show rawL x.o s=.ok (.fin nm,{ s with toClose:=none }) by unfold rawL;rw [if_neg (by rw [hen];simp),htc])
  have HEN:=Lib.hid hen
  have HNB:=Lib.hid hnb
  clear hR h1 h2 hnc htcs htc hen hx hnb
  refine calls_fr (vs:=[_]) 731 Tryz.func23 rfl rfl (Nat.le_of_ble_eq_true rfl) fun f=>?_
  simp only [argSlots]
  (repeat (first|(with_reducible first|refine zA fun K hK=>?_|refine zB ?_|refine zC ?_)|((with_reducible first|refine zD rfl fun K hK=>?_|refine zE fun K hK=>?_);go_simp)|(with_reducible first|((repeat ((fail_if_success refine hK _ _ ?_);clear hK K));refine hK _ _ ?_;clear hK K)|refine zt ?_|refine zf ?_|refine zG ?_|refine zR ?_|refine zK ?_|refine zL ?_|refine zN ?_|refine zS ?_)|simp only [Exit.then,Exit.inBlock,Exit.noGoto,↓reduceIte,Nat.reduceEqDiff]|simp only [undef,reduceCtorEq,↓reduceIte]))
  (refine fr_out2 rfl (by decide) (by decide) (by simp only [lk_cons,lk_nil,Nat.reduceEqDiff,↓reduceIte];rfl) (by simp only [lk_cons,lk_nil,Nat.reduceEqDiff,↓reduceIte];rfl) ?_)
  refine ⟨_,_,rfl,?_⟩
  unfold RawTokPost
  rw [HRAW.out]
  have hm:Mod (fun k=>k=x.d) w (w.setCell ⟨x.d,14,none⟩ (.bool false)):=(Mod.refl (fun k=>k=x.d) w).setCell (p:=⟨x.d,14,none⟩) (Or.inl rfl) _
  have hd:DecAt (w.setCell ⟨x.d,14,none⟩ (.bool false)) x.d { c with needClose:=false } v:=(show Blk w x.d _ _ from HR.out.dec).set 14 (.bool false)
  refine ⟨v,{ c with needClose:=false },(Stp.refl x w v).s0 (hm.mono (fun i _ hi=>Or.inl hi)) rfl,rfl,⟨false,c.tcs,c.tcl,rfl⟩,⟨⟨none,b,HR.out.turn HX.out hd hm,fun h=>?_,fun _=>rfl⟩,rfl,fun nm h=>(by cases h),HNB.out⟩,rfl,fun _=>⟨HEN.out,b,HR.out.turn HX.out hd hm⟩⟩
  have h9:s.ended=true:=h
  rw [HEN.out] at h9;cases h9
theorem rawNone (x:Cx) (hx:x.All) (c:DC) (hdc:DcOk x c) (hnc:c.needClose=false) (w:World) (v:DV) (buf:Bs) (h:RdS x c w v [] none buf) :
    Calls Tryz.prog 23 #[decP x] w fun en w'=>∃ v',Stp x w v w' v'∧en=.returned (.tuple #[.nilIface,v'.err])∧ErrS x c w' v' (endE x.o.fails):=by
  have hg:=Lib.hid (getc_none x hx.toOk c hdc w v none buf h)
  have hc:=h.dec.cell
  have hf:=h.dec.frozen
  have he:v.err=.nilIface:=h.err
  clear h hx hdc
  refine calls_fr (vs:=[_]) 731 Tryz.func23 rfl rfl (Nat.le_of_ble_eq_true rfl) fun f=>?_
  simp only [argSlots]
  (repeat (first|(with_reducible first|refine zA fun K hK=>?_|refine zB ?_|refine zC ?_)|((with_reducible first|refine zD rfl fun K hK=>?_|refine zE fun K hK=>?_);go_simp)|(with_reducible first|((repeat ((fail_if_success refine hK _ _ ?_);clear hK K));refine hK _ _ ?_;clear hK K)|refine zt ?_|refine zf ?_|refine zG ?_|refine zR ?_|refine zK ?_|refine zL ?_|refine zN ?_|refine zS ?_)|simp only [Exit.then,Exit.inBlock,Exit.noGoto,↓reduceIte,Nat.reduceEqDiff]|simp only [undef,reduceCtorEq,↓reduceIte]))
  refine hg.out.mono ?_
  rintro e1 w1 ⟨rfl,v1,h1,hn1,hb1,hm1,_⟩
  have HS1:=Lib.hid ((Stp.refl x w v).s0 hm1 hb1)
  have HE:=Lib.hid (show ErrS x c w1 v1 (endE x.o.fails) from ⟨h1.base,h1.dec,h1.err⟩)
  obtain ⟨t1,u1,hu1⟩:=HE.out.err.iface
  have HU:=Lib.hid hu1
  have hc:=h1.dec.cell
  have hf:=h1.dec.frozen
  clear h1 hn1 hb1 hm1 hg he hnc
  go_simp
  (repeat (first|(with_reducible first|refine zA fun K hK=>?_|refine zB ?_|refine zC ?_)|((with_reducible first|refine zD rfl fun K hK=>?_|refine zE fun K hK=>?_);go_simp)|(with_reducible first|((repeat ((fail_if_success refine hK _ _ ?_);clear hK K));refine hK _ _ ?_;clear hK K)|refine zt ?_|refine zf ?_|refine zG ?_|refine zR ?_|refine zK ?_|refine zL ?_|refine zN ?_|refine zS ?_)|simp only [Exit.then,Exit.inBlock,Exit.noGoto,↓reduceIte,Nat.reduceEqDiff]|simp only [undef,reduceCtorEq,↓reduceIte]))
  ((refine wp_keep [0] (fun f=>?_);simp only [keep_cons,keep_nil,lk_cons,lk_nil,Nat.reduceEqDiff,↓reduceIte]);go_quiet (fail);(repeat (first|(with_reducible first|refine zA fun K hK=>?_|refine zB ?_|refine zC ?_)|((with_reducible first|refine zD rfl fun K hK=>?_|refine zE fun K hK=>?_);go_simp)|(with_reducible first|((repeat ((fail_if_success refine hK _ _ ?_);clear hK K));refine hK _ _ ?_;clear hK K)|refine zt ?_|refine zf ?_|refine zG ?_|refine zR ?_|refine zK ?_|refine zL ?_|refine zN ?_|refine zS ?_)|simp only [Exit.then,Exit.inBlock,Exit.noGoto,↓reduceIte,Nat.reduceEqDiff]|simp only [undef,reduceCtorEq,↓reduceIte]));refine Q_keep [2,3] (fun f=>?_);simp only [keep_cons,keep_nil,lk_cons,lk_nil,Nat.reduceEqDiff,↓reduceIte])
  (refine fr_out2 rfl (by decide) (by decide) (by simp only [lk_cons,lk_nil,Nat.reduceEqDiff,↓reduceIte];rfl) (by simp only [lk_cons,lk_nil,Nat.reduceEqDiff,↓reduceIte];rfl) ?_)
  exact ⟨v1,HS1.out.drawn _,by rw [HU.out],HE.out.drewN _⟩
theorem rawL_nil {o:Opt} {s:St} (htc:s.toClose=none) (hr:s.rest=[]):rawL o s=.error (endE o.fails):=by
  obtain ⟨rest,en,tc,stk,ns,nx⟩:=s
  simp only at htc hr
  subst htc hr
  unfold rawL
  cases en <;> rfl
theorem rawL_text {o:Opt} {s:St} (hen:s.ended=false) (htc:s.toClose=none) {b:UInt8} {r:Bs} (hb:b ≠ 60) (hr:s.rest=b :: r):rawL o s=match textL o none false (b :: r) 0 0 [] with
    | .error e=>.error e
    | .ok (d,r2)=>.ok (.text d,{ s with rest:=r2,ended:=r2 == [] }):=by
  obtain ⟨rest,en,tc,stk,ns,nx⟩:=s
  simp only at htc hr hen
  subst htc hr hen
  unfold rawL
  simp only [Bool.false_eq_true,if_false]
  rw [if_pos hb]
  cases textL o none false (b :: r) 0 0 [] <;> rfl
theorem rawTok_c (x:Cx) (hx:x.All) (haf:AfTab x.W0) (hafB:3 < x.B) (c:DC) (hdc:DcOk x c) (hno:NoEnt x c) (w:World) (v:DV) (s:St) (hts:RdTS x c w v s) :
    Calls Tryz.prog 23 #[decP x] w fun en w'=>∃ t e,en=.returned (.tuple #[t,e])∧RawTokPost x c w v s t e w':=by
  obtain ⟨⟨e,b,hR,h1,h2⟩,hnc,htcs,_⟩:=id hts
  cases e with
  | some k=>
    have htc:=h2 (by simp)
    obtain ⟨t1,u1,hu1⟩:=hR.err.iface
    have hfin:=hR.fin
    rcases hfin with hfin|⟨hfin,hrest⟩
    · cases hfin
    · refine (rawErr x c w v hR.dec t1 u1 hu1).mono ?_
      rintro en w' ⟨rfl,k',rfl⟩
      refine ⟨_,_,rfl,?_⟩
      unfold RawTokPost
      rw [rawL_nil htc hrest]
      have hk:k=endE x.o.fails:=by simpa using hfin
      subst hk
      exact ⟨v,Stp.drewN _,rfl,rfl,ErrS.drewN ⟨hR.base,hR.dec,hR.err⟩ _,OthAt.no (endE_no _)⟩
  | none=>
    have hen:s.ended=false:=by
      cases h:s.ended with
      | false=>rfl
      | true=>exact absurd rfl (h1 h)
    cases htc:s.toClose with
    | some nm=>exact rawClose x hx.toOk c w v s nm hen htc hts
    | none=>
      have hnc':c.needClose=false:=by rw [hnc,htc];rfl
      cases hr:s.rest with
      | nil=>
        rw [hr] at hR
        refine (rawNone x hx c hdc hnc' w v b hR).mono ?_
        rintro en w' ⟨v',hs,rfl,hE⟩
        refine ⟨_,_,rfl,?_⟩
        unfold RawTokPost
        rw [rawL_nil htc hr]
        exact ⟨v',hs,rfl,rfl,hE,OthAt.no (endE_no _)⟩
      | cons d r=>
        rw [hr] at hR
        by_cases hd:d=60
        · subst hd
          exact rawTag x hx haf hafB c hdc hno hnc' w v s r hr hen htc b hR
        · refine (rawText x hx c hdc hno hnc' w v d r b hd hR).mono ?_
          rintro en w' ⟨v',hs,hp⟩
          have hraw:=rawL_text (o:=x.o) hen htc hd hr
          cases hres:textL x.o none false (d :: r) 0 0 [] with
          | error k=>
            rw [hres] at hp hraw
            obtain ⟨rfl,hE⟩:=hp
            refine ⟨_,_,rfl,?_⟩
            unfold RawTokPost
            rw [hraw]
            exact ⟨v',hs,rfl,rfl,hE,OthAt.no (fun hh=>textL_no _ _ _ _ _ (Nat.le_refl _) _ _ _ (by rw [← hh];exact hres))⟩
          | ok p=>
            obtain ⟨tx,r'⟩:=p
            rw [hres] at hp hraw
            obtain ⟨g,cap,e',b',rfl,hR',hbv,hd1,hd2,hend⟩:=hp
            refine ⟨_,_,rfl,?_⟩
            unfold RawTokPost
            rw [hraw]
            refine ⟨v',c,hs,rfl,SameC.refl c,⟨⟨e',b',hR',fun h=>?_,fun _=>htc⟩,by rw [hnc',htc];rfl,fun nm h=>(by rw [htc] at h;cases h),hR'.nb_text (textL_head _ _ (Nat.le_refl _) _ _ _ hres)⟩,⟨_,rfl,?_⟩,fun h=>absurd rfl (h tx)⟩
            · have h9:r'=[]:=by simpa using h
              rw [hend h9];simp
            · have hby:=(hR'.bf.part hbv hd1 hd2).1
              rcases hR'.bf with ⟨h5,_⟩|⟨g',cap',arr,h5,hg,hsz,hl,hcp,_,_,hel⟩
              · rw [h5] at hbv;cases hbv
              · have h6:=h5
                rw [h5] at hbv
                simp only [Value.slice.injEq,Option.some.injEq,Addr.mk.injEq] at hbv
                obtain ⟨⟨rfl,_⟩,_,rfl⟩:=hbv
                exact ⟨g',cap',b'.length,rfl,h6,hby,by omega,hcp⟩
end Go.Proofs.YtkjnockljapnbaaGreatDoor
