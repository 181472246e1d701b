/- Part of the proof that laws.FnBeginning, laws.FnPlaces returns true for every argument (Wp). No condition of its own. -/
import Derived.Test.YtkjnockljapnbaaGreatDoorK30
import Derived.Test.YtkjnockljapnbaaGreatDoorK33
set_option linter.all false
set_option maxHeartbeats 8000000
set_option maxRecDepth 100000
namespace Go.Proofs.YtkjnockljapnbaaGreatDoor
open Go Go.RowKit
structure RdTS (x:Cx) (c:DC) (w:World) (v:DV) (s:St):Prop where
  rd:∃ e b,RdS x c w v s.rest e b∧(s.ended=true → e ≠ none)∧(e ≠ none → s.toClose=none)
  nc:c.needClose=s.toClose.isSome
  tc:∀ nm,s.toClose=some nm → c.tcs=⟨nm.1.toArray⟩∧c.tcl=⟨nm.2.toArray⟩
  nb:v.nb ≠ 10
def SameC (c c':DC):Prop:=∃ b p q,c'={ c with needClose:=b,tcs:=p,tcl:=q }
theorem SameC.refl (c:DC):SameC c c:=⟨c.needClose,c.tcs,c.tcl,rfl⟩
theorem SameC.trans {a b c:DC} (h:SameC a b) (k:SameC b c):SameC a c:=by
  obtain ⟨_,_,_,rfl⟩:=h
  obtain ⟨b,p,q,rfl⟩:=k
  exact ⟨b,p,q,rfl⟩
def RawTokPost (x:Cx) (c:DC) (w:World) (v:DV) (s:St) (t e:Value) (w':World):Prop:=
  match rawL x.o s with
  | .error k=>∃ v',Stp x w v w' v'∧t=.nilIface∧e=v'.err∧ErrS x c w' v' k∧OthAt w' e k
  | .ok (tk,s')=>∃ v' c',Stp x w v w' v'∧e=.nilIface∧SameC c c'∧RdTS x c' w' v' s'∧TokAt w' v'.bufv w.heap.size t tk∧((∀ d,tk ≠ .text d) → s'.ended=false∧∃ b,RdS x c' w' v' s'.rest none b)
theorem RawPostO.tok {x:Cx} {c:DC} {w0 w:World} {v0 v:DV} {s:St} {R:Except EK (RTok × Bs)} {t e:Value} {w':World} (hs:Stp x w0 v0 w v) (hnc:c.needClose=false) (htc:s.toClose=none) (hsz:w0.heap.size ≤ w.heap.size)
    (hr:rawL x.o s=match R with|.error e=>.error e|.ok (t,r)=>.ok (t,{ s with rest:=r })) (hen:s.ended=false) (h:RawPostO x c w v R t e w'):RawTokPost x c w0 v0 s t e w':=by
  obtain ⟨⟨v',hs',hp⟩,ho⟩:=h
  unfold RawTokPost
  rw [hr]
  cases R with
  | error k=>exact ⟨v',hs.trans hs',hp.1,hp.2.1,hp.2.2,ho k rfl⟩
  | ok p=>
    obtain ⟨tk,r⟩:=p
    obtain ⟨he,e',b,hR,ht,hfin,hnb⟩:=hp
    refine ⟨v',c,hs.trans hs',he,SameC.refl c,⟨⟨e',b,hR,fun h=>(by rw [hen] at h;cases h),fun _=>htc⟩,by rw [hnc,htc];rfl,fun nm h=>(by rw [htc] at h;cases h),by rw [hnb];decide⟩,?_⟩
    cases tk with
    | start nm ats=>
      refine ⟨?_,fun _=>?_⟩
      · obtain ⟨sv,h1,h2,h3⟩:=ht
        refine ⟨sv,h1,h2,h3.1,?_⟩
        rcases h3.2 with h4|⟨g,cap,cur,h4,h5,h6⟩
        · exact Or.inl h4
        · exact Or.inr ⟨g,cap,cur,h4,Nat.le_trans hsz h5,h6⟩
      · rcases hfin with h9|⟨⟨d,h9⟩,_⟩
        · subst h9;exact ⟨hen,b,hR⟩
        · cases h9
    | text d=>exact ⟨ht,fun h=>absurd rfl (h d)⟩
    | _=>
      refine ⟨ht,fun _=>?_⟩
      rcases hfin with h9|⟨⟨d,h9⟩,_⟩
      · subst h9;exact ⟨hen,b,hR⟩
      · cases h9
theorem StPost.tok {x:Cx} {c:DC} {w0 w:World} {v0 v:DV} {s:St} {R:Except EK (((Bs × Bs) × List At3) × Bool × Bs)} {t e:Value} {w':World} (hs:Stp x w0 v0 w v) (hnc:c.needClose=false) (htc:s.toClose=none) (hsz:w0.heap.size ≤ w.heap.size)
    (hr:rawL x.o s=match R with|.error e=>.error e|.ok ((nm,ats),em,r)=>.ok (.start nm ats,{ s with rest:=r,toClose:=if em then some nm else none })) (hen:s.ended=false) (hno:NoO R) (h:StPost x c w v R t e w'):RawTokPost x c w0 v0 s t e w':=by
  obtain ⟨v',hs',hp⟩:=h
  unfold RawTokPost
  rw [hr]
  cases R with
  | error k=>exact ⟨v',hs.trans hs',hp.1,hp.2.1,hp.2.2,OthAt.no (fun hh=>hno (by rw [hh]))⟩
  | ok p=>
    obtain ⟨⟨nm,ats⟩,em,r⟩:=p
    obtain ⟨he,b,hR,ht,hnb⟩:=hp
    have hsc:SameC c (c.closing nm em):=by
      cases em
      · exact SameC.refl c
      · exact ⟨_,_,_,rfl⟩
    refine ⟨v',_,hs.trans hs',he,hsc,⟨⟨none,b,hR,fun h=>(by rw [hen] at h;cases h),fun h=>absurd rfl h⟩,?_,?_,by rw [hnb];decide⟩,?_⟩
    · cases em
      · simp [DC.closing,hnc]
      · rfl
    · intro nm' h
      cases em
      · cases h
      · simp only [if_true,Option.some.injEq] at h
        subst h
        exact ⟨rfl,rfl⟩
    · refine ⟨?_,fun _=>⟨hen,b,hR⟩⟩
      obtain ⟨sv,h1,h2,h3⟩:=ht
      refine ⟨sv,h1,h2,h3.1,?_⟩
      rcases h3.2 with h4|⟨g,cap,cur,h4,h5,h6⟩
      · exact Or.inl h4
      · exact Or.inr ⟨g,cap,cur,h4,Nat.le_trans hsz h5,h6⟩
def tagL (o:Opt) (s:St):Bs → Except EK (RTok × St)
  | []=>.error (mustE o.fails)
  | c :: r2=>
    if c=47 then (match endL o r2 with|.error e=>.error e|.ok (t,r3)=>.ok (t,{ s with rest:=r3 }))
    else if c=63 then (match piL o r2 with|.error e=>.error e|.ok (t,r3)=>.ok (t,{ s with rest:=r3 }))
    else if c=33 then (match bangL o r2 with|.error e=>.error e|.ok (t,r3)=>.ok (t,{ s with rest:=r3 }))
    else match startL o (c :: r2) with
      | .error e=>.error e
      | .ok ((nm,ats),em,r3)=>.ok (.start nm ats,{ s with rest:=r3,toClose:=if em then some nm else none })
theorem rawL_lt {o:Opt} {s:St} (hen:s.ended=false) (htc:s.toClose=none) {r:Bs} (hr:s.rest=60 :: r):rawL o s=tagL o s r:=by
  obtain ⟨rest,en,tc,stk,ns,nx⟩:=s
  simp only at hen htc hr
  subst hen htc hr
  unfold rawL tagL
  cases r <;> rfl
theorem bangL_cons (o:Opt) (b:UInt8) (r:Bs):bangL o (b :: r)=if b=45 then comL o r else if b=91 then secL o cdB r else dirAll o b r:=by
  unfold bangL comL secL dirAll
  simp only
  split
  · rfl
  · split
    · rfl
    · rfl
theorem rawTag (x:Cx) (hx:x.All) (haf:AfTab x.W0) (hafB:3 < x.B) (c:DC) (hdc:DcOk x c) (hno:NoEnt x c) (hnc:c.needClose=false) (w:World) (v:DV) (s:St) (r:Bs) (hr:s.rest=60 :: r) (hen:s.ended=false) (htc:s.toClose=none) (buf:Bs) (h:RdS x c w v (60 :: r) none buf) :
    Calls Tryz.prog 23 #[decP x] w fun en w'=>∃ t e,en=.returned (.tuple #[t,e])∧RawTokPost x c w v s t e w':=by
  have hg:=Lib.hid (getc_some x hx.toOk c hdc w v 60 r none buf h)
  have HX:=Lib.hid hx
  have HAF:=Lib.hid haf
  have HAFB:=Lib.hid hafB
  have HD:=Lib.hid hdc
  have HNO:=Lib.hid hno
  have HNC:=Lib.hid hnc
  have HEN:=Lib.hid hen
  have HTC:=Lib.hid htc
  have HRAW:=Lib.hid (rawL_lt (o:=x.o) hen htc hr)
  have hc:=h.dec.cell
  have hf:=h.dec.frozen
  have he:v.err=.nilIface:=h.err
  have HSUF:=Lib.hid h.suf
  clear h hx haf hafB hdc hno hr hen htc
  refine calls_fr (vs:=[_]) 731 Tryz.func23 rfl rfl (Nat.le_of_ble_eq_true rfl) fun f=>?_
  simp only [argSlots]
  (repeat (first|(with_reducible first|refine zA fun K hK=>?_|refine zB ?_|refine zC ?_)|((with_reducible first|refine zD rfl fun K hK=>?_|refine zE fun K hK=>?_);go_simp)|(with_reducible first|((repeat ((fail_if_success refine hK _ _ ?_);clear hK K));refine hK _ _ ?_;clear hK K)|refine zT (by go_simp;first|done|omega) ?_|refine zF (by go_simp;first|done|omega) ?_|refine zG ?_|refine zR ?_|refine zK ?_|refine zL ?_|refine zN ?_|refine zS ?_)|simp only [Exit.then,Exit.inBlock,Exit.noGoto,↓reduceIte,Nat.reduceEqDiff]|simp only [undef,reduceCtorEq,↓reduceIte]))
  refine hg.out.mono ?_
  rintro e1 w1 ⟨rfl,v1,h1,hn1,hb1,hm1,_⟩
  have HS1:=Lib.hid ((Stp.refl x w v).s0 hm1 hb1)
  have HR1:=Lib.hid h1
  clear h1 hn1 hb1 hm1 hg hc hf he hnc
  have HOUT:=Lib.hid (show ∀ f w' t e,RawTokPost x c w v s t e w' → bodyPost Tryz.prog Tryz.f23 (fun en w'=>∃ t e,en=.returned (.tuple #[t,e])∧RawTokPost x c w v s t e w') .ret (fr 731 f [(2,t),(3,e)]) w' from
    fun f w' t e hP=>fr_out2 rfl (by decide) (by decide) (by simp only [keep_cons,keep_nil,lk_cons,lk_nil,Nat.reduceEqDiff,↓reduceIte]) (by simp only [keep_cons,keep_nil,lk_cons,lk_nil,Nat.reduceEqDiff,↓reduceIte]) ⟨t,e,rfl,hP⟩)
  cases r with
  | nil=>
    have hmg:=Lib.hid (mustgetc_none x HX.out.toOk c HD.out w1 v1 none buf HR1.out)
    go_simp
    (repeat (first|(with_reducible first|refine zA fun K hK=>?_|refine zB ?_|refine zC ?_)|((with_reducible first|refine zD rfl fun K hK=>?_|refine zE fun K hK=>?_);go_simp)|(with_reducible first|((repeat ((fail_if_success refine hK _ _ ?_);clear hK K));refine hK _ _ ?_;clear hK K)|refine zT (by go_simp;first|done|omega) ?_|refine zF (by go_simp;first|done|omega) ?_|refine zG ?_|refine zR ?_|refine zK ?_|refine zL ?_|refine zN ?_|refine zS ?_)|simp only [Exit.then,Exit.inBlock,Exit.noGoto,↓reduceIte,Nat.reduceEqDiff]|simp only [undef,reduceCtorEq,↓reduceIte]))
    refine hmg.out.mono ?_
    rintro e4 w4 ⟨rfl,v4,hE,hb4,hm4⟩
    have HS5:=Lib.hid (HS1.out.s0 hm4 hb4)
    obtain ⟨t1,u1,hu1⟩:=hE.err.iface
    have HE:=Lib.hid hE
    have hc:=hE.dec.cell
    have hf:=hE.dec.frozen
    have HU:=Lib.hid hu1
    clear hE hm4 hb4 hmg
    go_simp
    (repeat (first|(with_reducible first|refine zA fun K hK=>?_|refine zB ?_|refine zC ?_)|((with_reducible first|refine zD rfl fun K hK=>?_|refine zE fun K hK=>?_);go_simp)|(with_reducible first|((repeat ((fail_if_success refine hK _ _ ?_);clear hK K));refine hK _ _ ?_;clear hK K)|refine zT (by go_simp;first|done|omega) ?_|refine zF (by go_simp;first|done|omega) ?_|refine zG ?_|refine zR ?_|refine zK ?_|refine zL ?_|refine zN ?_|refine zS ?_)|simp only [Exit.then,Exit.inBlock,Exit.noGoto,↓reduceIte,Nat.reduceEqDiff]|simp only [undef,reduceCtorEq,↓reduceIte]))
    ((refine wp_keep [0] (fun f=>?_);simp only [keep_cons,keep_nil,lk_cons,lk_nil,Nat.reduceEqDiff,↓reduceIte]);go_quiet (fail);(repeat (first|(with_reducible first|refine zA fun K hK=>?_|refine zB ?_|refine zC ?_)|((with_reducible first|refine zD rfl fun K hK=>?_|refine zE fun K hK=>?_);go_simp)|(with_reducible first|((repeat ((fail_if_success refine hK _ _ ?_);clear hK K));refine hK _ _ ?_;clear hK K)|refine zT (by go_simp;first|done|omega) ?_|refine zF (by go_simp;first|done|omega) ?_|refine zG ?_|refine zR ?_|refine zK ?_|refine zL ?_|refine zN ?_|refine zS ?_)|simp only [Exit.then,Exit.inBlock,Exit.noGoto,↓reduceIte,Nat.reduceEqDiff]|simp only [undef,reduceCtorEq,↓reduceIte]));refine Q_keep [2,3] (fun f=>?_);simp only [keep_cons,keep_nil,lk_cons,lk_nil,Nat.reduceEqDiff,↓reduceIte])
    refine HOUT.out f _ _ _ ?_
    unfold RawTokPost
    rw [HRAW.out]
    exact ⟨v4,HS5.out.drawn _,rfl,HU.out.symm,HE.out.drewN _,OthAt.no (mustE_no _)⟩
  | cons b r2=>
    have hmg:=Lib.hid (mustgetc_some x HX.out.toOk c HD.out w1 v1 b r2 none buf HR1.out)
    go_simp
    (repeat (first|(with_reducible first|refine zA fun K hK=>?_|refine zB ?_|refine zC ?_)|((with_reducible first|refine zD rfl fun K hK=>?_|refine zE fun K hK=>?_);go_simp)|(with_reducible first|((repeat ((fail_if_success refine hK _ _ ?_);clear hK K));refine hK _ _ ?_;clear hK K)|refine zT (by go_simp;first|done|omega) ?_|refine zF (by go_simp;first|done|omega) ?_|refine zG ?_|refine zR ?_|refine zK ?_|refine zL ?_|refine zN ?_|refine zS ?_)|simp only [Exit.then,Exit.inBlock,Exit.noGoto,↓reduceIte,Nat.reduceEqDiff]|simp only [undef,reduceCtorEq,↓reduceIte]))
    refine hmg.out.mono ?_
    rintro e4 w4 ⟨rfl,v4,hR4,hn4,hb4,hm4,hz4⟩
    have HS4:=Lib.hid (HS1.out.s0 hm4 hb4)
    have HR4:=Lib.hid hR4
    have HN4:=Lib.hid hn4
    clear hR4 hn4 hm4 hb4 hz4 hmg
    by_cases h47:b=47
    · subst h47
      have HRAW2:=Lib.hid (show rawL x.o s=(match endL x.o r2 with|.error e=>.error e|.ok (t,r3)=>.ok (t,{ s with rest:=r3 })) by rw [HRAW.out];rfl)
      go_simp
      (repeat ((fail_if_success with_reducible refine wp_stop 22 ?_);(fail_if_success with_reducible refine wp_stop2 22 ?_);(first|(with_reducible first|refine zA fun K hK=>?_|refine zB ?_|refine zC ?_)|((with_reducible first|refine zD rfl fun K hK=>?_|refine zE fun K hK=>?_);go_simp)|(with_reducible first|((repeat ((fail_if_success refine hK _ _ ?_);clear hK K));refine hK _ _ ?_;clear hK K)|refine zT (by go_simp;first|done|omega) ?_|refine zF (by go_simp;first|done|omega) ?_|refine zG ?_|refine zR ?_|refine zK ?_|refine zL ?_|refine zN ?_|refine zS ?_)|simp only [Exit.then,Exit.inBlock,Exit.noGoto,↓reduceIte,Nat.reduceEqDiff]|simp only [undef,reduceCtorEq,↓reduceIte])))
      (refine wp_keep [0] (fun f=>?_);simp only [keep_cons,keep_nil,lk_cons,lk_nil,Nat.reduceEqDiff,↓reduceIte])
      refine wp_code (rawEnd x HX.out c HD.out w4 v4 r2 none buf HR4.out _ ?_ f) (by kernel_rfl)
      intro f w' t e hP
      exact HOUT.out f w' t e (RawPostO.tok HS4.out HNC.out HTC.out HS4.out.mod.size HRAW2.out HEN.out (hP.o (endL_no _ _)))
    · have t1:=u8ne (n:=47) h47 rfl
      by_cases h63:b=63
      · subst h63
        have HRAW2:=Lib.hid (show rawL x.o s=(match piL x.o r2 with|.error e=>.error e|.ok (t,r3)=>.ok (t,{ s with rest:=r3 })) by rw [HRAW.out];rfl)
        clear h47 t1
        go_simp
        (repeat ((fail_if_success with_reducible refine wp_stop 37 ?_);(fail_if_success with_reducible refine wp_stop2 37 ?_);(first|(with_reducible first|refine zA fun K hK=>?_|refine zB ?_|refine zC ?_)|((with_reducible first|refine zD rfl fun K hK=>?_|refine zE fun K hK=>?_);go_simp)|(with_reducible first|((repeat ((fail_if_success refine hK _ _ ?_);clear hK K));refine hK _ _ ?_;clear hK K)|refine zT (by go_simp;first|done|omega) ?_|refine zF (by go_simp;first|done|omega) ?_|refine zG ?_|refine zR ?_|refine zK ?_|refine zL ?_|refine zN ?_|refine zS ?_)|simp only [Exit.then,Exit.inBlock,Exit.noGoto,↓reduceIte,Nat.reduceEqDiff]|simp only [undef,reduceCtorEq,↓reduceIte])))
        (refine wp_keep [0] (fun f=>?_);simp only [keep_cons,keep_nil,lk_cons,lk_nil,Nat.reduceEqDiff,↓reduceIte])
        refine wp_code (rawPi x HX.out HAF.out HAFB.out c HD.out w4 v4 r2 none buf HR4.out _ ?_ f) (by kernel_rfl)
        intro f w' t e hP
        exact HOUT.out f w' t e (RawPostO.tok HS4.out HNC.out HTC.out HS4.out.mod.size HRAW2.out HEN.out hP)
      · have t2:=u8ne (n:=63) h63 rfl
        by_cases h33:b=33
        · subst h33
          have HRAW2:=Lib.hid (show rawL x.o s=(match bangL x.o r2 with|.error e=>.error e|.ok (t,r3)=>.ok (t,{ s with rest:=r3 })) by rw [HRAW.out];rfl)
          clear h47 h63 t1 t2
          cases r2 with
          | nil=>
            have hmg:=Lib.hid (mustgetc_none x HX.out.toOk c HD.out w4 v4 none buf HR4.out)
            go_simp
            (repeat (first|(with_reducible first|refine zA fun K hK=>?_|refine zB ?_|refine zC ?_)|((with_reducible first|refine zD rfl fun K hK=>?_|refine zE fun K hK=>?_);go_simp)|(with_reducible first|((repeat ((fail_if_success refine hK _ _ ?_);clear hK K));refine hK _ _ ?_;clear hK K)|refine zT (by go_simp;first|done|omega) ?_|refine zF (by go_simp;first|done|omega) ?_|refine zG ?_|refine zR ?_|refine zK ?_|refine zL ?_|refine zN ?_|refine zS ?_)|simp only [Exit.then,Exit.inBlock,Exit.noGoto,↓reduceIte,Nat.reduceEqDiff]|simp only [undef,reduceCtorEq,↓reduceIte]))
            refine hmg.out.mono ?_
            rintro e5 w5 ⟨rfl,v5,hE,hb5,hm5⟩
            have HS5:=Lib.hid (HS4.out.s0 hm5 hb5)
            obtain ⟨t1,u1,hu1⟩:=hE.err.iface
            have HE:=Lib.hid hE
            have hc:=hE.dec.cell
            have hf:=hE.dec.frozen
            have HU:=Lib.hid hu1
            clear hE hm5 hb5 hmg
            go_simp
            (repeat (first|(with_reducible first|refine zA fun K hK=>?_|refine zB ?_|refine zC ?_)|((with_reducible first|refine zD rfl fun K hK=>?_|refine zE fun K hK=>?_);go_simp)|(with_reducible first|((repeat ((fail_if_success refine hK _ _ ?_);clear hK K));refine hK _ _ ?_;clear hK K)|refine zT (by go_simp;first|done|omega) ?_|refine zF (by go_simp;first|done|omega) ?_|refine zG ?_|refine zR ?_|refine zK ?_|refine zL ?_|refine zN ?_|refine zS ?_)|simp only [Exit.then,Exit.inBlock,Exit.noGoto,↓reduceIte,Nat.reduceEqDiff]|simp only [undef,reduceCtorEq,↓reduceIte]))
            ((refine wp_keep [0] (fun f=>?_);simp only [keep_cons,keep_nil,lk_cons,lk_nil,Nat.reduceEqDiff,↓reduceIte]);go_quiet (fail);(repeat (first|(with_reducible first|refine zA fun K hK=>?_|refine zB ?_|refine zC ?_)|((with_reducible first|refine zD rfl fun K hK=>?_|refine zE fun K hK=>?_);go_simp)|(with_reducible first|((repeat ((fail_if_success refine hK _ _ ?_);clear hK K));refine hK _ _ ?_;clear hK K)|refine zT (by go_simp;first|done|omega) ?_|refine zF (by go_simp;first|done|omega) ?_|refine zG ?_|refine zR ?_|refine zK ?_|refine zL ?_|refine zN ?_|refine zS ?_)|simp only [Exit.then,Exit.inBlock,Exit.noGoto,↓reduceIte,Nat.reduceEqDiff]|simp only [undef,reduceCtorEq,↓reduceIte]));refine Q_keep [2,3] (fun f=>?_);simp only [keep_cons,keep_nil,lk_cons,lk_nil,Nat.reduceEqDiff,↓reduceIte])
            refine HOUT.out f _ _ _ ?_
            unfold RawTokPost
            rw [HRAW2.out]
            exact ⟨v5,HS5.out.drawn _,rfl,HU.out.symm,HE.out.drewN _,OthAt.no (mustE_no _)⟩
          | cons b2 r3=>
            have hmg:=Lib.hid (mustgetc_some x HX.out.toOk c HD.out w4 v4 b2 r3 none buf HR4.out)
            have HB:=Lib.hid (bangL_cons x.o b2 r3)
            go_simp
            (repeat (first|(with_reducible first|refine zA fun K hK=>?_|refine zB ?_|refine zC ?_)|((with_reducible first|refine zD rfl fun K hK=>?_|refine zE fun K hK=>?_);go_simp)|(with_reducible first|((repeat ((fail_if_success refine hK _ _ ?_);clear hK K));refine hK _ _ ?_;clear hK K)|refine zT (by go_simp;first|done|omega) ?_|refine zF (by go_simp;first|done|omega) ?_|refine zG ?_|refine zR ?_|refine zK ?_|refine zL ?_|refine zN ?_|refine zS ?_)|simp only [Exit.then,Exit.inBlock,Exit.noGoto,↓reduceIte,Nat.reduceEqDiff]|simp only [undef,reduceCtorEq,↓reduceIte]))
            refine hmg.out.mono ?_
            rintro e5 w5 ⟨rfl,v5,hR5,hn5,hb5,hm5,hz5⟩
            have HS5:=Lib.hid (HS4.out.s0 hm5 hb5)
            have HR5:=Lib.hid hR5
            clear hR5 hn5 hm5 hb5 hz5 hmg
            by_cases h45:b2=45
            · subst h45
              have HRAW3:=Lib.hid (show rawL x.o s=(match comL x.o r3 with|.error e=>.error e|.ok (t,r3)=>.ok (t,{ s with rest:=r3 })) by rw [HRAW2.out,HB.out,if_pos rfl])
              have HNB1:=Lib.hid (show NoO (comL x.o r3) by have h9:=bangL_no x.o (45 :: r3);rw [HB.out,if_pos rfl] at h9;exact h9)
              go_simp
              (repeat ((fail_if_success with_reducible refine wp_stop 79 ?_);(fail_if_success with_reducible refine wp_stop2 79 ?_);(first|(with_reducible first|refine zA fun K hK=>?_|refine zB ?_|refine zC ?_)|((with_reducible first|refine zD rfl fun K hK=>?_|refine zE fun K hK=>?_);go_simp)|(with_reducible first|((repeat ((fail_if_success refine hK _ _ ?_);clear hK K));refine hK _ _ ?_;clear hK K)|refine zT (by go_simp;first|done|omega) ?_|refine zF (by go_simp;first|done|omega) ?_|refine zG ?_|refine zR ?_|refine zK ?_|refine zL ?_|refine zN ?_|refine zS ?_)|simp only [Exit.then,Exit.inBlock,Exit.noGoto,↓reduceIte,Nat.reduceEqDiff]|simp only [undef,reduceCtorEq,↓reduceIte])))
              (refine wp_keep [0] (fun f=>?_);simp only [keep_cons,keep_nil,lk_cons,lk_nil,Nat.reduceEqDiff,↓reduceIte])
              refine wp_code (rawCom x HX.out c HD.out w5 v5 r3 none buf HR5.out _ ?_ f) (by kernel_rfl)
              intro f w' t e hP
              exact HOUT.out f w' t e (RawPostO.tok HS5.out HNC.out HTC.out HS5.out.mod.size HRAW3.out HEN.out (hP.o HNB1.out))
            · have t3:=u8ne (n:=45) h45 rfl
              by_cases h91:b2=91
              · subst h91
                have HRAW3:=Lib.hid (show rawL x.o s=(match secL x.o cdB r3 with|.error e=>.error e|.ok (t,r3)=>.ok (t,{ s with rest:=r3 })) by rw [HRAW2.out,HB.out,if_neg h45,if_pos rfl])
                have HNB2:=Lib.hid (show NoO (secL x.o cdB r3) by have h9:=bangL_no x.o (91 :: r3);rw [HB.out,if_neg h45,if_pos rfl] at h9;exact h9)
                clear h45 t3
                go_simp
                (repeat ((fail_if_success with_reducible refine wp_stop 100 ?_);(fail_if_success with_reducible refine wp_stop2 100 ?_);(first|(with_reducible first|refine zA fun K hK=>?_|refine zB ?_|refine zC ?_)|((with_reducible first|refine zD rfl fun K hK=>?_|refine zE fun K hK=>?_);go_simp)|(with_reducible first|((repeat ((fail_if_success refine hK _ _ ?_);clear hK K));refine hK _ _ ?_;clear hK K)|refine zT (by go_simp;first|done|omega) ?_|refine zF (by go_simp;first|done|omega) ?_|refine zG ?_|refine zR ?_|refine zK ?_|refine zL ?_|refine zN ?_|refine zS ?_)|simp only [Exit.then,Exit.inBlock,Exit.noGoto,↓reduceIte,Nat.reduceEqDiff]|simp only [undef,reduceCtorEq,↓reduceIte])))
                (refine wp_keep [0] (fun f=>?_);simp only [keep_cons,keep_nil,lk_cons,lk_nil,Nat.reduceEqDiff,↓reduceIte])
                refine wp_code (rawSec x HX.out c HD.out HNO.out w5 v5 r3 none buf HR5.out _ ?_ f) (by kernel_rfl)
                intro f w' t e hP
                exact HOUT.out f w' t e (RawPostO.tok HS5.out HNC.out HTC.out HS5.out.mod.size HRAW3.out HEN.out (hP.o HNB2.out))
              · have t4:=u8ne (n:=91) h91 rfl
                have HRAW3:=Lib.hid (show rawL x.o s=(match dirAll x.o b2 r3 with|.error e=>.error e|.ok (t,r3)=>.ok (t,{ s with rest:=r3 })) by rw [HRAW2.out,HB.out,if_neg h45,if_neg h91])
                have HNB3:=Lib.hid (show NoO (dirAll x.o b2 r3) by have h9:=bangL_no x.o (b2 :: r3);rw [HB.out,if_neg h45,if_neg h91] at h9;exact h9)
                clear h45 h91
                go_simp
                (repeat ((fail_if_success with_reducible refine wp_stop 113 ?_);(fail_if_success with_reducible refine wp_stop2 113 ?_);(first|(with_reducible first|refine zA fun K hK=>?_|refine zB ?_|refine zC ?_)|((with_reducible first|refine zD rfl fun K hK=>?_|refine zE fun K hK=>?_);go_simp)|(with_reducible first|((repeat ((fail_if_success refine hK _ _ ?_);clear hK K));refine hK _ _ ?_;clear hK K)|refine zT (by go_simp;first|done|omega) ?_|refine zF (by go_simp;first|done|omega) ?_|refine zG ?_|refine zR ?_|refine zK ?_|refine zL ?_|refine zN ?_|refine zS ?_)|simp only [Exit.then,Exit.inBlock,Exit.noGoto,↓reduceIte,Nat.reduceEqDiff]|simp only [undef,reduceCtorEq,↓reduceIte])))
                (refine wp_keep [0,4] (fun f=>?_);simp only [keep_cons,keep_nil,lk_cons,lk_nil,Nat.reduceEqDiff,↓reduceIte])
                refine wp_code (rawDir x HX.out c HD.out w5 v5 b2 r3 buf HR5.out _ ?_ f) (by kernel_rfl)
                intro f w' t e hP
                exact HOUT.out f w' t e (RawPostO.tok HS5.out HNC.out HTC.out HS5.out.mod.size HRAW3.out HEN.out (hP.o HNB3.out))
        · have t3:=u8ne (n:=33) h33 rfl
          have HRAW2:=Lib.hid (show rawL x.o s=(match startL x.o (b :: r2) with|.error e=>.error e|.ok ((nm,ats),em,r3)=>.ok (.start nm ats,{ s with rest:=r3,toClose:=if em then some nm else none })) by
            rw [HRAW.out];simp only [tagL,if_neg h47,if_neg h63,if_neg h33])
          clear h47 h63 h33
          go_simp
          (repeat ((fail_if_success with_reducible refine wp_stop 152 ?_);(fail_if_success with_reducible refine wp_stop2 152 ?_);(first|(with_reducible first|refine zA fun K hK=>?_|refine zB ?_|refine zC ?_)|((with_reducible first|refine zD rfl fun K hK=>?_|refine zE fun K hK=>?_);go_simp)|(with_reducible first|((repeat ((fail_if_success refine hK _ _ ?_);clear hK K));refine hK _ _ ?_;clear hK K)|refine zT (by go_simp;first|done|omega) ?_|refine zF (by go_simp;first|done|omega) ?_|refine zG ?_|refine zR ?_|refine zK ?_|refine zL ?_|refine zN ?_|refine zS ?_)|simp only [Exit.then,Exit.inBlock,Exit.noGoto,↓reduceIte,Nat.reduceEqDiff]|simp only [undef,reduceCtorEq,↓reduceIte])))
          (refine wp_keep [0,4] (fun f=>?_);simp only [keep_cons,keep_nil,lk_cons,lk_nil,Nat.reduceEqDiff,↓reduceIte])
          refine wp_code (rawStart x HX.out c HD.out HNO.out w4 v4 b r2 buf HR4.out HN4.out (by have:=HR1.out.suf;exact this) _ ?_ f) (by kernel_rfl)
          intro f w' t e hP
          exact HOUT.out f w' t e (hP.tok HS4.out HNC.out HTC.out HS4.out.mod.size HRAW2.out HEN.out (startL_no _ _))
end Go.Proofs.YtkjnockljapnbaaGreatDoor
