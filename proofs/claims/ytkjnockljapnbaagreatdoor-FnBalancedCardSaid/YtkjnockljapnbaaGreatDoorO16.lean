/- Part of the proof that laws.FnBalanced returns true for every argument (Ty). No condition of its own. -/
import Derived.Test.YtkjnockljapnbaaGreatDoorO14
set_option linter.all false
set_option maxHeartbeats 8000000
set_option maxRecDepth 100000
namespace Go.Proofs.YtkjnockljapnbaaGreatDoor
open Go Go.RowKit
inductive TxRes where
  | bad (k:EK)
  | stop (n:Nat) (rest:Bs) (e:Option EK) (buf:Bs)
  | on (rest:Bs) (b0 b1:UInt8) (buf:Bs)
def txNext (o:Opt) (q:Option UInt8) (cd:Bool) (rest:Bs) (b0 b1:UInt8) (buf:Bs):TxRes:=
  match rest with
  | []=>if cd then .bad (mustE o.fails) else .stop 0 [] (some (endE o.fails)) buf
  | b :: r=>
    if q=none∧b0=93∧b1=93∧b=62 then (if cd then .stop 2 r none buf else .bad .syn)
    else if b=60∧cd=false then (if q=none then .stop 0 (b :: r) none buf else .bad .syn)
    else if q=some b then .stop 0 r none buf
    else if b=38∧cd=false then (match refStep o r buf with|.error k=>.bad k|.ok (r',buf')=>.on r' 0 0 buf')
    else .on r b1 b (txStep b b1 buf)
def txFin (n:Nat) (rest buf:Bs):Except EK (Bs × Bs):=if charsL (buf.take (buf.length - n)) then .ok (buf.take (buf.length - n),rest) else .error .syn
theorem textL_next (o:Opt) (q:Option UInt8) (cd:Bool) (rest:Bs) (b0 b1:UInt8) (buf:Bs) :
    textL o q cd rest b0 b1 buf=match txNext o q cd rest b0 b1 buf with
      | .bad k=>.error k
      | .stop n r _ b=>txFin n r b
      | .on r b0 b1 b=>textL o q cd r b0 b1 b:=by
  cases rest with
  | nil=>
    rw [textL_nil]
    unfold txNext
    cases cd <;> simp [txFin]
  | cons b r=>
    unfold txNext
    by_cases h1:q=none∧b0=93∧b1=93∧b=62
    · obtain ⟨rfl,rfl,rfl,rfl⟩:=h1
      rw [textL_brk]
      cases cd <;> simp [txFin]
    · by_cases h2:b=60∧cd=false
      · obtain ⟨rfl,rfl⟩:=h2
        rw [textL_lt]
        simp only [if_neg h1]
        by_cases hq:q=none <;> simp [hq,txFin]
      · by_cases h3:q=some b
        · subst h3
          rw [textL_quote o cd b r b0 b1 buf h2]
          simp [h2,txFin]
        · by_cases h4:b=38∧cd=false
          · obtain ⟨rfl,rfl⟩:=h4
            rw [textL_step o q r b0 b1 buf h3]
            simp only [if_neg h1,if_neg h2,if_neg h3]
            generalize refStep o r buf=R
            rcases R with e|⟨r',b'⟩ <;> simp
          · rw [textL_plain o q cd b r b0 b1 buf h1 h2 h3 h4]
            simp only [if_neg h1,if_neg h2,if_neg h3,if_neg h4]
def qI:Option UInt8 → Int
  | none=>-1
  | some b=>b.toNat
structure RoundOut (x:Cx) (c:DC) (w:World) (v:DV) (q:Option UInt8) (cd:Bool) (Q:Exit → Act → World → Prop) (res:TxRes):Prop where
  bad:∀ k,res=.bad k → ∀ f w' v',ErrS x c w' v' k → Stp x w v w' v' → Q .ret (fr 381 f [(6,.slice none 0 0)]) w'
  stop:∀ n r' e' b',res=.stop n r' e' b' → ∀ f w' v',RdS x c w' v' r' e' b' → Stp x w v w' v' → (NonNil v → NonNil v') → (cd=true → v'.nb=-1) → Q (.exit 0) (fr 381 f [(0,decP x),(9,.int .i64 n)]) w'
  on:∀ r' b0' b1' b',res=.on r' b0' b1' b' → ∀ e,(e=.normal ∨ e=.exit 1) → ∀ f w' v',RdS x c w' v' r' none b' → Stp x w v w' v' → NonNil v' → Q e (fr 381 f [(0,decP x),(1,.int .i64 (qI q)),(2,.bool cd),(7,.int .u8 b0'.toNat),(8,.int .u8 b1'.toNat),(9,.int .i64 0)]) w'
theorem textRound_nil (x:Cx) (hx:x.All) (c:DC) (hdc:DcOk x c) (q:Option UInt8) (cd:Bool) (w:World) (v:DV) (e:Option EK) (buf:Bs) (b0 b1:UInt8) (h:RdS x c w v [] e buf) (Q:Exit → Act → World → Prop)
    (hQ:RoundOut x c w v q cd Q (txNext x.o q cd [] b0 b1 buf)) (f:Nat → Value) :
    (txCode 4).wp Tryz.prog Q (fr 381 f [(0,decP x),(1,.int .i64 (qI q)),(2,.bool cd),(7,.int .u8 b0.toNat),(8,.int .u8 b1.toNat),(9,.int .i64 0)]) w:=by
  have hg:=Lib.hid (getc_none x hx.toOk c hdc w v e buf h)
  have HX:=Lib.hid hx
  have HQ:=Lib.hid hQ
  clear hQ h hx hdc
  unfold txCode
  conv=>arg 2;whnf
  (repeat (first|(with_reducible first|refine zA fun K hK=>?_|refine zB ?_|refine zC ?_)|((with_reducible first|refine zD rfl fun K hK=>?_|refine zE fun K hK=>?_);go_simp)|(with_reducible first|((repeat ((fail_if_success refine hK _ _ ?_);clear hK K));refine hK _ _ ?_;clear hK K)|refine zt ?_|refine zf ?_|refine zG ?_|refine zR ?_|refine zK ?_|refine zL ?_|refine zN ?_|refine zS ?_)|simp only [Exit.then,Exit.inBlock,Exit.noGoto,↓reduceIte,Nat.reduceEqDiff]|simp only [undef,reduceCtorEq,↓reduceIte]))
  refine hg.out.mono ?_
  rintro e1 w1 ⟨rfl,v1,h1,hn1,hb1,hm1,hz1⟩
  have H1:=Lib.hid h1
  have HS1:=Lib.hid (hm1.stp hb1)
  have HB1:=Lib.hid hb1
  have hc:=h1.dec.cell
  have hf:=h1.dec.frozen
  have he1:=h1.err
  clear h1 hn1 hb1 hm1 hz1 hg
  cases cd with
  | false=>
    go_simp
    (repeat (first|(with_reducible first|refine zA fun K hK=>?_|refine zB ?_|refine zC ?_)|((with_reducible first|refine zD rfl fun K hK=>?_|refine zE fun K hK=>?_);go_simp)|(with_reducible first|((repeat ((fail_if_success refine hK _ _ ?_);clear hK K));refine hK _ _ ?_;clear hK K)|refine zt ?_|refine zf ?_|refine zG ?_|refine zR ?_|refine zK ?_|refine zL ?_|refine zN ?_|refine zS ?_)|simp only [Exit.then,Exit.inBlock,Exit.noGoto,↓reduceIte,Nat.reduceEqDiff]|simp only [undef,reduceCtorEq,↓reduceIte]))
    refine Q_keep [0,9] (fun f=>?_);simp only [keep_cons,keep_nil,lk_cons,lk_nil,Nat.reduceEqDiff,↓reduceIte]
    exact HQ.out.stop 0 _ _ _ rfl f w1 v1 H1.out HS1.out (fun hn=>hn.of_eq HB1.out) (fun hh=>by cases hh)
  | true=>
    have heof:w1.cell? ⟨0,0,none⟩=some x.eofV:=by rw [← HX.out.eof];exact H1.out.base.cell HX.out.gB
    have HE:=Lib.hid (fun k msg=>synErr_w HX.out.toOk (H1.out.drewN HX.out.toOk k) msg)
    have q1:=fun a w=>eql_eof a w
    have q2:=fun a b w=>eql_own a b w
    cases hfl:x.o.fails
    · have he:v1.err=x.eofV:=by rw [hfl] at he1;exact he1
      clear he1
      go_simp
      (repeat (first|(with_reducible first|refine zA fun K hK=>?_|refine zB ?_|refine zC ?_)|((with_reducible first|refine zD rfl fun K hK=>?_|refine zE fun K hK=>?_);go_simp)|(with_reducible first|((repeat ((fail_if_success refine hK _ _ ?_);clear hK K));refine hK _ _ ?_;clear hK K)|refine zt ?_|refine zf ?_|refine zG ?_|refine zR ?_|refine zK ?_|refine zL ?_|refine zN ?_|refine zS ?_)|simp only [Exit.then,Exit.inBlock,Exit.noGoto,↓reduceIte,Nat.reduceEqDiff]|simp only [undef,reduceCtorEq,↓reduceIte]))
      (refine wp_keep [0] (fun f=>?_);simp only [keep_cons,keep_nil,lk_cons,lk_nil,Nat.reduceEqDiff,↓reduceIte])
      go_quiet (fail)
      (repeat (first|(with_reducible first|refine zA fun K hK=>?_|refine zB ?_|refine zC ?_)|((with_reducible first|refine zD rfl fun K hK=>?_|refine zE fun K hK=>?_);go_simp)|(with_reducible first|((repeat ((fail_if_success refine hK _ _ ?_);clear hK K));refine hK _ _ ?_;clear hK K)|refine zt ?_|refine zf ?_|refine zG ?_|refine zR ?_|refine zK ?_|refine zL ?_|refine zN ?_|refine zS ?_)|simp only [Exit.then,Exit.inBlock,Exit.noGoto,↓reduceIte,Nat.reduceEqDiff]|simp only [undef,reduceCtorEq,↓reduceIte]))
      refine (HE.out _ _).mono ?_
      rintro e2 w2 ⟨rfl,hS⟩
      have hc2:=hS.dec.cell
      have hf2:=hS.dec.frozen
      have HSY:=Lib.hid hS
      clear hS hc hf
      go_simp
      (repeat (first|(with_reducible first|refine zA fun K hK=>?_|refine zB ?_|refine zC ?_)|((with_reducible first|refine zD rfl fun K hK=>?_|refine zE fun K hK=>?_);go_simp)|(with_reducible first|((repeat ((fail_if_success refine hK _ _ ?_);clear hK K));refine hK _ _ ?_;clear hK K)|refine zt ?_|refine zf ?_|refine zG ?_|refine zR ?_|refine zK ?_|refine zL ?_|refine zN ?_|refine zS ?_)|simp only [Exit.then,Exit.inBlock,Exit.noGoto,↓reduceIte,Nat.reduceEqDiff]|simp only [undef,reduceCtorEq,↓reduceIte]))
      refine Q_keep [6] (fun f=>?_);simp only [keep_cons,keep_nil,lk_cons,lk_nil,Nat.reduceEqDiff,↓reduceIte]
      exact HQ.out.bad .syn (by show TxRes.bad (mustE x.o.fails)=_;rw [hfl];rfl) f _ _ HSY.out.err ((HS1.out.trans (Stp.drewN _)).trans HSY.out.stp)
    · have he:v1.err=ownV:=by rw [hfl] at he1;exact he1
      clear he1
      go_simp
      (repeat (first|(with_reducible first|refine zA fun K hK=>?_|refine zB ?_|refine zC ?_)|((with_reducible first|refine zD rfl fun K hK=>?_|refine zE fun K hK=>?_);go_simp)|(with_reducible first|((repeat ((fail_if_success refine hK _ _ ?_);clear hK K));refine hK _ _ ?_;clear hK K)|refine zt ?_|refine zf ?_|refine zG ?_|refine zR ?_|refine zK ?_|refine zL ?_|refine zN ?_|refine zS ?_)|simp only [Exit.then,Exit.inBlock,Exit.noGoto,↓reduceIte,Nat.reduceEqDiff]|simp only [undef,reduceCtorEq,↓reduceIte]))
      (refine wp_keep [0] (fun f=>?_);simp only [keep_cons,keep_nil,lk_cons,lk_nil,Nat.reduceEqDiff,↓reduceIte])
      go_quiet (fail)
      (repeat (first|(with_reducible first|refine zA fun K hK=>?_|refine zB ?_|refine zC ?_)|((with_reducible first|refine zD rfl fun K hK=>?_|refine zE fun K hK=>?_);go_simp)|(with_reducible first|((repeat ((fail_if_success refine hK _ _ ?_);clear hK K));refine hK _ _ ?_;clear hK K)|refine zt ?_|refine zf ?_|refine zG ?_|refine zR ?_|refine zK ?_|refine zL ?_|refine zN ?_|refine zS ?_)|simp only [Exit.then,Exit.inBlock,Exit.noGoto,↓reduceIte,Nat.reduceEqDiff]|simp only [undef,reduceCtorEq,↓reduceIte]))
      refine Q_keep [6] (fun f=>?_);simp only [keep_cons,keep_nil,lk_cons,lk_nil,Nat.reduceEqDiff,↓reduceIte]
      exact HQ.out.bad .own (by show TxRes.bad (mustE x.o.fails)=_;rw [hfl];rfl) f _ v1 ⟨Below_drewN H1.out.base _,H1.out.dec,he⟩ (HS1.out.trans (Stp.drewN _))
theorem brkTest (q:Option UInt8) (b0 b1 b:UInt8) (v0 v2 v9:Value) (Q:Exit → Act → World → Prop) (w:World) (f:Nat → Value)
    (hQ:∀ f,Q .normal (fr 381 f [(0,v0),(1,.int .i64 (qI q)),(2,v2),(7,.int .u8 b0.toNat),(8,.int .u8 b1.toNat),(9,v9),(10,.int .u8 b.toNat),(66,.bool (decide (q=none∧b0=93∧b1=93∧b=62)))]) w) :
    (txReg 10).wp Tryz.prog Q (fr 381 f [(0,v0),(1,.int .i64 (qI q)),(2,v2),(7,.int .u8 b0.toNat),(8,.int .u8 b1.toNat),(9,v9),(10,.int .u8 b.toNat)]) w:=by
  have HQ:=Lib.hid hQ
  clear hQ
  unfold txReg
  conv=>arg 2;whnf
  cases q with
  | some qb=>
    have h0:¬ (qI (some qb) < 0):=by show ¬ ((qb.toNat:Int) < 0);omega
    (repeat (first|(with_reducible first|refine zA fun K hK=>?_|refine zB ?_|refine zC ?_)|((with_reducible first|refine zD rfl fun K hK=>?_|refine zE fun K hK=>?_);go_simp)|(with_reducible first|((repeat ((fail_if_success refine hK _ _ ?_);clear hK K));refine hK _ _ ?_;clear hK K)|refine zt ?_|refine zf ?_|refine zG ?_|refine zR ?_|refine zK ?_|refine zL ?_|refine zN ?_|refine zS ?_)|simp only [Exit.then,Exit.inBlock,Exit.noGoto,↓reduceIte,Nat.reduceEqDiff]|simp only [undef,reduceCtorEq,↓reduceIte]))
    refine Q_keep [0,1,2,7,8,9,10,66] (fun f=>?_);simp only [keep_cons,keep_nil,lk_cons,lk_nil,Nat.reduceEqDiff,↓reduceIte]
    have h1:=HQ.out f
    simp at h1
    exact h1
  | none=>
    rw [show qI none=-1 from rfl] at HQ ⊢
    by_cases hb0:b0=93
    · subst hb0
      rw [show (UInt8.toNat 93)=93 from rfl] at HQ ⊢
      by_cases hb1:b1=93
      · subst hb1
        rw [show (UInt8.toNat 93)=93 from rfl] at HQ ⊢
        by_cases hb:b=62
        · subst hb
          rw [show (UInt8.toNat 62)=62 from rfl] at HQ ⊢
          (repeat (first|(with_reducible first|refine zA fun K hK=>?_|refine zB ?_|refine zC ?_)|((with_reducible first|refine zD rfl fun K hK=>?_|refine zE fun K hK=>?_);go_simp)|(with_reducible first|((repeat ((fail_if_success refine hK _ _ ?_);clear hK K));refine hK _ _ ?_;clear hK K)|refine zt ?_|refine zf ?_|refine zG ?_|refine zR ?_|refine zK ?_|refine zL ?_|refine zN ?_|refine zS ?_)|simp only [Exit.then,Exit.inBlock,Exit.noGoto,↓reduceIte,Nat.reduceEqDiff]|simp only [undef,reduceCtorEq,↓reduceIte]))
          refine Q_keep [0,1,2,7,8,9,10,66] (fun f=>?_);simp only [keep_cons,keep_nil,lk_cons,lk_nil,Nat.reduceEqDiff,↓reduceIte]
          have h1:=HQ.out f
          simp at h1
          exact h1
        · have hx:=u8ne hb (n:=62) rfl
          have HB:=Lib.hid hb
          clear hb
          (repeat (first|(with_reducible first|refine zA fun K hK=>?_|refine zB ?_|refine zC ?_)|((with_reducible first|refine zD rfl fun K hK=>?_|refine zE fun K hK=>?_);go_simp)|(with_reducible first|((repeat ((fail_if_success refine hK _ _ ?_);clear hK K));refine hK _ _ ?_;clear hK K)|refine zt ?_|refine zf ?_|refine zG ?_|refine zR ?_|refine zK ?_|refine zL ?_|refine zN ?_|refine zS ?_)|simp only [Exit.then,Exit.inBlock,Exit.noGoto,↓reduceIte,Nat.reduceEqDiff]|simp only [undef,reduceCtorEq,↓reduceIte]))
          refine Q_keep [0,1,2,7,8,9,10,66] (fun f=>?_);simp only [keep_cons,keep_nil,lk_cons,lk_nil,Nat.reduceEqDiff,↓reduceIte]
          have h1:=HQ.out f
          simp [HB.out] at h1
          exact h1
      · have hx:=u8ne hb1 (n:=93) rfl
        have HB:=Lib.hid hb1
        clear hb1
        (repeat (first|(with_reducible first|refine zA fun K hK=>?_|refine zB ?_|refine zC ?_)|((with_reducible first|refine zD rfl fun K hK=>?_|refine zE fun K hK=>?_);go_simp)|(with_reducible first|((repeat ((fail_if_success refine hK _ _ ?_);clear hK K));refine hK _ _ ?_;clear hK K)|refine zt ?_|refine zf ?_|refine zG ?_|refine zR ?_|refine zK ?_|refine zL ?_|refine zN ?_|refine zS ?_)|simp only [Exit.then,Exit.inBlock,Exit.noGoto,↓reduceIte,Nat.reduceEqDiff]|simp only [undef,reduceCtorEq,↓reduceIte]))
        refine Q_keep [0,1,2,7,8,9,10,66] (fun f=>?_);simp only [keep_cons,keep_nil,lk_cons,lk_nil,Nat.reduceEqDiff,↓reduceIte]
        have h1:=HQ.out f
        simp [HB.out] at h1
        exact h1
    · have hx:=u8ne hb0 (n:=93) rfl
      have HB:=Lib.hid hb0
      clear hb0
      (repeat (first|(with_reducible first|refine zA fun K hK=>?_|refine zB ?_|refine zC ?_)|((with_reducible first|refine zD rfl fun K hK=>?_|refine zE fun K hK=>?_);go_simp)|(with_reducible first|((repeat ((fail_if_success refine hK _ _ ?_);clear hK K));refine hK _ _ ?_;clear hK K)|refine zt ?_|refine zf ?_|refine zG ?_|refine zR ?_|refine zK ?_|refine zL ?_|refine zN ?_|refine zS ?_)|simp only [Exit.then,Exit.inBlock,Exit.noGoto,↓reduceIte,Nat.reduceEqDiff]|simp only [undef,reduceCtorEq,↓reduceIte]))
      refine Q_keep [0,1,2,7,8,9,10,66] (fun f=>?_);simp only [keep_cons,keep_nil,lk_cons,lk_nil,Nat.reduceEqDiff,↓reduceIte]
      have h1:=HQ.out f
      simp [HB.out] at h1
      exact h1
theorem quoTest (q:Option UInt8) (b:UInt8) (v0 v2 v7 v8 v9:Value) (Q:Exit → Act → World → Prop) (w:World) (f:Nat → Value)
    (hQ:∀ f,Q .normal (fr 381 f [(0,v0),(1,.int .i64 (qI q)),(2,v2),(7,v7),(8,v8),(9,v9),(10,.int .u8 b.toNat),(95,.bool (decide (q=some b)))]) w) :
    (txReg 20).wp Tryz.prog Q (fr 381 f [(0,v0),(1,.int .i64 (qI q)),(2,v2),(7,v7),(8,v8),(9,v9),(10,.int .u8 b.toNat)]) w:=by
  have HQ:=Lib.hid hQ
  clear hQ
  unfold txReg
  conv=>arg 2;whnf
  cases q with
  | none=>
    rw [show qI none=-1 from rfl] at HQ ⊢
    (repeat (first|(with_reducible first|refine zA fun K hK=>?_|refine zB ?_|refine zC ?_)|((with_reducible first|refine zD rfl fun K hK=>?_|refine zE fun K hK=>?_);go_simp)|(with_reducible first|((repeat ((fail_if_success refine hK _ _ ?_);clear hK K));refine hK _ _ ?_;clear hK K)|refine zt ?_|refine zf ?_|refine zG ?_|refine zR ?_|refine zK ?_|refine zL ?_|refine zN ?_|refine zS ?_)|simp only [Exit.then,Exit.inBlock,Exit.noGoto,↓reduceIte,Nat.reduceEqDiff]|simp only [undef,reduceCtorEq,↓reduceIte]))
    refine Q_keep [0,1,2,7,8,9,10,95] (fun f=>?_);simp only [keep_cons,keep_nil,lk_cons,lk_nil,Nat.reduceEqDiff,↓reduceIte]
    have h1:=HQ.out f
    simp at h1
    exact h1
  | some qb=>
    rw [show qI (some qb)=(qb.toNat:Int) from rfl] at HQ ⊢
    have hlt:=qb.toNat_lt
    have h0:(0:Int) ≤ (qb.toNat:Int):=by omega
    have hw:IntKind.u8.wrap (qb.toNat:Int)=(qb.toNat:Int):=by rw [IntKind.wrap_u8];omega
    by_cases hb:qb=b
    · subst hb
      (repeat (first|(with_reducible first|refine zA fun K hK=>?_|refine zB ?_|refine zC ?_)|((with_reducible first|refine zD rfl fun K hK=>?_|refine zE fun K hK=>?_);go_simp)|(with_reducible first|((repeat ((fail_if_success refine hK _ _ ?_);clear hK K));refine hK _ _ ?_;clear hK K)|refine zt ?_|refine zf ?_|refine zG ?_|refine zR ?_|refine zK ?_|refine zL ?_|refine zN ?_|refine zS ?_)|simp only [Exit.then,Exit.inBlock,Exit.noGoto,↓reduceIte,Nat.reduceEqDiff]|simp only [undef,reduceCtorEq,↓reduceIte]))
      refine Q_keep [0,1,2,7,8,9,10,95] (fun f=>?_);simp only [keep_cons,keep_nil,lk_cons,lk_nil,Nat.reduceEqDiff,↓reduceIte]
      have h1:=HQ.out f
      simp at h1
      exact h1
    · have hx:((b.toNat:Int) == (qb.toNat:Int))=false:=by
        rw [beq_eq_false_iff_ne]
        intro h
        exact hb (UInt8.toNat_inj.1 (by omega))
      have HB:=Lib.hid hb
      clear hb
      (repeat (first|(with_reducible first|refine zA fun K hK=>?_|refine zB ?_|refine zC ?_)|((with_reducible first|refine zD rfl fun K hK=>?_|refine zE fun K hK=>?_);go_simp)|(with_reducible first|((repeat ((fail_if_success refine hK _ _ ?_);clear hK K));refine hK _ _ ?_;clear hK K)|refine zt ?_|refine zf ?_|refine zG ?_|refine zR ?_|refine zK ?_|refine zL ?_|refine zN ?_|refine zS ?_)|simp only [Exit.then,Exit.inBlock,Exit.noGoto,↓reduceIte,Nat.reduceEqDiff]|simp only [undef,reduceCtorEq,↓reduceIte]))
      refine Q_keep [0,1,2,7,8,9,10,95] (fun f=>?_);simp only [keep_cons,keep_nil,lk_cons,lk_nil,Nat.reduceEqDiff,↓reduceIte]
      have h1:=HQ.out f
      simp [HB.out] at h1
      exact h1
theorem textRest (x:Cx) (hx:x.All) (c:DC) (hdc:DcOk x c) (hent:c.ent=.map none) (hents:x.o.ents=none) (q:Option UInt8) (cd:Bool) (w w1:World) (v v1:DV) (b:UInt8) (r buf:Bs) (b0 b1:UInt8) (h:RdS x c w1 v1 r none buf) (hs:Stp x w v w1 v1) (hsuf:(b :: r) <:+ x.T)
    (hnn:NonNil v1 ∨ (b0=0∧b1=0)) (hl:buf.length ≤ 8000000000000) (h1:¬ (q=none∧b0=93∧b1=93∧b=62)) (h2:¬ (b=60∧cd=false)) (h3:q ≠ some b) (Q:Exit → Act → World → Prop)
    (hQ:RoundOut x c w v q cd Q (txNext x.o q cd (b :: r) b0 b1 buf)) (f:Nat → Value) :
    (txCode 21).wp Tryz.prog Q (fr 381 f [(0,decP x),(1,.int .i64 (qI q)),(2,.bool cd),(7,.int .u8 b0.toNat),(8,.int .u8 b1.toNat),(9,.int .i64 0),(10,.int .u8 b.toNat)]) w1:=by
  have H1:=Lib.hid h
  have HX:=Lib.hid hx
  have HS1:=Lib.hid hs
  have hres:=Lib.hid (show txNext x.o q cd (b :: r) b0 b1 buf=(if b=38∧cd=false then (match refStep x.o r buf with|.error k=>.bad k|.ok (r',buf')=>.on r' 0 0 buf') else .on r b1 b (txStep b b1 buf)) by
    unfold txNext
    simp only [if_neg h1,if_neg h2,if_neg h3])
  have HQ:=Lib.hid hQ
  have HD:=Lib.hid hdc
  have HNN:=Lib.hid hnn
  have HSUF:=Lib.hid hsuf
  have HENT:=Lib.hid hent
  have HENTS:=Lib.hid hents
  clear hQ h hx hs hdc hnn hsuf hent hents h1 h2 h3
  unfold txCode
  conv=>arg 2;whnf
  by_cases h4:b=38∧cd=false
  · have hr2:=Lib.hid (hres.out.trans (if_pos h4))
    obtain ⟨rfl,rfl⟩:=h4
    clear hres
    rw [show (UInt8.toNat 38)=38 from rfl]
    (repeat ((fail_if_success with_reducible refine wp_stop 22 ?_);(fail_if_success with_reducible refine wp_stop2 22 ?_);(first|(with_reducible first|refine zA fun K hK=>?_|refine zB ?_|refine zC ?_)|((with_reducible first|refine zD rfl fun K hK=>?_|refine zE fun K hK=>?_);go_simp)|(with_reducible first|((repeat ((fail_if_success refine hK _ _ ?_);clear hK K));refine hK _ _ ?_;clear hK K)|refine zt ?_|refine zf ?_|refine zG ?_|refine zR ?_|refine zK ?_|refine zL ?_|refine zN ?_|refine zS ?_)|simp only [Exit.then,Exit.inBlock,Exit.noGoto,↓reduceIte,Nat.reduceEqDiff]|simp only [undef,reduceCtorEq,↓reduceIte])))
    (refine wp_keep [0,1,2,9] (fun f=>?_);simp only [keep_cons,keep_nil,lk_cons,lk_nil,Nat.reduceEqDiff,↓reduceIte])
    refine wp_code (textRef x HX.out c HD.out HENT.out HENTS.out w1 v1 r buf H1.out HSUF.out (by omega) _ _ _ ⟨fun r' b' he f w' v' hr hs hn=>?_,fun k he f w' v' hr hs=>?_⟩ f) (by kernel_rfl)
    · exact HQ.out.on r' 0 0 b' (by rw [hr2.out,he]) _ (Or.inr rfl) f w' v' hr (HS1.out.trans hs) hn
    · exact HQ.out.bad k (by rw [hr2.out,he]) f w' v' hr (HS1.out.trans hs)
  · have hr2:=Lib.hid (hres.out.trans (if_neg h4))
    have h38:((b.toNat:Int) == 38)=false ∨ (((b.toNat:Int) == 38)=true∧cd=true):=by
      by_cases hb:b=38
      · right
        subst hb
        cases cd with
        | true=>exact ⟨rfl,rfl⟩
        | false=>exact absurd ⟨rfl,rfl⟩ h4
      · exact Or.inl (u8ne hb rfl)
    clear h4 hres
    have hcase:(b=13) ∨ (b ≠ 13∧b1=13∧b=10) ∨ (b ≠ 13∧¬ (b1=13∧b=10)):=by
      by_cases hb:b=13
      · exact Or.inl hb
      · by_cases hb2:b1=13∧b=10
        · exact Or.inr (Or.inl ⟨hb,hb2⟩)
        · exact Or.inr (Or.inr ⟨hb,hb2⟩)
    rcases hcase with hb|⟨hb,hb1,hb2⟩|⟨hb,hb2⟩
    · have HTX:=Lib.hid (show txStep b b1 buf=buf ++ [10] by unfold txStep;rw [if_pos hb])
      have h13:((b.toNat:Int) == 13)=true:=by subst hb;rfl
      have hwb:=Lib.hid (writeByte_c x HX.out.toOk c w1 v1 r none _ H1.out 10 (by omega))
      clear hb
      rcases h38 with h38|⟨h38,rfl⟩
      all_goals
        (repeat (first|(with_reducible first|refine zA fun K hK=>?_|refine zB ?_|refine zC ?_)|((with_reducible first|refine zD rfl fun K hK=>?_|refine zE fun K hK=>?_);go_simp)|(with_reducible first|((repeat ((fail_if_success refine hK _ _ ?_);clear hK K));refine hK _ _ ?_;clear hK K)|refine zt ?_|refine zf ?_|refine zG ?_|refine zR ?_|refine zK ?_|refine zL ?_|refine zN ?_|refine zS ?_)|simp only [Exit.then,Exit.inBlock,Exit.noGoto,↓reduceIte,Nat.reduceEqDiff]|simp only [undef,reduceCtorEq,↓reduceIte]))
        refine hwb.out.mono ?_
        rintro e2 w2 ⟨rfl,v2,h2,_,hs2⟩
        have H2:=Lib.hid h2
        have HS2:=Lib.hid (HS1.out.trans hs2)
        clear h2 hs2 hwb
        go_simp
        (repeat (first|(with_reducible first|refine zA fun K hK=>?_|refine zB ?_|refine zC ?_)|((with_reducible first|refine zD rfl fun K hK=>?_|refine zE fun K hK=>?_);go_simp)|(with_reducible first|((repeat ((fail_if_success refine hK _ _ ?_);clear hK K));refine hK _ _ ?_;clear hK K)|refine zt ?_|refine zf ?_|refine zG ?_|refine zR ?_|refine zK ?_|refine zL ?_|refine zN ?_|refine zS ?_)|simp only [Exit.then,Exit.inBlock,Exit.noGoto,↓reduceIte,Nat.reduceEqDiff]|simp only [undef,reduceCtorEq,↓reduceIte]))
        refine Q_keep [0,1,2,7,8,9] (fun f=>?_);simp only [keep_cons,keep_nil,lk_cons,lk_nil,Nat.reduceEqDiff,↓reduceIte]
        exact HQ.out.on r b1 b _ hr2.out _ (Or.inl rfl) f w2 v2 (by rw [HTX.out];exact H2.out) HS2.out (H2.out.nonnil (by simp))
    · subst hb1
      subst hb2
      have hnv:NonNil v1:=by
        rcases HNN.out with h|⟨_,h⟩
        · exact h
        · exact absurd h (by decide)
      have HNV:=Lib.hid hnv
      clear hnv hb
      rw [show (UInt8.toNat 13)=13 from rfl,show (UInt8.toNat 10)=10 from rfl]
      (repeat (first|(with_reducible first|refine zA fun K hK=>?_|refine zB ?_|refine zC ?_)|((with_reducible first|refine zD rfl fun K hK=>?_|refine zE fun K hK=>?_);go_simp)|(with_reducible first|((repeat ((fail_if_success refine hK _ _ ?_);clear hK K));refine hK _ _ ?_;clear hK K)|refine zt ?_|refine zf ?_|refine zG ?_|refine zR ?_|refine zK ?_|refine zL ?_|refine zN ?_|refine zS ?_)|simp only [Exit.then,Exit.inBlock,Exit.noGoto,↓reduceIte,Nat.reduceEqDiff]|simp only [undef,reduceCtorEq,↓reduceIte]))
      refine Q_keep [0,1,2,7,8,9] (fun f=>?_);simp only [keep_cons,keep_nil,lk_cons,lk_nil,Nat.reduceEqDiff,↓reduceIte]
      exact HQ.out.on r 13 10 buf hr2.out _ (Or.inl rfl) f w1 v1 H1.out HS1.out HNV.out
    · have HTX:=Lib.hid (show txStep b b1 buf=buf ++ [b] by unfold txStep;rw [if_neg hb,if_neg hb2])
      have h13:((b.toNat:Int) == 13)=false:=u8ne hb rfl
      have h1310:((b1.toNat:Int) == 13)=false ∨ (((b1.toNat:Int) == 13)=true∧((b.toNat:Int) == 10)=false):=by
        by_cases hb1:b1=13
        · right
          have hb10:b ≠ 10:=fun h=>hb2 ⟨hb1,h⟩
          exact ⟨by subst hb1;rfl,u8ne hb10 rfl⟩
        · exact Or.inl (u8ne hb1 rfl)
      have hwb:=Lib.hid (writeByte_c x HX.out.toOk c w1 v1 r none _ H1.out b (by omega))
      clear hb hb2
      rcases h38 with h38|⟨h38,rfl⟩
      all_goals
        rcases h1310 with h131|⟨h131,h10⟩
        all_goals
          (repeat (first|(with_reducible first|refine zA fun K hK=>?_|refine zB ?_|refine zC ?_)|((with_reducible first|refine zD rfl fun K hK=>?_|refine zE fun K hK=>?_);go_simp)|(with_reducible first|((repeat ((fail_if_success refine hK _ _ ?_);clear hK K));refine hK _ _ ?_;clear hK K)|refine zt ?_|refine zf ?_|refine zG ?_|refine zR ?_|refine zK ?_|refine zL ?_|refine zN ?_|refine zS ?_)|simp only [Exit.then,Exit.inBlock,Exit.noGoto,↓reduceIte,Nat.reduceEqDiff]|simp only [undef,reduceCtorEq,↓reduceIte]))
          refine hwb.out.mono ?_
          rintro e2 w2 ⟨rfl,v2,h2,_,hs2⟩
          have H2:=Lib.hid h2
          have HS2:=Lib.hid (HS1.out.trans hs2)
          clear h2 hs2 hwb
          go_simp
          (repeat (first|(with_reducible first|refine zA fun K hK=>?_|refine zB ?_|refine zC ?_)|((with_reducible first|refine zD rfl fun K hK=>?_|refine zE fun K hK=>?_);go_simp)|(with_reducible first|((repeat ((fail_if_success refine hK _ _ ?_);clear hK K));refine hK _ _ ?_;clear hK K)|refine zt ?_|refine zf ?_|refine zG ?_|refine zR ?_|refine zK ?_|refine zL ?_|refine zN ?_|refine zS ?_)|simp only [Exit.then,Exit.inBlock,Exit.noGoto,↓reduceIte,Nat.reduceEqDiff]|simp only [undef,reduceCtorEq,↓reduceIte]))
          refine Q_keep [0,1,2,7,8,9] (fun f=>?_);simp only [keep_cons,keep_nil,lk_cons,lk_nil,Nat.reduceEqDiff,↓reduceIte]
          exact HQ.out.on r b1 b _ hr2.out _ (Or.inl rfl) f w2 v2 (by rw [HTX.out];exact H2.out) HS2.out (H2.out.nonnil (by simp))
theorem textRound_cons (x:Cx) (hx:x.All) (c:DC) (hdc:DcOk x c) (hent:c.ent=.map none) (hents:x.o.ents=none) (q:Option UInt8) (cd:Bool) (w:World) (v:DV) (e:Option EK) (b:UInt8) (r buf:Bs) (b0 b1:UInt8) (h:RdS x c w v (b :: r) e buf)
    (hnn:NonNil v ∨ (b0=0∧b1=0)) (hl:buf.length ≤ 8000000000000) (Q:Exit → Act → World → Prop)
    (hQ:RoundOut x c w v q cd Q (txNext x.o q cd (b :: r) b0 b1 buf)) (f:Nat → Value) :
    (txCode 4).wp Tryz.prog Q (fr 381 f [(0,decP x),(1,.int .i64 (qI q)),(2,.bool cd),(7,.int .u8 b0.toNat),(8,.int .u8 b1.toNat),(9,.int .i64 0)]) w:=by
  have hg:=Lib.hid (getc_some x hx.toOk c hdc w v b r e buf h)
  have HSUF:=Lib.hid h.suf
  have HX:=Lib.hid hx
  have HD:=Lib.hid hdc
  have HQ:=Lib.hid hQ
  have HNN:=Lib.hid hnn
  have HENT:=Lib.hid hent
  have HENTS:=Lib.hid hents
  have HL:=Lib.hid hl
  clear hQ h hx hdc hnn hent hents hl
  unfold txCode
  conv=>arg 2;whnf
  (repeat (first|(with_reducible first|refine zA fun K hK=>?_|refine zB ?_|refine zC ?_)|((with_reducible first|refine zD rfl fun K hK=>?_|refine zE fun K hK=>?_);go_simp)|(with_reducible first|((repeat ((fail_if_success refine hK _ _ ?_);clear hK K));refine hK _ _ ?_;clear hK K)|refine zt ?_|refine zf ?_|refine zG ?_|refine zR ?_|refine zK ?_|refine zL ?_|refine zN ?_|refine zS ?_)|simp only [Exit.then,Exit.inBlock,Exit.noGoto,↓reduceIte,Nat.reduceEqDiff]|simp only [undef,reduceCtorEq,↓reduceIte]))
  refine hg.out.mono ?_
  rintro e1 w1 ⟨rfl,v1,h1,hn1,hb1,hm1,hz1⟩
  have H1:=Lib.hid h1
  have HS1:=Lib.hid (hm1.stp hb1)
  have HB1:=Lib.hid hb1
  have HN1:=Lib.hid hn1
  have HSY:=Lib.hid (fun msg=>synErr_w HX.out.toOk H1.out msg)
  clear h1 hn1 hb1 hm1 hz1 hg
  have b0l:(0:Int) ≤ (b.toNat:Int):=by omega
  by_cases h1:q=none∧b0=93∧b1=93∧b=62
  · obtain ⟨rfl,rfl,rfl,rfl⟩:=h1
    have hnv:NonNil v:=by
      rcases HNN.out with h|⟨h,_⟩
      · exact h
      · exact absurd h (by decide)
    rw [show (UInt8.toNat 93)=93 from rfl,show (UInt8.toNat 62)=62 from rfl,show qI none=-1 from rfl]
    cases cd with
    | true=>
      go_simp
      (repeat (first|(with_reducible first|refine zA fun K hK=>?_|refine zB ?_|refine zC ?_)|((with_reducible first|refine zD rfl fun K hK=>?_|refine zE fun K hK=>?_);go_simp)|(with_reducible first|((repeat ((fail_if_success refine hK _ _ ?_);clear hK K));refine hK _ _ ?_;clear hK K)|refine zt ?_|refine zf ?_|refine zG ?_|refine zR ?_|refine zK ?_|refine zL ?_|refine zN ?_|refine zS ?_)|simp only [Exit.then,Exit.inBlock,Exit.noGoto,↓reduceIte,Nat.reduceEqDiff]|simp only [undef,reduceCtorEq,↓reduceIte]))
      refine Q_keep [0,9] (fun f=>?_);simp only [keep_cons,keep_nil,lk_cons,lk_nil,Nat.reduceEqDiff,↓reduceIte]
      exact HQ.out.stop 2 _ _ _ rfl f w1 v1 H1.out HS1.out (fun hn=>hn.of_eq HB1.out) (fun _=>HN1.out)
    | false=>
      go_simp
      (repeat (first|(with_reducible first|refine zA fun K hK=>?_|refine zB ?_|refine zC ?_)|((with_reducible first|refine zD rfl fun K hK=>?_|refine zE fun K hK=>?_);go_simp)|(with_reducible first|((repeat ((fail_if_success refine hK _ _ ?_);clear hK K));refine hK _ _ ?_;clear hK K)|refine zt ?_|refine zf ?_|refine zG ?_|refine zR ?_|refine zK ?_|refine zL ?_|refine zN ?_|refine zS ?_)|simp only [Exit.then,Exit.inBlock,Exit.noGoto,↓reduceIte,Nat.reduceEqDiff]|simp only [undef,reduceCtorEq,↓reduceIte]))
      refine (HSY.out _).mono ?_
      rintro e2 w2 ⟨rfl,hS⟩
      have hc2:=hS.dec.cell
      have hf2:=hS.dec.frozen
      have HS:=Lib.hid hS
      clear hS
      go_simp
      (repeat (first|(with_reducible first|refine zA fun K hK=>?_|refine zB ?_|refine zC ?_)|((with_reducible first|refine zD rfl fun K hK=>?_|refine zE fun K hK=>?_);go_simp)|(with_reducible first|((repeat ((fail_if_success refine hK _ _ ?_);clear hK K));refine hK _ _ ?_;clear hK K)|refine zt ?_|refine zf ?_|refine zG ?_|refine zR ?_|refine zK ?_|refine zL ?_|refine zN ?_|refine zS ?_)|simp only [Exit.then,Exit.inBlock,Exit.noGoto,↓reduceIte,Nat.reduceEqDiff]|simp only [undef,reduceCtorEq,↓reduceIte]))
      refine Q_keep [6] (fun f=>?_);simp only [keep_cons,keep_nil,lk_cons,lk_nil,Nat.reduceEqDiff,↓reduceIte]
      exact HQ.out.bad .syn rfl f _ _ HS.out.err (HS1.out.trans HS.out.stp)
  · have HBRK:=Lib.hid h1
    clear h1
    go_simp
    (repeat ((fail_if_success with_reducible refine wp_stop 10 ?_);(fail_if_success with_reducible refine wp_stop2 10 ?_);(first|(with_reducible first|refine zA fun K hK=>?_|refine zB ?_|refine zC ?_)|((with_reducible first|refine zD rfl fun K hK=>?_|refine zE fun K hK=>?_);go_simp)|(with_reducible first|((repeat ((fail_if_success refine hK _ _ ?_);clear hK K));refine hK _ _ ?_;clear hK K)|refine zt ?_|refine zf ?_|refine zG ?_|refine zR ?_|refine zK ?_|refine zL ?_|refine zN ?_|refine zS ?_)|simp only [Exit.then,Exit.inBlock,Exit.noGoto,↓reduceIte,Nat.reduceEqDiff]|simp only [undef,reduceCtorEq,↓reduceIte])))
    (refine wp_keep [0,1,2,7,8,9,10] (fun f=>?_);simp only [keep_cons,keep_nil,lk_cons,lk_nil,Nat.reduceEqDiff,↓reduceIte])
    refine wp_seq_k (fun K hK=>?_)
    refine wp_seq_k (fun K0 hK0=>?_)
    refine wp_code (brkTest q b0 b1 b _ _ _ _ w1 f ?_) (by kernel_rfl)
    intro f
    rw [decide_eq_false HBRK.out]
    simp only [Exit.then]
    refine hK0 _ _ ?_
    clear hK0 K0
    by_cases h2:b=60∧cd=false
    · obtain ⟨rfl,rfl⟩:=h2
      rw [show (UInt8.toNat 60)=60 from rfl]
      cases q with
      | none=>
        rw [show qI none=-1 from rfl]
        have hun:=Lib.hid (ungetc_c x HX.out.toOk c w1 v1 60 r _ H1.out HN1.out HSUF.out)
        (repeat (first|(with_reducible first|refine zA fun K hK=>?_|refine zB ?_|refine zC ?_)|((with_reducible first|refine zD rfl fun K hK=>?_|refine zE fun K hK=>?_);go_simp)|(with_reducible first|((repeat ((fail_if_success refine hK _ _ ?_);clear hK K));refine hK _ _ ?_;clear hK K)|refine zt ?_|refine zf ?_|refine zG ?_|refine zR ?_|refine zK ?_|refine zL ?_|refine zN ?_|refine zS ?_)|simp only [Exit.then,Exit.inBlock,Exit.noGoto,↓reduceIte,Nat.reduceEqDiff]|simp only [undef,reduceCtorEq,↓reduceIte]))
        refine hun.out.mono ?_
        rintro e2 w2 ⟨rfl,v5,h5,_,hb5,hm5,_⟩
        have H5:=Lib.hid h5
        have HB5:=Lib.hid hb5
        have HS5:=Lib.hid (HS1.out.s0 hm5 hb5)
        clear h5 hm5 hb5 hun
        go_simp
        (repeat (first|(with_reducible first|refine zA fun K hK=>?_|refine zB ?_|refine zC ?_)|((with_reducible first|refine zD rfl fun K hK=>?_|refine zE fun K hK=>?_);go_simp)|(with_reducible first|((repeat ((fail_if_success refine hK _ _ ?_);clear hK K));refine hK _ _ ?_;clear hK K)|refine zt ?_|refine zf ?_|refine zG ?_|refine zR ?_|refine zK ?_|refine zL ?_|refine zN ?_|refine zS ?_)|simp only [Exit.then,Exit.inBlock,Exit.noGoto,↓reduceIte,Nat.reduceEqDiff]|simp only [undef,reduceCtorEq,↓reduceIte]))
        refine Q_keep [0,9] (fun f=>?_);simp only [keep_cons,keep_nil,lk_cons,lk_nil,Nat.reduceEqDiff,↓reduceIte]
        exact HQ.out.stop 0 (60 :: r) none buf (by unfold txNext;simp) f _ v5 H5.out HS5.out (fun hn=>(hn.of_eq HB1.out).of_eq HB5.out) (fun hh=>by cases hh)
      | some qb=>
        have h0:(0:Int) ≤ qI (some qb):=by show (0:Int) ≤ (qb.toNat:Int);omega
        (repeat (first|(with_reducible first|refine zA fun K hK=>?_|refine zB ?_|refine zC ?_)|((with_reducible first|refine zD rfl fun K hK=>?_|refine zE fun K hK=>?_);go_simp)|(with_reducible first|((repeat ((fail_if_success refine hK _ _ ?_);clear hK K));refine hK _ _ ?_;clear hK K)|refine zt ?_|refine zf ?_|refine zG ?_|refine zR ?_|refine zK ?_|refine zL ?_|refine zN ?_|refine zS ?_)|simp only [Exit.then,Exit.inBlock,Exit.noGoto,↓reduceIte,Nat.reduceEqDiff]|simp only [undef,reduceCtorEq,↓reduceIte]))
        refine (HSY.out _).mono ?_
        rintro e2 w2 ⟨rfl,hS⟩
        have hc2:=hS.dec.cell
        have hf2:=hS.dec.frozen
        have HS:=Lib.hid hS
        clear hS
        go_simp
        (repeat (first|(with_reducible first|refine zA fun K hK=>?_|refine zB ?_|refine zC ?_)|((with_reducible first|refine zD rfl fun K hK=>?_|refine zE fun K hK=>?_);go_simp)|(with_reducible first|((repeat ((fail_if_success refine hK _ _ ?_);clear hK K));refine hK _ _ ?_;clear hK K)|refine zt ?_|refine zf ?_|refine zG ?_|refine zR ?_|refine zK ?_|refine zL ?_|refine zN ?_|refine zS ?_)|simp only [Exit.then,Exit.inBlock,Exit.noGoto,↓reduceIte,Nat.reduceEqDiff]|simp only [undef,reduceCtorEq,↓reduceIte]))
        refine Q_keep [6] (fun f=>?_);simp only [keep_cons,keep_nil,lk_cons,lk_nil,Nat.reduceEqDiff,↓reduceIte]
        exact HQ.out.bad .syn (by unfold txNext;simp) f _ _ HS.out.err (HS1.out.trans HS.out.stp)
    · have H2:=Lib.hid h2
      have h60:((b.toNat:Int) == 60)=false ∨ (((b.toNat:Int) == 60)=true∧cd=true):=by
        by_cases hb:b=60
        · right
          subst hb
          cases cd with
          | true=>exact ⟨rfl,rfl⟩
          | false=>exact absurd ⟨rfl,rfl⟩ h2
        · exact Or.inl (u8ne hb rfl)
      clear h2
      rcases h60 with h60|⟨h60,rfl⟩
      all_goals
        (repeat ((fail_if_success with_reducible refine wp_stop 20 ?_);(fail_if_success with_reducible refine wp_stop2 20 ?_);(first|(with_reducible first|refine zA fun K hK=>?_|refine zB ?_|refine zC ?_)|((with_reducible first|refine zD rfl fun K hK=>?_|refine zE fun K hK=>?_);go_simp)|(with_reducible first|((repeat ((fail_if_success refine hK _ _ ?_);clear hK K));refine hK _ _ ?_;clear hK K)|refine zt ?_|refine zf ?_|refine zG ?_|refine zR ?_|refine zK ?_|refine zL ?_|refine zN ?_|refine zS ?_)|simp only [Exit.then,Exit.inBlock,Exit.noGoto,↓reduceIte,Nat.reduceEqDiff]|simp only [undef,reduceCtorEq,↓reduceIte])))
        (refine wp_keep [0,1,2,7,8,9,10] (fun f=>?_);simp only [keep_cons,keep_nil,lk_cons,lk_nil,Nat.reduceEqDiff,↓reduceIte])
        clear h60
        refine wp_seq_k (fun K hK=>?_)
        refine wp_seq_k (fun K0 hK0=>?_)
        refine wp_code (quoTest q b _ _ _ _ _ _ w1 f ?_) (by kernel_rfl)
        intro f
        simp only [Exit.then]
        refine hK0 _ _ ?_
        clear hK0 K0
        by_cases h3:q=some b
        · rw [decide_eq_true h3]
          have H3:=Lib.hid h3
          clear h3
          (repeat (first|(with_reducible first|refine zA fun K hK=>?_|refine zB ?_|refine zC ?_)|((with_reducible first|refine zD rfl fun K hK=>?_|refine zE fun K hK=>?_);go_simp)|(with_reducible first|((repeat ((fail_if_success refine hK _ _ ?_);clear hK K));refine hK _ _ ?_;clear hK K)|refine zt ?_|refine zf ?_|refine zG ?_|refine zR ?_|refine zK ?_|refine zL ?_|refine zN ?_|refine zS ?_)|simp only [Exit.then,Exit.inBlock,Exit.noGoto,↓reduceIte,Nat.reduceEqDiff]|simp only [undef,reduceCtorEq,↓reduceIte]))
          refine Q_keep [0,9] (fun f=>?_);simp only [keep_cons,keep_nil,lk_cons,lk_nil,Nat.reduceEqDiff,↓reduceIte]
          exact HQ.out.stop 0 r none buf (by unfold txNext;simp only [if_neg HBRK.out,if_neg H2.out,if_pos H3.out]) f _ v1 H1.out HS1.out (fun hn=>hn.of_eq HB1.out) (fun _=>HN1.out)
        · rw [decide_eq_false h3]
          have H3:=Lib.hid h3
          clear h3
          (repeat ((fail_if_success with_reducible refine wp_stop 21 ?_);(fail_if_success with_reducible refine wp_stop2 21 ?_);(first|(with_reducible first|refine zA fun K hK=>?_|refine zB ?_|refine zC ?_)|((with_reducible first|refine zD rfl fun K hK=>?_|refine zE fun K hK=>?_);go_simp)|(with_reducible first|((repeat ((fail_if_success refine hK _ _ ?_);clear hK K));refine hK _ _ ?_;clear hK K)|refine zt ?_|refine zf ?_|refine zG ?_|refine zR ?_|refine zK ?_|refine zL ?_|refine zN ?_|refine zS ?_)|simp only [Exit.then,Exit.inBlock,Exit.noGoto,↓reduceIte,Nat.reduceEqDiff]|simp only [undef,reduceCtorEq,↓reduceIte])))
          (refine wp_keep [0,1,2,7,8,9,10] (fun f=>?_);simp only [keep_cons,keep_nil,lk_cons,lk_nil,Nat.reduceEqDiff,↓reduceIte])
          exact wp_code (textRest x HX.out c HD.out HENT.out HENTS.out q _ w w1 v v1 b r buf b0 b1 H1.out HS1.out HSUF.out (HNN.out.imp (fun h=>h.of_eq HB1.out) id) HL.out HBRK.out H2.out H3.out Q HQ.out f) (by kernel_rfl)
end Go.Proofs.YtkjnockljapnbaaGreatDoor
