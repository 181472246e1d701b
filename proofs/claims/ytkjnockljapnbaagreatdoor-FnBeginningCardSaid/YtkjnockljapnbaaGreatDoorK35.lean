/- Part of the proof that laws.FnBeginning, laws.FnPlaces returns true for every argument (Wq, Sb). No condition of its own. -/
import Derived.Test.YtkjnockljapnbaaGreatDoorK34
import Derived.Test.YtkjnockljapnbaaGreatDoorK21
set_option linter.all false
set_option maxHeartbeats 8000000
set_option maxRecDepth 100000
namespace Go.Proofs.YtkjnockljapnbaaGreatDoor
open Go Go.RowKit
theorem textL_head {o:Opt}:∀ (n:Nat) (rest:Bs),rest.length ≤ n → ∀ (b0 b1:UInt8) (buf:Bs) {d r:Bs},textL o none false rest b0 b1 buf=.ok (d,r) → r=[] ∨ ∃ t,r=60 :: t:=by
  intro n
  induction n with
  | zero=>
    intro rest hl b0 b1 buf d r h
    have:rest=[]:=List.eq_nil_of_length_eq_zero (by omega)
    subst this
    unfold textL at h
    rw [if_neg (by simp)] at h
    split at h
    · simp only [Except.ok.injEq,Prod.mk.injEq] at h;exact Or.inl h.2.symm
    · cases h
  | succ n ih=>
    intro rest hl b0 b1 buf d r h
    cases rest with
    | nil=>
      unfold textL at h
      rw [if_neg (by simp)] at h
      split at h
      · simp only [Except.ok.injEq,Prod.mk.injEq] at h;exact Or.inl h.2.symm
      · cases h
    | cons b t=>
      have ht:t.length ≤ n:=by simp at hl;omega
      unfold textL at h
      split at h
      · split at h
        · rename_i hh;cases hh
        · cases h
      · split at h
        · rename_i hb
          rw [if_pos rfl] at h
          split at h
          · simp only [Except.ok.injEq,Prod.mk.injEq] at h
            exact Or.inr ⟨t,by rw [← h.2,hb.1]⟩
          · cases h
        · split at h
          · rename_i hh;cases hh
          · split at h
            · split at h
              · cases h
              · rename_i hr;exact ih _ (by have:=suf_len (refL_suf hr);omega) _ _ _ h
              · rename_i hr
                split at h
                · cases h
                · exact ih _ (by have:=suf_len (refL_suf hr);omega) _ _ _ h
            · exact ih _ ht _ _ _ h
theorem RdS.nb_text {x:Cx} {c:DC} {w:World} {v:DV} {r:Bs} {e:Option EK} {b:Bs} (h:RdS x c w v r e b) (hr:r=[] ∨ ∃ t,r=60 :: t):v.nb ≠ 10:=by
  obtain ⟨un,_,h1⟩:=h.inp
  rcases h1 with ⟨h1,_⟩|⟨b,h1,h2⟩
  · rw [h1];decide
  · rcases hr with hr|⟨t,hr⟩
    · rw [hr] at h2;cases h2
    · rw [hr] at h2
      simp only [List.cons.injEq] at h2
      rw [h1,← h2.1];decide
theorem rawClose (x:Cx) (hx:x.Ok) (c:DC) (w:World) (v:DV) (s:St) (nm:Bs × Bs) (hen:s.ended=false) (htc:s.toClose=some nm) (hts:RdTS x c w v s) :
    Calls Tryz.prog 23 #[decP x] w fun en w'=>∃ t e,en=.returned (.tuple #[t,e])∧RawTokPost x c w v s t e w':=by
  obtain ⟨⟨e,b,hR,h1,h2⟩,hnc,htcs,hnb⟩:=hts
  have he:e=none:=by
    cases e with
    | none=>rfl
    | some k=>have:=h2 (by simp);rw [htc] at this;cases this
  subst he
  obtain ⟨q1,q2⟩:=htcs nm htc
  rw [htc] at hnc
  have hnc':c.needClose=true:=hnc
  have hc:=hR.dec.cell
  have hf:=hR.dec.frozen
  have hve:v.err=.nilIface:=hR.err
  have HX:=Lib.hid hx
  have HR:=Lib.hid hR
  have HRAW:=Lib.hid (show rawL x.o s=.ok (.fin nm,{ s with toClose:=none }) by unfold rawL;rw [if_neg (by rw [hen];simp),htc])
  have HEN:=Lib.hid hen
  have HNB:=Lib.hid hnb
  clear hR h1 h2 hnc htcs htc hen hx hnb
  refine calls_fr (vs:=[_]) 731 Tryz.func23 rfl rfl (Nat.le_of_ble_eq_true rfl) fun f=>?_
  simp only [argSlots]
  (repeat (first|(with_reducible first|refine zA fun K hK=>?_|refine zB ?_|refine zC ?_)|((with_reducible first|refine zD rfl fun K hK=>?_|refine zE fun K hK=>?_);go_simp)|(with_reducible first|((repeat ((fail_if_success refine hK _ _ ?_);clear hK K));refine hK _ _ ?_;clear hK K)|refine zT (by go_simp;first|done|omega) ?_|refine zF (by go_simp;first|done|omega) ?_|refine zG ?_|refine zR ?_|refine zK ?_|refine zL ?_|refine zN ?_|refine zS ?_)|simp only [Exit.then,Exit.inBlock,Exit.noGoto,↓reduceIte,Nat.reduceEqDiff]|simp only [undef,reduceCtorEq,↓reduceIte]))
  (refine fr_out2 rfl (by decide) (by decide) (by simp only [lk_cons,lk_nil,Nat.reduceEqDiff,↓reduceIte];rfl) (by simp only [lk_cons,lk_nil,Nat.reduceEqDiff,↓reduceIte];rfl) ?_)
  refine ⟨_,_,rfl,?_⟩
  unfold RawTokPost
  rw [HRAW.out]
  have hm:Mod (fun k=>k=x.d) w (w.setCell ⟨x.d,14,none⟩ (.bool false)):=(Mod.refl (fun k=>k=x.d) w).setCell (p:=⟨x.d,14,none⟩) (Or.inl rfl) _
  have hd:DecAt (w.setCell ⟨x.d,14,none⟩ (.bool false)) x.d { c with needClose:=false } v:=(show Blk w x.d _ _ from HR.out.dec).set 14 (.bool false)
  refine ⟨v,{ c with needClose:=false },(Stp.refl x w v).s0 (hm.mono (fun i _ hi=>Or.inl hi)) rfl,rfl,⟨false,c.tcs,c.tcl,rfl⟩,⟨⟨none,b,HR.out.turn HX.out hd hm,fun h=>?_,fun _=>rfl⟩,rfl,fun nm h=>(by cases h),HNB.out⟩,rfl,fun _=>⟨HEN.out,b,HR.out.turn HX.out hd hm⟩⟩
  have h9:s.ended=true:=h
  rw [HEN.out] at h9;cases h9
theorem rawNone (x:Cx) (hx:x.All) (c:DC) (hdc:DcOk x c) (hnc:c.needClose=false) (w:World) (v:DV) (buf:Bs) (h:RdS x c w v [] none buf) :
    Calls Tryz.prog 23 #[decP x] w fun en w'=>∃ v',Stp x w v w' v'∧en=.returned (.tuple #[.nilIface,v'.err])∧ErrS x c w' v' (endE x.o.fails):=by
  have hg:=Lib.hid (getc_none x hx.toOk c hdc w v none buf h)
  have hc:=h.dec.cell
  have hf:=h.dec.frozen
  have he:v.err=.nilIface:=h.err
  clear h hx hdc
  refine calls_fr (vs:=[_]) 731 Tryz.func23 rfl rfl (Nat.le_of_ble_eq_true rfl) fun f=>?_
  simp only [argSlots]
  (repeat (first|(with_reducible first|refine zA fun K hK=>?_|refine zB ?_|refine zC ?_)|((with_reducible first|refine zD rfl fun K hK=>?_|refine zE fun K hK=>?_);go_simp)|(with_reducible first|((repeat ((fail_if_success refine hK _ _ ?_);clear hK K));refine hK _ _ ?_;clear hK K)|refine zT (by go_simp;first|done|omega) ?_|refine zF (by go_simp;first|done|omega) ?_|refine zG ?_|refine zR ?_|refine zK ?_|refine zL ?_|refine zN ?_|refine zS ?_)|simp only [Exit.then,Exit.inBlock,Exit.noGoto,↓reduceIte,Nat.reduceEqDiff]|simp only [undef,reduceCtorEq,↓reduceIte]))
  refine hg.out.mono ?_
  rintro e1 w1 ⟨rfl,v1,h1,hn1,hb1,hm1,_⟩
  have HS1:=Lib.hid ((Stp.refl x w v).s0 hm1 hb1)
  have HE:=Lib.hid (show ErrS x c w1 v1 (endE x.o.fails) from ⟨h1.base,h1.dec,h1.err⟩)
  obtain ⟨t1,u1,hu1⟩:=HE.out.err.iface
  have HU:=Lib.hid hu1
  have hc:=h1.dec.cell
  have hf:=h1.dec.frozen
  clear h1 hn1 hb1 hm1 hg he hnc
  go_simp
  (repeat (first|(with_reducible first|refine zA fun K hK=>?_|refine zB ?_|refine zC ?_)|((with_reducible first|refine zD rfl fun K hK=>?_|refine zE fun K hK=>?_);go_simp)|(with_reducible first|((repeat ((fail_if_success refine hK _ _ ?_);clear hK K));refine hK _ _ ?_;clear hK K)|refine zT (by go_simp;first|done|omega) ?_|refine zF (by go_simp;first|done|omega) ?_|refine zG ?_|refine zR ?_|refine zK ?_|refine zL ?_|refine zN ?_|refine zS ?_)|simp only [Exit.then,Exit.inBlock,Exit.noGoto,↓reduceIte,Nat.reduceEqDiff]|simp only [undef,reduceCtorEq,↓reduceIte]))
  ((refine wp_keep [0] (fun f=>?_);simp only [keep_cons,keep_nil,lk_cons,lk_nil,Nat.reduceEqDiff,↓reduceIte]);go_quiet (fail);(repeat (first|(with_reducible first|refine zA fun K hK=>?_|refine zB ?_|refine zC ?_)|((with_reducible first|refine zD rfl fun K hK=>?_|refine zE fun K hK=>?_);go_simp)|(with_reducible first|((repeat ((fail_if_success refine hK _ _ ?_);clear hK K));refine hK _ _ ?_;clear hK K)|refine zT (by go_simp;first|done|omega) ?_|refine zF (by go_simp;first|done|omega) ?_|refine zG ?_|refine zR ?_|refine zK ?_|refine zL ?_|refine zN ?_|refine zS ?_)|simp only [Exit.then,Exit.inBlock,Exit.noGoto,↓reduceIte,Nat.reduceEqDiff]|simp only [undef,reduceCtorEq,↓reduceIte]));refine Q_keep [2,3] (fun f=>?_);simp only [keep_cons,keep_nil,lk_cons,lk_nil,Nat.reduceEqDiff,↓reduceIte])
  (refine fr_out2 rfl (by decide) (by decide) (by simp only [lk_cons,lk_nil,Nat.reduceEqDiff,↓reduceIte];rfl) (by simp only [lk_cons,lk_nil,Nat.reduceEqDiff,↓reduceIte];rfl) ?_)
  exact ⟨v1,HS1.out.drawn _,by rw [HU.out],HE.out.drewN _⟩
theorem rawL_nil {o:Opt} {s:St} (htc:s.toClose=none) (hr:s.rest=[]):rawL o s=.error (endE o.fails):=by
  obtain ⟨rest,en,tc,stk,ns,nx⟩:=s
  simp only at htc hr
  subst htc hr
  unfold rawL
  cases en <;> rfl
theorem rawL_text {o:Opt} {s:St} (hen:s.ended=false) (htc:s.toClose=none) {b:UInt8} {r:Bs} (hb:b ≠ 60) (hr:s.rest=b :: r):rawL o s=match textL o none false (b :: r) 0 0 [] with
    | .error e=>.error e
    | .ok (d,r2)=>.ok (.text d,{ s with rest:=r2,ended:=r2 == [] }):=by
  obtain ⟨rest,en,tc,stk,ns,nx⟩:=s
  simp only at htc hr hen
  subst htc hr hen
  unfold rawL
  simp only [Bool.false_eq_true,if_false]
  rw [if_pos hb]
  cases textL o none false (b :: r) 0 0 [] <;> rfl
theorem rawTok_c (x:Cx) (hx:x.All) (haf:AfTab x.W0) (hafB:3 < x.B) (c:DC) (hdc:DcOk x c) (hno:NoEnt x c) (w:World) (v:DV) (s:St) (hts:RdTS x c w v s) :
    Calls Tryz.prog 23 #[decP x] w fun en w'=>∃ t e,en=.returned (.tuple #[t,e])∧RawTokPost x c w v s t e w':=by
  obtain ⟨⟨e,b,hR,h1,h2⟩,hnc,htcs,_⟩:=id hts
  cases e with
  | some k=>
    have htc:=h2 (by simp)
    obtain ⟨t1,u1,hu1⟩:=hR.err.iface
    have hfin:=hR.fin
    rcases hfin with hfin|⟨hfin,hrest⟩
    · cases hfin
    · refine (rawErr x c w v hR.dec t1 u1 hu1).mono ?_
      rintro en w' ⟨rfl,k',rfl⟩
      refine ⟨_,_,rfl,?_⟩
      unfold RawTokPost
      rw [rawL_nil htc hrest]
      have hk:k=endE x.o.fails:=by simpa using hfin
      subst hk
      exact ⟨v,Stp.drewN _,rfl,rfl,ErrS.drewN ⟨hR.base,hR.dec,hR.err⟩ _,OthAt.no (endE_no _)⟩
  | none=>
    have hen:s.ended=false:=by
      cases h:s.ended with
      | false=>rfl
      | true=>exact absurd rfl (h1 h)
    cases htc:s.toClose with
    | some nm=>exact rawClose x hx.toOk c w v s nm hen htc hts
    | none=>
      have hnc':c.needClose=false:=by rw [hnc,htc];rfl
      cases hr:s.rest with
      | nil=>
        rw [hr] at hR
        refine (rawNone x hx c hdc hnc' w v b hR).mono ?_
        rintro en w' ⟨v',hs,rfl,hE⟩
        refine ⟨_,_,rfl,?_⟩
        unfold RawTokPost
        rw [rawL_nil htc hr]
        exact ⟨v',hs,rfl,rfl,hE,OthAt.no (endE_no _)⟩
      | cons d r=>
        rw [hr] at hR
        by_cases hd:d=60
        · subst hd
          exact rawTag x hx haf hafB c hdc hno hnc' w v s r hr hen htc b hR
        · refine (rawText x hx c hdc hno hnc' w v d r b hd hR).mono ?_
          rintro en w' ⟨v',hs,hp⟩
          have hraw:=rawL_text (o:=x.o) hen htc hd hr
          cases hres:textL x.o none false (d :: r) 0 0 [] with
          | error k=>
            rw [hres] at hp hraw
            obtain ⟨rfl,hE⟩:=hp
            refine ⟨_,_,rfl,?_⟩
            unfold RawTokPost
            rw [hraw]
            exact ⟨v',hs,rfl,rfl,hE,OthAt.no (fun hh=>textL_no _ _ _ _ _ (Nat.le_refl _) _ _ _ (by rw [← hh];exact hres))⟩
          | ok p=>
            obtain ⟨tx,r'⟩:=p
            rw [hres] at hp hraw
            obtain ⟨g,cap,e',b',rfl,hR',hbv,hd1,hd2,hend⟩:=hp
            refine ⟨_,_,rfl,?_⟩
            unfold RawTokPost
            rw [hraw]
            refine ⟨v',c,hs,rfl,SameC.refl c,⟨⟨e',b',hR',fun h=>?_,fun _=>htc⟩,by rw [hnc',htc];rfl,fun nm h=>(by rw [htc] at h;cases h),hR'.nb_text (textL_head _ _ (Nat.le_refl _) _ _ _ hres)⟩,⟨_,rfl,?_⟩,fun h=>absurd rfl (h tx)⟩
            · have h9:r'=[]:=by simpa using h
              rw [hend h9];simp
            · have hby:=(hR'.bf.part hbv hd1 hd2).1
              rcases hR'.bf with ⟨h5,_⟩|⟨g',cap',arr,h5,hg,hsz,hl,hcp,_,_,hel⟩
              · rw [h5] at hbv;cases hbv
              · have h6:=h5
                rw [h5] at hbv
                simp only [Value.slice.injEq,Option.some.injEq,Addr.mk.injEq] at hbv
                obtain ⟨⟨rfl,_⟩,_,rfl⟩:=hbv
                exact ⟨g',cap',b'.length,rfl,h6,hby,by omega,hcp⟩
end Go.Proofs.YtkjnockljapnbaaGreatDoor
namespace Go.Proofs.YtkjnockljapnbaaGreatDoor
open Go Go.RowKit
structure PushPost (x:Cx) (c:DC) (w:World) (v:DV) (k:Int) (fb:List Nat) (w':World) (q:Nat) (fb':List Nat):Prop where
  dec:∃ c',DecAt w' x.d c' v∧∃ nx dp,c'={ c with stk:=.pointer (some ⟨q,0,none⟩),free:=nx,depth:=dp }∧∃ fl,StkAt w' nx fl fb'
  blk:∃ sp loc ok,Blk w' q (skCells c.stk k sp loc ok) 88
  mod:Mod (fun b=>b=x.d ∨ b=q) w w'
  fbs:(fb=q :: fb') ∨ (fb=[]∧fb'=[]∧q=w.heap.size)
theorem StkAt.ptr {w:World} {p:Value} {l:List Ent} {bs:List Nat} (h:StkAt w p l bs):(p=.pointer none∧bs=[]∧l=[]) ∨ ∃ q e l' bs',p=.pointer (some ⟨q,0,none⟩)∧bs=q :: bs'∧l=e :: l':=by
  cases l with
  | nil=>
    cases bs with
    | nil=>exact Or.inl ⟨h,rfl,rfl⟩
    | cons b bs=>exact h.elim
  | cons e l=>
    cases bs with
    | nil=>exact h.elim
    | cons b bs=>exact Or.inr ⟨b,e,l,bs,h.1,rfl,rfl⟩
noncomputable def puCode (n:Nat):Code:=((Tryz.f51.body).bind (Code.partAt n)).getD .skip
noncomputable def poCode (n:Nat):Code:=((Tryz.f52.body).bind (Code.partAt n)).getD .skip
theorem pushTail (x:Cx) (c:DC) (w:World) (v:DV) (hd:DecAt w x.d c v) (k:Int) (hk:k=0 ∨ k=1) (q:Nat) (hqd:q ≠ x.d) (nx:Value) (k0:Int) (sp loc:Bs) (ok:Bool) (hq:Blk w q (skCells nx k0 sp loc ok) 88) (a:Option Addr) (hstk:c.stk=.pointer a) (Q:Exit → Act → World → Prop)
    (hQ:∀ f w' c',DecAt w' x.d c' v → (∃ dp,c'={ c with stk:=.pointer (some ⟨q,0,none⟩),depth:=dp }) → Blk w' q (skCells c.stk k sp loc ok) 88 → Mod (fun b=>b=x.d ∨ b=q) w w' → Q .ret (fr 45 f [(4,.pointer (some ⟨q,0,none⟩))]) w') (f:Nat → Value) :
    (puCode 5).wp Tryz.prog Q (fr 45 f [(0,decP x),(1,.int .i64 k),(5,.pointer (some ⟨q,0,none⟩))]) w:=by
  have hc:=hd.cell
  have hf:=hd.frozen
  have hcq:=hq.cell
  have hfq:=hq.frozen
  have hdq:x.d ≠ q:=fun e=>hqd e.symm
  have HD:=Lib.hid hd
  have HB:=Lib.hid hq
  have HQ:=Lib.hid hQ
  clear hd hq hQ
  obtain ⟨c1,c2,c3,c4,c5,c6,c7,c8,c9,c10,c11,c12,c13⟩:=c
  simp only at hstk
  subst hstk
  unfold puCode
  conv=>arg 2;whnf
  have hm:∀ (S:Nat → Prop),S x.d → S q → ∀ (u1 u2 u3:Value),Mod S w (((w.setCell ⟨q,0,none⟩ u1).setCell ⟨q,1,none⟩ u2).setCell ⟨x.d,11,none⟩ u3):=fun S h1 h2 u1 u2 u3=>
    (((Mod.refl S w).setCell (p:=⟨q,0,none⟩) (Or.inl h2) u1).setCell (p:=⟨q,1,none⟩) (Or.inl h2) u2).setCell (p:=⟨x.d,11,none⟩) (Or.inl h1) u3
  have HM:=Lib.hid hm
  clear hm
  rcases hk with rfl|rfl
  · (repeat (first|(with_reducible first|refine zA fun K hK=>?_|refine zB ?_|refine zC ?_)|((with_reducible first|refine zD rfl fun K hK=>?_|refine zE fun K hK=>?_);go_simp)|(with_reducible first|((repeat ((fail_if_success refine hK _ _ ?_);clear hK K));refine hK _ _ ?_;clear hK K)|refine zT (by go_simp;first|done|omega) ?_|refine zF (by go_simp;first|done|omega) ?_|refine zG ?_|refine zR ?_|refine zK ?_|refine zL ?_|refine zN ?_|refine zS ?_)|simp only [Exit.then,Exit.inBlock,Exit.noGoto,↓reduceIte,Nat.reduceEqDiff]|simp only [undef,reduceCtorEq,↓reduceIte]))
    refine Q_keep [4] (fun f=>?_);simp only [keep_cons,keep_nil,lk_cons,lk_nil,Nat.reduceEqDiff,↓reduceIte]
    refine HQ.out f _ _ ?_ ⟨IntKind.i64.wrap (c7 + 1),rfl⟩ ?_ ?_
    · exact ((((show Blk w x.d _ _ from HD.out).set_ne (a:=⟨q,0,none⟩) hdq (.pointer a)).set_ne (a:=⟨q,1,none⟩) hdq (.int .i64 0)).set 12 (.int .i64 (IntKind.i64.wrap (c7 + 1)))).set 11 (.pointer (some ⟨q,0,none⟩))
    · exact ((((show Blk w q _ _ from HB.out).set 0 (.pointer a)).set 1 (.int .i64 0)).set_ne (a:=⟨x.d,12,none⟩) hqd (.int .i64 (IntKind.i64.wrap (c7 + 1)))).set_ne (a:=⟨x.d,11,none⟩) hqd (.pointer (some ⟨q,0,none⟩))
    · exact ((((Mod.refl (fun b=>b=x.d ∨ b=q) w).setCell (p:=⟨q,0,none⟩) (Or.inl (Or.inr rfl)) _).setCell (p:=⟨q,1,none⟩) (Or.inl (Or.inr rfl)) _).setCell (p:=⟨x.d,12,none⟩) (Or.inl (Or.inl rfl)) _).setCell (p:=⟨x.d,11,none⟩) (Or.inl (Or.inl rfl)) _
  · (repeat (first|(with_reducible first|refine zA fun K hK=>?_|refine zB ?_|refine zC ?_)|((with_reducible first|refine zD rfl fun K hK=>?_|refine zE fun K hK=>?_);go_simp)|(with_reducible first|((repeat ((fail_if_success refine hK _ _ ?_);clear hK K));refine hK _ _ ?_;clear hK K)|refine zT (by go_simp;first|done|omega) ?_|refine zF (by go_simp;first|done|omega) ?_|refine zG ?_|refine zR ?_|refine zK ?_|refine zL ?_|refine zN ?_|refine zS ?_)|simp only [Exit.then,Exit.inBlock,Exit.noGoto,↓reduceIte,Nat.reduceEqDiff]|simp only [undef,reduceCtorEq,↓reduceIte]))
    refine Q_keep [4] (fun f=>?_);simp only [keep_cons,keep_nil,lk_cons,lk_nil,Nat.reduceEqDiff,↓reduceIte]
    refine HQ.out f _ _ ?_ ⟨c7,rfl⟩ ?_ ?_
    · exact (((show Blk w x.d _ _ from HD.out).set_ne (a:=⟨q,0,none⟩) hdq (.pointer a)).set_ne (a:=⟨q,1,none⟩) hdq (.int .i64 1)).set 11 (.pointer (some ⟨q,0,none⟩))
    · exact (((show Blk w q _ _ from HB.out).set 0 (.pointer a)).set 1 (.int .i64 1)).set_ne (a:=⟨x.d,11,none⟩) hqd (.pointer (some ⟨q,0,none⟩))
    · exact HM.out _ (Or.inl rfl) (Or.inr rfl) _ _ _
theorem push_c (x:Cx) (c:DC) (w:World) (v:DV) (hd:DecAt w x.d c v) (k:Int) (hk:k=0 ∨ k=1) (a:Option Addr) (hstk:c.stk=.pointer a) (fl:List Ent) (fb:List Nat) (hfree:StkAt w c.free fl fb) (hxd:∀ b ∈ fb,b ≠ x.d) (hnd:fb.Nodup) :
    Calls Tryz.prog 51 #[decP x,.int .i64 k] w fun en w'=>∃ q fb',en=.returned (.pointer (some ⟨q,0,none⟩))∧PushPost x c w v k fb w' q fb':=by
  have hc:=hd.cell
  have hf:=hd.frozen
  have HD:=Lib.hid hd
  have HK:=Lib.hid hk
  rcases hfree.ptr with ⟨h1,rfl,rfl⟩|⟨q,e,l',bs',h1,rfl,rfl⟩
  · have hdn:x.d ≠ w.heap.size:=by have:=Blk.lt hd;omega
    clear hfree hxd hnd hd hk
    obtain ⟨c1,c2,c3,c4,c5,c6,c7,c8,c9,c10,c11,c12,c13⟩:=c
    simp only at hstk h1
    subst hstk h1
    refine calls_fr (vs:=[_,_]) 45 Tryz.func51 rfl rfl (Nat.le_of_ble_eq_true rfl) fun f=>?_
    simp only [argSlots]
    (repeat ((fail_if_success with_reducible refine wp_stop 5 ?_);(fail_if_success with_reducible refine wp_stop2 5 ?_);(first|(with_reducible first|refine zA fun K hK=>?_|refine zB ?_|refine zC ?_)|((with_reducible first|refine zD rfl fun K hK=>?_|refine zE fun K hK=>?_);go_simp)|(with_reducible first|((repeat ((fail_if_success refine hK _ _ ?_);clear hK K));refine hK _ _ ?_;clear hK K)|refine zT (by go_simp;first|done|omega) ?_|refine zF (by go_simp;first|done|omega) ?_|refine zG ?_|refine zR ?_|refine zK ?_|refine zL ?_|refine zN ?_|refine zS ?_)|simp only [Exit.then,Exit.inBlock,Exit.noGoto,↓reduceIte,Nat.reduceEqDiff]|simp only [undef,reduceCtorEq,↓reduceIte])))
    (refine wp_keep [0,1,5] (fun f=>?_);simp only [keep_cons,keep_nil,lk_cons,lk_nil,Nat.reduceEqDiff,↓reduceIte])
    refine wp_code (pushTail x _ _ v ((show Blk w x.d _ _ from HD.out).alloc _) k HK.out w.heap.size (fun e=>hdn e.symm) _ _ [] [] _ (Blk.new w #[.pointer none,.int .i64 0,strV [],strV [],.bool false] 88) a rfl _ ?_ f) (by kernel_rfl)
    rintro f w' c' hd' ⟨dp,rfl⟩ hb' hm'
    (refine fr_out1 rfl (by decide) (by simp only [lk_cons,lk_nil,Nat.reduceEqDiff,↓reduceIte];rfl) ?_)
    refine ⟨w.heap.size,[],rfl,⟨_,hd',_,dp,rfl,[],rfl⟩,⟨[],[],false,hb'⟩,?_,Or.inr ⟨rfl,rfl,rfl⟩⟩
    exact (mod_none ((Below.refl _ w).alloc (Nat.le_refl _) _) _).trans hm' (fun i _ hi=>hi)
  · have hqd:q ≠ x.d:=hxd q (by simp)
    obtain ⟨hp,nx,ok,hb,hke,hrest⟩:=hfree
    obtain ⟨an,han⟩:∃ an,nx=.pointer an:=by
      rcases hrest.ptr with ⟨h,_⟩|⟨_,_,_,_,h,_⟩
      · exact ⟨_,h⟩
      · exact ⟨_,h⟩
    subst han
    have hcq:=hb.cell
    have hfq:=hb.frozen
    have hdq:x.d ≠ q:=fun e=>hqd e.symm
    have HB:=Lib.hid hb
    have HR:=Lib.hid hrest
    have HND:=Lib.hid (show ∀ b ∈ bs',b ≠ x.d∧b ≠ q from fun b hbb=>⟨hxd b (by simp [hbb]),fun e=>by
      rw [List.nodup_cons] at hnd
      exact hnd.1 (e ▸ hbb)⟩)
    clear hxd hnd hd hk hp hke hrest hb
    obtain ⟨c1,c2,c3,c4,c5,c6,c7,c8,c9,c10,c11,c12,c13⟩:=c
    simp only at hstk h1
    subst hstk h1
    refine calls_fr (vs:=[_,_]) 45 Tryz.func51 rfl rfl (Nat.le_of_ble_eq_true rfl) fun f=>?_
    simp only [argSlots]
    (repeat ((fail_if_success with_reducible refine wp_stop 5 ?_);(fail_if_success with_reducible refine wp_stop2 5 ?_);(first|(with_reducible first|refine zA fun K hK=>?_|refine zB ?_|refine zC ?_)|((with_reducible first|refine zD rfl fun K hK=>?_|refine zE fun K hK=>?_);go_simp)|(with_reducible first|((repeat ((fail_if_success refine hK _ _ ?_);clear hK K));refine hK _ _ ?_;clear hK K)|refine zT (by go_simp;first|done|omega) ?_|refine zF (by go_simp;first|done|omega) ?_|refine zG ?_|refine zR ?_|refine zK ?_|refine zL ?_|refine zN ?_|refine zS ?_)|simp only [Exit.then,Exit.inBlock,Exit.noGoto,↓reduceIte,Nat.reduceEqDiff]|simp only [undef,reduceCtorEq,↓reduceIte])))
    (refine wp_keep [0,1,5] (fun f=>?_);simp only [keep_cons,keep_nil,lk_cons,lk_nil,Nat.reduceEqDiff,↓reduceIte])
    have hd1:DecAt (w.setCell ⟨x.d,13,none⟩ (.pointer an)) x.d ⟨c1,c2,c3,c4,c5,.pointer a,c7,.pointer an,c9,c10,c11,c12,c13⟩ v:=(show Blk w x.d _ _ from HD.out).set 13 (.pointer an)
    have hb1:Blk (w.setCell ⟨x.d,13,none⟩ (.pointer an)) q _ _:=(show Blk w q _ _ from HB.out).set_ne (a:=⟨x.d,13,none⟩) hqd (.pointer an)
    refine wp_code (pushTail x _ _ v hd1 k HK.out q hqd _ _ _ _ _ hb1 a rfl _ ?_ f) (by kernel_rfl)
    rintro f w' c' hd' ⟨dp,rfl⟩ hb' hm'
    (refine fr_out1 rfl (by decide) (by simp only [lk_cons,lk_nil,Nat.reduceEqDiff,↓reduceIte];rfl) ?_)
    have hm0:Mod (fun b=>b=x.d ∨ b=q) w w':=((Mod.refl (fun b=>b=x.d ∨ b=q) w).setCell (p:=⟨x.d,13,none⟩) (Or.inl (Or.inl rfl)) (.pointer an)).trans hm' (fun _ _ h=>h)
    refine ⟨q,bs',rfl,⟨_,hd',.pointer an,dp,rfl,l',HR.out.mod hm0 (fun b hbb=>by
      rintro (h|h)
      · exact (HND.out b hbb).1 h
      · exact (HND.out b hbb).2 h)⟩,⟨_,_,_,hb'⟩,hm0,Or.inl rfl⟩
theorem pop_nil (x:Cx) (c:DC) (w:World) (v:DV) (hd:DecAt w x.d c v) (hstk:c.stk=.pointer none) :
    Calls Tryz.prog 52 #[decP x] w fun en w'=>en=.returned (.pointer none)∧w'=w:=by
  have hc:=hd.cell
  have hf:=hd.frozen
  clear hd
  refine calls_fr (vs:=[_]) 41 Tryz.func52 rfl rfl (Nat.le_of_ble_eq_true rfl) fun f=>?_
  simp only [argSlots]
  (repeat (first|(with_reducible first|refine zA fun K hK=>?_|refine zB ?_|refine zC ?_)|((with_reducible first|refine zD rfl fun K hK=>?_|refine zE fun K hK=>?_);go_simp)|(with_reducible first|((repeat ((fail_if_success refine hK _ _ ?_);clear hK K));refine hK _ _ ?_;clear hK K)|refine zT (by go_simp;first|done|omega) ?_|refine zF (by go_simp;first|done|omega) ?_|refine zG ?_|refine zR ?_|refine zK ?_|refine zL ?_|refine zN ?_|refine zS ?_)|simp only [Exit.then,Exit.inBlock,Exit.noGoto,↓reduceIte,Nat.reduceEqDiff]|simp only [undef,reduceCtorEq,↓reduceIte]))
  (refine fr_out1 rfl (by decide) (by simp only [lk_cons,lk_nil,Nat.reduceEqDiff,↓reduceIte];rfl) ?_)
  exact ⟨rfl,rfl⟩
structure PopPost (x:Cx) (c:DC) (w:World) (v:DV) (e:Ent) (stk':List Ent) (sb':List Nat) (fl:List Ent) (fb:List Nat) (w':World) (q:Nat):Prop where
  dec:∃ c',DecAt w' x.d c' v∧∃ nx dp,c'={ c with stk:=nx,free:=.pointer (some ⟨q,0,none⟩),depth:=dp }∧StkAt w' nx stk' sb'
  free:StkAt w' (.pointer (some ⟨q,0,none⟩)) (e :: fl) (q :: fb)
  mod:Mod (fun b=>b=x.d ∨ b=q) w w'
theorem popTail (x:Cx) (c:DC) (w:World) (v:DV) (hd:DecAt w x.d c v) (q:Nat) (hqd:q ≠ x.d) (an:Option Addr) (k0:Int) (sp loc:Bs) (ok:Bool) (hq:Blk w q (skCells (.pointer an) k0 sp loc ok) 88) (a:Option Addr) (hfr:c.free=.pointer a) (Q:Exit → Act → World → Prop)
    (hQ:∀ f w',DecAt w' x.d { c with stk:=.pointer an,free:=.pointer (some ⟨q,0,none⟩) } v → Blk w' q (skCells (.pointer a) k0 sp loc ok) 88 → Mod (fun b=>b=x.d ∨ b=q) w w' → Q .normal (fr 41 f [(3,.pointer (some ⟨q,0,none⟩))]) w') (f:Nat → Value) :
    (poCode 5).wp Tryz.prog Q (fr 41 f [(0,decP x),(3,.pointer (some ⟨q,0,none⟩))]) w:=by
  have hc:=hd.cell
  have hf:=hd.frozen
  have hcq:=hq.cell
  have hfq:=hq.frozen
  have hdq:x.d ≠ q:=fun e=>hqd e.symm
  have HD:=Lib.hid hd
  have HB:=Lib.hid hq
  have HQ:=Lib.hid hQ
  clear hd hq hQ
  obtain ⟨c1,c2,c3,c4,c5,c6,c7,c8,c9,c10,c11,c12,c13⟩:=c
  simp only at hfr
  subst hfr
  unfold poCode
  conv=>arg 2;whnf
  (repeat (first|(with_reducible first|refine zA fun K hK=>?_|refine zB ?_|refine zC ?_)|((with_reducible first|refine zD rfl fun K hK=>?_|refine zE fun K hK=>?_);go_simp)|(with_reducible first|((repeat ((fail_if_success refine hK _ _ ?_);clear hK K));refine hK _ _ ?_;clear hK K)|refine zT (by go_simp;first|done|omega) ?_|refine zF (by go_simp;first|done|omega) ?_|refine zG ?_|refine zR ?_|refine zK ?_|refine zL ?_|refine zN ?_|refine zS ?_)|simp only [Exit.then,Exit.inBlock,Exit.noGoto,↓reduceIte,Nat.reduceEqDiff]|simp only [undef,reduceCtorEq,↓reduceIte]))
  refine Q_keep [3] (fun f=>?_);simp only [keep_cons,keep_nil,lk_cons,lk_nil,Nat.reduceEqDiff,↓reduceIte]
  refine HQ.out f _ ?_ ?_ ?_
  · exact (((show Blk w x.d _ _ from HD.out).set 11 (.pointer an)).set_ne (a:=⟨q,0,none⟩) hdq (.pointer a)).set 13 (.pointer (some ⟨q,0,none⟩))
  · exact (((show Blk w q _ _ from HB.out).set_ne (a:=⟨x.d,11,none⟩) hqd (.pointer an)).set 0 (.pointer a)).set_ne (a:=⟨x.d,13,none⟩) hqd (.pointer (some ⟨q,0,none⟩))
  · exact (((Mod.refl (fun b=>b=x.d ∨ b=q) w).setCell (p:=⟨x.d,11,none⟩) (Or.inl (Or.inl rfl)) _).setCell (p:=⟨q,0,none⟩) (Or.inl (Or.inr rfl)) _).setCell (p:=⟨x.d,13,none⟩) (Or.inl (Or.inl rfl)) _
theorem pop_c (x:Cx) (c:DC) (w:World) (v:DV) (hd:DecAt w x.d c v) (q:Nat) (e:Ent) (he:e.kind=0 ∨ e.kind=1) (stk':List Ent) (sb':List Nat) (hstk:StkAt w c.stk (e :: stk') (q :: sb')) (fl:List Ent) (fb:List Nat) (hfree:StkAt w c.free fl fb)
    (hxd:∀ b ∈ (q :: sb') ++ fb,b ≠ x.d) (hnd:((q :: sb') ++ fb).Nodup) :
    Calls Tryz.prog 52 #[decP x] w fun en w'=>en=.returned (.pointer (some ⟨q,0,none⟩))∧PopPost x c w v e stk' sb' fl fb w' q:=by
  have hc:=hd.cell
  have hf:=hd.frozen
  have HD:=Lib.hid hd
  have hqd:q ≠ x.d:=hxd q (by simp)
  have hdq:x.d ≠ q:=fun e=>hqd e.symm
  obtain ⟨hp,nx,ok,hb,hke,hrest⟩:=hstk
  obtain ⟨an,han⟩:∃ an,nx=.pointer an:=by
    rcases hrest.ptr with ⟨h,_⟩|⟨_,_,_,_,h,_⟩
    · exact ⟨_,h⟩
    · exact ⟨_,h⟩
  subst han
  obtain ⟨fa,hfa⟩:∃ fa,c.free=.pointer fa:=by
    rcases hfree.ptr with ⟨h,_⟩|⟨_,_,_,_,h,_⟩
    · exact ⟨_,h⟩
    · exact ⟨_,h⟩
  have hcq:=hb.cell
  have hfq:=hb.frozen
  have HB:=Lib.hid hb
  have HR:=Lib.hid hrest
  have HFREE:=Lib.hid hfree
  have HKE:=Lib.hid hke
  have HND:=Lib.hid (show ∀ b,b ∈ sb' ∨ b ∈ fb → ¬ (b=x.d ∨ b=q) from fun b hbb hh=>by
    rw [List.cons_append,List.nodup_cons] at hnd
    rcases hh with hh|hh
    · exact hxd b (by rcases hbb with h|h <;> simp [h]) hh
    · subst hh;exact hnd.1 (by rcases hbb with h|h <;> simp [h]))
  clear hxd hnd hd hke hrest hb hfree
  obtain ⟨c1,c2,c3,c4,c5,c6,c7,c8,c9,c10,c11,c12,c13⟩:=c
  simp only at hp hfa
  subst hp hfa
  obtain ⟨ek,esp,eloc,eok⟩:=e
  simp only at he
  have hfin:∀ dp w',DecAt w' x.d ⟨c1,c2,c3,c4,c5,.pointer an,dp,.pointer (some ⟨q,0,none⟩),c9,c10,c11,c12,c13⟩ v → Blk w' q (skCells (.pointer fa) (ek:Int) esp eloc ok) 88 → Mod (fun b=>b=x.d ∨ b=q) w w' →
      PopPost x ⟨c1,c2,c3,c4,c5,.pointer (some ⟨q,0,none⟩),c7,.pointer fa,c9,c10,c11,c12,c13⟩ w v ⟨ek,esp,eloc,eok⟩ stk' sb' fl fb w' q:=fun dp w' h1 h2 h3=>
    ⟨⟨_,h1,.pointer an,dp,rfl,HR.out.mod h3 (fun b hb=>HND.out b (Or.inl hb))⟩,⟨rfl,.pointer fa,ok,h2,HKE.out,HFREE.out.mod h3 (fun b hb=>HND.out b (Or.inr hb))⟩,h3⟩
  have HF:=Lib.hid hfin
  clear hfin
  rcases he with rfl|rfl
  · refine calls_fr (vs:=[_]) 41 Tryz.func52 rfl rfl (Nat.le_of_ble_eq_true rfl) fun f=>?_
    simp only [argSlots]
    (repeat ((fail_if_success with_reducible refine wp_stop 5 ?_);(fail_if_success with_reducible refine wp_stop2 5 ?_);(first|(with_reducible first|refine zA fun K hK=>?_|refine zB ?_|refine zC ?_)|((with_reducible first|refine zD rfl fun K hK=>?_|refine zE fun K hK=>?_);go_simp)|(with_reducible first|((repeat ((fail_if_success refine hK _ _ ?_);clear hK K));refine hK _ _ ?_;clear hK K)|refine zT (by go_simp;first|done|omega) ?_|refine zF (by go_simp;first|done|omega) ?_|refine zG ?_|refine zR ?_|refine zK ?_|refine zL ?_|refine zN ?_|refine zS ?_)|simp only [Exit.then,Exit.inBlock,Exit.noGoto,↓reduceIte,Nat.reduceEqDiff]|simp only [undef,reduceCtorEq,↓reduceIte])))
    (refine wp_keep [0,3] (fun f=>?_);simp only [keep_cons,keep_nil,lk_cons,lk_nil,Nat.reduceEqDiff,↓reduceIte])
    have hd1:DecAt (w.setCell ⟨x.d,12,none⟩ (.int .i64 (IntKind.i64.wrap (c7 - 1)))) x.d ⟨c1,c2,c3,c4,c5,.pointer (some ⟨q,0,none⟩),IntKind.i64.wrap (c7 - 1),.pointer fa,c9,c10,c11,c12,c13⟩ v:=(show Blk w x.d _ _ from HD.out).set 12 (.int .i64 (IntKind.i64.wrap (c7 - 1)))
    have hb1:Blk (w.setCell ⟨x.d,12,none⟩ (.int .i64 (IntKind.i64.wrap (c7 - 1)))) q _ _:=(show Blk w q _ _ from HB.out).set_ne (a:=⟨x.d,12,none⟩) hqd (.int .i64 (IntKind.i64.wrap (c7 - 1)))
    refine wp_code (popTail x _ _ v hd1 q hqd _ _ _ _ _ hb1 fa rfl _ ?_ f) (by kernel_rfl)
    intro f w' h1 h2 h3
    have H1:=Lib.hid h1
    have H2:=Lib.hid h2
    have H3:=Lib.hid (((Mod.refl (fun b=>b=x.d ∨ b=q) w).setCell (p:=⟨x.d,12,none⟩) (Or.inl (Or.inl rfl)) (.int .i64 (IntKind.i64.wrap (c7 - 1)))).trans h3 (fun _ _ h=>h))
    clear h1 h2 h3 hd1 hb1 hc hf hcq hfq
    (repeat (first|(with_reducible first|refine zA fun K hK=>?_|refine zB ?_|refine zC ?_)|((with_reducible first|refine zD rfl fun K hK=>?_|refine zE fun K hK=>?_);go_simp)|(with_reducible first|((repeat ((fail_if_success refine hK _ _ ?_);clear hK K));refine hK _ _ ?_;clear hK K)|refine zT (by go_simp;first|done|omega) ?_|refine zF (by go_simp;first|done|omega) ?_|refine zG ?_|refine zR ?_|refine zK ?_|refine zL ?_|refine zN ?_|refine zS ?_)|simp only [Exit.then,Exit.inBlock,Exit.noGoto,↓reduceIte,Nat.reduceEqDiff]|simp only [undef,reduceCtorEq,↓reduceIte]))
    (refine fr_out1 rfl (by decide) (by simp only [lk_cons,lk_nil,Nat.reduceEqDiff,↓reduceIte];rfl) ?_)
    exact ⟨rfl,HF.out _ _ H1.out H2.out H3.out⟩
  · refine calls_fr (vs:=[_]) 41 Tryz.func52 rfl rfl (Nat.le_of_ble_eq_true rfl) fun f=>?_
    simp only [argSlots]
    (repeat ((fail_if_success with_reducible refine wp_stop 5 ?_);(fail_if_success with_reducible refine wp_stop2 5 ?_);(first|(with_reducible first|refine zA fun K hK=>?_|refine zB ?_|refine zC ?_)|((with_reducible first|refine zD rfl fun K hK=>?_|refine zE fun K hK=>?_);go_simp)|(with_reducible first|((repeat ((fail_if_success refine hK _ _ ?_);clear hK K));refine hK _ _ ?_;clear hK K)|refine zT (by go_simp;first|done|omega) ?_|refine zF (by go_simp;first|done|omega) ?_|refine zG ?_|refine zR ?_|refine zK ?_|refine zL ?_|refine zN ?_|refine zS ?_)|simp only [Exit.then,Exit.inBlock,Exit.noGoto,↓reduceIte,Nat.reduceEqDiff]|simp only [undef,reduceCtorEq,↓reduceIte])))
    (refine wp_keep [0,3] (fun f=>?_);simp only [keep_cons,keep_nil,lk_cons,lk_nil,Nat.reduceEqDiff,↓reduceIte])
    refine wp_code (popTail x _ _ v HD.out q hqd _ _ _ _ _ HB.out fa rfl _ ?_ f) (by kernel_rfl)
    intro f w' h1 h2 h3
    have H1:=Lib.hid h1
    have H2:=Lib.hid h2
    have H3:=Lib.hid h3
    clear h1 h2 h3 hc hf hcq hfq
    (repeat (first|(with_reducible first|refine zA fun K hK=>?_|refine zB ?_|refine zC ?_)|((with_reducible first|refine zD rfl fun K hK=>?_|refine zE fun K hK=>?_);go_simp)|(with_reducible first|((repeat ((fail_if_success refine hK _ _ ?_);clear hK K));refine hK _ _ ?_;clear hK K)|refine zT (by go_simp;first|done|omega) ?_|refine zF (by go_simp;first|done|omega) ?_|refine zG ?_|refine zR ?_|refine zK ?_|refine zL ?_|refine zN ?_|refine zS ?_)|simp only [Exit.then,Exit.inBlock,Exit.noGoto,↓reduceIte,Nat.reduceEqDiff]|simp only [undef,reduceCtorEq,↓reduceIte]))
    (refine fr_out1 rfl (by decide) (by simp only [lk_cons,lk_nil,Nat.reduceEqDiff,↓reduceIte];rfl) ?_)
    exact ⟨rfl,HF.out _ _ H1.out H2.out H3.out⟩
end Go.Proofs.YtkjnockljapnbaaGreatDoor
