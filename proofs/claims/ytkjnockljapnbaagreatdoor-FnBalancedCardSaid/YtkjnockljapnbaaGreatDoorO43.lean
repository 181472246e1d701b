/- Part of the proof that laws.FnBalanced returns true for every argument (Sk). No condition of its own. -/
import Derived.Test.YtkjnockljapnbaaGreatDoorO42
set_option linter.all false
set_option maxHeartbeats 8000000
set_option maxRecDepth 100000
namespace Go.Proofs.YtkjnockljapnbaaGreatDoor
open Go Go.RowKit
theorem tk14 (x:Cx) (hx:x.Ok) (hfe:FoldEnv x.W0) (c:DC) (hau:AutoAt x c.auto) (hstr:c.strict=x.o.strict) (w:World) (hb:Below x.B x.W0 w) (v:DV) (h:DecAt w x.d c v) (s:St) {sb:List Nat} (hs:StkAt w c.stk s.stk sb) (hok:StkOk s.stk) (bv:Value) (B:Nat) (tv:Value) (tk:RTok) (ht:TokAt w bv B tv tk) (hle:∀ nm,tk=.fin nm → nm.2.length ≤ 1000000000000) (Q:Exit → Act → World → Prop)
    (hQ1:(x.o.strict=true ∨ autoL eqFold x.o tk s=none) → ∀ f w',Below w.heap.size w w' → (tkCode 19).wp Tryz.prog Q (fr 204 f [(0,decP x),(4,tv),(5,.nilIface)]) w')
    (hQ2:∀ nm,x.o.strict=false → autoL eqFold x.o tk s=some nm → ∀ f w',Below w.heap.size w w' → (tkCode 19).wp Tryz.prog Q (fr 204 f [(0,decP x),(4,enV nm),(5,.nilIface)]) (w'.setCell ⟨x.d,17,none⟩ tv))
    (f:Nat → Value):(tkCode 14).wp Tryz.prog Q (fr 204 f [(0,decP x),(4,tv),(5,.nilIface)]) w:=by
  have hc:=h.cell
  have hf:=h.frozen
  have HA:=Lib.hid (auto_c x hx hfe c hau w hb v h s hs hok bv B tv tk ht hle)
  obtain ⟨ty,u,rfl⟩:=ht.iface
  have HQ1:=Lib.hid hQ1
  have HQ2:=Lib.hid hQ2
  have HH:=Lib.hid h
  clear h hs hok hQ1 hQ2 hau hfe hb ht hle hx
  have hcase:c.strict=true ∨ c.strict=false:=by cases c.strict <;> simp
  conv=>arg 2;unfold tkCode;whnf
  rcases hcase with hst|hst
  · have HST:=Lib.hid (show x.o.strict=true by rw [← hstr];exact hst)
    clear hstr
    (repeat ((fail_if_success with_reducible refine wp_stop 19 ?_);(fail_if_success with_reducible refine wp_stop2 19 ?_);(first|(with_reducible first|refine zA fun K hK=>?_|refine zB ?_|refine zC ?_)|((with_reducible first|refine zD rfl fun K hK=>?_|refine zE fun K hK=>?_);go_simp)|(with_reducible first|((repeat ((fail_if_success refine hK _ _ ?_);clear hK K));refine hK _ _ ?_;clear hK K)|refine zt ?_|refine zf ?_|refine zG ?_|refine zR ?_|refine zK ?_|refine zL ?_|refine zN ?_|refine zS ?_)|simp only [Exit.then,Exit.inBlock,Exit.noGoto,↓reduceIte,Nat.reduceEqDiff]|simp only [undef,reduceCtorEq,↓reduceIte])))
    (refine wp_keep [0,4,5] (fun f=>?_);simp only [keep_cons,keep_nil,lk_cons,lk_nil,Nat.reduceEqDiff,↓reduceIte])
    exact wp_code (HQ1.out (Or.inl HST.out) f w (Below.refl _ w)) (by kernel_rfl)
  · have HST:=Lib.hid (show x.o.strict=false by rw [← hstr];exact hst)
    clear hstr
    (repeat (first|(with_reducible first|refine zA fun K hK=>?_|refine zB ?_|refine zC ?_)|((with_reducible first|refine zD rfl fun K hK=>?_|refine zE fun K hK=>?_);go_simp)|(with_reducible first|((repeat ((fail_if_success refine hK _ _ ?_);clear hK K));refine hK _ _ ?_;clear hK K)|refine zt ?_|refine zf ?_|refine zG ?_|refine zR ?_|refine zK ?_|refine zL ?_|refine zN ?_|refine zS ?_)|simp only [Exit.then,Exit.inBlock,Exit.noGoto,↓reduceIte,Nat.reduceEqDiff]|simp only [undef,reduceCtorEq,↓reduceIte]))
    refine HA.out.mono ?_
    rintro e2 w2 ⟨rfl,hb2⟩
    have HB2:=Lib.hid hb2
    have hd2:DecAt w2 x.d c v:=Blk.mod (S:=fun _=>False) HH.out (mod_none hb2 _) id
    clear hb2 HA hc hf
    have hc:=hd2.cell
    have hf:=hd2.frozen
    clear hd2
    cases hal:autoL eqFold x.o tk s with
    | none=>
      have HAL:=Lib.hid hal
      clear hal
      simp only [autoV]
      go_simp
      (repeat ((fail_if_success with_reducible refine wp_stop 19 ?_);(fail_if_success with_reducible refine wp_stop2 19 ?_);(first|(with_reducible first|refine zA fun K hK=>?_|refine zB ?_|refine zC ?_)|((with_reducible first|refine zD rfl fun K hK=>?_|refine zE fun K hK=>?_);go_simp)|(with_reducible first|((repeat ((fail_if_success refine hK _ _ ?_);clear hK K));refine hK _ _ ?_;clear hK K)|refine zt ?_|refine zf ?_|refine zG ?_|refine zR ?_|refine zK ?_|refine zL ?_|refine zN ?_|refine zS ?_)|simp only [Exit.then,Exit.inBlock,Exit.noGoto,↓reduceIte,Nat.reduceEqDiff]|simp only [undef,reduceCtorEq,↓reduceIte])))
      (refine wp_keep [0,4,5] (fun f=>?_);simp only [keep_cons,keep_nil,lk_cons,lk_nil,Nat.reduceEqDiff,↓reduceIte])
      exact wp_code (HQ1.out (Or.inr HAL.out) f w2 HB2.out) (by kernel_rfl)
    | some nm=>
      have HAL:=Lib.hid hal
      clear hal
      simp only [autoV]
      go_simp
      (repeat ((fail_if_success with_reducible refine wp_stop 19 ?_);(fail_if_success with_reducible refine wp_stop2 19 ?_);(first|(with_reducible first|refine zA fun K hK=>?_|refine zB ?_|refine zC ?_)|((with_reducible first|refine zD rfl fun K hK=>?_|refine zE fun K hK=>?_);go_simp)|(with_reducible first|((repeat ((fail_if_success refine hK _ _ ?_);clear hK K));refine hK _ _ ?_;clear hK K)|refine zt ?_|refine zf ?_|refine zG ?_|refine zR ?_|refine zK ?_|refine zL ?_|refine zN ?_|refine zS ?_)|simp only [Exit.then,Exit.inBlock,Exit.noGoto,↓reduceIte,Nat.reduceEqDiff]|simp only [undef,reduceCtorEq,↓reduceIte])))
      (refine wp_keep [0,4,5] (fun f=>?_);simp only [keep_cons,keep_nil,lk_cons,lk_nil,Nat.reduceEqDiff,↓reduceIte])
      exact wp_code (HQ2.out nm HST.out HAL.out f w2 HB2.out) (by kernel_rfl)
theorem undoL_keep:∀ (stk:List Ent) (ns:Bs → Option Bs),StkOk stk → NsOk ns → StkOk (undoL stk ns).1∧NsOk (undoL stk ns).2
  | [],ns,h1,h2=>⟨h1,h2⟩
  | e :: stk,ns,h1,h2=>by
    unfold undoL
    split
    · exact ⟨h1,h2⟩
    · refine undoL_keep stk _ (fun e' he=>h1 e' (List.mem_cons_of_mem _ he)) (fun k u hu=>?_)
      unfold setNs at hu
      split at hu
      · split at hu
        · simp only [Option.some.injEq] at hu
          rw [← hu];exact (h1 e List.mem_cons_self).2.1
        · cases hu
      · exact h2 k u hu
theorem popL_keep {o:Opt} {nm:Bs × Bs} {s s':St} {t:RTok} (h:popL o nm s=.ok (t,s')) (h1:StkOk s.stk) (h2:NsOk s.ns) :
    s'.rest=s.rest∧StkOk s'.stk∧NsOk s'.ns∧(s'.toClose=s.toClose ∨ (s'.toClose=some nm∧∃ e stk,s.stk=e :: stk∧e.loc ≠ nm.2))∧s'.next=s.next∧s'.ended=s.ended:=by
  unfold popL at h
  split at h
  · cases h
  · rename_i e stk hs
    rw [hs] at h1
    have h1':StkOk stk:=fun e' he=>h1 e' (List.mem_cons_of_mem _ he)
    split at h
    · cases h
    · split at h
      · rename_i hloc
        split at h
        · cases h
        · simp only [Except.ok.injEq,Prod.mk.injEq] at h
          obtain ⟨rfl,rfl⟩:=h
          exact ⟨rfl,h1',h2,Or.inr ⟨rfl,e,stk,hs,hloc⟩,rfl,rfl⟩
      · split at h
        · cases h
        · simp only [Except.ok.injEq,Prod.mk.injEq] at h
          obtain ⟨rfl,rfl⟩:=h
          obtain ⟨k1,k2⟩:=undoL_keep stk s.ns h1' h2
          exact ⟨rfl,k1,k2,Or.inl rfl,rfl,rfl⟩
theorem popL_no (o:Opt) (nm:Bs × Bs) (s:St):NoO (popL o nm s):=by
  unfold popL
  split
  · (first|exact noO_must _|exact noO_syn|exact noO_ok _)
  · split
    · (first|exact noO_must _|exact noO_syn|exact noO_ok _)
    · split
      · split <;> (first|exact noO_must _|exact noO_syn|exact noO_ok _)
      · split <;> (first|exact noO_must _|exact noO_syn|exact noO_ok _)
def TopEnd (s:St) (tk:RTok):Prop:=∃ nm e stk',tk=.fin nm∧s.stk=e :: stk'∧e.kind=0∧nm=(e.space,e.loc)
structure RawSt (x:Cx) (c:DC) (w:World) (v:DV) (s:St) (m:Nat) (sb fb:List Nat) (n:Nat) (B:Nat) (tv:Value) (tk:RTok):Prop where
  cfg:CfgOk x c
  rd:RdTS x c w v s
  own:Own x w c v m sb fb n s.stk s.ns
  sok:StkOk s.stk
  nok:NsOk s.ns
  tcl:∀ nm,s.toClose=some nm → nm.1.length ≤ x.T.length∧nm.2.length ≤ x.T.length
  le:TkLe x.T.length tk ∨ TopEnd s tk
  bnd:n + s.stk.length + 2 * s.rest.length + 2 * nextW s.next + 2 * nextW (some tk) ≤ 2 * x.T.length
  tok:TokAt w v.bufv B tv tk
  hB:x.B ≤ B
  hBs:B ≤ w.heap.size
  tkd:∀ g,tokBlk tv g → g ∉ m :: (sb ++ fb)∧¬ x.S1 v g
  nt:(∀ d,tk ≠ .text d) → (s.ended=false∧∃ b,RdS x c w v s.rest none b) ∨ TopEnd s tk
  nxt:NxAt x w v c s (m :: (sb ++ fb))
def WkPost (x:Cx) (w:World) (v:DV) (c:DC) (R:Except EK (RTok × St)) (m:Nat) (sb fb:List Nat) (tv:Value) (t e:Value) (w':World):Prop:=
  match R with
  | .error k=>t=.nilIface∧ErrV x e (some k)∧Below x.B x.W0 w'∧OthAt w' e k∧Mod (fun b=>x.S1 v b ∨ b ∈ m :: (sb ++ fb)) w w'
  | .ok (tk,s')=>e=.nilIface∧∃ c' v' sb' fb' n',TS x c' w' v' s' m sb' fb' n'∧(∃ B,TokAt w' v'.bufv B t tk)∧Mod (fun b=>b=x.d ∨ b ∈ m :: (sb ++ fb) ∨ tokBlk tv b) w w' ∧
      (∀ b ∈ m :: (sb' ++ fb'),b ∈ m :: (sb ++ fb) ∨ w.heap.size ≤ b)∧v'.bufv=v.bufv∧c'.nextTok=c.nextTok
theorem SameD.next {c c':DC} (h:SameD c c'):c'.nextTok=c.nextTok:=by
  obtain ⟨_,_,_,_,_,_,rfl⟩:=h
  rfl
theorem NxAt.far {x:Cx} {w:World} {v:DV} {c:DC} {s:St} {own:List Nat} (h:NxAt x w v c s own) {g:Nat} (hg:tokBlk c.nextTok g):g ∉ own∧¬ x.S1 v g:=by
  unfold NxAt at h
  cases hx:s.next with
  | none=>rw [hx] at h;rw [show c.nextTok=.nilIface from h] at hg;exact hg.elim
  | some tk=>rw [hx] at h;obtain ⟨_,_,_,_,_,h5,_⟩:=h;exact h5 g hg
theorem RdS.bufFar {x:Cx} {c:DC} {w:World} {v:DV} {rest:Bs} {e:Option EK} {b:Bs} {m:Nat} {sb fb:List Nat} {n:Nat} {c2:DC} {stk:List Ent} {ns:Bs → Option Bs} (h:RdS x c w v rest e b) (ho:Own x w c2 v m sb fb n stk ns) {k:Nat} (hk:bufBlk v.bufv k):k ≠ x.d∧k ∉ m :: (sb ++ fb):=
  ⟨fun he=>h.bf.notS0 k hk (Or.inl he),fun hh=>ho.s1 k hh (Or.inr hk)⟩
theorem RawSt.plain {x:Cx} {c:DC} {w:World} {v:DV} {s:St} {m:Nat} {sb fb:List Nat} {n B:Nat} {tv:Value} {tk:RTok} (h:RawSt x c w v s m sb fb n B tv tk) (h1:∀ nm ats,tk ≠ .start nm ats) (h2:∀ nm,tk ≠ .fin nm):WkPost x w v c (workL x.o tk s) m sb fb tv tv .nilIface w:=by
  have e:workL x.o tk s=.ok (tk,s):=by
    unfold workL
    split
    · exact absurd rfl (h1 _ _)
    · exact absurd rfl (h2 _)
    · rfl
  rw [e]
  exact ⟨rfl,c,v,sb,fb,n,⟨h.cfg,h.rd,h.own,h.sok,h.nok,h.tcl,by have:=h.bnd;omega,h.nxt⟩,⟨B,h.tok⟩,Mod.refl _ _,fun b hb=>Or.inl hb,rfl,rfl⟩
theorem tkPlain (x:Cx) (c:DC) (w:World) (v:DV) (s:St) (m:Nat) (sb fb:List Nat) (n B:Nat) (tv:Value) (tk:RTok) (h:RawSt x c w v s m sb fb n B tv tk) (h1:∀ nm ats,tk ≠ .start nm ats) (h2:∀ nm,tk ≠ .fin nm) (Q:Exit → Act → World → Prop)
    (hQ:∀ f w' t e,WkPost x w v c (workL x.o tk s) m sb fb tv t e w' → Q .ret (fr 204 f [(2,t),(3,e)]) w') (f:Nat → Value):(tkCode 19).wp Tryz.prog Q (fr 204 f [(0,decP x),(4,tv),(5,.nilIface)]) w:=by
  have HQ:=Lib.hid hQ
  have H:=Lib.hid h
  have ht:=h.tok
  clear hQ h
  conv=>arg 2;unfold tkCode;whnf
  cases tk with
  | start nm ats=>exact absurd rfl (h1 _ _)
  | fin nm=>exact absurd rfl (h2 _)
  | text d=>
    obtain ⟨sv,rfl,⟨g0,cap0,n0,rfl,_⟩⟩:=ht
    have q3:=fun v w=>taChS v w
    have q4:=fun v w=>taChE v w
    clear h1 h2
    (repeat (first|(with_reducible first|refine zA fun K hK=>?_|refine zB ?_|refine zC ?_)|((with_reducible first|refine zD rfl fun K hK=>?_|refine zE fun K hK=>?_);go_simp)|(with_reducible first|((repeat ((fail_if_success refine hK _ _ ?_);clear hK K));refine hK _ _ ?_;clear hK K)|refine zt ?_|refine zf ?_|refine zG ?_|refine zR ?_|refine zK ?_|refine zL ?_|refine zN ?_|refine zS ?_)|simp only [Exit.then,Exit.inBlock,Exit.noGoto,↓reduceIte,Nat.reduceEqDiff]|simp only [undef,reduceCtorEq,↓reduceIte]))
    refine Q_keep [2,3] (fun f=>?_);simp only [keep_cons,keep_nil,lk_cons,lk_nil,Nat.reduceEqDiff,↓reduceIte]
    exact HQ.out f _ _ _ (H.out.plain (by simp) (by simp))
  | comment d=>
    obtain ⟨sv,rfl,⟨g0,cap0,n0,rfl,_⟩⟩:=ht
    have q3:=fun v w=>taCmS v w
    have q4:=fun v w=>taCmE v w
    clear h1 h2
    (repeat (first|(with_reducible first|refine zA fun K hK=>?_|refine zB ?_|refine zC ?_)|((with_reducible first|refine zD rfl fun K hK=>?_|refine zE fun K hK=>?_);go_simp)|(with_reducible first|((repeat ((fail_if_success refine hK _ _ ?_);clear hK K));refine hK _ _ ?_;clear hK K)|refine zt ?_|refine zf ?_|refine zG ?_|refine zR ?_|refine zK ?_|refine zL ?_|refine zN ?_|refine zS ?_)|simp only [Exit.then,Exit.inBlock,Exit.noGoto,↓reduceIte,Nat.reduceEqDiff]|simp only [undef,reduceCtorEq,↓reduceIte]))
    refine Q_keep [2,3] (fun f=>?_);simp only [keep_cons,keep_nil,lk_cons,lk_nil,Nat.reduceEqDiff,↓reduceIte]
    exact HQ.out f _ _ _ (H.out.plain (by simp) (by simp))
  | dir d=>
    obtain ⟨sv,rfl,⟨g0,cap0,n0,rfl,_⟩⟩:=ht
    have q3:=fun v w=>taDvS v w
    have q4:=fun v w=>taDvE v w
    clear h1 h2
    (repeat (first|(with_reducible first|refine zA fun K hK=>?_|refine zB ?_|refine zC ?_)|((with_reducible first|refine zD rfl fun K hK=>?_|refine zE fun K hK=>?_);go_simp)|(with_reducible first|((repeat ((fail_if_success refine hK _ _ ?_);clear hK K));refine hK _ _ ?_;clear hK K)|refine zt ?_|refine zf ?_|refine zG ?_|refine zR ?_|refine zK ?_|refine zL ?_|refine zN ?_|refine zS ?_)|simp only [Exit.then,Exit.inBlock,Exit.noGoto,↓reduceIte,Nat.reduceEqDiff]|simp only [undef,reduceCtorEq,↓reduceIte]))
    refine Q_keep [2,3] (fun f=>?_);simp only [keep_cons,keep_nil,lk_cons,lk_nil,Nat.reduceEqDiff,↓reduceIte]
    exact HQ.out f _ _ _ (H.out.plain (by simp) (by simp))
  | proc tg d=>
    obtain ⟨sv,rfl,_⟩:=ht
    have q3:=fun v w=>taPvS tg v w
    have q4:=fun v w=>taPvE tg v w
    clear h1 h2
    (repeat (first|(with_reducible first|refine zA fun K hK=>?_|refine zB ?_|refine zC ?_)|((with_reducible first|refine zD rfl fun K hK=>?_|refine zE fun K hK=>?_);go_simp)|(with_reducible first|((repeat ((fail_if_success refine hK _ _ ?_);clear hK K));refine hK _ _ ?_;clear hK K)|refine zt ?_|refine zf ?_|refine zG ?_|refine zR ?_|refine zK ?_|refine zL ?_|refine zN ?_|refine zS ?_)|simp only [Exit.then,Exit.inBlock,Exit.noGoto,↓reduceIte,Nat.reduceEqDiff]|simp only [undef,reduceCtorEq,↓reduceIte]))
    refine Q_keep [2,3] (fun f=>?_);simp only [keep_cons,keep_nil,lk_cons,lk_nil,Nat.reduceEqDiff,↓reduceIte]
    exact HQ.out f _ _ _ (H.out.plain (by simp) (by simp))
theorem tkFin (x:Cx) (hx:x.All) (c:DC) (w:World) (v:DV) (s:St) (m:Nat) (sb fb:List Nat) (n B:Nat) (tv:Value) (nm:Bs × Bs) (h:RawSt x c w v s m sb fb n B tv (.fin nm)) (Q:Exit → Act → World → Prop)
    (hQ:∀ f w' t e,WkPost x w v c (workL x.o (.fin nm) s) m sb fb tv t e w' → Q .ret (fr 204 f [(2,t),(3,e)]) w') (f:Nat → Value):(tkCode 19).wp Tryz.prog Q (fr 204 f [(0,decP x),(4,tv),(5,.nilIface)]) w:=by
  have ht:tv=enV nm:=h.tok
  subst ht
  have q3:=fun a b w=>taEnS a b w
  have q4:=fun a b w=>taEnE a b w
  obtain ⟨e0,b0,hR,hE1,hE2⟩:=h.rd.rd
  obtain ⟨wt,hwt⟩:∃ wt,wt=w.alloc (.cells #[strV nm.1,strV nm.2] 103):=⟨_,rfl⟩
  have hbl:Below w.heap.size w wt:=by rw [hwt];exact (Below.refl _ w).alloc (Nat.le_refl _) _
  have hal:Mod (fun _=>False) w wt:=mod_none hbl _
  have hR2:=hR.below hx.toOk hbl
  have hob:∀ k ∈ m :: (sb ++ fb),k < w.heap.size:=h.own.lt
  have hdB:x.d < w.heap.size:=hR.dec.lt
  have hlen:=hx.len
  have hkl:nm.1.length ≤ 100000000000∧nm.2.length ≤ 100000000000:=by
    rcases h.le with ⟨k1,k2⟩|⟨nm',e,stk',h1,h2,_,h3⟩
    · omega
    · cases h1
      have:=h.sok e (by rw [h2];simp)
      rw [h3];exact this.2
  have hkt:(nm.1.length ≤ x.T.length∧nm.2.length ≤ x.T.length) ∨ TopEnd s (.fin nm):=h.le
  have hpe:PeSt x c wt v s m sb fb n w.heap.size nm:=
    { fit:=by
        rcases h.nt (by simp) with ⟨h1,b,h2⟩|⟨nm',e,stk',h1,h2,h3,h4⟩
        · exact Or.inl ⟨h1,b,h2.below hx.toOk hbl⟩
        · cases h1;exact Or.inr ⟨e,stk',h2,h3,h4⟩
      strict:=h.cfg.dc.strict,rts:=⟨⟨e0,b0,hR2,hE1,hE2⟩,h.rd.nc,h.rd.tc,h.rd.nb⟩,own:=h.own.mod hal (fun _ _=>id) h.own.s1,sok:=h.sok,
      bnd:=by have:=h.bnd;omega,sp:=h.cfg.sp,tok:=by rw [hwt];exact Blk.new w _ _,tS:=hR.newS1,tO:=fun hh=>Nat.lt_irrefl _ (hob _ hh),tB:=Nat.le_trans h.hB h.hBs,l1:=hkl.1,l2:=hkl.2 }
  have HPE:=Lib.hid (popElement_c x hx c wt v s m sb fb n w.heap.size nm hpe)
  have HQ:=Lib.hid hQ
  have H:=Lib.hid h
  have HAL:=Lib.hid hal
  have HKT:=Lib.hid hkt
  have HR0:=Lib.hid hR
  have HX:=Lib.hid hx
  clear hQ h hR hR2 hpe hal hbl hob hdB hkl hkt hlen hE1 hE2 hx
  conv=>arg 2;unfold tkCode;whnf
  (repeat (first|(with_reducible first|refine zA fun K hK=>?_|refine zB ?_|refine zC ?_)|((with_reducible first|refine zD rfl fun K hK=>?_|refine zE fun K hK=>?_);go_simp)|(with_reducible first|((repeat ((fail_if_success refine hK _ _ ?_);clear hK K));refine hK _ _ ?_;clear hK K)|refine zt ?_|refine zf ?_|refine zG ?_|refine zR ?_|refine zK ?_|refine zL ?_|refine zN ?_|refine zS ?_)|simp only [Exit.then,Exit.inBlock,Exit.noGoto,↓reduceIte,Nat.reduceEqDiff]|simp only [undef,reduceCtorEq,↓reduceIte]))
  rw [← hwt]
  refine HPE.out.mono ?_
  rintro e1 w1 hp
  have HW:=Lib.hid (show workL x.o (.fin nm) s=popL x.o nm s from rfl)
  cases hres:popL x.o nm s with
  | error k=>
    unfold PopEPost at hp
    rw [hres] at hp
    obtain ⟨rfl,c2,v2,hE,hmE⟩:=hp
    have HME:=Lib.hid hmE
    obtain ⟨t1,u1,hu1⟩:=hE.err.iface
    have HE:=Lib.hid hE
    have hc:=hE.dec.cell
    have hf:=hE.dec.frozen
    have HU:=Lib.hid hu1
    have HRES:=Lib.hid hres
    clear hE HPE hwt hres hmE
    go_simp
    (repeat (first|(with_reducible first|refine zA fun K hK=>?_|refine zB ?_|refine zC ?_)|((with_reducible first|refine zD rfl fun K hK=>?_|refine zE fun K hK=>?_);go_simp)|(with_reducible first|((repeat ((fail_if_success refine hK _ _ ?_);clear hK K));refine hK _ _ ?_;clear hK K)|refine zt ?_|refine zf ?_|refine zG ?_|refine zR ?_|refine zK ?_|refine zL ?_|refine zN ?_|refine zS ?_)|simp only [Exit.then,Exit.inBlock,Exit.noGoto,↓reduceIte,Nat.reduceEqDiff]|simp only [undef,reduceCtorEq,↓reduceIte]))
    ((refine wp_keep [0] (fun f=>?_);simp only [keep_cons,keep_nil,lk_cons,lk_nil,Nat.reduceEqDiff,↓reduceIte]);go_quiet (fail);(repeat (first|(with_reducible first|refine zA fun K hK=>?_|refine zB ?_|refine zC ?_)|((with_reducible first|refine zD rfl fun K hK=>?_|refine zE fun K hK=>?_);go_simp)|(with_reducible first|((repeat ((fail_if_success refine hK _ _ ?_);clear hK K));refine hK _ _ ?_;clear hK K)|refine zt ?_|refine zf ?_|refine zG ?_|refine zR ?_|refine zK ?_|refine zL ?_|refine zN ?_|refine zS ?_)|simp only [Exit.then,Exit.inBlock,Exit.noGoto,↓reduceIte,Nat.reduceEqDiff]|simp only [undef,reduceCtorEq,↓reduceIte]));refine Q_keep [2,3] (fun f=>?_);simp only [keep_cons,keep_nil,lk_cons,lk_nil,Nat.reduceEqDiff,↓reduceIte])
    refine HQ.out f _ _ _ ?_
    rw [HW.out,HRES.out]
    refine ⟨rfl,by rw [← HU.out];exact HE.out.err,(HE.out.drewN _).base,OthAt.no (fun hh=>by subst hh;exact popL_no _ _ _ HRES.out),?_⟩
    refine (HAL.out.mono (fun _ _ h=>h.elim)).trans (HME.out.drewN _) (fun i hi hs=>?_)
    rcases hs with hs|hs|hs
    · exact Or.inl hs
    · exact Or.inr hs
    · omega
  | ok p=>
    obtain ⟨tk,s'⟩:=p
    unfold PopEPost at hp
    rw [hres] at hp
    obtain ⟨nm',rfl,rfl,c2,sb2,fb2,n2,hr2,ho2,hb2,hc2,hm2,hs2,hn2⟩:=hp
    have HRES:=Lib.hid hres
    have hct:=hb2.cell
    have hft:=hb2.frozen
    have HR2:=Lib.hid hr2
    have HO2:=Lib.hid ho2
    have HC2:=Lib.hid hc2
    have HM2:=Lib.hid hm2
    have HS2:=Lib.hid hs2
    have HN2:=Lib.hid hn2
    clear hr2 ho2 hc2 hm2 hs2 hn2 hb2 HPE hres
    go_simp
    (repeat (first|(with_reducible first|refine zA fun K hK=>?_|refine zB ?_|refine zC ?_)|((with_reducible first|refine zD rfl fun K hK=>?_|refine zE fun K hK=>?_);go_simp)|(with_reducible first|((repeat ((fail_if_success refine hK _ _ ?_);clear hK K));refine hK _ _ ?_;clear hK K)|refine zt ?_|refine zf ?_|refine zG ?_|refine zR ?_|refine zK ?_|refine zL ?_|refine zN ?_|refine zS ?_)|simp only [Exit.then,Exit.inBlock,Exit.noGoto,↓reduceIte,Nat.reduceEqDiff]|simp only [undef,reduceCtorEq,↓reduceIte]))
    refine Q_keep [2,3] (fun f=>?_);simp only [keep_cons,keep_nil,lk_cons,lk_nil,Nat.reduceEqDiff,↓reduceIte]
    refine HQ.out f _ _ _ ?_
    rw [HW.out,HRES.out]
    obtain ⟨j1,j2,j3,j4,j5,j6⟩:=popL_keep HRES.out H.out.sok H.out.nok
    have hwz:w.heap.size ≤ wt.heap.size:=HAL.out.size
    have hmA:Mod (fun b=>b=x.d ∨ b ∈ m :: (sb ++ fb) ∨ tokBlk (enV nm) b) w _:=(HAL.out.mono (fun _ _ h=>h.elim)).trans HM2.out (fun i hi hs=>by
      rcases hs with hs|hs|hs
      · exact Or.inl hs
      · exact Or.inr (Or.inl hs)
      · omega)
    refine ⟨rfl,c2,v,sb2,fb2,n2,⟨H.out.cfg.same HC2.out,HR2.out,HO2.out,j2,j3,?_,?_,?_⟩,⟨0,rfl⟩,hmA,fun b hb=>?_,rfl,HC2.out.next⟩
    · intro nm9 h9
      rcases j4 with j4|⟨j4,e,stk,j7,j8⟩
      · exact H.out.tcl nm9 (by rw [← j4];exact h9)
      · rw [j4] at h9
        simp only [Option.some.injEq] at h9
        subst h9
        rcases HKT.out with h8|⟨nm',e',stk',h1,h2,_,h3⟩
        · exact h8
        · cases h1
          rw [j7] at h2
          obtain ⟨rfl,_⟩:=List.cons.inj h2
          exact absurd (by rw [h3]) j8
    · rw [j1,j5]
      have h8:=HN2.out
      have h9:=H.out.bnd
      omega
    · refine H.out.nxt.step hmA (fun k hk hh=>?_) (fun g hg hh=>?_) j5 HC2.out.next j6 (fun b hb=>?_)
      · obtain ⟨h7,h8⟩:=HR0.out.bufFar H.out.own hk
        rcases hh with hh|hh|hh
        · exact h7 hh
        · exact h8 hh
        · exact hh.elim
      · obtain ⟨h7,h8⟩:=H.out.nxt.far hg
        rcases hh with hh|hh|hh
        · exact h8 (hh ▸ Or.inl (Or.inl rfl))
        · exact h7 hh
        · exact hh.elim
      · rcases HS2.out b hb with h9|h9
        · exact Or.inl h9
        · exact Or.inr (Nat.le_trans hwz h9)
    · rcases HS2.out b hb with h9|h9
      · exact Or.inl h9
      · exact Or.inr (Nat.le_trans hwz h9)
end Go.Proofs.YtkjnockljapnbaaGreatDoor
