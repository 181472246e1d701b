/- Part of the proof that laws.FnBeginning, laws.FnPlaces returns true for every argument (Sj, Sk). No condition of its own. -/
import Derived.Test.YtkjnockljapnbaaGreatDoorK39
import Derived.Test.YtkjnockljapnbaaGreatDoorK21
set_option linter.all false
set_option maxHeartbeats 8000000
set_option maxRecDepth 100000
namespace Go.Proofs.YtkjnockljapnbaaGreatDoor
open Go Go.RowKit
theorem popElement_c (x:Cx) (hx:x.All) (c:DC) (w:World) (v:DV) (s:St) (m:Nat) (sb fb:List Nat) (n:Nat) (tb:Nat) (nm:Bs × Bs) (h:PeSt x c w v s m sb fb n tb nm) :
    Calls Tryz.prog 29 #[decP x,.pointer (some ⟨tb,0,none⟩)] w fun en w'=>PopEPost x c w v s nm m sb fb n tb en w':=by
  cases hs:s.stk with
  | nil=>exact popE_nil x hx c w v s m sb fb n tb nm h hs
  | cons e stk'=>
    rcases (h.sok e (by rw [hs];simp)).1 with hk|hk
    · exact popE_elem x hx c w v s m sb fb n tb nm h e stk' hs hk
    · exact popE_ns x hx c w v s m sb fb n tb nm h e stk' hs hk
theorem StkAt.head {w:World} {p:Value} {l:List Ent} {bs:List Nat} (h:StkAt w p l bs) (hok:StkOk l) :
    (p=.pointer none∧l=[]) ∨ ∃ q e l' nx ok,p=.pointer (some ⟨q,0,none⟩)∧l=e :: l'∧(e.kind=0 ∨ e.kind=1)∧Blk w q (skCells nx e.kind e.space e.loc ok) 88∧q ∈ bs:=by
  rcases h.ptr with ⟨h1,_,h2⟩|⟨q,e,l',bs',rfl,rfl,rfl⟩
  · exact Or.inl ⟨h1,h2⟩
  · obtain ⟨_,nx,ok,hb,_,_⟩:=h
    exact Or.inr ⟨q,e,l',nx,ok,rfl,rfl,(hok e (by simp)).1,hb,by simp⟩
theorem auto_nil (x:Cx) (c:DC) (hau:c.auto=.slice none 0 0) (w:World) (v:DV) (h:DecAt w x.d c v) {stk:List Ent} {sb:List Nat} (hs:StkAt w c.stk stk sb) (hok:StkOk stk) (t:Value) :
    Calls Tryz.prog 25 #[decP x,t] w fun en w'=>en=.returned (.tuple #[.nilIface,.bool false])∧w'=w:=by
  have hc:=h.cell
  have hf:=h.frozen
  have q1:=fun w=>ptrNilE w
  rcases hs.head hok with ⟨h1,_⟩|⟨q,e,l',nx,ok,h1,_,h2,h3,_⟩
  · clear h hs hok hau
    refine calls_fr (vs:=[_,_]) 76 Tryz.func25 rfl rfl (Nat.le_of_ble_eq_true rfl) fun f=>?_
    simp only [argSlots]
    (repeat (first|(with_reducible first|refine zA fun K hK=>?_|refine zB ?_|refine zC ?_)|((with_reducible first|refine zD rfl fun K hK=>?_|refine zE fun K hK=>?_);go_simp)|(with_reducible first|((repeat ((fail_if_success refine hK _ _ ?_);clear hK K));refine hK _ _ ?_;clear hK K)|refine zT (by go_simp;first|done|omega) ?_|refine zF (by go_simp;first|done|omega) ?_|refine zG ?_|refine zR ?_|refine zK ?_|refine zL ?_|refine zN ?_|refine zS ?_)|simp only [Exit.then,Exit.inBlock,Exit.noGoto,↓reduceIte,Nat.reduceEqDiff]|simp only [undef,reduceCtorEq,↓reduceIte]))
    (refine fr_out2 rfl (by decide) (by decide) (by simp only [lk_cons,lk_nil,Nat.reduceEqDiff,↓reduceIte];rfl) (by simp only [lk_cons,lk_nil,Nat.reduceEqDiff,↓reduceIte];rfl) ?_)
    exact ⟨rfl,rfl⟩
  · have hcq:=h3.cell
    have hfq:=h3.frozen
    obtain ⟨e1,e2,e3,e4⟩:=e
    simp only at h2 hcq
    clear h hs hok h3
    have h1:¬ ((0:Int) < 0):=by omega
    rcases h2 with rfl|rfl
    · refine calls_fr (vs:=[_,_]) 76 Tryz.func25 rfl rfl (Nat.le_of_ble_eq_true rfl) fun f=>?_
      simp only [argSlots]
      (repeat (first|(with_reducible first|refine zA fun K hK=>?_|refine zB ?_|refine zC ?_)|((with_reducible first|refine zD rfl fun K hK=>?_|refine zE fun K hK=>?_);go_simp)|(with_reducible first|((repeat ((fail_if_success refine hK _ _ ?_);clear hK K));refine hK _ _ ?_;clear hK K)|refine zT (by go_simp;first|done|omega) ?_|refine zF (by go_simp;first|done|omega) ?_|refine zG ?_|refine zR ?_|refine zK ?_|refine zL ?_|refine zN ?_|refine zS ?_)|simp only [Exit.then,Exit.inBlock,Exit.noGoto,↓reduceIte,Nat.reduceEqDiff]|simp only [undef,reduceCtorEq,↓reduceIte]))
      (refine wp_keep [0,4,5,29,30] (fun f=>?_);simp only [keep_cons,keep_nil,lk_cons,lk_nil,Nat.reduceEqDiff,↓reduceIte])
      refine wp_loop_ghost_k (fun _ a w'=>(∃ f,a=fr 76 f [(0,decP x),(4,.nilIface),(5,.bool false),(29,.int .i64 0),(30,.int .i64 0)])∧w'=w) 0 ⟨⟨f,rfl⟩,rfl⟩ ?_
      rintro k _ _ ⟨⟨f,rfl⟩,rfl⟩ J K2 hJ hK2
      (repeat (first|(with_reducible first|refine zA fun K hK=>?_|refine zB ?_|refine zC ?_)|((with_reducible first|refine zD rfl fun K hK=>?_|refine zE fun K hK=>?_);go_simp)|(with_reducible first|((repeat ((fail_if_success refine hK _ _ ?_);clear hK K));refine hK _ _ ?_;clear hK K)|refine zT (by go_simp;first|done|omega) ?_|refine zF (by go_simp;first|done|omega) ?_|refine zG ?_|refine zR ?_|refine zK ?_|refine zL ?_|refine zN ?_|refine zS ?_)|simp only [Exit.then,Exit.inBlock,Exit.noGoto,↓reduceIte,Nat.reduceEqDiff]|simp only [undef,reduceCtorEq,↓reduceIte]))
      (refine fr_out2 rfl (by decide) (by decide) (by simp only [lk_cons,lk_nil,Nat.reduceEqDiff,↓reduceIte];rfl) (by simp only [lk_cons,lk_nil,Nat.reduceEqDiff,↓reduceIte];rfl) ?_)
      exact ⟨rfl,rfl⟩
    · refine calls_fr (vs:=[_,_]) 76 Tryz.func25 rfl rfl (Nat.le_of_ble_eq_true rfl) fun f=>?_
      simp only [argSlots]
      (repeat (first|(with_reducible first|refine zA fun K hK=>?_|refine zB ?_|refine zC ?_)|((with_reducible first|refine zD rfl fun K hK=>?_|refine zE fun K hK=>?_);go_simp)|(with_reducible first|((repeat ((fail_if_success refine hK _ _ ?_);clear hK K));refine hK _ _ ?_;clear hK K)|refine zT (by go_simp;first|done|omega) ?_|refine zF (by go_simp;first|done|omega) ?_|refine zG ?_|refine zR ?_|refine zK ?_|refine zL ?_|refine zN ?_|refine zS ?_)|simp only [Exit.then,Exit.inBlock,Exit.noGoto,↓reduceIte,Nat.reduceEqDiff]|simp only [undef,reduceCtorEq,↓reduceIte]))
      (refine fr_out2 rfl (by decide) (by decide) (by simp only [lk_cons,lk_nil,Nat.reduceEqDiff,↓reduceIte];rfl) (by simp only [lk_cons,lk_nil,Nat.reduceEqDiff,↓reduceIte];rfl) ?_)
      exact ⟨rfl,rfl⟩
structure CfgOk (x:Cx) (c:DC):Prop where
  dc:DcOk x c
  no:NoEnt x c
  sp:c.space=⟨x.o.space.toArray⟩
  auto:c.auto=.slice none 0 0
  next:c.nextTok=.nilIface
theorem CfgOk.same {x:Cx} {c c':DC} (h:CfgOk x c) (k:SameD c c'):CfgOk x c':=by
  obtain ⟨p,q,dp,b,t1,t2,rfl⟩:=k
  exact ⟨⟨h.dc.r,h.dc.strict⟩,⟨h.no.ent,h.no.ents⟩,h.sp,h.auto,h.next⟩
structure TS (x:Cx) (c:DC) (w:World) (v:DV) (s:St) (m:Nat) (sb fb:List Nat) (n:Nat):Prop where
  cfg:CfgOk x c
  rd:RdTS x c w v s
  own:Own x w c v m sb fb n s.stk s.ns
  sok:StkOk s.stk
  nok:NsOk s.ns
  tcl:∀ nm,s.toClose=some nm → nm.1.length ≤ x.T.length∧nm.2.length ≤ x.T.length
  bnd:n + s.stk.length + 2 * s.rest.length ≤ 2 * x.T.length
def tokBlk:Value → Nat → Prop
  | .iface _ (.agg #[_,_,.slice (some a) _ _]),k=>k=a.block
  | _,_=>False
def TkPost (x:Cx) (w:World) (v:DV) (R:Except EK (RTok × St)) (m:Nat) (sb fb:List Nat) (t e:Value) (w':World):Prop:=
  match R with
  | .error k=>t=.nilIface∧ErrV x e (some k)∧Below x.B x.W0 w'∧OthAt w' e k∧Mod (fun b=>x.S1 v b ∨ b ∈ m :: (sb ++ fb)) w w'
  | .ok (tk,s')=>e=.nilIface∧∃ c' v' sb' fb' n',TS x c' w' v' s' m sb' fb' n'∧TokAt w' v'.bufv w.heap.size t tk∧Mod (fun b=>x.S1 v b ∨ b ∈ m :: (sb ++ fb)) w w' ∧
      (∀ b ∈ m :: (sb' ++ fb'),b ∈ m :: (sb ++ fb) ∨ w.heap.size ≤ b)∧(∀ b,x.S1 v' b → x.S1 v b ∨ w.heap.size ≤ b)∧∀ g,tokBlk t g → g ∉ m :: (sb' ++ fb')∧¬ x.S1 v' g
end Go.Proofs.YtkjnockljapnbaaGreatDoor
namespace Go.Proofs.YtkjnockljapnbaaGreatDoor
open Go Go.RowKit
theorem taCmS (v:Value) (w:World):(Instr.typeAssert (cmV v) 53 94 true).run Tryz.prog w=.ok (.tuple #[.agg #[zStr,zStr,.slice none 0 0],.bool false]) w:=by kernel_rfl
theorem taCmE (v:Value) (w:World):(Instr.typeAssert (cmV v) 53 103 true).run Tryz.prog w=.ok (.tuple #[.agg #[zStr,zStr],.bool false]) w:=by kernel_rfl
theorem taDvS (v:Value) (w:World):(Instr.typeAssert (dvV v) 53 94 true).run Tryz.prog w=.ok (.tuple #[.agg #[zStr,zStr,.slice none 0 0],.bool false]) w:=by kernel_rfl
theorem taDvE (v:Value) (w:World):(Instr.typeAssert (dvV v) 53 103 true).run Tryz.prog w=.ok (.tuple #[.agg #[zStr,zStr],.bool false]) w:=by kernel_rfl
theorem taPvS (tg:Bs) (v:Value) (w:World):(Instr.typeAssert (pvV tg v) 53 94 true).run Tryz.prog w=.ok (.tuple #[.agg #[zStr,zStr,.slice none 0 0],.bool false]) w:=by kernel_rfl
theorem taPvE (tg:Bs) (v:Value) (w:World):(Instr.typeAssert (pvV tg v) 53 103 true).run Tryz.prog w=.ok (.tuple #[.agg #[zStr,zStr],.bool false]) w:=by kernel_rfl
theorem taEnS (a b:Value) (w:World):(Instr.typeAssert (.iface 103 (.agg #[a,b])) 53 94 true).run Tryz.prog w=.ok (.tuple #[.agg #[zStr,zStr,.slice none 0 0],.bool false]) w:=by kernel_rfl
theorem taEnE (a b:Value) (w:World):(Instr.typeAssert (.iface 103 (.agg #[a,b])) 53 103 true).run Tryz.prog w=.ok (.tuple #[.agg #[a,b],.bool true]) w:=by kernel_rfl
theorem taStS (a b s:Value) (w:World):(Instr.typeAssert (.iface 94 (.agg #[a,b,s])) 53 94 true).run Tryz.prog w=.ok (.tuple #[.agg #[a,b,s],.bool true]) w:=by kernel_rfl
theorem tk14 (x:Cx) (c:DC) (hau:c.auto=.slice none 0 0) (w:World) (v:DV) (h:DecAt w x.d c v) {stk:List Ent} {sb:List Nat} (hs:StkAt w c.stk stk sb) (hok:StkOk stk) (tv:Value) (Q:Exit → Act → World → Prop)
    (hQ:∀ f,(tkCode 19).wp Tryz.prog Q (fr 204 f [(0,decP x),(4,tv),(5,.nilIface)]) w) (f:Nat → Value):(tkCode 14).wp Tryz.prog Q (fr 204 f [(0,decP x),(4,tv),(5,.nilIface)]) w:=by
  have hc:=h.cell
  have hf:=h.frozen
  have HA:=Lib.hid (auto_nil x c hau w v h hs hok tv)
  have HQ:=Lib.hid hQ
  clear h hs hok hQ hau
  have hcase:c.strict=true ∨ c.strict=false:=by cases c.strict <;> simp
  conv=>arg 2;unfold tkCode;whnf
  rcases hcase with hst|hst
  · (repeat ((fail_if_success with_reducible refine wp_stop 19 ?_);(fail_if_success with_reducible refine wp_stop2 19 ?_);(first|(with_reducible first|refine zA fun K hK=>?_|refine zB ?_|refine zC ?_)|((with_reducible first|refine zD rfl fun K hK=>?_|refine zE fun K hK=>?_);go_simp)|(with_reducible first|((repeat ((fail_if_success refine hK _ _ ?_);clear hK K));refine hK _ _ ?_;clear hK K)|refine zT (by go_simp;first|done|omega) ?_|refine zF (by go_simp;first|done|omega) ?_|refine zG ?_|refine zR ?_|refine zK ?_|refine zL ?_|refine zN ?_|refine zS ?_)|simp only [Exit.then,Exit.inBlock,Exit.noGoto,↓reduceIte,Nat.reduceEqDiff]|simp only [undef,reduceCtorEq,↓reduceIte])))
    (refine wp_keep [0,4,5] (fun f=>?_);simp only [keep_cons,keep_nil,lk_cons,lk_nil,Nat.reduceEqDiff,↓reduceIte])
    exact wp_code (HQ.out f) (by kernel_rfl)
  · (repeat (first|(with_reducible first|refine zA fun K hK=>?_|refine zB ?_|refine zC ?_)|((with_reducible first|refine zD rfl fun K hK=>?_|refine zE fun K hK=>?_);go_simp)|(with_reducible first|((repeat ((fail_if_success refine hK _ _ ?_);clear hK K));refine hK _ _ ?_;clear hK K)|refine zT (by go_simp;first|done|omega) ?_|refine zF (by go_simp;first|done|omega) ?_|refine zG ?_|refine zR ?_|refine zK ?_|refine zL ?_|refine zN ?_|refine zS ?_)|simp only [Exit.then,Exit.inBlock,Exit.noGoto,↓reduceIte,Nat.reduceEqDiff]|simp only [undef,reduceCtorEq,↓reduceIte]))
    refine HA.out.mono ?_
    rintro e2 w2 ⟨rfl,rfl⟩
    go_simp
    (repeat ((fail_if_success with_reducible refine wp_stop 19 ?_);(fail_if_success with_reducible refine wp_stop2 19 ?_);(first|(with_reducible first|refine zA fun K hK=>?_|refine zB ?_|refine zC ?_)|((with_reducible first|refine zD rfl fun K hK=>?_|refine zE fun K hK=>?_);go_simp)|(with_reducible first|((repeat ((fail_if_success refine hK _ _ ?_);clear hK K));refine hK _ _ ?_;clear hK K)|refine zT (by go_simp;first|done|omega) ?_|refine zF (by go_simp;first|done|omega) ?_|refine zG ?_|refine zR ?_|refine zK ?_|refine zL ?_|refine zN ?_|refine zS ?_)|simp only [Exit.then,Exit.inBlock,Exit.noGoto,↓reduceIte,Nat.reduceEqDiff]|simp only [undef,reduceCtorEq,↓reduceIte])))
    (refine wp_keep [0,4,5] (fun f=>?_);simp only [keep_cons,keep_nil,lk_cons,lk_nil,Nat.reduceEqDiff,↓reduceIte])
    exact wp_code (HQ.out f) (by kernel_rfl)
theorem undoL_keep:∀ (stk:List Ent) (ns:Bs → Option Bs),StkOk stk → NsOk ns → StkOk (undoL stk ns).1∧NsOk (undoL stk ns).2
  | [],ns,h1,h2=>⟨h1,h2⟩
  | e :: stk,ns,h1,h2=>by
    unfold undoL
    split
    · exact ⟨h1,h2⟩
    · refine undoL_keep stk _ (fun e' he=>h1 e' (List.mem_cons_of_mem _ he)) (fun k u hu=>?_)
      unfold setNs at hu
      split at hu
      · split at hu
        · simp only [Option.some.injEq] at hu
          rw [← hu];exact (h1 e List.mem_cons_self).2.1
        · cases hu
      · exact h2 k u hu
theorem popL_keep {o:Opt} {nm:Bs × Bs} {s s':St} {t:RTok} (h:popL o nm s=.ok (t,s')) (h1:StkOk s.stk) (h2:NsOk s.ns) :
    s'.rest=s.rest∧StkOk s'.stk∧NsOk s'.ns∧(s'.toClose=s.toClose ∨ s'.toClose=some nm):=by
  unfold popL at h
  split at h
  · cases h
  · rename_i e stk hs
    rw [hs] at h1
    have h1':StkOk stk:=fun e' he=>h1 e' (List.mem_cons_of_mem _ he)
    split at h
    · cases h
    · split at h
      · split at h
        · cases h
        · simp only [Except.ok.injEq,Prod.mk.injEq] at h
          obtain ⟨rfl,rfl⟩:=h
          exact ⟨rfl,h1',h2,Or.inr rfl⟩
      · split at h
        · cases h
        · simp only [Except.ok.injEq,Prod.mk.injEq] at h
          obtain ⟨rfl,rfl⟩:=h
          obtain ⟨k1,k2⟩:=undoL_keep stk s.ns h1' h2
          exact ⟨rfl,k1,k2,Or.inl rfl⟩
theorem popL_no (o:Opt) (nm:Bs × Bs) (s:St):NoO (popL o nm s):=by
  unfold popL
  split
  · (first|exact noO_must _|exact noO_syn|exact noO_ok _)
  · split
    · (first|exact noO_must _|exact noO_syn|exact noO_ok _)
    · split
      · split <;> (first|exact noO_must _|exact noO_syn|exact noO_ok _)
      · split <;> (first|exact noO_must _|exact noO_syn|exact noO_ok _)
structure RawSt (x:Cx) (c:DC) (w:World) (v:DV) (s:St) (m:Nat) (sb fb:List Nat) (n:Nat) (B:Nat) (tv:Value) (tk:RTok):Prop where
  cfg:CfgOk x c
  rd:RdTS x c w v s
  own:Own x w c v m sb fb n s.stk s.ns
  sok:StkOk s.stk
  nok:NsOk s.ns
  tcl:∀ nm,s.toClose=some nm → nm.1.length ≤ x.T.length∧nm.2.length ≤ x.T.length
  le:TkLe x.T.length tk
  bnd:n + s.stk.length + 2 * s.rest.length + 2 * (match tk with|.start _ ats=>1 + ats.length|_=>0) ≤ 2 * x.T.length
  tok:TokAt w v.bufv B tv tk
  hB:x.B ≤ B
  hBs:B ≤ w.heap.size
  hBo:∀ b ∈ m :: (sb ++ fb),b < B
  hBS:∀ b,x.S0 b → b < B
  nt:(∀ d,tk ≠ .text d) → s.ended=false∧∃ b,RdS x c w v s.rest none b
def WkPost (x:Cx) (w:World) (v:DV) (R:Except EK (RTok × St)) (m:Nat) (sb fb:List Nat) (B:Nat) (tv:Value) (t e:Value) (w':World):Prop:=
  match R with
  | .error k=>t=.nilIface∧ErrV x e (some k)∧Below x.B x.W0 w'∧OthAt w' e k∧Mod (fun b=>x.S1 v b ∨ b ∈ m :: (sb ++ fb)) w w'
  | .ok (tk,s')=>e=.nilIface∧∃ c' v' sb' fb' n',TS x c' w' v' s' m sb' fb' n'∧TokAt w' v'.bufv B t tk∧Mod (fun b=>b=x.d ∨ b ∈ m :: (sb ++ fb) ∨ tokBlk tv b) w w' ∧
      (∀ b ∈ m :: (sb' ++ fb'),b ∈ m :: (sb ++ fb) ∨ w.heap.size ≤ b)∧v'.bufv=v.bufv∧∀ g,tokBlk t g → g ∉ m :: (sb' ++ fb')∧¬ x.S1 v' g
theorem RawSt.plain {x:Cx} {c:DC} {w:World} {v:DV} {s:St} {m:Nat} {sb fb:List Nat} {n B:Nat} {tv:Value} {tk:RTok} (h:RawSt x c w v s m sb fb n B tv tk) (h1:∀ nm ats,tk ≠ .start nm ats) (h2:∀ nm,tk ≠ .fin nm) (h3:∀ g,¬ tokBlk tv g):WkPost x w v (workL x.o tk s) m sb fb B tv tv .nilIface w:=by
  have e:workL x.o tk s=.ok (tk,s):=by
    unfold workL
    split
    · exact absurd rfl (h1 _ _)
    · exact absurd rfl (h2 _)
    · rfl
  rw [e]
  exact ⟨rfl,c,v,sb,fb,n,⟨h.cfg,h.rd,h.own,h.sok,h.nok,h.tcl,by have:=h.bnd;omega⟩,h.tok,Mod.refl _ _,fun b hb=>Or.inl hb,rfl,fun g hg=>absurd hg (h3 g)⟩
theorem tkPlain (x:Cx) (c:DC) (w:World) (v:DV) (s:St) (m:Nat) (sb fb:List Nat) (n B:Nat) (tv:Value) (tk:RTok) (h:RawSt x c w v s m sb fb n B tv tk) (h1:∀ nm ats,tk ≠ .start nm ats) (h2:∀ nm,tk ≠ .fin nm) (Q:Exit → Act → World → Prop)
    (hQ:∀ f w' t e,WkPost x w v (workL x.o tk s) m sb fb B tv t e w' → Q .ret (fr 204 f [(2,t),(3,e)]) w') (f:Nat → Value):(tkCode 19).wp Tryz.prog Q (fr 204 f [(0,decP x),(4,tv),(5,.nilIface)]) w:=by
  have HQ:=Lib.hid hQ
  have H:=Lib.hid h
  have ht:=h.tok
  clear hQ h
  conv=>arg 2;unfold tkCode;whnf
  cases tk with
  | start nm ats=>exact absurd rfl (h1 _ _)
  | fin nm=>exact absurd rfl (h2 _)
  | text d=>
    obtain ⟨sv,rfl,⟨g0,cap0,n0,rfl,_⟩⟩:=ht
    have q3:=fun v w=>taChS v w
    have q4:=fun v w=>taChE v w
    clear h1 h2
    (repeat (first|(with_reducible first|refine zA fun K hK=>?_|refine zB ?_|refine zC ?_)|((with_reducible first|refine zD rfl fun K hK=>?_|refine zE fun K hK=>?_);go_simp)|(with_reducible first|((repeat ((fail_if_success refine hK _ _ ?_);clear hK K));refine hK _ _ ?_;clear hK K)|refine zT (by go_simp;first|done|omega) ?_|refine zF (by go_simp;first|done|omega) ?_|refine zG ?_|refine zR ?_|refine zK ?_|refine zL ?_|refine zN ?_|refine zS ?_)|simp only [Exit.then,Exit.inBlock,Exit.noGoto,↓reduceIte,Nat.reduceEqDiff]|simp only [undef,reduceCtorEq,↓reduceIte]))
    refine Q_keep [2,3] (fun f=>?_);simp only [keep_cons,keep_nil,lk_cons,lk_nil,Nat.reduceEqDiff,↓reduceIte]
    exact HQ.out f _ _ _ (H.out.plain (by simp) (by simp) (fun g hg=>hg))
  | comment d=>
    obtain ⟨sv,rfl,⟨g0,cap0,n0,rfl,_⟩⟩:=ht
    have q3:=fun v w=>taCmS v w
    have q4:=fun v w=>taCmE v w
    clear h1 h2
    (repeat (first|(with_reducible first|refine zA fun K hK=>?_|refine zB ?_|refine zC ?_)|((with_reducible first|refine zD rfl fun K hK=>?_|refine zE fun K hK=>?_);go_simp)|(with_reducible first|((repeat ((fail_if_success refine hK _ _ ?_);clear hK K));refine hK _ _ ?_;clear hK K)|refine zT (by go_simp;first|done|omega) ?_|refine zF (by go_simp;first|done|omega) ?_|refine zG ?_|refine zR ?_|refine zK ?_|refine zL ?_|refine zN ?_|refine zS ?_)|simp only [Exit.then,Exit.inBlock,Exit.noGoto,↓reduceIte,Nat.reduceEqDiff]|simp only [undef,reduceCtorEq,↓reduceIte]))
    refine Q_keep [2,3] (fun f=>?_);simp only [keep_cons,keep_nil,lk_cons,lk_nil,Nat.reduceEqDiff,↓reduceIte]
    exact HQ.out f _ _ _ (H.out.plain (by simp) (by simp) (fun g hg=>hg))
  | dir d=>
    obtain ⟨sv,rfl,⟨g0,cap0,n0,rfl,_⟩⟩:=ht
    have q3:=fun v w=>taDvS v w
    have q4:=fun v w=>taDvE v w
    clear h1 h2
    (repeat (first|(with_reducible first|refine zA fun K hK=>?_|refine zB ?_|refine zC ?_)|((with_reducible first|refine zD rfl fun K hK=>?_|refine zE fun K hK=>?_);go_simp)|(with_reducible first|((repeat ((fail_if_success refine hK _ _ ?_);clear hK K));refine hK _ _ ?_;clear hK K)|refine zT (by go_simp;first|done|omega) ?_|refine zF (by go_simp;first|done|omega) ?_|refine zG ?_|refine zR ?_|refine zK ?_|refine zL ?_|refine zN ?_|refine zS ?_)|simp only [Exit.then,Exit.inBlock,Exit.noGoto,↓reduceIte,Nat.reduceEqDiff]|simp only [undef,reduceCtorEq,↓reduceIte]))
    refine Q_keep [2,3] (fun f=>?_);simp only [keep_cons,keep_nil,lk_cons,lk_nil,Nat.reduceEqDiff,↓reduceIte]
    exact HQ.out f _ _ _ (H.out.plain (by simp) (by simp) (fun g hg=>hg))
  | proc tg d=>
    obtain ⟨sv,rfl,_⟩:=ht
    have q3:=fun v w=>taPvS tg v w
    have q4:=fun v w=>taPvE tg v w
    clear h1 h2
    (repeat (first|(with_reducible first|refine zA fun K hK=>?_|refine zB ?_|refine zC ?_)|((with_reducible first|refine zD rfl fun K hK=>?_|refine zE fun K hK=>?_);go_simp)|(with_reducible first|((repeat ((fail_if_success refine hK _ _ ?_);clear hK K));refine hK _ _ ?_;clear hK K)|refine zT (by go_simp;first|done|omega) ?_|refine zF (by go_simp;first|done|omega) ?_|refine zG ?_|refine zR ?_|refine zK ?_|refine zL ?_|refine zN ?_|refine zS ?_)|simp only [Exit.then,Exit.inBlock,Exit.noGoto,↓reduceIte,Nat.reduceEqDiff]|simp only [undef,reduceCtorEq,↓reduceIte]))
    refine Q_keep [2,3] (fun f=>?_);simp only [keep_cons,keep_nil,lk_cons,lk_nil,Nat.reduceEqDiff,↓reduceIte]
    exact HQ.out f _ _ _ (H.out.plain (by simp) (by simp) (fun g hg=>hg))
theorem tkFin (x:Cx) (hx:x.All) (c:DC) (w:World) (v:DV) (s:St) (m:Nat) (sb fb:List Nat) (n B:Nat) (tv:Value) (nm:Bs × Bs) (h:RawSt x c w v s m sb fb n B tv (.fin nm)) (Q:Exit → Act → World → Prop)
    (hQ:∀ f w' t e,WkPost x w v (workL x.o (.fin nm) s) m sb fb B tv t e w' → Q .ret (fr 204 f [(2,t),(3,e)]) w') (f:Nat → Value):(tkCode 19).wp Tryz.prog Q (fr 204 f [(0,decP x),(4,tv),(5,.nilIface)]) w:=by
  have ht:tv=enV nm:=h.tok
  subst ht
  have q3:=fun a b w=>taEnS a b w
  have q4:=fun a b w=>taEnE a b w
  obtain ⟨hen,b0,hR⟩:=h.nt (by simp)
  obtain ⟨wt,hwt⟩:∃ wt,wt=w.alloc (.cells #[strV nm.1,strV nm.2] 103):=⟨_,rfl⟩
  have hbl:Below w.heap.size w wt:=by rw [hwt];exact (Below.refl _ w).alloc (Nat.le_refl _) _
  have hal:Mod (fun _=>False) w wt:=mod_none hbl _
  have hR2:=hR.below hx.toOk hbl
  have hob:∀ k ∈ m :: (sb ++ fb),k < w.heap.size:=h.own.lt
  have hdB:x.d < w.heap.size:=hR.dec.lt
  obtain ⟨k1,k2⟩:=h.le
  have hlen:=hx.len
  have hpe:PeSt x c wt v s m sb fb n w.heap.size nm:=
    { rd0:=⟨hen,b0,hR2⟩,strict:=h.cfg.dc.strict,rts:=⟨⟨none,b0,hR2,fun hh=>(by rw [hen] at hh;cases hh),fun hh=>absurd rfl hh⟩,h.rd.nc,h.rd.tc,h.rd.nb⟩,own:=h.own.mod hal (fun _ _=>id) h.own.s1,sok:=h.sok,
      bnd:=by have:=h.bnd;omega,sp:=h.cfg.sp,tok:=by rw [hwt];exact Blk.new w _ _,tS:=hR.newS1,tO:=fun hh=>Nat.lt_irrefl _ (hob _ hh),tB:=Nat.le_trans h.hB h.hBs,l1:=by omega,l2:=by omega }
  have HPE:=Lib.hid (popElement_c x hx c wt v s m sb fb n w.heap.size nm hpe)
  have HQ:=Lib.hid hQ
  have H:=Lib.hid h
  have HAL:=Lib.hid hal
  have HK1:=Lib.hid k1
  have HK2:=Lib.hid k2
  have HX:=Lib.hid hx
  clear hQ h hR hR2 hpe hal hbl hob hdB k1 k2 hlen hen hx
  conv=>arg 2;unfold tkCode;whnf
  (repeat (first|(with_reducible first|refine zA fun K hK=>?_|refine zB ?_|refine zC ?_)|((with_reducible first|refine zD rfl fun K hK=>?_|refine zE fun K hK=>?_);go_simp)|(with_reducible first|((repeat ((fail_if_success refine hK _ _ ?_);clear hK K));refine hK _ _ ?_;clear hK K)|refine zT (by go_simp;first|done|omega) ?_|refine zF (by go_simp;first|done|omega) ?_|refine zG ?_|refine zR ?_|refine zK ?_|refine zL ?_|refine zN ?_|refine zS ?_)|simp only [Exit.then,Exit.inBlock,Exit.noGoto,↓reduceIte,Nat.reduceEqDiff]|simp only [undef,reduceCtorEq,↓reduceIte]))
  rw [← hwt]
  refine HPE.out.mono ?_
  rintro e1 w1 hp
  have HW:=Lib.hid (show workL x.o (.fin nm) s=popL x.o nm s from rfl)
  cases hres:popL x.o nm s with
  | error k=>
    unfold PopEPost at hp
    rw [hres] at hp
    obtain ⟨rfl,c2,v2,hE,hmE⟩:=hp
    have HME:=Lib.hid hmE
    obtain ⟨t1,u1,hu1⟩:=hE.err.iface
    have HE:=Lib.hid hE
    have hc:=hE.dec.cell
    have hf:=hE.dec.frozen
    have HU:=Lib.hid hu1
    have HRES:=Lib.hid hres
    clear hE HPE hwt hres hmE
    go_simp
    (repeat (first|(with_reducible first|refine zA fun K hK=>?_|refine zB ?_|refine zC ?_)|((with_reducible first|refine zD rfl fun K hK=>?_|refine zE fun K hK=>?_);go_simp)|(with_reducible first|((repeat ((fail_if_success refine hK _ _ ?_);clear hK K));refine hK _ _ ?_;clear hK K)|refine zT (by go_simp;first|done|omega) ?_|refine zF (by go_simp;first|done|omega) ?_|refine zG ?_|refine zR ?_|refine zK ?_|refine zL ?_|refine zN ?_|refine zS ?_)|simp only [Exit.then,Exit.inBlock,Exit.noGoto,↓reduceIte,Nat.reduceEqDiff]|simp only [undef,reduceCtorEq,↓reduceIte]))
    ((refine wp_keep [0] (fun f=>?_);simp only [keep_cons,keep_nil,lk_cons,lk_nil,Nat.reduceEqDiff,↓reduceIte]);go_quiet (fail);(repeat (first|(with_reducible first|refine zA fun K hK=>?_|refine zB ?_|refine zC ?_)|((with_reducible first|refine zD rfl fun K hK=>?_|refine zE fun K hK=>?_);go_simp)|(with_reducible first|((repeat ((fail_if_success refine hK _ _ ?_);clear hK K));refine hK _ _ ?_;clear hK K)|refine zT (by go_simp;first|done|omega) ?_|refine zF (by go_simp;first|done|omega) ?_|refine zG ?_|refine zR ?_|refine zK ?_|refine zL ?_|refine zN ?_|refine zS ?_)|simp only [Exit.then,Exit.inBlock,Exit.noGoto,↓reduceIte,Nat.reduceEqDiff]|simp only [undef,reduceCtorEq,↓reduceIte]));refine Q_keep [2,3] (fun f=>?_);simp only [keep_cons,keep_nil,lk_cons,lk_nil,Nat.reduceEqDiff,↓reduceIte])
    refine HQ.out f _ _ _ ?_
    rw [HW.out,HRES.out]
    refine ⟨rfl,by rw [← HU.out];exact HE.out.err,(HE.out.drewN _).base,OthAt.no (fun hh=>by subst hh;exact popL_no _ _ _ HRES.out),?_⟩
    refine (HAL.out.mono (fun _ _ h=>h.elim)).trans (HME.out.drewN _) (fun i hi hs=>?_)
    rcases hs with hs|hs|hs
    · exact Or.inl hs
    · exact Or.inr hs
    · omega
  | ok p=>
    obtain ⟨tk,s'⟩:=p
    unfold PopEPost at hp
    rw [hres] at hp
    obtain ⟨nm',rfl,rfl,c2,sb2,fb2,n2,hr2,ho2,hb2,hc2,hm2,hs2,hn2⟩:=hp
    have HRES:=Lib.hid hres
    have hct:=hb2.cell
    have hft:=hb2.frozen
    have HR2:=Lib.hid hr2
    have HO2:=Lib.hid ho2
    have HC2:=Lib.hid hc2
    have HM2:=Lib.hid hm2
    have HS2:=Lib.hid hs2
    have HN2:=Lib.hid hn2
    clear hr2 ho2 hc2 hm2 hs2 hn2 hb2 HPE hres
    go_simp
    (repeat (first|(with_reducible first|refine zA fun K hK=>?_|refine zB ?_|refine zC ?_)|((with_reducible first|refine zD rfl fun K hK=>?_|refine zE fun K hK=>?_);go_simp)|(with_reducible first|((repeat ((fail_if_success refine hK _ _ ?_);clear hK K));refine hK _ _ ?_;clear hK K)|refine zT (by go_simp;first|done|omega) ?_|refine zF (by go_simp;first|done|omega) ?_|refine zG ?_|refine zR ?_|refine zK ?_|refine zL ?_|refine zN ?_|refine zS ?_)|simp only [Exit.then,Exit.inBlock,Exit.noGoto,↓reduceIte,Nat.reduceEqDiff]|simp only [undef,reduceCtorEq,↓reduceIte]))
    refine Q_keep [2,3] (fun f=>?_);simp only [keep_cons,keep_nil,lk_cons,lk_nil,Nat.reduceEqDiff,↓reduceIte]
    refine HQ.out f _ _ _ ?_
    rw [HW.out,HRES.out]
    obtain ⟨j1,j2,j3,j4⟩:=popL_keep HRES.out H.out.sok H.out.nok
    have hwz:w.heap.size ≤ wt.heap.size:=HAL.out.size
    refine ⟨rfl,c2,v,sb2,fb2,n2,⟨H.out.cfg.same HC2.out,HR2.out,HO2.out,j2,j3,?_,?_⟩,rfl,?_,fun b hb=>?_,rfl,fun g hg=>hg.elim⟩
    · intro nm9 h9
      rcases j4 with j4|j4
      · exact H.out.tcl nm9 (by rw [← j4];exact h9)
      · rw [j4] at h9
        simp only [Option.some.injEq] at h9
        subst h9
        exact ⟨HK1.out,HK2.out⟩
    · rw [j1]
      have h8:=HN2.out
      have h9:=H.out.bnd
      omega
    · refine (HAL.out.mono (fun _ _ h=>h.elim)).trans HM2.out (fun i hi hs=>?_)
      rcases hs with hs|hs|hs
      · exact Or.inl hs
      · exact Or.inr (Or.inl hs)
      · omega
    · rcases HS2.out b hb with h9|h9
      · exact Or.inl h9
      · exact Or.inr (Nat.le_trans hwz h9)
end Go.Proofs.YtkjnockljapnbaaGreatDoor
