/- Part of the proof that laws.FnBalanced returns true for every argument (Sm, Cf, Mh, Iw). No condition of its own. -/
import Derived.Test.YtkjnockljapnbaaGreatDoorO45
import Derived.Test.YtkjnockljapnbaaGreatDoorO47
import Derived.Test.YtkjnockljapnbaaGreatDoorO14
set_option linter.all false
set_option maxHeartbeats 8000000
set_option maxRecDepth 100000
namespace Go.Proofs.YtkjnockljapnbaaGreatDoor
open Go Go.RowKit
theorem err_eql {x:Cx} (hx:x.Ok) (heb:∃ cs t,Blk x.W0 x.eofA.block cs t) {k:EK} {e:Value} {w:World} (hb:Below x.B x.W0 w) (he:ErrV x e (some k)) (ho:OthAt w e k) :
    (binOp .eql 55 e x.eofV).run Tryz.prog w=.ok (.bool (decide (k=.eof))) w:=by
  cases k with
  | eof=>rw [show e=x.eofV from he];exact eql_eof _ w
  | own=>rw [show e=ownV from he];exact eql_own _ _ w
  | syn=>obtain ⟨a,he⟩:=he;rw [he];exact eql_syn _ _ w
  | other=>
    obtain ⟨a,h1,h2⟩:=he
    obtain ⟨a',cs,t,h3,h4⟩:=ho rfl
    rw [h1] at h3
    simp only [Value.iface.injEq,Value.pointer.injEq,Option.some.injEq,true_and] at h3
    subst h3
    obtain ⟨cs2,t2,h5⟩:=heb
    have h6:Blk w x.eofA.block cs2 t2:=by
      unfold Blk at h5 ⊢
      rw [← h5];exact hb.block _ hx.eofL
    rw [h1]
    have q1:=errComparable
    have q2:=errElem
    cases hi:Tryz.prog.info? 177 with
    | none=>rw [hi] at q1;cases q1
    | some i=>
      cases hj:Tryz.prog.info? 179 with
      | none=>rw [hj] at q2;cases q2
      | some j=>
        rw [hi] at q1
        rw [hj] at q2
        have hne:a ≠ x.eofA:=fun e=>by rw [e] at h2;have:=hx.eofL;omega
        refine run_eql_iface_ptr_other w Tryz.underlying55 Tryz.underlying177 hi (by simpa using q1) hj ?_ hne h4 h6
        have:j.size=1:=by simpa using q2
        omega
theorem Own.same {x:Cx} {w:World} {c c':DC} {v:DV} {m:Nat} {sb fb:List Nat} {n:Nat} {stk:List Ent} {ns:Bs → Option Bs} (h:Own x w c v m sb fb n stk ns) (hc:SameC c c'):Own x w c' v m sb fb n stk ns:=by
  obtain ⟨_,_,_,rfl⟩:=hc
  exact ⟨h.stk,h.free,h.map,h.ns,h.nodup,h.base,h.s1⟩
theorem Own.next {x:Cx} {w:World} {c:DC} {v:DV} {m:Nat} {sb fb:List Nat} {n:Nat} {stk:List Ent} {ns:Bs → Option Bs} (h:Own x w c v m sb fb n stk ns) (u:Value):Own x w { c with nextTok:=u } v m sb fb n stk ns:=
  ⟨h.stk,h.free,h.map,h.ns,h.nodup,h.base,h.s1⟩
theorem CfgOk.nextTok {x:Cx} {c:DC} (h:CfgOk x c) (u:Value):CfgOk x { c with nextTok:=u }:=⟨⟨h.dc.r,h.dc.strict⟩,⟨h.no.ent,h.no.ents⟩,h.sp,h.auto⟩
theorem TS.raw {x:Cx} (hx:x.All) {c:DC} {w:World} {v:DV} {s:St} {m:Nat} {sb fb:List Nat} {n:Nat} (h:TS x c w v s m sb fb n) (hsn:s.next=none) {tk:RTok} {s1:St} (hr:rawL x.o s=.ok (tk,s1)) {c1:DC} {w1:World} {v1:DV} (hs:Stp x w v w1 v1) (hc:SameC c c1) (hrd:RdTS x c1 w1 v1 s1) {t:Value} (ht:TokAt w1 v1.bufv w.heap.size t tk)
    (hnt:(∀ d,tk ≠ .text d) → s1.ended=false∧∃ b,RdS x c1 w1 v1 s1.rest none b):RawSt x c1 w1 v1 s1 m sb fb n w.heap.size t tk∧s1.next=none∧TkLe x.T.length tk:=by
  obtain ⟨e0,b0,hR,_,_⟩:=h.rd.rd
  have hlen:s.rest.length ≤ x.T.length:=hR.suf.length_le
  obtain ⟨k1,k2,k3,k4,k5,k6,k7⟩:=rawL_ok hr
  obtain ⟨l1,l2⟩:=rawL_le h.cfg.no.ents hr hlen h.tcl
  have hcn:c.nextTok=.nilIface:=by
    have h9:=h.nxt
    unfold NxAt at h9
    rw [hsn] at h9;exact h9
  have hsn1:s1.next=none:=k4.trans hsn
  obtain ⟨e1,b1,hR1,_,_⟩:=hrd.rd
  refine ⟨⟨h.cfg.same hc.toD,hrd,?_,by rw [k2];exact h.sok,by rw [k3];exact h.nok,l2,Or.inl l1,?_,ht,hR.base.size,hs.mod.size,fun g hg=>?_,fun hd=>Or.inl (hnt hd),NxAt.none hsn1 (by rw [hc.toD.next];exact hcn)⟩,hsn1,l1⟩
  · rw [k2,k3];exact (h.own.step hs).same hc
  · have h9:=h.bnd
    rw [hsn] at h9
    rw [k2,hsn1]
    rcases k7 with ⟨nm,_,rfl,rfl⟩|⟨_,h8,_⟩
    · simp only [nextW] at h9 ⊢;omega
    · cases tk with
      | start nm ats=>simp only [RTok.wt] at h8;simp only [nextW] at h9 ⊢;omega
      | _=>simp only [RTok.wt] at h8;simp only [nextW] at h9 ⊢;omega
  · have hgB:=(ht.lt hg).1
    refine ⟨fun hh=>by have:=h.own.lt g hh;omega,?_⟩
    cases tk with
    | start nm ats=>
      obtain ⟨sv,rfl,hne,hrow⟩:=ht
      rcases hrow.2 with h9|⟨g',cap,cur,rfl,_,hgc,_⟩
      · exact absurd (h9.2 ▸ h9.1) hne
      · have h9:g=g':=hg
        subst h9
        exact hR1.notRow hgc (fun hh=>by have:=hR.s0lt g hh;omega)
    | fin nm=>rw [show t=enV nm from ht] at hg;exact hg.elim
    | text d=>obtain ⟨sv,rfl,hd⟩:=ht;obtain ⟨_,_,_,rfl⟩:=hd.slice;exact hg.elim
    | comment d=>obtain ⟨sv,rfl,hd⟩:=ht;obtain ⟨_,_,_,rfl⟩:=hd.slice;exact hg.elim
    | dir d=>obtain ⟨sv,rfl,hd⟩:=ht;obtain ⟨_,_,_,rfl⟩:=hd.slice;exact hg.elim
    | proc tg d=>obtain ⟨sv,rfl,hd⟩:=ht;exact hg.elim
theorem RawSt.below {x:Cx} (hx:x.Ok) {c:DC} {w w':World} {v:DV} {s:St} {m:Nat} {sb fb:List Nat} {n B:Nat} {tv:Value} {tk:RTok} (h:RawSt x c w v s m sb fb n B tv tk) (hb:Below w.heap.size w w'):RawSt x c w' v s m sb fb n B tv tk:=by
  obtain ⟨e,b,hR,h1,h2⟩:=h.rd.rd
  have hm:Mod (fun _=>False) w w':=mod_none hb _
  exact ⟨h.cfg,⟨⟨e,b,hR.below hx hb,h1,h2⟩,h.rd.nc,h.rd.tc,h.rd.nb⟩,h.own.mod hm (fun _ _=>id) h.own.s1,h.sok,h.nok,h.tcl,h.le,h.bnd,h.tok.mod hm (fun _ _=>id) (fun _ _=>id),h.hB,Nat.le_trans h.hBs hb.size,h.tkd,
    fun hd=>(h.nt hd).imp (fun ⟨h1,b,h2⟩=>⟨h1,b,h2.below hx hb⟩) id,h.nxt.step hm (fun _ _=>id) (fun _ _=>id) rfl rfl rfl (fun b hb=>Or.inl hb)⟩
def tkWork (o:Opt) (tk:RTok) (s:St):Except EK (RTok × St):=
  if o.strict then workL o tk s
  else match autoL eqFold o tk s with
    | none=>workL o tk s
    | some nm=>workL o (.fin nm) { s with next:=some tk }
theorem tokL_next {o:Opt} {s:St} {t:RTok} (h:s.next=some t):tokL eqFold o s=tkWork o t { s with next:=none }:=by
  unfold tokL tkWork
  rw [h]
  rfl
theorem tokL_raw {o:Opt} {s:St} (h:s.next=none):tokL eqFold o s=match rawL o s with|.error e=>.error (if e=.eof∧s.stk ≠ [] then .syn else e)|.ok (t,s')=>tkWork o t s':=by
  unfold tokL tkWork
  rw [h]
  cases rawL o s with
  | error e=>rfl
  | ok p=>rfl
theorem autoL_some {o:Opt} {tk:RTok} {s:St} {nm:Bs × Bs} (h:autoL eqFold o tk s=some nm):∃ e stk',s.stk=e :: stk'∧e.kind=0∧nm=(e.space,e.loc):=by
  unfold autoL at h
  split at h
  · cases h
  · rename_i e stk' hs
    split at h
    · cases h
    · rename_i hk
      split at h
      · split at h
        · split at h
          · cases h
          · exact ⟨e,stk',hs,by simpa using hk,by simpa using h.symm⟩
        · exact ⟨e,stk',hs,by simpa using hk,by simpa using h.symm⟩
      · cases h
def Tk2Post (x:Cx) (w:World) (v:DV) (R:Except EK (RTok × St)) (m:Nat) (sb fb:List Nat) (tv:Value) (t e:Value) (w':World):Prop:=
  match R with
  | .error k=>t=.nilIface∧ErrV x e (some k)∧Below x.B x.W0 w'∧OthAt w' e k∧Mod (fun b=>x.S1 v b ∨ b ∈ m :: (sb ++ fb)) w w'
  | .ok (tk,s')=>e=.nilIface∧∃ c' v' sb' fb' n',TS x c' w' v' s' m sb' fb' n'∧(∃ B,TokAt w' v'.bufv B t tk)∧Mod (fun b=>b=x.d ∨ b ∈ m :: (sb ++ fb) ∨ tokBlk tv b) w w' ∧
      (∀ b ∈ m :: (sb' ++ fb'),b ∈ m :: (sb ++ fb) ∨ w.heap.size ≤ b)∧v'.bufv=v.bufv∧∀ g,tokBlk c'.nextTok g → tokBlk tv g
theorem tkBehind (x:Cx) (hx:x.All) (hfe:FoldEnv x.W0) (c:DC) (w:World) (v:DV) (s:St) (m:Nat) (sb fb:List Nat) (n B:Nat) (tv:Value) (tk:RTok) (h:RawSt x c w v s m sb fb n B tv tk) (hsn:s.next=none) (hle:TkLe x.T.length tk) (hnt:(∀ d,tk ≠ .text d) → s.ended=false∧v.err=.nilIface) (Q:Exit → Act → World → Prop)
    (hQ:∀ f w' t e,Tk2Post x w v (tkWork x.o tk s) m sb fb tv t e w' → Q .ret (fr 204 f [(2,t),(3,e)]) w') (f:Nat → Value):(tkCode 14).wp Tryz.prog Q (fr 204 f [(0,decP x),(4,tv),(5,.nilIface)]) w:=by
  obtain ⟨e0,b0,hR,hE1,hE2⟩:=h.rd.rd
  have hcn:c.nextTok=.nilIface:=by
    have h9:=h.nxt
    unfold NxAt at h9
    rw [hsn] at h9;exact h9
  refine tk14 x hx.toOk hfe c h.cfg.auto h.cfg.dc.strict w hR.base v hR.dec s h.own.stk h.sok v.bufv B tv tk h.tok (fun nm he=>?_) Q (fun hno f w' hb=>?_) (fun nm hst hal f w' hb=>?_) f
  · subst he
    have:=hx.len
    have h9:nm.1.length ≤ x.T.length∧nm.2.length ≤ x.T.length:=hle
    omega
  ·
    have h':=h.below hx.toOk hb
    have hwk:tkWork x.o tk s=workL x.o tk s:=by
      unfold tkWork
      rcases hno with h9|h9
      · rw [if_pos h9]
      · rw [h9];split <;> rfl
    have hQ':∀ f w'' t' e,WkPost x w' v c (workL x.o tk s) m sb fb tv t' e w'' → Q .ret (fr 204 f [(2,t'),(3,e)]) w'':=by
      intro f w'' t' e hp
      refine hQ f w'' t' e ?_
      rw [hwk]
      unfold Tk2Post
      unfold WkPost at hp
      cases hw:workL x.o tk s with
      | error k=>
        rw [hw] at hp
        obtain ⟨p1,p2,p3,p4,p5⟩:=hp
        exact ⟨p1,p2,p3,p4,(mod_none hb _).trans p5 (fun _ _ hk=>hk)⟩
      | ok p=>
        obtain ⟨tk2,s2⟩:=p
        rw [hw] at hp
        obtain ⟨he,c2,v2,sb2,fb2,n2,g1,g2,g3,g4,g5,g6⟩:=hp
        refine ⟨he,c2,v2,sb2,fb2,n2,g1,g2,(mod_none hb _).trans g3 (fun _ _ hk=>hk),fun b hb'=>?_,g5,fun g hg=>?_⟩
        · rcases g4 b hb' with h9|h9
          · exact Or.inl h9
          · exact Or.inr (Nat.le_trans hb.size h9)
        · rw [g6,hcn] at hg;exact hg.elim
    cases tk with
    | start nm ats=>exact tkStart x hx c w' v s m sb fb n B tv nm ats h' hsn _ hQ' f
    | fin nm=>exact tkFin x hx c w' v s m sb fb n B tv nm h' _ hQ' f
    | text d=>exact tkPlain x c w' v s m sb fb n B tv _ h' (by simp) (by simp) _ hQ' f
    | comment d=>exact tkPlain x c w' v s m sb fb n B tv _ h' (by simp) (by simp) _ hQ' f
    | dir d=>exact tkPlain x c w' v s m sb fb n B tv _ h' (by simp) (by simp) _ hQ' f
    | proc tg d=>exact tkPlain x c w' v s m sb fb n B tv _ h' (by simp) (by simp) _ hQ' f
  ·
    obtain ⟨e1,stk1,q1,q2,q3⟩:=autoL_some hal
    have h':=h.below hx.toOk hb
    obtain ⟨e0',b0',hR',hE1',hE2'⟩:=h'.rd.rd
    have hm:Mod (fun k=>k=x.d) w' (w'.setCell ⟨x.d,17,none⟩ tv):=(Mod.refl (fun k=>k=x.d) w').setCell (p:=⟨x.d,17,none⟩) (Or.inl rfl) _
    have hd:DecAt (w'.setCell ⟨x.d,17,none⟩ tv) x.d { c with nextTok:=tv } v:=(show Blk w' x.d _ _ from hR'.dec).set 17 tv
    have hbuf:∀ k,bufBlk v.bufv k → ¬ k=x.d:=fun k hk=>(hR'.bufFar h'.own hk).1
    have htb:∀ g,tokBlk tv g → ¬ g=x.d:=fun g hg he=>(h.tkd g hg).2 (he ▸ Or.inl (Or.inl rfl))
    have hrd:RdTS x { c with nextTok:=tv } (w'.setCell ⟨x.d,17,none⟩ tv) v { s with next:=some tk }:=⟨⟨e0',b0',hR'.turn hx.toOk hd hm,hE1',hE2'⟩,h'.rd.nc,h'.rd.tc,h'.rd.nb⟩
    have hown:=(h'.own.mod hm (fun b hb he=>h'.own.s1 b hb (he ▸ Or.inl (Or.inl rfl))) h'.own.s1).next tv
    have hnx:NxAt x (w'.setCell ⟨x.d,17,none⟩ tv) v { c with nextTok:=tv } { s with next:=some tk } (m :: (sb ++ fb)):=by
      unfold NxAt
      exact ⟨B,h.hB,Nat.le_trans h'.hBs hm.size,h'.tok.mod hm hbuf htb,hle,h.tkd,hnt⟩
    have hraw:RawSt x { c with nextTok:=tv } (w'.setCell ⟨x.d,17,none⟩ tv) v { s with next:=some tk } m sb fb n B (enV nm) (.fin nm):=
      ⟨h.cfg.nextTok tv,hrd,hown,h.sok,h.nok,h.tcl,Or.inr ⟨nm,e1,stk1,rfl,q1,q2,q3⟩,by have:=h.bnd;rw [hsn] at this;simp only [nextW] at this ⊢;omega,rfl,h.hB,Nat.le_trans h'.hBs hm.size,fun g hg=>hg.elim,fun _=>Or.inr ⟨nm,e1,stk1,rfl,q1,q2,q3⟩,hnx⟩
    refine tkFin x hx _ _ v _ m sb fb n B (enV nm) nm hraw Q (fun f w'' t' e hp=>hQ f w'' t' e ?_) f
    have hwk:tkWork x.o tk s=workL x.o (.fin nm) { s with next:=some tk }:=by
      unfold tkWork
      rw [if_neg (by rw [hst];simp),hal]
    rw [hwk]
    unfold Tk2Post
    unfold WkPost at hp
    have hm0:Mod (fun k=>k=x.d) w (w'.setCell ⟨x.d,17,none⟩ tv):=(mod_none hb _).trans hm (fun _ _ hk=>hk)
    cases hw:workL x.o (.fin nm) { s with next:=some tk } with
    | error k=>
      rw [hw] at hp
      obtain ⟨p1,p2,p3,p4,p5⟩:=hp
      exact ⟨p1,p2,p3,p4,(hm0.mono (fun _ _ hk=>hk ▸ Or.inl (Or.inl (Or.inl rfl)))).trans p5 (fun _ _ hk=>hk)⟩
    | ok p=>
      obtain ⟨tk2,s2⟩:=p
      rw [hw] at hp
      obtain ⟨he,c2,v2,sb2,fb2,n2,g1,g2,g3,g4,g5,g6⟩:=hp
      refine ⟨he,c2,v2,sb2,fb2,n2,g1,g2,(hm0.mono (fun _ _ hk=>Or.inl hk)).trans g3 (fun _ _ hk=>?_),fun b hb'=>?_,g5,fun g hg=>?_⟩
      · rcases hk with hk|hk|hk
        · exact Or.inl hk
        · exact Or.inr (Or.inl hk)
        · exact hk.elim
      · rcases g4 b hb' with h9|h9
        · exact Or.inl h9
        · exact Or.inr (Nat.le_trans hm0.size h9)
      · rw [g6] at hg;exact hg
end Go.Proofs.YtkjnockljapnbaaGreatDoor
namespace Go.Proofs.YtkjnockljapnbaaGreatDoor
open Go Go.RowKit
theorem code_c (x:Cx) (hx:x.Ok) (heb:∃ cs t,Blk x.W0 x.eofA.block cs t) (hg:x.W0.cell? ⟨1,0,none⟩=some (rtI 55)) (hgl:1 < x.B) {k:EK} {e:Value} {w:World} (hb:Below x.B x.W0 w) (he:ErrV x e (some k)) (ho:OthAt w e k) :
    Calls Tryz.prog 18 #[e] w fun en w'=>en=.returned (.int .i64 (EK.code k))∧Below w.heap.size w w':=by
  obtain ⟨wa,hwa⟩:∃ wa,wa=w.alloc (.cells #[.pointer none] 106):=⟨_,rfl⟩
  have hba:Below w.heap.size w wa:=by rw [hwa];exact (Below.refl _ w).alloc (Nat.le_refl _) _
  have hB:x.B ≤ w.heap.size:=hb.size
  have hb2:Below x.B x.W0 wa:=hb.trans (hba.mono hB)
  have ho2:OthAt wa e k:=fun hk=>by
    obtain ⟨a,cs,t,h1,h2⟩:=ho hk
    exact ⟨a,cs,t,h1,Blk.mod (S:=fun _=>False) h2 (mod_none hba _) id⟩
  have hq:=err_eql hx heb hb2 he ho2
  have heof:wa.cell? ⟨0,0,none⟩=some x.eofV:=by rw [← hx.eof];exact hb2.cell hx.gB
  have hnb:Blk wa w.heap.size #[.pointer none] 106:=by rw [hwa];exact Blk.new w _ _
  have HG:=Lib.hid (show wa.cell? ⟨1,0,none⟩=some (rtI 55) from by rw [hb2.cell (p:=⟨_,0,none⟩) hgl];exact hg)
  have HGL:=Lib.hid (show 1 < wa.heap.size from Nat.lt_of_lt_of_le hgl hb2.size)
  have HBA:=Lib.hid hba
  have HNB:=Lib.hid hnb
  clear hb ho hb2 ho2 hx heb hg hgl hnb hba hB
  subst hwa
  cases k with
  | eof=>
    rw [show e=x.eofV from he] at hq ⊢
    simp only [decide_true] at hq
    clear he
    refine calls_fr (vs:=[_]) 21 Tryz.func18 rfl rfl (Nat.le_of_ble_eq_true rfl) fun f=>?_
    simp only [argSlots]
    (repeat (first|(with_reducible first|refine zA fun K hK=>?_|refine zB ?_|refine zC ?_)|((with_reducible first|refine zD rfl fun K hK=>?_|refine zE fun K hK=>?_);go_simp)|(with_reducible first|((repeat ((fail_if_success refine hK _ _ ?_);clear hK K));refine hK _ _ ?_;clear hK K)|refine zt ?_|refine zf ?_|refine zG ?_|refine zR ?_|refine zK ?_|refine zL ?_|refine zN ?_|refine zS ?_)|simp only [Exit.then,Exit.inBlock,Exit.noGoto,↓reduceIte,Nat.reduceEqDiff]|simp only [undef,reduceCtorEq,↓reduceIte]))
    (refine fr_out1 rfl (by decide) (by simp only [lk_cons,lk_nil,Nat.reduceEqDiff,↓reduceIte];rfl) ?_)
    exact ⟨rfl,HBA.out⟩
  | own=>
    rw [show e=ownV from he] at hq ⊢
    rw [decide_eq_false (by decide)] at hq
    have his:=Lib.hid (fun w=>isOwn_own w)
    clear he
    refine calls_fr (vs:=[_]) 21 Tryz.func18 rfl rfl (Nat.le_of_ble_eq_true rfl) fun f=>?_
    simp only [argSlots]
    (repeat (first|(with_reducible first|refine zA fun K hK=>?_|refine zB ?_|refine zC ?_)|((with_reducible first|refine zD rfl fun K hK=>?_|refine zE fun K hK=>?_);go_simp)|(with_reducible first|((repeat ((fail_if_success refine hK _ _ ?_);clear hK K));refine hK _ _ ?_;clear hK K)|refine zt ?_|refine zf ?_|refine zG ?_|refine zR ?_|refine zK ?_|refine zL ?_|refine zN ?_|refine zS ?_)|simp only [Exit.then,Exit.inBlock,Exit.noGoto,↓reduceIte,Nat.reduceEqDiff]|simp only [undef,reduceCtorEq,↓reduceIte]))
    refine (his.out _).mono ?_
    rintro e1 w1 ⟨rfl,rfl⟩
    go_simp
    (repeat (first|(with_reducible first|refine zA fun K hK=>?_|refine zB ?_|refine zC ?_)|((with_reducible first|refine zD rfl fun K hK=>?_|refine zE fun K hK=>?_);go_simp)|(with_reducible first|((repeat ((fail_if_success refine hK _ _ ?_);clear hK K));refine hK _ _ ?_;clear hK K)|refine zt ?_|refine zf ?_|refine zG ?_|refine zR ?_|refine zK ?_|refine zL ?_|refine zN ?_|refine zS ?_)|simp only [Exit.then,Exit.inBlock,Exit.noGoto,↓reduceIte,Nat.reduceEqDiff]|simp only [undef,reduceCtorEq,↓reduceIte]))
    (refine fr_out1 rfl (by decide) (by simp only [lk_cons,lk_nil,Nat.reduceEqDiff,↓reduceIte];rfl) ?_)
    exact ⟨rfl,HBA.out⟩
  | syn=>
    obtain ⟨a,rfl⟩:=he
    rw [decide_eq_false (by decide)] at hq
    have his:=Lib.hid (fun w=>isOwn_syn (.pointer (some a)) w)
    have has:=Lib.hid (as_syn a ⟨w.heap.size,0,none⟩ (.pointer none) _ HG.out HGL.out (HNB.out.cell 0) (HNB.out.frozen 0))
    refine calls_fr (vs:=[_]) 21 Tryz.func18 rfl rfl (Nat.le_of_ble_eq_true rfl) fun f=>?_
    simp only [argSlots]
    (repeat (first|(with_reducible first|refine zA fun K hK=>?_|refine zB ?_|refine zC ?_)|((with_reducible first|refine zD rfl fun K hK=>?_|refine zE fun K hK=>?_);go_simp)|(with_reducible first|((repeat ((fail_if_success refine hK _ _ ?_);clear hK K));refine hK _ _ ?_;clear hK K)|refine zt ?_|refine zf ?_|refine zG ?_|refine zR ?_|refine zK ?_|refine zL ?_|refine zN ?_|refine zS ?_)|simp only [Exit.then,Exit.inBlock,Exit.noGoto,↓reduceIte,Nat.reduceEqDiff]|simp only [undef,reduceCtorEq,↓reduceIte]))
    refine (his.out _).mono ?_
    rintro e1 w1 ⟨rfl,rfl⟩
    go_simp
    (repeat (first|(with_reducible first|refine zA fun K hK=>?_|refine zB ?_|refine zC ?_)|((with_reducible first|refine zD rfl fun K hK=>?_|refine zE fun K hK=>?_);go_simp)|(with_reducible first|((repeat ((fail_if_success refine hK _ _ ?_);clear hK K));refine hK _ _ ?_;clear hK K)|refine zt ?_|refine zf ?_|refine zG ?_|refine zR ?_|refine zK ?_|refine zL ?_|refine zN ?_|refine zS ?_)|simp only [Exit.then,Exit.inBlock,Exit.noGoto,↓reduceIte,Nat.reduceEqDiff]|simp only [undef,reduceCtorEq,↓reduceIte]))
    refine has.out.mono ?_
    rintro e2 w2 ⟨rfl,hm⟩
    have HM:=Lib.hid hm
    clear hm heof hq
    go_simp
    (repeat (first|(with_reducible first|refine zA fun K hK=>?_|refine zB ?_|refine zC ?_)|((with_reducible first|refine zD rfl fun K hK=>?_|refine zE fun K hK=>?_);go_simp)|(with_reducible first|((repeat ((fail_if_success refine hK _ _ ?_);clear hK K));refine hK _ _ ?_;clear hK K)|refine zt ?_|refine zf ?_|refine zG ?_|refine zR ?_|refine zK ?_|refine zL ?_|refine zN ?_|refine zS ?_)|simp only [Exit.then,Exit.inBlock,Exit.noGoto,↓reduceIte,Nat.reduceEqDiff]|simp only [undef,reduceCtorEq,↓reduceIte]))
    (refine fr_out1 rfl (by decide) (by simp only [lk_cons,lk_nil,Nat.reduceEqDiff,↓reduceIte];rfl) ?_)
    refine ⟨rfl,?_⟩
    exact Mod.below HBA.out HBA.out.size HM.out (fun k hk=>by rw [hk];exact Nat.le_refl _)
  | other=>
    obtain ⟨a,rfl,_⟩:=he
    rw [decide_eq_false (by decide)] at hq
    have his:=Lib.hid (fun w=>isOwn_err (.pointer (some a)) w)
    have has:=Lib.hid (as_err (.pointer (some a)) ⟨w.heap.size,0,none⟩ (.pointer none) _ HG.out HGL.out (HNB.out.cell 0) (HNB.out.frozen 0))
    refine calls_fr (vs:=[_]) 21 Tryz.func18 rfl rfl (Nat.le_of_ble_eq_true rfl) fun f=>?_
    simp only [argSlots]
    (repeat (first|(with_reducible first|refine zA fun K hK=>?_|refine zB ?_|refine zC ?_)|((with_reducible first|refine zD rfl fun K hK=>?_|refine zE fun K hK=>?_);go_simp)|(with_reducible first|((repeat ((fail_if_success refine hK _ _ ?_);clear hK K));refine hK _ _ ?_;clear hK K)|refine zt ?_|refine zf ?_|refine zG ?_|refine zR ?_|refine zK ?_|refine zL ?_|refine zN ?_|refine zS ?_)|simp only [Exit.then,Exit.inBlock,Exit.noGoto,↓reduceIte,Nat.reduceEqDiff]|simp only [undef,reduceCtorEq,↓reduceIte]))
    refine (his.out _).mono ?_
    rintro e1 w1 ⟨rfl,rfl⟩
    go_simp
    (repeat (first|(with_reducible first|refine zA fun K hK=>?_|refine zB ?_|refine zC ?_)|((with_reducible first|refine zD rfl fun K hK=>?_|refine zE fun K hK=>?_);go_simp)|(with_reducible first|((repeat ((fail_if_success refine hK _ _ ?_);clear hK K));refine hK _ _ ?_;clear hK K)|refine zt ?_|refine zf ?_|refine zG ?_|refine zR ?_|refine zK ?_|refine zL ?_|refine zN ?_|refine zS ?_)|simp only [Exit.then,Exit.inBlock,Exit.noGoto,↓reduceIte,Nat.reduceEqDiff]|simp only [undef,reduceCtorEq,↓reduceIte]))
    refine has.out.mono ?_
    rintro e2 w2 ⟨rfl,hb3⟩
    have HB3:=Lib.hid hb3
    clear hb3 heof hq
    go_simp
    (repeat (first|(with_reducible first|refine zA fun K hK=>?_|refine zB ?_|refine zC ?_)|((with_reducible first|refine zD rfl fun K hK=>?_|refine zE fun K hK=>?_);go_simp)|(with_reducible first|((repeat ((fail_if_success refine hK _ _ ?_);clear hK K));refine hK _ _ ?_;clear hK K)|refine zt ?_|refine zf ?_|refine zG ?_|refine zR ?_|refine zK ?_|refine zL ?_|refine zN ?_|refine zS ?_)|simp only [Exit.then,Exit.inBlock,Exit.noGoto,↓reduceIte,Nat.reduceEqDiff]|simp only [undef,reduceCtorEq,↓reduceIte]))
    (refine fr_out1 rfl (by decide) (by simp only [lk_cons,lk_nil,Nat.reduceEqDiff,↓reduceIte];rfl) ?_)
    exact ⟨rfl,HBA.out.trans (HB3.out.mono HBA.out.size)⟩
end Go.Proofs.YtkjnockljapnbaaGreatDoor
namespace Go.Proofs.YtkjnockljapnbaaGreatDoor
open Go
def nextM:Option RTok → Nat
  | none=>0
  | some (.fin _)=>2
  | some t=>4 * t.wt + 2
def St.mu2 (s:St):Nat:=s.mu + nextM s.next
theorem nextM_fin {t:RTok} (h:∃ nm,t=.fin nm):nextM (some t)=2:=by obtain ⟨nm,rfl⟩:=h;rfl
theorem nextM_non {t:RTok} (h:¬ ∃ nm,t=.fin nm):nextM (some t)=4 * t.wt + 2:=by
  cases t with
  | fin nm=>exact absurd ⟨nm,rfl⟩ h
  | _=>rfl
theorem work_mu {o:Opt} {t t':RTok} {s s':St} (h:workL o t s=.ok (t',s')):s'.rest=s.rest∧s'.next=s.next∧((∃ nm,t=.fin nm) → s'.mu + 3 ≤ s.mu)∧((¬ ∃ nm,t=.fin nm) → s'.mu ≤ s.mu + 4 * t.wt):=by
  obtain ⟨w1,w2,w3,w4,w5,w6,w7,w8⟩:=workL_ok h
  have h5:=mu_tc s'
  refine ⟨w1,w3,fun hf=>?_,fun hf=>?_⟩
  · have:=w7 hf
    unfold St.mu
    rw [w1];omega
  · have:=w8 hf
    have h6:s'.toClose=s.toClose:=by
      rcases w6 with w6|⟨_,w6⟩
      · exact w6
      · exact absurd w6 hf
    unfold St.mu
    rw [w1,h6];omega
theorem mu2_of {s:St} (h:s.next=none):s.mu2=s.mu:=by unfold St.mu2;rw [h];rfl
theorem stepL_ok {fold:Bs → Bs → Bool} {o:Opt} {s s':St} {t:RTok} (h:stepL fold o s=.ok (t,s')):s'.mu2 < s.mu2∧s'.rest <:+ s.rest∧(o.raw=true → s'.next=s.next):=by
  unfold stepL at h
  split at h
  · have h1:=(rawL_ok h).2.2.2.1
    exact ⟨by unfold St.mu2;rw [h1];have:=(raw_mu h).1;omega,(raw_mu h).2.2.2,fun _=>h1⟩
  · rename_i hraw
    refine ⟨?_,?_,fun hh=>absurd hh hraw⟩
    all_goals
      unfold tokL at h
      cases hn:s.next with
      | some tk=>
        rw [hn] at h
        simp only at h
        have hmu:St.mu { s with next:=none }=s.mu:=rfl
        split at h
        · obtain ⟨w1,w2,w3,w4⟩:=work_mu h
          first
            | (rw [w1];exact List.suffix_refl _)
            | (rw [mu2_of w2]
               unfold St.mu2
               rw [hn]
               by_cases hf:∃ nm,tk=.fin nm
               · have:=w3 hf;rw [nextM_fin hf];omega
               · have:=w4 hf;rw [nextM_non hf];omega)
        · split at h
          · obtain ⟨w1,w2,w3,w4⟩:=work_mu h
            first
              | (rw [w1];exact List.suffix_refl _)
              | (rw [mu2_of w2]
                 unfold St.mu2
                 rw [hn]
                 by_cases hf:∃ nm,tk=.fin nm
                 · have:=w3 hf;rw [nextM_fin hf];omega
                 · have:=w4 hf;rw [nextM_non hf];omega)
          · rename_i nm hal
            obtain ⟨w1,w2,w3,w4⟩:=work_mu h
            have h9:=w3 ⟨nm,rfl⟩
            have hmu2:St.mu { ({ s with next:=none }:St) with next:=some tk }=s.mu:=rfl
            first
              | (rw [w1];exact List.suffix_refl _)
              | (unfold St.mu2
                 rw [w2,hn]
                 show _ + nextM (some tk) < _
                 rw [hmu2] at h9
                 omega)
      | none=>
        rw [hn] at h
        simp only at h
        cases hr:rawL o s with
        | error e=>rw [hr] at h;cases h
        | ok p=>
          obtain ⟨tk,s1⟩:=p
          rw [hr] at h
          simp only at h
          obtain ⟨m1,m2,m3,m4⟩:=raw_mu hr
          have hn1:s1.next=none:=(rawL_ok hr).2.2.2.1.trans hn
          split at h
          · obtain ⟨w1,w2,w3,w4⟩:=work_mu h
            first
              | (rw [w1];exact m4)
              | (rw [mu2_of (w2.trans hn1),mu2_of hn]
                 by_cases hf:∃ nm,tk=.fin nm
                 · have:=w3 hf;omega
                 · have:=w4 hf;have:=m2 hf;omega)
          · split at h
            · obtain ⟨w1,w2,w3,w4⟩:=work_mu h
              first
                | (rw [w1];exact m4)
                | (rw [mu2_of (w2.trans hn1),mu2_of hn]
                   by_cases hf:∃ nm,tk=.fin nm
                   · have:=w3 hf;omega
                   · have:=w4 hf;have:=m2 hf;omega)
            · rename_i nm hal
              obtain ⟨w1,w2,w3,w4⟩:=work_mu h
              have h9:=w3 ⟨nm,rfl⟩
              have hmu2:St.mu { s1 with next:=some tk }=s1.mu:=rfl
              first
                | (rw [w1];exact m4)
                | (rw [mu2_of hn]
                   unfold St.mu2
                   rw [w2]
                   show _ + nextM (some tk) < _
                   rw [hmu2] at h9
                   by_cases hf:∃ nm,tk=.fin nm
                   · rw [nextM_fin hf];omega
                   · have:=m2 hf;rw [nextM_non hf];omega)
theorem workL_start {o:Opt} {t:RTok} {s s':St} {nm:Bs × Bs} {ats:List At3} (h:workL o t s=.ok (.start nm ats,s')):∃ nm0 ats0,t=.start nm0 ats0∧ats.length=ats0.length:=by
  cases t with
  | start nm0 ats0=>
    unfold workL at h
    simp only [Except.ok.injEq,Prod.mk.injEq,RTok.start.injEq] at h
    obtain ⟨⟨_,rfl⟩,_⟩:=h
    exact ⟨_,_,rfl,by simp⟩
  | fin nm0=>
    have:=(workL_ok h).2.2.2.2.1.1 ⟨_,rfl⟩
    obtain ⟨_,h9⟩:=this
    cases h9
  | text d=>unfold workL at h;simp at h
  | comment d=>unfold workL at h;simp at h
  | dir d=>unfold workL at h;simp at h
  | proc a b=>unfold workL at h;simp at h
theorem stepL_ats {fold:Bs → Bs → Bool} {o:Opt} (hno:o.ents=none) {s s':St} {nm:Bs × Bs} {ats:List At3} {N:Nat} (h:stepL fold o s=.ok (.start nm ats,s')) (hN:s.rest.length ≤ N) (hc:∀ nm,s.toClose=some nm → nm.1.length ≤ N∧nm.2.length ≤ N) (hp:∀ tk,s.next=some tk → TkLe N tk):ats.length ≤ N:=by
  have hraw:∀ {t s1},rawL o s=.ok (t,s1) → TkLe N t:=fun h=>(rawL_le hno h hN hc).1
  have hst:∀ {t:RTok},TkLe N t → ∀ {nm0 ats0},t=.start nm0 ats0 → ats0.length ≤ N:=by
    rintro t h nm0 ats0 rfl
    exact h.2.2.2
  have hwk:∀ {t:RTok} {s1 s2:St},TkLe N t → workL o t s1=.ok (.start nm ats,s2) → ats.length ≤ N:=by
    intro t s1 s2 h1 h2
    obtain ⟨nm0,ats0,h3,h4⟩:=workL_start h2
    rw [h4];exact hst h1 h3
  have hno2:∀ {nm1:Bs × Bs} {s1 s2:St},workL o (.fin nm1) s1=.ok (.start nm ats,s2) → ats.length ≤ N:=by
    intro nm1 s1 s2 h2
    obtain ⟨nm0,ats0,h3,_⟩:=workL_start h2
    cases h3
  unfold stepL at h
  split at h
  · exact hst (hraw h) rfl
  · unfold tokL at h
    cases hn:s.next with
    | some tk=>
      rw [hn] at h
      simp only at h
      split at h
      · exact hwk (hp tk hn) h
      · split at h
        · exact hwk (hp tk hn) h
        · exact hno2 h
    | none=>
      rw [hn] at h
      simp only at h
      cases hr:rawL o s with
      | error e=>rw [hr] at h;cases h
      | ok p=>
        obtain ⟨tk,s1⟩:=p
        rw [hr] at h
        simp only at h
        split at h
        · exact hwk (hraw hr) h
        · split at h
          · exact hwk (hraw hr) h
          · exact hno2 h
end Go.Proofs.YtkjnockljapnbaaGreatDoor
namespace Go.Proofs.YtkjnockljapnbaaGreatDoor
open Go Go.RowKit
inductive RowsAt {α:Type} (P:α → List Value → Prop):List α → List Value → Prop
  | nil:RowsAt P [] []
  | snoc {l a xs ys}:RowsAt P l xs → P a ys → RowsAt P (l ++ [a]) (xs ++ ys)
theorem RowsAt.mono {α:Type} {P P':α → List Value → Prop} (hm:∀ a ys,P a ys → P' a ys) {l:List α} {xs:List Value} (h:RowsAt P l xs):RowsAt P' l xs:=by
  induction h with
  | nil=>exact .nil
  | snoc _ hp ih=>exact .snoc ih (hm _ _ hp)
theorem RowsAt.len {α:Type} {P:α → List Value → Prop} {n:Nat} (hn:∀ a ys,P a ys → ys.length=n) {l:List α} {xs:List Value} (h:RowsAt P l xs):xs.length=l.length * n:=by
  induction h with
  | nil=>simp
  | snoc _ hp ih=>rw [List.length_append,ih,hn _ _ hp,List.length_append];simp [Nat.add_mul]
theorem RowsAt.get {α:Type} {P:α → List Value → Prop} {n:Nat} (hn:∀ a ys,P a ys → ys.length=n) {l:List α} {xs:List Value} (h:RowsAt P l xs) {i:Nat} {a:α} (ha:l[i]?=some a):∃ ys,P a ys∧∀ j,j < n → xs[i * n + j]?=ys[j]?:=by
  induction h with
  | nil=>simp at ha
  | snoc hr hp ih=>
    rename_i l0 a0 xs0 ys0
    have hl:=hr.len hn
    rcases Nat.lt_or_ge i l0.length with hi|hi
    · rw [List.getElem?_append_left hi] at ha
      obtain ⟨ys,h1,h2⟩:=ih ha
      refine ⟨ys,h1,fun j hj=>?_⟩
      have:i * n + j < xs0.length:=by
        rw [hl]
        have:(i + 1) * n ≤ l0.length * n:=Nat.mul_le_mul_right n hi
        rw [Nat.add_mul] at this;omega
      rw [List.getElem?_append_left this];exact h2 j hj
    · have hi2:i=l0.length:=by
        have:=(List.getElem?_eq_some_iff.1 ha).1
        simp at this;omega
      subst hi2
      rw [List.getElem?_append_right (Nat.le_refl _)] at ha
      simp at ha
      subst ha
      refine ⟨ys0,hp,fun j hj=>?_⟩
      rw [List.getElem?_append_right (by rw [hl];omega),hl]
      congr 1;omega
def RowOk (w:World) (base:Nat) (G:Nat → Prop) (T:Bs) (ts:RTok × St) (ys:List Value):Prop:=
  ∃ sa sl sc i6 i7,ys=tokCells (ts.1.itok (T.take (T.length - ts.2.rest.length))).kind (ts.1.itok (T.take (T.length - ts.2.rest.length))).space (ts.1.itok (T.take (T.length - ts.2.rest.length))).loc (.slice sa sl sc) (ts.1.itok (T.take (T.length - ts.2.rest.length))).text (ts.1.itok (T.take (T.length - ts.2.rest.length))).at' i6 i7 ∧
    w.ownsRow base 61 3 (.slice sa sl sc) (ts.1.itok (T.take (T.length - ts.2.rest.length))).attrs.length (atCells (ts.1.itok (T.take (T.length - ts.2.rest.length))).attrs)∧(∀ k,(Value.slice sa sl sc).ownBlock=some k → G k)∧i6=((ts.1.itok (T.take (T.length - ts.2.rest.length))).line:Nat)∧i7=((ts.1.itok (T.take (T.length - ts.2.rest.length))).col:Nat)
theorem RowOk.len {w:World} {base:Nat} {G:Nat → Prop} {T:Bs} {ts:RTok × St} {ys:List Value} (h:RowOk w base G T ts ys):ys.length=8:=by
  obtain ⟨_,_,_,_,_,rfl,_⟩:=h
  rfl
theorem RowOk.mod {w w':World} {base:Nat} {G G':Nat → Prop} {T:Bs} {ts:RTok × St} {ys:List Value} {S:Nat → Prop} (h:RowOk w base G T ts ys) (hm:Mod S w w') (hG:∀ k,G k → k < w.heap.size → ¬ S k∧G' k):RowOk w' base G' T ts ys:=by
  obtain ⟨sa,sl,sc,i6,i7,rfl,hr,hg,hi⟩:=h
  refine ⟨sa,sl,sc,i6,i7,rfl,ownsRow_mod hr hm (fun k hk=>(hG k (hg k hk) (ownsRow_lt hr hk).1).1),fun k hk=>(hG k (hg k hk) (ownsRow_lt hr hk).1).2,hi⟩
theorem RawSt.ts {x:Cx} {c:DC} {w:World} {v:DV} {s:St} {m:Nat} {sb fb:List Nat} {n B:Nat} {tv:Value} {tk:RTok} (h:RawSt x c w v s m sb fb n B tv tk):TS x c w v s m sb fb n:=
  ⟨h.cfg,h.rd,h.own,h.sok,h.nok,h.tcl,by have:=h.bnd;omega,h.nxt⟩
theorem rawToken_c (x:Cx) (hx:x.All) (haf:AfTab x.W0) (hafB:3 < x.B) (c:DC) (w:World) (v:DV) (s:St) (m:Nat) (sb fb:List Nat) (n:Nat) (h:TS x c w v s m sb fb n) (hsn:s.next=none) :
    Calls Tryz.prog 16 #[decP x] w fun en w'=>∃ t e,en=.returned (.tuple #[t,e])∧TkPost x w v c (rawL x.o s) m sb fb t e w':=by
  have hraw:=Lib.hid (rawTok_c x hx haf hafB c h.cfg.dc h.cfg.no w v s h.rd)
  have H:=Lib.hid h
  have HX:=Lib.hid hx
  have HSN:=Lib.hid hsn
  clear h hx haf hafB hsn
  refine calls_fr (vs:=[_]) 8 Tryz.func16 rfl rfl (Nat.le_of_ble_eq_true rfl) fun f=>?_
  simp only [argSlots]
  (repeat (first|(with_reducible first|refine zA fun K hK=>?_|refine zB ?_|refine zC ?_)|((with_reducible first|refine zD rfl fun K hK=>?_|refine zE fun K hK=>?_);go_simp)|(with_reducible first|((repeat ((fail_if_success refine hK _ _ ?_);clear hK K));refine hK _ _ ?_;clear hK K)|refine zt ?_|refine zf ?_|refine zG ?_|refine zR ?_|refine zK ?_|refine zL ?_|refine zN ?_|refine zS ?_)|simp only [Exit.then,Exit.inBlock,Exit.noGoto,↓reduceIte,Nat.reduceEqDiff]|simp only [undef,reduceCtorEq,↓reduceIte]))
  refine hraw.out.mono ?_
  rintro e1 w1 ⟨t,e,rfl,hp⟩
  have HP:=Lib.hid hp
  clear hp hraw
  go_simp
  (repeat (first|(with_reducible first|refine zA fun K hK=>?_|refine zB ?_|refine zC ?_)|((with_reducible first|refine zD rfl fun K hK=>?_|refine zE fun K hK=>?_);go_simp)|(with_reducible first|((repeat ((fail_if_success refine hK _ _ ?_);clear hK K));refine hK _ _ ?_;clear hK K)|refine zt ?_|refine zf ?_|refine zG ?_|refine zR ?_|refine zK ?_|refine zL ?_|refine zN ?_|refine zS ?_)|simp only [Exit.then,Exit.inBlock,Exit.noGoto,↓reduceIte,Nat.reduceEqDiff]|simp only [undef,reduceCtorEq,↓reduceIte]))
  (refine fr_out2 rfl (by decide) (by decide) (by simp only [lk_cons,lk_nil,Nat.reduceEqDiff,↓reduceIte];rfl) (by simp only [lk_cons,lk_nil,Nat.reduceEqDiff,↓reduceIte];rfl) ?_)
  refine ⟨t,e,rfl,?_⟩
  have hp:=HP.out
  unfold RawTokPost at hp
  unfold TkPost
  cases hres:rawL x.o s with
  | error k=>
    rw [hres] at hp
    obtain ⟨v',hs,rfl,rfl,hE,hO⟩:=hp
    exact ⟨rfl,hE.err,hE.base,hO,hs.mod.mono (fun _ _ hk=>Or.inl hk)⟩
  | ok p=>
    obtain ⟨tk,s1⟩:=p
    rw [hres] at hp
    obtain ⟨v1,c1,hs,rfl,hsc,hrd,ht,hnt⟩:=hp
    obtain ⟨hst,_,_⟩:=H.out.raw HX.out HSN.out hres hs hsc hrd ht hnt
    refine ⟨rfl,c1,v1,sb,fb,n,hst.ts,⟨_,ht⟩,hs.mod.mono (fun _ _ hk=>Or.inl hk),fun b hb=>Or.inl hb,fun b hb=>?_,fun g hg=>Or.inl (by rw [← hsc.toD.next];exact hg)⟩
    rcases hb with hb|hb
    · exact Or.inl (Or.inl hb)
    · rcases hs.buf b hb with h9|h9
      · exact Or.inl (Or.inr h9)
      · exact Or.inr h9
end Go.Proofs.YtkjnockljapnbaaGreatDoor
