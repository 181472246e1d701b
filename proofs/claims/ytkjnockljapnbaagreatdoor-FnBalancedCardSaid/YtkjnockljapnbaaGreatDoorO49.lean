/- Part of the proof that laws.FnBalanced returns true for every argument (Sn, Ix, Iy). No condition of its own. -/
import Derived.Test.YtkjnockljapnbaaGreatDoorO48
set_option linter.all false
set_option maxHeartbeats 8000000
set_option maxRecDepth 100000
namespace Go.Proofs.YtkjnockljapnbaaGreatDoor
open Go Go.RowKit
theorem Tk2Post.tk {x:Cx} {w w1:World} {v v1:DV} {c:DC} {R:Except EK (RTok × St)} {m:Nat} {sb fb:List Nat} {tv t e:Value} {w':World} (h:Tk2Post x w1 v1 R m sb fb tv t e w') (hs:Stp x w v w1 v1) (htb:∀ g,tokBlk tv g → w.heap.size ≤ g):TkPost x w v c R m sb fb t e w':=by
  unfold TkPost
  unfold Tk2Post at h
  cases R with
  | error k=>
    obtain ⟨p1,p2,p3,p4,p5⟩:=h
    exact ⟨p1,p2,p3,p4,(hs.mod.mono (fun _ _ hk=>Or.inl hk)).trans p5 (fun i hi hk=>by
      rcases hk with hk|hk
      · rcases hk with hk|hk
        · exact Or.inl (Or.inl hk)
        · rcases hs.buf i hk with h9|h9
          · exact Or.inl (Or.inr h9)
          · omega
      · exact Or.inr (Or.inl hk))⟩
  | ok p=>
    obtain ⟨tk2,s2⟩:=p
    obtain ⟨he,c2,v2,sb2,fb2,n2,g1,g2,g3,g4,g5,g6⟩:=h
    refine ⟨he,c2,v2,sb2,fb2,n2,g1,g2,?_,fun b hb=>?_,fun b hb=>?_,fun g hg=>Or.inr (htb g (g6 g hg))⟩
    · refine (hs.mod.mono (fun _ _ hk=>Or.inl hk)).trans g3 (fun i hi hk=>?_)
      rcases hk with hk|hk|hk
      · exact Or.inl (Or.inl (Or.inl hk))
      · exact Or.inr (Or.inl hk)
      · have:=htb i hk;omega
    · rcases g4 b hb with h9|h9
      · exact Or.inl h9
      · exact Or.inr (Nat.le_trans hs.mod.size h9)
    · rcases hb with hb|hb
      · exact Or.inl (Or.inl hb)
      · rw [g5] at hb
        rcases hs.buf b hb with h9|h9
        · exact Or.inl (Or.inr h9)
        · exact Or.inr h9
theorem tk5raw (x:Cx) (hx:x.All) (haf:AfTab x.W0) (hafB:3 < x.B) (hfe:FoldEnv x.W0) (heb:∃ cs t,Blk x.W0 x.eofA.block cs t) (c:DC) (w:World) (v:DV) (s:St) (m:Nat) (sb fb:List Nat) (n:Nat) (h:TS x c w v s m sb fb n) (hsn:s.next=none) (Q:Exit → Act → World → Prop)
    (hQ:∀ f w' t e,TkPost x w v c (tokL eqFold x.o s) m sb fb t e w' → Q .ret (fr 204 f [(2,t),(3,e)]) w') (f:Nat → Value):(tkCode 5).wp Tryz.prog Q (fr 204 f [(0,decP x),(5,.nilIface)]) w:=by
  obtain ⟨e0,b0,hR,_,_⟩:=h.rd.rd
  have hraw:=Lib.hid (rawTok_c x hx haf hafB c h.cfg.dc h.cfg.no w v s h.rd)
  have hc:=hR.dec.cell
  have hf:=hR.dec.frozen
  have hnx:c.nextTok=.nilIface:=by
    have h9:=h.nxt
    unfold NxAt at h9
    rw [hsn] at h9;exact h9
  have q1:=fun w=>ptrNil w
  have q2:=fun w=>anyNil w
  have q3:=fun w=>anyNilE w
  have q4:=fun w=>ptrNilE w
  have hgB:=hx.gB
  have heof:x.W0.cell? ⟨0,0,none⟩=some x.eofV:=hx.eof
  have HX:=Lib.hid hx
  have HEB:=Lib.hid heb
  have HEOF:=Lib.hid (show ∀ w',Below x.B x.W0 w' → w'.cell? ⟨0,0,none⟩=some x.eofV from fun w' hb=>by rw [← heof];exact hb.cell hgB)
  have HR:=Lib.hid hR
  have H:=Lib.hid h
  have HFE:=Lib.hid hfe
  have HSN:=Lib.hid hsn
  have HQ:=Lib.hid hQ
  have HTK:=Lib.hid (tokL_raw (o:=x.o) hsn)
  have HHEAD:=Lib.hid (h.own.stk.head h.sok)
  clear h hR hx heb haf hafB heof hgB hfe hsn hQ
  conv=>arg 2;unfold tkCode;whnf
  (repeat (first|(with_reducible first|refine zA fun K hK=>?_|refine zB ?_|refine zC ?_)|((with_reducible first|refine zD rfl fun K hK=>?_|refine zE fun K hK=>?_);go_simp)|(with_reducible first|((repeat ((fail_if_success refine hK _ _ ?_);clear hK K));refine hK _ _ ?_;clear hK K)|refine zt ?_|refine zf ?_|refine zG ?_|refine zR ?_|refine zK ?_|refine zL ?_|refine zN ?_|refine zS ?_)|simp only [Exit.then,Exit.inBlock,Exit.noGoto,↓reduceIte,Nat.reduceEqDiff]|simp only [undef,reduceCtorEq,↓reduceIte]))
  refine hraw.out.mono ?_
  rintro e1 w1 ⟨t,e,rfl,hp⟩
  clear hraw hc hf hnx
  cases hres:rawL x.o s with
  | error k=>
    unfold RawTokPost at hp
    rw [hres] at hp
    obtain ⟨v1,hs,rfl,rfl,hE,hO⟩:=hp
    obtain ⟨t1,u1,hu1⟩:=hE.err.iface
    have hq:=err_eql HX.out.toOk HEB.out hE.base hE.err hO
    have hev:=HEOF.out w1 hE.base
    rw [hu1] at hq ⊢
    have HU:=Lib.hid hu1
    have HSTP:=Lib.hid hs
    have hc1:=hE.dec.cell
    have hf1:=hE.dec.frozen
    have HE:=Lib.hid hE
    have HO:=Lib.hid hO
    have HT0:=Lib.hid (show tokL eqFold x.o s=.error (if k=.eof∧s.stk ≠ [] then .syn else k) by rw [HTK.out,hres])
    clear hE hu1 hO hres
    by_cases hke:k=.eof
    · rw [decide_eq_true hke] at hq
      have HKE:=Lib.hid hke
      clear hke
      rcases HHEAD.out with ⟨hs1,hs2⟩|⟨q,en,l',nx,ok,hs1,hs2,hk,hb,hqm⟩
      · clear hs
        go_simp
        (repeat (first|(with_reducible first|refine zA fun K hK=>?_|refine zB ?_|refine zC ?_)|((with_reducible first|refine zD rfl fun K hK=>?_|refine zE fun K hK=>?_);go_simp)|(with_reducible first|((repeat ((fail_if_success refine hK _ _ ?_);clear hK K));refine hK _ _ ?_;clear hK K)|refine zt ?_|refine zf ?_|refine zG ?_|refine zR ?_|refine zK ?_|refine zL ?_|refine zN ?_|refine zS ?_)|simp only [Exit.then,Exit.inBlock,Exit.noGoto,↓reduceIte,Nat.reduceEqDiff]|simp only [undef,reduceCtorEq,↓reduceIte]))
        refine Q_keep [2,3] (fun f=>?_);simp only [keep_cons,keep_nil,lk_cons,lk_nil,Nat.reduceEqDiff,↓reduceIte]
        refine HQ.out f _ _ _ ?_
        rw [HT0.out,if_neg (fun hh=>hh.2 hs2)]
        exact ⟨rfl,by rw [← HU.out];exact HE.out.err,HE.out.base,by rw [← HU.out];exact HO.out,HSTP.out.mod.mono (fun _ _ hk=>Or.inl hk)⟩
      · have hb1:=(show Blk w q _ _ from hb).mod hs.mod (H.out.own.s1 q (by simp [hqm]))
        have hcq:=hb1.cell
        have hfq:=hb1.frozen
        have HS2:=Lib.hid hs2
        have hse:=Lib.hid (fun msg=>synErr x.d c v1 w1 HE.out.dec msg)
        obtain ⟨ek,esp,eloc,eok⟩:=en
        simp only at hk hcq
        clear hb hqm hs2 hs hb1
        rcases hk with rfl|rfl
        all_goals
          go_simp
          (repeat (first|(with_reducible first|refine zA fun K hK=>?_|refine zB ?_|refine zC ?_)|((with_reducible first|refine zD rfl fun K hK=>?_|refine zE fun K hK=>?_);go_simp)|(with_reducible first|((repeat ((fail_if_success refine hK _ _ ?_);clear hK K));refine hK _ _ ?_;clear hK K)|refine zt ?_|refine zf ?_|refine zG ?_|refine zR ?_|refine zK ?_|refine zL ?_|refine zN ?_|refine zS ?_)|simp only [Exit.then,Exit.inBlock,Exit.noGoto,↓reduceIte,Nat.reduceEqDiff]|simp only [undef,reduceCtorEq,↓reduceIte]))
          refine (hse.out _).mono ?_
          rintro e2 w2 ⟨rfl,rfl⟩
          go_simp
          (repeat (first|(with_reducible first|refine zA fun K hK=>?_|refine zB ?_|refine zC ?_)|((with_reducible first|refine zD rfl fun K hK=>?_|refine zE fun K hK=>?_);go_simp)|(with_reducible first|((repeat ((fail_if_success refine hK _ _ ?_);clear hK K));refine hK _ _ ?_;clear hK K)|refine zt ?_|refine zf ?_|refine zG ?_|refine zR ?_|refine zK ?_|refine zL ?_|refine zN ?_|refine zS ?_)|simp only [Exit.then,Exit.inBlock,Exit.noGoto,↓reduceIte,Nat.reduceEqDiff]|simp only [undef,reduceCtorEq,↓reduceIte]))
          refine Q_keep [2,3] (fun f=>?_);simp only [keep_cons,keep_nil,lk_cons,lk_nil,Nat.reduceEqDiff,↓reduceIte]
          refine HQ.out f _ _ _ ?_
          rw [HT0.out,if_pos ⟨HKE.out,by rw [HS2.out];simp⟩]
          exact ⟨rfl,⟨_,rfl⟩,Mod.below HE.out.base HE.out.base.size (mod_none ((Below.refl _ w1).alloc (Nat.le_refl _) _) (fun _=>False)) (fun _ h=>h.elim),OthAt.no (by decide),(HSTP.out.mod.mono (fun _ _ hk=>Or.inl hk)).trans (mod_none ((Below.refl _ w1).alloc (Nat.le_refl _) _) (fun _=>False)) (fun _ _ h=>h.elim)⟩
    · rw [decide_eq_false hke] at hq
      have HKE:=Lib.hid hke
      clear hke hs
      go_simp
      (repeat (first|(with_reducible first|refine zA fun K hK=>?_|refine zB ?_|refine zC ?_)|((with_reducible first|refine zD rfl fun K hK=>?_|refine zE fun K hK=>?_);go_simp)|(with_reducible first|((repeat ((fail_if_success refine hK _ _ ?_);clear hK K));refine hK _ _ ?_;clear hK K)|refine zt ?_|refine zf ?_|refine zG ?_|refine zR ?_|refine zK ?_|refine zL ?_|refine zN ?_|refine zS ?_)|simp only [Exit.then,Exit.inBlock,Exit.noGoto,↓reduceIte,Nat.reduceEqDiff]|simp only [undef,reduceCtorEq,↓reduceIte]))
      refine Q_keep [2,3] (fun f=>?_);simp only [keep_cons,keep_nil,lk_cons,lk_nil,Nat.reduceEqDiff,↓reduceIte]
      refine HQ.out f _ _ _ ?_
      rw [HT0.out,if_neg (fun hh=>HKE.out hh.1)]
      exact ⟨rfl,by rw [← HU.out];exact HE.out.err,HE.out.base,by rw [← HU.out];exact HO.out,HSTP.out.mod.mono (fun _ _ hk=>Or.inl hk)⟩
  | ok p=>
    obtain ⟨tk,s1⟩:=p
    unfold RawTokPost at hp
    rw [hres] at hp
    obtain ⟨v1,c1,hs,rfl,hsc,hrd,ht,hnt⟩:=hp
    obtain ⟨hst,hsn1,hle⟩:=H.out.raw HX.out HSN.out hres hs hsc hrd ht hnt
    have hnt2:(∀ d,tk ≠ .text d) → s1.ended=false∧v1.err=.nilIface:=fun hd=>by
      obtain ⟨h1,b,h2⟩:=hnt hd
      exact ⟨h1,h2.err⟩
    have HGO:=Lib.hid (fun Q hQ f=>tkBehind x HX.out HFE.out c1 w1 v1 s1 m sb fb n w.heap.size t tk hst hsn1 hle hnt2 Q hQ f)
    have HSTP:=Lib.hid hs
    have HTB:=Lib.hid (show ∀ g,tokBlk t g → w.heap.size ≤ g from fun g hg=>(ht.lt hg).1)
    have HT0:=Lib.hid (show tokL eqFold x.o s=tkWork x.o tk s1 by rw [HTK.out,hres])
    obtain ⟨ty,u,rfl⟩:=ht.iface
    clear hs hsc hrd ht hnt hres hst hsn1 hle hnt2
    go_simp
    (repeat ((fail_if_success with_reducible refine wp_stop 14 ?_);(fail_if_success with_reducible refine wp_stop2 14 ?_);(first|(with_reducible first|refine zA fun K hK=>?_|refine zB ?_|refine zC ?_)|((with_reducible first|refine zD rfl fun K hK=>?_|refine zE fun K hK=>?_);go_simp)|(with_reducible first|((repeat ((fail_if_success refine hK _ _ ?_);clear hK K));refine hK _ _ ?_;clear hK K)|refine zt ?_|refine zf ?_|refine zG ?_|refine zR ?_|refine zK ?_|refine zL ?_|refine zN ?_|refine zS ?_)|simp only [Exit.then,Exit.inBlock,Exit.noGoto,↓reduceIte,Nat.reduceEqDiff]|simp only [undef,reduceCtorEq,↓reduceIte])))
    (refine wp_keep [0,4,5] (fun f=>?_);simp only [keep_cons,keep_nil,lk_cons,lk_nil,Nat.reduceEqDiff,↓reduceIte])
    refine wp_code (HGO.out _ (fun f w' t' e hp=>HQ.out f w' t' e ?_) f) (by kernel_rfl)
    rw [HT0.out]
    exact hp.tk HSTP.out HTB.out
theorem tk5next (x:Cx) (hx:x.All) (hfe:FoldEnv x.W0) (c:DC) (w:World) (v:DV) (s:St) (m:Nat) (sb fb:List Nat) (n:Nat) (h:TS x c w v s m sb fb n) (tk:RTok) (hsn:s.next=some tk) (Q:Exit → Act → World → Prop)
    (hQ:∀ f w' t e,TkPost x w v c (tokL eqFold x.o s) m sb fb t e w' → Q .ret (fr 204 f [(2,t),(3,e)]) w') (f:Nat → Value):(tkCode 5).wp Tryz.prog Q (fr 204 f [(0,decP x),(5,.nilIface)]) w:=by
  obtain ⟨e0,b0,hR,hE1,hE2⟩:=h.rd.rd
  have hnx:=h.nxt
  unfold NxAt at hnx
  rw [hsn] at hnx
  obtain ⟨B,n1,n2,n3,n4,n5,n6⟩:=hnx
  have hm:Mod (fun k=>k=x.d) w (w.setCell ⟨x.d,17,none⟩ .nilIface):=(Mod.refl (fun k=>k=x.d) w).setCell (p:=⟨x.d,17,none⟩) (Or.inl rfl) _
  have hd:DecAt (w.setCell ⟨x.d,17,none⟩ .nilIface) x.d { c with nextTok:=.nilIface } v:=(show Blk w x.d _ _ from hR.dec).set 17 .nilIface
  have hbuf:∀ k,bufBlk v.bufv k → ¬ k=x.d:=fun k hk=>(hR.bufFar h.own hk).1
  have htb:∀ g,tokBlk c.nextTok g → ¬ g=x.d:=fun g hg he=>(n5 g hg).2 (he ▸ Or.inl (Or.inl rfl))
  have hR2:=hR.turn hx.toOk hd hm
  have hraw:RawSt x { c with nextTok:=.nilIface } (w.setCell ⟨x.d,17,none⟩ .nilIface) v { s with next:=none } m sb fb n B c.nextTok tk:=
    ⟨h.cfg.nextTok _,⟨⟨e0,b0,hR2,hE1,hE2⟩,h.rd.nc,h.rd.tc,h.rd.nb⟩,(h.own.mod hm (fun b hb he=>h.own.s1 b hb (he ▸ Or.inl (Or.inl rfl))) h.own.s1).next _,h.sok,h.nok,h.tcl,Or.inl n4,
      by have:=h.bnd;rw [hsn] at this;simp only [nextW] at this ⊢;omega,n3.mod hm hbuf htb,n1,Nat.le_trans n2 hm.size,n5,fun hd=>Or.inl ⟨(n6 hd).1,b0,by
        have h9:=hR2
        cases e0 with
        | none=>exact h9
        | some k=>obtain ⟨t1,u1,hu⟩:=hR.err.iface;rw [(n6 hd).2] at hu;cases hu⟩,NxAt.none rfl rfl⟩
  have HGO:=Lib.hid (fun Q hQ f=>tkBehind x hx hfe _ _ v _ m sb fb n B c.nextTok tk hraw rfl n4 n6 Q hQ f)
  obtain ⟨ty,u,hcn⟩:=n3.iface
  have hc:=hR.dec.cell
  have hf:=hR.dec.frozen
  have q2:=fun w=>anyNil w
  have q3:=fun w=>anyNilE w
  have HQ:=Lib.hid hQ
  have HT0:=Lib.hid (tokL_next (o:=x.o) hsn)
  have HM:=Lib.hid hm
  clear h hx hfe hsn hQ hR hE1 hE2 n1 n2 n3 n4 n5 n6 hm hd hbuf htb hR2 hraw
  conv=>arg 2;unfold tkCode;whnf
  (repeat ((fail_if_success with_reducible refine wp_stop 14 ?_);(fail_if_success with_reducible refine wp_stop2 14 ?_);(first|(with_reducible first|refine zA fun K hK=>?_|refine zB ?_|refine zC ?_)|((with_reducible first|refine zD rfl fun K hK=>?_|refine zE fun K hK=>?_);go_simp)|(with_reducible first|((repeat ((fail_if_success refine hK _ _ ?_);clear hK K));refine hK _ _ ?_;clear hK K)|refine zt ?_|refine zf ?_|refine zG ?_|refine zR ?_|refine zK ?_|refine zL ?_|refine zN ?_|refine zS ?_)|simp only [Exit.then,Exit.inBlock,Exit.noGoto,↓reduceIte,Nat.reduceEqDiff]|simp only [undef,reduceCtorEq,↓reduceIte])))
  (refine wp_keep [0,4,5] (fun f=>?_);simp only [keep_cons,keep_nil,lk_cons,lk_nil,Nat.reduceEqDiff,↓reduceIte])
  rw [← hcn]
  refine wp_code (HGO.out _ (fun f w' t' e hp=>HQ.out f w' t' e ?_) f) (by kernel_rfl)
  rw [HT0.out]
  unfold TkPost
  unfold Tk2Post at hp
  cases hw:tkWork x.o tk { s with next:=none } with
  | error k=>
    rw [hw] at hp
    obtain ⟨p1,p2,p3,p4,p5⟩:=hp
    exact ⟨p1,p2,p3,p4,(HM.out.mono (fun _ _ hk=>hk ▸ Or.inl (Or.inl (Or.inl rfl)))).trans p5 (fun i hi hk=>hk.imp id Or.inl)⟩
  | ok p=>
    obtain ⟨tk2,s2⟩:=p
    rw [hw] at hp
    obtain ⟨he,c2,v2,sb2,fb2,n2,g1,g2,g3,g4,g5,g6⟩:=hp
    refine ⟨he,c2,v2,sb2,fb2,n2,g1,g2,?_,fun b hb=>?_,fun b hb=>?_,fun g hg=>Or.inl (g6 g hg)⟩
    · refine (HM.out.mono (fun _ _ hk=>hk ▸ Or.inl (Or.inl (Or.inl rfl)))).trans g3 (fun i hi hk=>?_)
      rcases hk with hk|hk|hk
      · exact Or.inl (Or.inl (Or.inl hk))
      · exact Or.inr (Or.inl hk)
      · exact Or.inr (Or.inr hk)
    · rcases g4 b hb with h9|h9
      · exact Or.inl h9
      · exact Or.inr (Nat.le_trans HM.out.size h9)
    · rcases hb with hb|hb
      · exact Or.inl (Or.inl hb)
      · rw [g5] at hb;exact Or.inl (Or.inr hb)
theorem token_c (x:Cx) (hx:x.All) (haf:AfTab x.W0) (hafB:3 < x.B) (hfe:FoldEnv x.W0) (heb:∃ cs t,Blk x.W0 x.eofA.block cs t) (c:DC) (w:World) (v:DV) (s:St) (m:Nat) (sb fb:List Nat) (n:Nat) (h:TS x c w v s m sb fb n) :
    Calls Tryz.prog 17 #[decP x] w fun en w'=>∃ t e,en=.returned (.tuple #[t,e])∧TkPost x w v c (tokL eqFold x.o s) m sb fb t e w':=by
  obtain ⟨e0,b0,hR,_,_⟩:=h.rd.rd
  have hc:=hR.dec.cell
  have hf:=hR.dec.frozen
  have q1:=fun w=>ptrNil w
  have q4:=fun w=>ptrNilE w
  have hhead:=h.own.stk.head h.sok
  have HGO:=Lib.hid (show ∀ f,(tkCode 5).wp Tryz.prog (bodyPost Tryz.prog Tryz.f17 (fun en w'=>∃ t e,en=.returned (.tuple #[t,e])∧TkPost x w v c (tokL eqFold x.o s) m sb fb t e w')) (fr 204 f [(0,decP x),(5,.nilIface)]) w from fun f=>by
    have hQ:∀ f w' t e,TkPost x w v c (tokL eqFold x.o s) m sb fb t e w' → bodyPost Tryz.prog Tryz.f17 (fun en w'=>∃ t e,en=.returned (.tuple #[t,e])∧TkPost x w v c (tokL eqFold x.o s) m sb fb t e w') .ret (fr 204 f [(2,t),(3,e)]) w':=
      fun f w' t e hp=>fr_out2 rfl (by decide) (by decide) (by simp only [keep_cons,keep_nil,lk_cons,lk_nil,Nat.reduceEqDiff,↓reduceIte]) (by simp only [keep_cons,keep_nil,lk_cons,lk_nil,Nat.reduceEqDiff,↓reduceIte]) ⟨t,e,rfl,hp⟩
    cases hsn:s.next with
    | none=>exact tk5raw x hx haf hafB hfe heb c w v s m sb fb n h hsn _ hQ f
    | some tk=>exact tk5next x hx hfe c w v s m sb fb n h tk hsn _ hQ f)
  clear h hx haf hafB hfe heb hR
  rcases hhead with ⟨hs1,hs2⟩|⟨q,en,l',nx,ok,hs1,hs2,hk,hb,hqm⟩
  · refine calls_fr (vs:=[_]) 204 Tryz.func17 rfl rfl (Nat.le_of_ble_eq_true rfl) fun f=>?_
    simp only [argSlots]
    (repeat ((fail_if_success with_reducible refine wp_stop 5 ?_);(fail_if_success with_reducible refine wp_stop2 5 ?_);(first|(with_reducible first|refine zA fun K hK=>?_|refine zB ?_|refine zC ?_)|((with_reducible first|refine zD rfl fun K hK=>?_|refine zE fun K hK=>?_);go_simp)|(with_reducible first|((repeat ((fail_if_success refine hK _ _ ?_);clear hK K));refine hK _ _ ?_;clear hK K)|refine zt ?_|refine zf ?_|refine zG ?_|refine zR ?_|refine zK ?_|refine zL ?_|refine zN ?_|refine zS ?_)|simp only [Exit.then,Exit.inBlock,Exit.noGoto,↓reduceIte,Nat.reduceEqDiff]|simp only [undef,reduceCtorEq,↓reduceIte])))
    (refine wp_keep [0,5] (fun f=>?_);simp only [keep_cons,keep_nil,lk_cons,lk_nil,Nat.reduceEqDiff,↓reduceIte])
    exact wp_code (HGO.out f) (by kernel_rfl)
  · have hcq:=hb.cell
    have hfq:=hb.frozen
    obtain ⟨ek,esp,eloc,eok⟩:=en
    simp only at hk hcq
    clear hb hqm hs2
    rcases hk with rfl|rfl
    all_goals
      refine calls_fr (vs:=[_]) 204 Tryz.func17 rfl rfl (Nat.le_of_ble_eq_true rfl) fun f=>?_
      simp only [argSlots]
      (repeat ((fail_if_success with_reducible refine wp_stop 5 ?_);(fail_if_success with_reducible refine wp_stop2 5 ?_);(first|(with_reducible first|refine zA fun K hK=>?_|refine zB ?_|refine zC ?_)|((with_reducible first|refine zD rfl fun K hK=>?_|refine zE fun K hK=>?_);go_simp)|(with_reducible first|((repeat ((fail_if_success refine hK _ _ ?_);clear hK K));refine hK _ _ ?_;clear hK K)|refine zt ?_|refine zf ?_|refine zG ?_|refine zR ?_|refine zK ?_|refine zL ?_|refine zN ?_|refine zS ?_)|simp only [Exit.then,Exit.inBlock,Exit.noGoto,↓reduceIte,Nat.reduceEqDiff]|simp only [undef,reduceCtorEq,↓reduceIte])))
      (refine wp_keep [0,5] (fun f=>?_);simp only [keep_cons,keep_nil,lk_cons,lk_nil,Nat.reduceEqDiff,↓reduceIte])
      exact wp_code (HGO.out f) (by kernel_rfl)
end Go.Proofs.YtkjnockljapnbaaGreatDoor
namespace Go.Proofs.YtkjnockljapnbaaGreatDoor
open Go Go.RowKit
structure EnvA (w:World):Prop extends Env w where
  af:AfTab w
  afB:3 < w.heap.size
  et:w.cell? ⟨1,0,none⟩=some (rtI 55)
  etB:1 < w.heap.size
  eofB:∀ a:Addr,w.cell? ⟨0,0,none⟩=some (errV a) → ∃ cs t,Blk w a.block cs t
  ob:OrbTab w
  cv:Lib.CaseVar 5 Lib.caseA w
theorem EnvA.fe {w:World} (h:EnvA w):FoldEnv w:=⟨h.af,h.ob,h.cv,h.u8⟩
theorem EnvA.below {w w':World} (h:EnvA w) (hb:Below w.heap.size w w'):EnvA w':=by
  refine ⟨h.toEnv.below hb,h.af.below hb,Nat.lt_of_lt_of_le h.afB hb.size,by rw [hb.cell (p:=⟨_,0,none⟩) h.etB];exact h.et,Nat.lt_of_lt_of_le h.etB hb.size,fun a ha=>?_,h.ob.below hb,CaseVar_mono h.cv hb⟩
  rw [hb.cell (p:=⟨_,0,none⟩) h.gB] at ha
  obtain ⟨cs,t,hbk⟩:=h.eofB a ha
  exact ⟨cs,t,Blk.mod (S:=fun _=>False) hbk (mod_none hb _) id⟩
theorem NsAt.of {w:World} {m:Nat} (h:w.heap[m]?=some (.map #[] 0)):NsAt w m 0 (fun _=>none):=by
  have hm:m < w.heap.size:=by
    rcases Nat.lt_or_ge m w.heap.size with h'|h'
    · exact h'
    · rw [Array.getElem?_eq_none h'] at h;cases h
  obtain ⟨w0,hw0⟩:∃ w0:World,w0.heap.size=m:=⟨{ w with heap:=w.heap.extract 0 m },by simp;omega⟩
  have hmd:=NsAt.made w0
  rw [hw0] at hmd
  obtain ⟨D,⟨es,cl,hb,F,hs,hD⟩,h2⟩:=hmd
  have he:(w0.alloc (.map #[] 0)).heap[m]?=some (.map #[] 0):=by
    show (w0.heap.push _)[m]?=_
    rw [← hw0];simp
  rw [he] at hb
  exact ⟨D,⟨es,cl,h.trans hb,F,hs,hD⟩,h2⟩
theorem NxAt.lt {x:Cx} {w:World} {v:DV} {c:DC} {s:St} {own:List Nat} (h:NxAt x w v c s own) {g:Nat} (hg:tokBlk c.nextTok g):g < w.heap.size:=by
  unfold NxAt at h
  cases hx:s.next with
  | none=>rw [hx] at h;rw [show c.nextTok=.nilIface from h] at hg;exact hg.elim
  | some tk=>rw [hx] at h;obtain ⟨_,_,_,h3,_⟩:=h;exact (h3.lt hg).2
theorem TS.mod {x:Cx} {c:DC} {w w':World} {v:DV} {s:St} {m:Nat} {sb fb:List Nat} {n:Nat} {S:Nat → Prop} (h:TS x c w v s m sb fb n) (hm:Mod S w w') (hS:∀ k,S k → ¬ x.S1 v k∧k ∉ m :: (sb ++ fb)∧x.B ≤ k∧¬ tokBlk c.nextTok k):TS x c w' v s m sb fb n:=by
  obtain ⟨e,b,hR,h1,h2⟩:=h.rd.rd
  exact ⟨h.cfg,⟨⟨e,b,hR.mod hm (fun k hk hs=>(hS k hs).1 hk) (fun k hk=>(hS k hk).2.2.1),h1,h2⟩,h.rd.nc,h.rd.tc,h.rd.nb⟩,h.own.mod hm (fun b hb hs=>(hS b hs).2.1 hb) h.own.s1,h.sok,h.nok,h.tcl,h.bnd,h.nxt.step hm (fun k hk hs=>(hS k hs).1 (Or.inr hk)) (fun g hg hs=>(hS g hs).2.2.2 hg) rfl rfl rfl (fun b hb=>Or.inl hb)⟩
theorem TS.below {x:Cx} {c:DC} {w w':World} {v:DV} {s:St} {m:Nat} {sb fb:List Nat} {n:Nat} (h:TS x c w v s m sb fb n) (hb:Below w.heap.size w w'):TS x c w' v s m sb fb n:=
  h.mod (S:=fun _=>False) (mod_none hb _) (fun _ h=>h.elim)
structure Far (x:Cx) (v:DV) (pv:Value) (m:Nat) (sb fb:List Nat) (w:World) (k:Nat):Prop where
  lt:k < w.heap.size
  s1:¬ x.S1 v k
  own:k ∉ m :: (sb ++ fb)
  pend:¬ tokBlk pv k
theorem Far.step {x:Cx} {v v':DV} {pv pv':Value} {m:Nat} {sb fb sb' fb':List Nat} {w w':World} {k:Nat} (h:Far x v pv m sb fb w k) (hz:w.heap.size ≤ w'.heap.size) (h1:∀ b ∈ m :: (sb' ++ fb'),b ∈ m :: (sb ++ fb) ∨ w.heap.size ≤ b) (h2:∀ b,x.S1 v' b → x.S1 v b ∨ w.heap.size ≤ b) (h3:∀ g,tokBlk pv' g → tokBlk pv g ∨ w.heap.size ≤ g):Far x v' pv' m sb' fb' w' k:=by
  refine ⟨Nat.lt_of_lt_of_le h.lt hz,fun hk=>?_,fun hk=>?_,fun hk=>?_⟩
  · rcases h2 k hk with h9|h9
    · exact h.s1 h9
    · have:=h.lt;omega
  · rcases h1 k hk with h9|h9
    · exact h.own h9
    · have:=h.lt;omega
  · rcases h3 k hk with h9|h9
    · exact h.pend h9
    · have:=h.lt;omega
theorem Far.same {x:Cx} {v:DV} {pv:Value} {m:Nat} {sb fb:List Nat} {w w':World} {k:Nat} (h:Far x v pv m sb fb w k) (hz:w.heap.size ≤ w'.heap.size):Far x v pv m sb fb w' k:=⟨Nat.lt_of_lt_of_le h.lt hz,h.s1,h.own,h.pend⟩
theorem TS.new {x:Cx} {c:DC} {w w':World} {v:DV} {s:St} {m:Nat} {sb fb:List Nat} {n:Nat} (h:TS x c w v s m sb fb n) {k:Nat} (h1:w.heap.size ≤ k) (h2:k < w'.heap.size):Far x v c.nextTok m sb fb w' k:=by
  obtain ⟨e,b,hR,_,_⟩:=h.rd.rd
  exact ⟨h2,fun hk=>by have:=hR.s1lt k hk;omega,fun hk=>by have:=h.own.lt k hk;omega,fun hk=>by have:=h.nxt.lt hk;omega⟩
theorem tok_append2 (w3:World) (base:Nat) (hb:base ≤ w3.heap.size) (v:Value) (n:Nat) (hn:n ≤ 1000000000) (xs:List Value) (h:w3.ownsRow base 33 8 v n xs) (kind:Int) (space loc:Bs) (attrs:Value) (ha:attrs.oneCell'=true) (text:Bs) (a l c:Int) :
    ∃ v' w4,(Builtin.append_ #[25,25] 25 #[v,.slice (some ⟨w3.heap.size,0,none⟩) 1 1]).run Tryz.prog (w3.alloc (.cells #[.int .i64 kind,strV space,strV loc,attrs,strV text,.int .i64 a,.int .i64 l,.int .i64 c] 33))=.ok v' w4 ∧
      w4.ownsRow base 33 8 v' (n + 1) (xs ++ tokCells kind space loc attrs text a l c)∧(w3.alloc (.cells #[.int .i64 kind,strV space,strV loc,attrs,strV text,.int .i64 a,.int .i64 l,.int .i64 c] 33)).grownBy w4 v.ownBlock∧(v'.ownBlock=v.ownBlock ∨ v'.ownBlock=some (w3.heap.size + 1)):=by
  obtain ⟨i,hi,hz,h1,h2⟩:=info_parts tokInfo
  obtain ⟨v',w4,hr,ho,hg,_,hown⟩:=run_append_own_at (P:=Tryz.prog) (w3.alloc (.cells #[.int .i64 kind,strV space,strV loc,attrs,strV text,.int .i64 a,.int .i64 l,.int .i64 c] 33)) base 25 25 33 i _ 8 104 Tryz.underlying25 hi hz h1 h2 rfl (by omega) v n xs (h.alloc _) ⟨w3.heap.size,0,none⟩ 1 1 (tokCells kind space loc attrs text a l c) rfl
    (by
      intro j u hj
      have hb:=Blk.new w3 #[.int .i64 kind,strV space,strV loc,attrs,strV text,.int .i64 a,.int .i64 l,.int .i64 c] 33
      rw [show ((⟨w3.heap.size,0,none⟩:Addr).add j)=⟨w3.heap.size,j,none⟩ by cases j <;> simp [Addr.add],hb.cell]
      simpa [tokCells] using hj)
    (by
      intro u hu
      simp only [tokCells,List.mem_cons,List.not_mem_nil,or_false] at hu
      rcases hu with rfl|rfl|rfl|rfl|rfl|rfl|rfl|rfl <;> first|rfl|exact ha)
    (by unfold maxLen;omega) (by omega) (by simp;omega)
  exact ⟨v',w4,hr,ho,hg,by simpa using hown⟩
end Go.Proofs.YtkjnockljapnbaaGreatDoor
namespace Go.Proofs.YtkjnockljapnbaaGreatDoor
open Go Go.RowKit
abbrev optCells (o:Opt) (au:Value):Array Value:=#[.bool o.raw,.bool (!o.strict),.slice none 0 0,au,strV o.space]
structure TkSt (x:Cx) (c:DC) (w:World) (v:DV) (s:St) (m:Nat) (sb fb:List Nat) (n:Nat) (b0:Nat) (l:List (RTok × St)) (xs:List Value) (tv au:Value):Prop where
  ts:TS x c w v s m sb fb n
  opt:Blk w b0 (optCells x.o au) 30
  b0f:Far x v c.nextTok m sb fb w b0
  tvb:tv.ownBlock ≠ some b0
  row:w.ownsRow b0 33 8 tv l.length xs
  tvf:∀ k,tv.ownBlock=some k → Far x v c.nextTok m sb fb w k
  rows:RowsAt (RowOk w b0 (fun k=>Far x v c.nextTok m sb fb w k∧tv.ownBlock ≠ some k) x.T) l xs
  run:∀ l' e,Toks eqFold x.o s l' e → Toks eqFold x.o (St.init x.T) (l ++ l') e
  next:x.o.raw=true → s.next=none
  mu:l.length + s.mu2 ≤ (St.init x.T).mu2
def TkInv (x:Cx) (au:Value) (m:Nat) (b0:Nat) (k:Nat) (a:Act) (w:World):Prop:=
  ∃ f c v s sb fb n l xs tv,a=fr 45 f [(7,.pointer (some ⟨b0,0,none⟩)),(10,decP x),(11,tv)]∧TkSt x c w v s m sb fb n b0 l xs tv au∧k=s.mu2
def TokensOut (T:Bs) (o:Opt) (w:World) (en:Ending) (w':World):Prop:=
  ∃ l e tv xs,en=.returned (.tuple #[tv,.int .i64 (EK.code e)])∧Toks eqFold o (St.init T) l e∧Below w.heap.size w w'∧w'.ownsRow w.heap.size 33 8 tv l.length xs∧RowsAt (RowOk w' w.heap.size (fun _=>True) T) l xs∧l.length ≤ 8 * T.length
theorem TkSt.step {x:Cx} (hx:x.Ok) {au:Value} {c:DC} {w:World} {v:DV} {s:St} {m:Nat} {sb fb:List Nat} {n:Nat} {b0:Nat} {l:List (RTok × St)} {xs:List Value} {tv:Value} (h:TkSt x c w v s m sb fb n b0 l xs tv au) {tk:RTok} {s':St} (hstep:stepL eqFold x.o s=.ok (tk,s'))
    {c':DC} {w':World} {v':DV} {sb' fb':List Nat} {n':Nat} (hts:TS x c' w' v' s' m sb' fb' n') (hm:Mod (fun b=>x.S1 v b ∨ b ∈ m :: (sb ++ fb) ∨ tokBlk c.nextTok b) w w') (h1:∀ b ∈ m :: (sb' ++ fb'),b ∈ m :: (sb ++ fb) ∨ w.heap.size ≤ b) (h2:∀ b,x.S1 v' b → x.S1 v b ∨ w.heap.size ≤ b) (h3:∀ g,tokBlk c'.nextTok g → tokBlk c.nextTok g ∨ w.heap.size ≤ g) :
    Blk w' b0 (optCells x.o au) 30∧Far x v' c'.nextTok m sb' fb' w' b0∧w'.ownsRow b0 33 8 tv l.length xs∧(∀ k,tv.ownBlock=some k → Far x v' c'.nextTok m sb' fb' w' k)∧RowsAt (RowOk w' b0 (fun k=>Far x v' c'.nextTok m sb' fb' w' k∧tv.ownBlock ≠ some k) x.T) l xs ∧
      (∀ l' e,Toks eqFold x.o s' l' e → Toks eqFold x.o (St.init x.T) (l ++ (tk,s') :: l') e)∧(x.o.raw=true → s'.next=none)∧l.length + 1 + s'.mu2 ≤ (St.init x.T).mu2∧s'.mu2 < s.mu2:=by
  obtain ⟨q1,q2,q3⟩:=stepL_ok hstep
  have hnf:∀ k,Far x v c.nextTok m sb fb w k → ¬ (x.S1 v k ∨ k ∈ m :: (sb ++ fb) ∨ tokBlk c.nextTok k):=fun k hf hh=>by
    rcases hh with hh|hh|hh
    · exact hf.s1 hh
    · exact hf.own hh
    · exact hf.pend hh
  refine ⟨h.opt.mod hm (hnf _ h.b0f),h.b0f.step hm.size h1 h2 h3,ownsRow_mod h.row hm (fun k hk=>hnf k (h.tvf k hk)),fun k hk=>(h.tvf k hk).step hm.size h1 h2 h3,
    h.rows.mono (fun a ys hr=>hr.mod hm (fun k hk _=>⟨hnf k hk.1,hk.1.step hm.size h1 h2 h3,hk.2⟩)),fun l' e ht=>?_,fun hr=>(q3 hr).trans (h.next hr),by have:=h.mu;omega,q1⟩
  exact h.run _ e (.more hstep ht)
theorem TkSt.lay {x:Cx} {au:Value} {c:DC} {v:DV} {s:St} {m:Nat} {sb fb:List Nat} {n:Nat} {b0:Nat} {l:List (RTok × St)} {xs:List Value} {tv:Value} {w2 w3 w4:World} {tk:RTok}
    (hB:x.B ≤ b0) (hts:TS x c w2 v s m sb fb n) (hopt:Blk w2 b0 (optCells x.o au) 30) (hbf:Far x v c.nextTok m sb fb w2 b0) (htvb:tv.ownBlock ≠ some b0) (hrow:w2.ownsRow b0 33 8 tv l.length xs) (htvf:∀ k,tv.ownBlock=some k → Far x v c.nextTok m sb fb w2 k)
    (hrows:RowsAt (RowOk w2 b0 (fun k=>Far x v c.nextTok m sb fb w2 k∧tv.ownBlock ≠ some k) x.T) l xs) (hrun:∀ l' e,Toks eqFold x.o s l' e → Toks eqFold x.o (St.init x.T) (l ++ (tk,s) :: l') e) (hnext:x.o.raw=true → s.next=none) (hmu:l.length + 1 + s.mu2 ≤ (St.init x.T).mu2)
    (hb3:Below w2.heap.size w2 w3) {sa:Option Addr} {sl sc:Nat} {i6 i7:Int} (hat:w3.ownsRow w2.heap.size 61 3 (.slice sa sl sc) (tk.itok (x.T.take (x.T.length - s.rest.length))).attrs.length (atCells (tk.itok (x.T.take (x.T.length - s.rest.length))).attrs))
    {o:Obj} {tv':Value} (hown:w4.ownsRow b0 33 8 tv' (l.length + 1) (xs ++ tokCells (tk.itok (x.T.take (x.T.length - s.rest.length))).kind (tk.itok (x.T.take (x.T.length - s.rest.length))).space (tk.itok (x.T.take (x.T.length - s.rest.length))).loc (.slice sa sl sc) (tk.itok (x.T.take (x.T.length - s.rest.length))).text (tk.itok (x.T.take (x.T.length - s.rest.length))).at' i6 i7))
    (hgr:(w3.alloc o).grownBy w4 tv.ownBlock) (hob:tv'.ownBlock=tv.ownBlock ∨ tv'.ownBlock=some (w3.heap.size + 1)) (hi:i6=((tk.itok (x.T.take (x.T.length - s.rest.length))).line:Nat)∧i7=((tk.itok (x.T.take (x.T.length - s.rest.length))).col:Nat)) :
    TkSt x c w4 v s m sb fb n b0 (l ++ [(tk,s)]) (xs ++ tokCells (tk.itok (x.T.take (x.T.length - s.rest.length))).kind (tk.itok (x.T.take (x.T.length - s.rest.length))).space (tk.itok (x.T.take (x.T.length - s.rest.length))).loc (.slice sa sl sc) (tk.itok (x.T.take (x.T.length - s.rest.length))).text (tk.itok (x.T.take (x.T.length - s.rest.length))).at' i6 i7) tv' au:=by
  have hm3:Mod (fun _=>False) w2 w3:=mod_none hb3 _
  have hm4:Mod (fun k=>tv.ownBlock=some k) w3 w4:=(mod_none ((Below.refl _ w3).alloc (Nat.le_refl _) o) _).trans (S':=fun k=>tv.ownBlock=some k) ⟨hgr.os,hgr.tape,hgr.output,hgr.size,fun k hk hn=>hgr.block k hk (fun he=>hn he.symm)⟩ (fun i _ hi=>hi)
  have hm24:Mod (fun k=>tv.ownBlock=some k) w2 w4:=(hm3.mono (fun _ _ h=>h.elim)).trans hm4 (fun _ _ h=>h)
  have hz2:=hb3.size
  have hz4:=hm4.size
  have hnz:w3.heap.size + 1 ≤ w4.heap.size:=by have h9:=hgr.size;rw [show (w3.alloc o).heap.size=w3.heap.size + 1 from Array.size_push _] at h9;exact h9
  have htb:∀ k,tv.ownBlock=some k → b0 ≤ k:=fun k hk=>(ownsRow_lt hrow hk).2
  have hts4:=hts.mod hm24 (fun k hk=>⟨(htvf k hk).s1,(htvf k hk).own,Nat.le_trans hB (htb k hk),(htvf k hk).pend⟩)
  have htv':∀ k,tv'.ownBlock=some k → k < w4.heap.size:=fun k hk=>(ownsRow_lt hown hk).1
  have hne:∀ k,k < w3.heap.size → tv.ownBlock ≠ some k → tv'.ownBlock ≠ some k:=fun k hk hn he=>by
    rcases hob with hob|hob
    · exact hn (hob ▸ he)
    · rw [hob] at he
      have:w3.heap.size + 1=k:=by simpa using he
      omega
  refine ⟨hts4,hopt.mod hm24 htvb,hbf.same hm24.size,hne b0 (Nat.lt_of_lt_of_le hbf.lt hz2) htvb,by rw [List.length_append];exact hown,fun k hk=>?_,?_,fun l' e ht=>?_,hnext,by rw [List.length_append];exact hmu⟩
  · rcases hob with hob|hob
    · exact (htvf k (hob ▸ hk)).same hm24.size
    · have h9:w3.heap.size + 1=k:=by rw [hob] at hk;simpa using hk
      exact hts.new (by omega) (htv' k hk)
  · refine .snoc (hrows.mono (fun a ys hr=>hr.mod hm24 (fun k hk hlt=>⟨hk.2,hk.1.same hm24.size,hne k (Nat.lt_of_lt_of_le hlt hz2) hk.2⟩))) ?_
    have hbk:∀ k,(Value.slice sa sl sc).ownBlock=some k → k < w3.heap.size∧w2.heap.size ≤ k:=fun k hk=>ownsRow_lt hat hk
    have hat0:w3.ownsRow b0 61 3 (.slice sa sl sc) (tk.itok (x.T.take (x.T.length - s.rest.length))).attrs.length (atCells (tk.itok (x.T.take (x.T.length - s.rest.length))).attrs):=by
      refine ⟨hat.1,?_⟩
      rcases hat.2 with h9|⟨g,cap,cur,e1,e2,e3⟩
      · exact Or.inl h9
      · exact Or.inr ⟨g,cap,cur,e1,Nat.le_trans (Nat.le_of_lt hbf.lt) e2,e3⟩
    have hnt:∀ k,(Value.slice sa sl sc).ownBlock=some k → tv.ownBlock ≠ some k:=fun k hk he=>by
      have h8:=(hbk k hk).2
      have h9:=(htvf k he).lt
      omega
    exact ⟨sa,sl,sc,i6,i7,rfl,ownsRow_mod hat0 hm4 (fun k hk he=>hnt k hk he),fun k hk=>⟨hts.new (hbk k hk).2 (Nat.lt_of_lt_of_le (hbk k hk).1 hz4),hne k (hbk k hk).1 (hnt k hk)⟩,hi⟩
  · rw [List.append_assoc];exact hrun l' e ht
end Go.Proofs.YtkjnockljapnbaaGreatDoor
