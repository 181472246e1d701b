/- Part of the proof that laws.FnBalanced returns true for every argument (Sg). No condition of its own. -/
import Derived.Test.YtkjnockljapnbaaGreatDoorO34
import Derived.Test.YtkjnockljapnbaaGreatDoorO15
set_option linter.all false
set_option maxHeartbeats 8000000
set_option maxRecDepth 100000
namespace Go.Proofs.YtkjnockljapnbaaGreatDoor
open Go Go.RowKit
structure PeIn (x:Cx) (c:DC) (w:World) (v:DV) (s:St) (m q:Nat) (sb' fb:List Nat) (n:Nat) (tb:Nat) (nm:Bs × Bs) (e:Ent) (stk':List Ent) (c1:DC) (w1:World) (nx:Value) (ok:Bool) (e0:Option EK):Prop where
  st:OwnStep x c w v m (q :: sb') fb c1 w1 sb' (q :: fb)
  own:Own x w1 c1 v m sb' (q :: fb) n stk' s.ns
  blk:Blk w1 q (skCells nx 0 e.space e.loc ok) 88
  rd:∃ b,RdS x c1 w1 v s.rest e0 b
  tok:Blk w1 tb #[strV nm.1,strV nm.2] 103
theorem popE_elem (x:Cx) (hx:x.All) (c:DC) (w:World) (v:DV) (s:St) (m:Nat) (sb fb:List Nat) (n:Nat) (tb:Nat) (nm:Bs × Bs) (h:PeSt x c w v s m sb fb n tb nm) (e:Ent) (stk':List Ent) (hs:s.stk=e :: stk') (hk:e.kind=0) :
    Calls Tryz.prog 29 #[decP x,.pointer (some ⟨tb,0,none⟩)] w fun en w'=>PopEPost x c w v s nm m sb fb n tb en w':=by
  obtain ⟨e0,b0,hR,hE1,hE2,hE3⟩:∃ e0 b0,RdS x c w v s.rest e0 b0∧(s.ended=true → e0 ≠ none)∧(e0 ≠ none → s.toClose=none)∧((s.ended=false∧e0=none) ∨ nm=(e.space,e.loc)):=by
    rcases h.fit with ⟨h1,b,h2⟩|⟨e',stk2,h1,_,h3⟩
    · exact ⟨none,b,h2,fun hh=>(by rw [h1] at hh;cases hh),fun hh=>absurd rfl hh,Or.inl ⟨h1,rfl⟩⟩
    · obtain ⟨e0,b0,hR,h4,h5⟩:=h.rts.rd
      rw [hs] at h1
      obtain ⟨rfl,_⟩:=List.cons.inj h1
      exact ⟨e0,b0,hR,h4,h5,Or.inr h3⟩
  have ho:=h.own
  rw [hs] at ho
  obtain ⟨q,e',l',sb',h1,h2,h3⟩:∃ q e' l' sb',c.stk=.pointer (some ⟨q,0,none⟩)∧sb=q :: sb'∧e :: stk'=e' :: l':=by
    rcases ho.stk.ptr with ⟨_,_,h1⟩|⟨q,e',l',sb',h1,h2,h3⟩
    · cases h1
    · exact ⟨q,e',l',sb',h1,h2,h3⟩
  obtain ⟨rfl,rfl⟩:=List.cons.inj h3
  subst h2
  obtain ⟨fl,hfl⟩:=ho.free
  have hnd:(m :: ((q :: sb') ++ fb)).Nodup:=ho.nodup
  have hpop:=Lib.hid (pop_c x c w v hR.dec q e (Or.inl hk) stk' sb' ho.stk fl fb hfl (fun b hb he=>ho.s1 b (List.mem_cons_of_mem _ hb) (Or.inl (Or.inl he))) (List.nodup_cons.1 hnd).2)
  have HIN:=Lib.hid (show ∀ w1,PopPost x c w v e stk' sb' fl fb w1 q → ∃ c1 nx ok,PeIn x c w v s m q sb' fb n tb nm e stk' c1 w1 nx ok e0 from fun w1 hp=>by
    obtain ⟨c1,hs1,ho1,nx1,hfr1,ok1,hb1,hk1⟩:=ho.popped hp
    have hmt:¬ (tb=x.d ∨ tb=q):=by
      rintro (he|he)
      · exact h.tS (Or.inl (Or.inl he))
      · exact h.tO (by simp [he])
    rw [hk] at hb1
    exact ⟨c1,nx1,ok1,hs1,ho1,hb1,⟨b0,hR.own hx.toOk hs1.dec hs1.mod (fun k hk=>by
      rcases hk with hk|hk
      · exact Or.inl hk
      · exact Or.inr ⟨ho.s1 k hk,ho.base k hk⟩)⟩,h.tok.mod hp.mod hmt⟩)
  have HPE:=Lib.hid h
  have HX:=Lib.hid hx
  have HO:=Lib.hid ho
  have HS:=Lib.hid hs
  have HE:=Lib.hid (show e.space.length ≤ 100000000000∧e.loc.length ≤ 100000000000 from (h.sok e (by rw [hs];simp)).2)
  have HEN:=Lib.hid (And.intro hE1 (And.intro hE2 hE3))
  have HKD:=Lib.hid hk
  have HQT:=Lib.hid (show tb ≠ q∧tb ≠ x.d∧tb ≠ m∧(∀ b ∈ m :: (sb' ++ q :: fb),b ≠ tb) from by
    have hTO:=h.tO
    refine ⟨fun he=>hTO (by simp [he]),fun he=>h.tS (Or.inl (Or.inl he)),fun he=>hTO (by simp [he]),fun b hb he=>hTO ?_⟩
    subst he
    simp only [List.mem_cons,List.mem_append,List.cons_append] at hb ⊢
    rcases hb with h|h|h|h
    · exact Or.inl h
    · exact Or.inr (Or.inr (Or.inl h))
    · exact Or.inr (Or.inl h)
    · exact Or.inr (Or.inr (Or.inr h)))
  clear hR hx h hs h3 hfl hnd ho hk hE1 hE2 hE3 h1
  refine calls_fr (vs:=[_,_]) 179 Tryz.func29 rfl rfl (Nat.le_of_ble_eq_true rfl) fun f=>?_
  simp only [argSlots]
  (repeat (first|(with_reducible first|refine zA fun K hK=>?_|refine zB ?_|refine zC ?_)|((with_reducible first|refine zD rfl fun K hK=>?_|refine zE fun K hK=>?_);go_simp)|(with_reducible first|((repeat ((fail_if_success refine hK _ _ ?_);clear hK K));refine hK _ _ ?_;clear hK K)|refine zt ?_|refine zf ?_|refine zG ?_|refine zR ?_|refine zK ?_|refine zL ?_|refine zN ?_|refine zS ?_)|simp only [Exit.then,Exit.inBlock,Exit.noGoto,↓reduceIte,Nat.reduceEqDiff]|simp only [undef,reduceCtorEq,↓reduceIte]))
  refine hpop.out.mono ?_
  rintro e1 w1 ⟨rfl,hp⟩
  obtain ⟨c1,nx1,ok1,hI⟩:=HIN.out w1 hp
  have HI:=Lib.hid hI
  obtain ⟨b1,hR1⟩:=hI.rd
  have hct0:=hI.tok.cell
  have hft0:=hI.tok.frozen
  have hal:Below w1.heap.size w1 (w1.alloc (.cells #[strV nm.1,strV nm.2] 82)):=(Below.refl _ w1).alloc (Nat.le_refl _) _
  have hlim:Mod (fun _=>False) w1 (w1.alloc (.cells #[strV nm.1,strV nm.2] 82)):=mod_none hal _
  have HLIM:=Lib.hid hlim
  have hR2:=hR1.below HX.out.toOk hal
  have HR2:=Lib.hid hR2
  have hnb:=Blk.new w1 #[strV nm.1,strV nm.2] 82
  have hqb:=hI.blk.mod hlim id
  have htb:=hI.tok.mod hlim id
  have HQB:=Lib.hid hqb
  have HTB:=Lib.hid htb
  have hcq:=hqb.cell
  have hfq:=hqb.frozen
  have HD1:=Lib.hid hI.st
  have HO1:=Lib.hid hI.own
  clear hp hpop HIN hR1 hal hlim hI hqb htb
  go_simp
  (repeat (first|(with_reducible first|refine zA fun K hK=>?_|refine zB ?_|refine zC ?_)|((with_reducible first|refine zD rfl fun K hK=>?_|refine zE fun K hK=>?_);go_simp)|(with_reducible first|((repeat ((fail_if_success refine hK _ _ ?_);clear hK K));refine hK _ _ ?_;clear hK K)|refine zt ?_|refine zf ?_|refine zG ?_|refine zR ?_|refine zK ?_|refine zL ?_|refine zN ?_|refine zS ?_)|simp only [Exit.then,Exit.inBlock,Exit.noGoto,↓reduceIte,Nat.reduceEqDiff]|simp only [undef,reduceCtorEq,↓reduceIte]))
  (refine wp_keep [0,1,5,6] (fun f=>?_);simp only [keep_cons,keep_nil,lk_cons,lk_nil,Nat.reduceEqDiff,↓reduceIte])
  have hnbq:w1.heap.size ≠ q∧w1.heap.size ≠ tb∧w1.heap.size ≠ x.d:=by
    have h1:=HI.out.blk.lt
    have h2:=HI.out.tok.lt
    have h3:=Blk.lt HI.out.st.dec
    exact ⟨by omega,by omega,by omega⟩
  have HNEW:=Lib.hid (show ∀ b ∈ m :: (sb' ++ q :: fb),b ≠ w1.heap.size from fun b hb he=>by have:=HO1.out.lt b hb;omega)
  have HNB:=Lib.hid hnb
  obtain ⟨w2,hw2⟩:∃ w2,w2=w1.alloc (.cells #[strV nm.1,strV nm.2] 82):=⟨_,rfl⟩
  obtain ⟨nb,hnbd⟩:∃ nb,nb=w1.heap.size:=⟨_,rfl⟩
  have hO2:Own x w2 c1 v m sb' (q :: fb) n stk' s.ns:=by rw [hw2];exact HO1.out.mod HLIM.out (fun _ _=>id) HO1.out.s1
  have hS2:OwnStep x c w v m (q :: sb') fb c1 w2 sb' (q :: fb):=by
    rw [hw2]
    exact HD1.out.trans ⟨Blk.mod HD1.out.dec HLIM.out id,⟨_,_,_,rfl⟩,HLIM.out.mono (fun _ _ h=>h.elim),fun _ hb=>Or.inl hb⟩
  have hR3:RdS x c1 w2 v s.rest e0 b1:=by rw [hw2];exact HR2.out
  have hQ2:Blk w2 q (skCells nx1 0 e.space e.loc ok1) 88:=by rw [hw2];exact HQB.out
  have hT2:Blk w2 tb #[strV nm.1,strV nm.2] 103:=by rw [hw2];exact HTB.out
  have hN2:Blk w2 nb #[strV nm.1,strV nm.2] 82:=by rw [hw2,hnbd];exact HNB.out
  rw [show w1.alloc (.cells #[.string ⟨nm.1.toArray⟩,.string ⟨nm.2.toArray⟩] 82)=w2 from hw2.symm,← hnbd]
  rw [← hnbd] at hnbq HNEW
  clear hcq hfq hnb HNB HQB HTB HR2 HD1 HO1 HLIM HI hw2 hnbd
  have HO2:=Lib.hid hO2
  have HS2:=Lib.hid hS2
  have HR3:=Lib.hid hR3
  have HQ2:=Lib.hid hQ2
  have HT2:=Lib.hid hT2
  have hcd:=hR3.dec.cell
  have hfd:=hR3.dec.frozen
  have hcq:=hQ2.cell
  have hfq:=hQ2.frozen
  have hct:=hT2.cell
  have hft:=hT2.frozen
  have hcn:=hN2.cell
  have hfn:=hN2.frozen
  obtain ⟨n1,n2,n3⟩:=hnbq
  obtain ⟨t1,t2,t3,_⟩:=HQT.out
  have hqd:q ≠ x.d:=fun he=>HO.out.s1 q (by simp) (Or.inl (Or.inl he))
  clear hO2 hS2 hR3 hQ2 hT2 hN2
  have HSTR:=Lib.hid (show c1.strict=x.o.strict from by
    obtain ⟨p,q2,dp,he⟩:=HS2.out.cs
    rw [he];exact HPE.out.strict)
  have hl2:=HPE.out.l2
  have hl1:=HPE.out.l1
  have hle:=HE.out.1
  have hll:=HE.out.2
  have HSY:=Lib.hid (fun k msg=>synErr_g HX.out.toOk (HR3.out.drewN HX.out.toOk k) msg)
  by_cases hloc:e.loc=nm.2
  · rw [hloc] at hcq hll
    by_cases hspa:e.space=nm.1
    · have HPOP:=Lib.hid (show popL x.o nm s=.ok (.fin (transL x.o s.ns nm true),{ s with stk:=(undoL stk' s.ns).1,ns:=(undoL stk' s.ns).2 }) by
        unfold popL
        rw [HS.out]
        simp only
        rw [if_neg (by rw [HKD.out];simp),if_neg (by rw [hloc];simp),if_neg (by rw [hspa];simp)])
      have htr:=Lib.hid (fun k=>translate_c x c1 (w2.drewN k) v (HR3.out.drewN HX.out.toOk k).dec m n s.ns HO2.out.map (HO2.out.ns.drewN k) (by
        obtain ⟨p,q2,dp,he⟩:=HS2.out.cs
        rw [he];exact HPE.out.sp) tb #[strV nm.1,strV nm.2] 103 HT2.out t2 t3 0 nm rfl rfl hl1 true)
      rw [hspa] at hcq
      clear hloc hspa hl1 hl2 hle hll
      go_quiet (fail)
      (repeat (first|(with_reducible first|refine zA fun K hK=>?_|refine zB ?_|refine zC ?_)|((with_reducible first|refine zD rfl fun K hK=>?_|refine zE fun K hK=>?_);go_simp)|(with_reducible first|((repeat ((fail_if_success refine hK _ _ ?_);clear hK K));refine hK _ _ ?_;clear hK K)|refine zt ?_|refine zf ?_|refine zG ?_|refine zR ?_|refine zK ?_|refine zL ?_|refine zN ?_|refine zS ?_)|simp only [Exit.then,Exit.inBlock,Exit.noGoto,↓reduceIte,Nat.reduceEqDiff]|simp only [undef,reduceCtorEq,↓reduceIte]))
      (refine wp_keep [0,1,5,6] (fun f=>?_);simp only [keep_cons,keep_nil,lk_cons,lk_nil,Nat.reduceEqDiff,↓reduceIte])
      have HR4:=Lib.hid (HR3.out.drewN HX.out.toOk nq)
      have hcq':∀ o,(w2.drewN nq).cell? ⟨q,o,none⟩=_:=hcq
      have hcn':∀ o,(w2.drewN nq).cell? ⟨nb,o,none⟩=_:=hcn
      go_quiet (fail)
      (repeat (first|(with_reducible first|refine zA fun K hK=>?_|refine zB ?_|refine zC ?_)|((with_reducible first|refine zD rfl fun K hK=>?_|refine zE fun K hK=>?_);go_simp)|(with_reducible first|((repeat ((fail_if_success refine hK _ _ ?_);clear hK K));refine hK _ _ ?_;clear hK K)|refine zt ?_|refine zf ?_|refine zG ?_|refine zR ?_|refine zK ?_|refine zL ?_|refine zN ?_|refine zS ?_)|simp only [Exit.then,Exit.inBlock,Exit.noGoto,↓reduceIte,Nat.reduceEqDiff]|simp only [undef,reduceCtorEq,↓reduceIte]))
      refine (htr.out _).mono ?_
      rintro e5 w5 ⟨rfl,hm5,hb5,hz5⟩
      have hm25:Mod (fun k=>k=tb) w2 w5:=((Mod.refl _ w2).drewN _).trans hm5 (fun _ _ h=>h)
      have hO5:Own x w5 c1 v m sb' (q :: fb) n stk' s.ns:=HO2.out.mod hm25 (fun b hb he=>HQT.out.2.2.2 b hb he) HO2.out.s1
      have hd5:DecAt w5 x.d c1 v:=Blk.mod HR3.out.dec hm25 (fun he=>t2 he.symm)
      have hsok:StkOk stk':=fun e' he'=>HPE.out.sok e' (by rw [HS.out];simp [he'])
      have hbnd:n + stk'.length ≤ 100000000000:=by have:=HPE.out.bnd;rw [HS.out] at this;simp only [List.length_cons] at this;omega
      have HM25:=Lib.hid hm25
      have HB5:=Lib.hid hb5
      clear hcd hfd hcq hfq hct hft hcn hfn hcq' hcn' hm5 hz5 hm25 hb5 htr
      go_simp
      (repeat (first|(with_reducible first|refine zA fun K hK=>?_|refine zB ?_|refine zC ?_)|((with_reducible first|refine zD rfl fun K hK=>?_|refine zE fun K hK=>?_);go_simp)|(with_reducible first|((repeat ((fail_if_success refine hK _ _ ?_);clear hK K));refine hK _ _ ?_;clear hK K)|refine zt ?_|refine zf ?_|refine zG ?_|refine zR ?_|refine zK ?_|refine zL ?_|refine zN ?_|refine zS ?_)|simp only [Exit.then,Exit.inBlock,Exit.noGoto,↓reduceIte,Nat.reduceEqDiff]|simp only [undef,reduceCtorEq,↓reduceIte]))
      (refine wp_keep [0] (fun f=>?_);simp only [keep_cons,keep_nil,lk_cons,lk_nil,Nat.reduceEqDiff,↓reduceIte])
      refine peUndo x HX.out.toOk c1 w5 v hd5 m sb' (q :: fb) n stk' s.ns hO5 hsok hbnd _ ?_ f _ (by kernel_rfl)
      intro f c9 w9 sb9 fb9 n9 hs9 ho9 hn9
      have HS9:=Lib.hid hs9
      have HO9:=Lib.hid ho9
      have HN9:=Lib.hid hn9
      clear hs9 ho9 hn9 hd5 hsok hbnd hO5
      (repeat (first|(with_reducible first|refine zA fun K hK=>?_|refine zB ?_|refine zC ?_)|((with_reducible first|refine zD rfl fun K hK=>?_|refine zE fun K hK=>?_);go_simp)|(with_reducible first|((repeat ((fail_if_success refine hK _ _ ?_);clear hK K));refine hK _ _ ?_;clear hK K)|refine zt ?_|refine zf ?_|refine zG ?_|refine zR ?_|refine zK ?_|refine zL ?_|refine zN ?_|refine zS ?_)|simp only [Exit.then,Exit.inBlock,Exit.noGoto,↓reduceIte,Nat.reduceEqDiff]|simp only [undef,reduceCtorEq,↓reduceIte]))
      (refine fr_out1 rfl (by decide) (by simp only [lk_cons,lk_nil,Nat.reduceEqDiff,↓reduceIte];rfl) ?_)
      unfold PopEPost
      rw [HPOP.out]
      have hm59:=HS9.out.mod
      have htb9:Blk w9 tb _ _:=HB5.out.mod hm59 (fun hh=>by
        rcases hh with hh|hh
        · exact t2 hh
        · exact HQT.out.2.2.2 tb hh rfl)
      have hperm:∀ b,b ∈ m :: (sb' ++ q :: fb) → b ∈ m :: ((q :: sb') ++ fb):=by
        intro b hb
        simp only [List.mem_cons,List.mem_append,List.cons_append] at hb ⊢
        rcases hb with h|h|h|h
        · exact Or.inl h
        · exact Or.inr (Or.inr (Or.inl h))
        · exact Or.inr (Or.inl h)
        · exact Or.inr (Or.inr (Or.inr h))
      have hmall:Mod (fun b=>b=x.d ∨ b ∈ m :: ((q :: sb') ++ fb) ∨ b=tb) w w9:=by
        refine (HS2.out.mod.mono (fun b _ hb=>?_)).trans ((HM25.out.mono (S':=fun b=>b=x.d ∨ b ∈ m :: ((q :: sb') ++ fb) ∨ b=tb) (fun b _ hb=>Or.inr (Or.inr hb))).trans (hm59.mono (S':=fun b=>b=x.d ∨ b ∈ m :: ((q :: sb') ++ fb) ∨ b=tb) (fun b _ hb=>?_)) (fun _ _ h=>h)) (fun _ _ h=>h)
        · rcases hb with hb|hb
          · exact Or.inl hb
          · exact Or.inr (Or.inl hb)
        · rcases hb with hb|hb
          · exact Or.inl hb
          · exact Or.inr (Or.inl (hperm b hb))
      have hR9:RdS x c9 w9 v s.rest e0 b1:=HR3.out.own HX.out.toOk HS9.out.dec (S:=fun b=>b=x.d ∨ b ∈ m :: (sb' ++ q :: fb) ∨ b=tb) ((HM25.out.mono (fun b _ hb=>Or.inr (Or.inr hb))).trans (hm59.mono (S':=fun b=>b=x.d ∨ b ∈ m :: (sb' ++ q :: fb) ∨ b=tb) (fun b _ hb=>by
        rcases hb with hb|hb
        · exact Or.inl hb
        · exact Or.inr (Or.inl hb))) (fun _ _ h=>h)) (fun k hk=>by
        rcases hk with hk|hk|hk
        · exact Or.inl hk
        · exact Or.inr ⟨HO.out.s1 k (hperm k hk),HO.out.base k (hperm k hk)⟩
        · exact Or.inr (hk ▸ ⟨HPE.out.tS,HPE.out.tB⟩))
      have hsd:SameD c c9:=HS2.out.same.trans HS9.out.same
      obtain ⟨pp1,pp2,pp3,hc1e⟩:=HS2.out.cs
      obtain ⟨pp4,pp5,pp6,hc9e⟩:=HS9.out.cs
      refine ⟨transL x.o s.ns nm true,rfl,rfl,c9,sb9,fb9,n9,⟨⟨e0,b1,hR9,HEN.out.1,HEN.out.2.1⟩,?_,?_,HPE.out.rts.nb⟩,HO9.out,(by rw [transL_loc];exact htb9),hsd,hmall,fun b hb=>?_,?_⟩
      · rw [hc9e,hc1e];exact HPE.out.rts.nc
      · intro nm' hnm'
        rw [hc9e,hc1e];exact HPE.out.rts.tc nm' hnm'
      · rcases HS9.out.sub b hb with h9|h9
        · rcases HS2.out.sub b h9 with h8|h8
          · exact Or.inl h8
          · exact Or.inr h8
        · exact Or.inr (Nat.le_trans (Nat.le_trans HS2.out.mod.size HM25.out.size) h9)
      · have:=HN9.out
        rw [HS.out];simp only [List.length_cons];omega
    · obtain ⟨g1,g2⟩:=lbne hspa
      have HPOP:=Lib.hid (show popL x.o nm s=.error .syn by
        unfold popL
        rw [HS.out]
        simp only
        rw [if_neg (by rw [HKD.out];simp),if_neg (by rw [hloc];simp),if_pos hspa])
      have a1:¬ 9223372036854775807 < 9 + nm.2.length:=by omega
      have a2:¬ 9223372036854775807 < 9 + nm.2.length + 11:=by omega
      have a3:¬ 9223372036854775807 < 9 + nm.2.length + 11 + e.space.length:=by omega
      have a4:¬ 9223372036854775807 < 9 + nm.2.length + 11 + e.space.length + 13:=by omega
      have a5:¬ 9223372036854775807 < 9 + nm.2.length + 11 + e.space.length + 13 + nm.2.length:=by omega
      have a6:¬ 9223372036854775807 < 9 + nm.2.length + 11 + e.space.length + 13 + nm.2.length + 11:=by omega
      have a7:¬ 9223372036854775807 < 9 + nm.2.length + 11 + e.space.length + 13 + nm.2.length + 11 + nm.1.length:=by omega
      have a8:¬ 9223372036854775807 < 9 + nm.2.length + 11 + e.space.length + 13 + nm.2.length + 11 + 2:=by omega
      clear hloc hspa hl1 hl2 hle hll
      go_quiet (fail)
      (repeat (first|(with_reducible first|refine zA fun K hK=>?_|refine zB ?_|refine zC ?_)|((with_reducible first|refine zD rfl fun K hK=>?_|refine zE fun K hK=>?_);go_simp)|(with_reducible first|((repeat ((fail_if_success refine hK _ _ ?_);clear hK K));refine hK _ _ ?_;clear hK K)|refine zt ?_|refine zf ?_|refine zG ?_|refine zR ?_|refine zK ?_|refine zL ?_|refine zN ?_|refine zS ?_)|simp only [Exit.then,Exit.inBlock,Exit.noGoto,↓reduceIte,Nat.reduceEqDiff]|simp only [undef,reduceCtorEq,↓reduceIte]))
      (refine wp_keep [0,1,5,6] (fun f=>?_);simp only [keep_cons,keep_nil,lk_cons,lk_nil,Nat.reduceEqDiff,↓reduceIte])
      have hcq':∀ o,(w2.drewN nq).cell? ⟨q,o,none⟩=_:=hcq
      have hcn':∀ o,(w2.drewN nq).cell? ⟨nb,o,none⟩=_:=hcn
      go_quiet (fail)
      have hcs:nm.1=[] ∨ ((nm.1 == [])=false∧(nm.1 != [])=true):=by
        by_cases h:nm.1=[]
        · exact Or.inl h
        · exact Or.inr (lbne h)
      rcases hcs with hcs|⟨hcs,hcs2⟩
      · have hcs2:(nm.1 == [])=true:=by rw [hcs];rfl
        (repeat (first|(with_reducible first|refine zA fun K hK=>?_|refine zB ?_|refine zC ?_)|((with_reducible first|refine zD rfl fun K hK=>?_|refine zE fun K hK=>?_);go_simp)|(with_reducible first|((repeat ((fail_if_success refine hK _ _ ?_);clear hK K));refine hK _ _ ?_;clear hK K)|refine zt ?_|refine zf ?_|refine zG ?_|refine zR ?_|refine zK ?_|refine zL ?_|refine zN ?_|refine zS ?_)|simp only [Exit.then,Exit.inBlock,Exit.noGoto,↓reduceIte,Nat.reduceEqDiff]|simp only [undef,reduceCtorEq,↓reduceIte]))
        (refine wp_keep [0,1,5,6,7] (fun f=>?_);simp only [keep_cons,keep_nil,lk_cons,lk_nil,Nat.reduceEqDiff,↓reduceIte])
        (refine wp_region_pi [0,0,0,0,0,0,1,0,0,0,0,0,0,1,0,0,0,1,0,0,0,0,2,0,0,2] [0,1,2,3,4,5,6,7,8,9,10,11,12,13,14,15,16,17,18,19,20,21,22,23,24,25] (by kernel_rfl) (by kernel_rfl) ?_;repeat (first|(with_reducible refine wpPi_nil (fun nq=>?_))|((with_reducible refine wpPi_free rfl rfl (fun K hK=>?_));go_simp;refine hK _ ?_;clear hK K)|((with_reducible refine wpPi_quiet rfl rfl (fun K hK=>?_));go_simp;refine hK _ ?_;clear hK K)|((with_reducible refine wpPi_eff rfl rfl (fun nq K hK=>?_));go_simp;refine hK.out _ _ ?_;clear hK K)))
        (refine wpPi_eff rfl rfl (fun nq K hK=>?_);go_simp)
        refine (HSY.out _ _).mono ?_
        rintro e3 w3 ⟨a9,rfl,hS⟩
        have hc2:=hS.dec.cell
        have hf2:=hS.dec.frozen
        have HSS:=Lib.hid hS
        clear hS hcd hfd hcq hfq hct hft hcn hfn hcq' hcn'
        (go_simp;refine hK.out _ _ ?_;clear hK K)
        (repeat (first|(with_reducible refine wpPi_nil (fun nq=>?_))|((with_reducible refine wpPi_free rfl rfl (fun K hK=>?_));go_simp;refine hK _ ?_;clear hK K)|((with_reducible refine wpPi_quiet rfl rfl (fun K hK=>?_));go_simp;refine hK _ ?_;clear hK K)|((with_reducible refine wpPi_eff rfl rfl (fun nq K hK=>?_));go_simp;refine hK.out _ _ ?_;clear hK K)))
        (repeat (first|(with_reducible first|refine zA fun K hK=>?_|refine zB ?_|refine zC ?_)|((with_reducible first|refine zD rfl fun K hK=>?_|refine zE fun K hK=>?_);go_simp)|(with_reducible first|((repeat ((fail_if_success refine hK _ _ ?_);clear hK K));refine hK _ _ ?_;clear hK K)|refine zt ?_|refine zf ?_|refine zG ?_|refine zR ?_|refine zK ?_|refine zL ?_|refine zN ?_|refine zS ?_)|simp only [Exit.then,Exit.inBlock,Exit.noGoto,↓reduceIte,Nat.reduceEqDiff]|simp only [undef,reduceCtorEq,↓reduceIte]))
        (refine fr_out1 rfl (by decide) (by simp only [lk_cons,lk_nil,Nat.reduceEqDiff,↓reduceIte];rfl) ?_)
        unfold PopEPost
        rw [HPOP.out]
        exact ⟨rfl,c1,_,(HSS.out.drewN _).err.drewN _,popMod HS2.out.mod (((Mod.refl (x.S1 v) w2).drewN _).trans ((HSS.out.drewN _).stp.drawn _).mod (fun _ _ h=>h))⟩
      · (repeat (first|(with_reducible first|refine zA fun K hK=>?_|refine zB ?_|refine zC ?_)|((with_reducible first|refine zD rfl fun K hK=>?_|refine zE fun K hK=>?_);go_simp)|(with_reducible first|((repeat ((fail_if_success refine hK _ _ ?_);clear hK K));refine hK _ _ ?_;clear hK K)|refine zt ?_|refine zf ?_|refine zG ?_|refine zR ?_|refine zK ?_|refine zL ?_|refine zN ?_|refine zS ?_)|simp only [Exit.then,Exit.inBlock,Exit.noGoto,↓reduceIte,Nat.reduceEqDiff]|simp only [undef,reduceCtorEq,↓reduceIte]))
        (refine wp_keep [0,1,5,6,7] (fun f=>?_);simp only [keep_cons,keep_nil,lk_cons,lk_nil,Nat.reduceEqDiff,↓reduceIte])
        (refine wp_region_pi [0,0,0,0,0,0,1,0,0,0,0,0,0,1,0,0,0,1,0,0,0,0,2,0,0,2] [0,1,2,3,4,5,6,7,8,9,10,11,12,13,14,15,16,17,18,19,20,21,22,23,24,25] (by kernel_rfl) (by kernel_rfl) ?_;repeat (first|(with_reducible refine wpPi_nil (fun nq=>?_))|((with_reducible refine wpPi_free rfl rfl (fun K hK=>?_));go_simp;refine hK _ ?_;clear hK K)|((with_reducible refine wpPi_quiet rfl rfl (fun K hK=>?_));go_simp;refine hK _ ?_;clear hK K)|((with_reducible refine wpPi_eff rfl rfl (fun nq K hK=>?_));go_simp;refine hK.out _ _ ?_;clear hK K)))
        (refine wpPi_eff rfl rfl (fun nq K hK=>?_);go_simp)
        refine (HSY.out _ _).mono ?_
        rintro e3 w3 ⟨a9,rfl,hS⟩
        have hc2:=hS.dec.cell
        have hf2:=hS.dec.frozen
        have HSS:=Lib.hid hS
        clear hS hcd hfd hcq hfq hct hft hcn hfn hcq' hcn'
        (go_simp;refine hK.out _ _ ?_;clear hK K)
        (repeat (first|(with_reducible refine wpPi_nil (fun nq=>?_))|((with_reducible refine wpPi_free rfl rfl (fun K hK=>?_));go_simp;refine hK _ ?_;clear hK K)|((with_reducible refine wpPi_quiet rfl rfl (fun K hK=>?_));go_simp;refine hK _ ?_;clear hK K)|((with_reducible refine wpPi_eff rfl rfl (fun nq K hK=>?_));go_simp;refine hK.out _ _ ?_;clear hK K)))
        (repeat (first|(with_reducible first|refine zA fun K hK=>?_|refine zB ?_|refine zC ?_)|((with_reducible first|refine zD rfl fun K hK=>?_|refine zE fun K hK=>?_);go_simp)|(with_reducible first|((repeat ((fail_if_success refine hK _ _ ?_);clear hK K));refine hK _ _ ?_;clear hK K)|refine zt ?_|refine zf ?_|refine zG ?_|refine zR ?_|refine zK ?_|refine zL ?_|refine zN ?_|refine zS ?_)|simp only [Exit.then,Exit.inBlock,Exit.noGoto,↓reduceIte,Nat.reduceEqDiff]|simp only [undef,reduceCtorEq,↓reduceIte]))
        (refine fr_out1 rfl (by decide) (by simp only [lk_cons,lk_nil,Nat.reduceEqDiff,↓reduceIte];rfl) ?_)
        unfold PopEPost
        rw [HPOP.out]
        exact ⟨rfl,c1,_,(HSS.out.drewN _).err.drewN _,popMod HS2.out.mod (((Mod.refl (x.S1 v) w2).drewN _).trans ((HSS.out.drewN _).stp.drawn _).mod (fun _ _ h=>h))⟩
  · obtain ⟨g1,g2⟩:=lbne hloc
    obtain ⟨hen0,he0⟩:s.ended=false∧e0=none:=by
      rcases HEN.out.2.2 with h|h
      · exact h
      · exact absurd (by rw [h]) hloc
    subst he0
    have HEN0:=Lib.hid hen0
    clear hen0
    cases hst:c1.strict with
    | true=>
      have HPOP:=Lib.hid (show popL x.o nm s=.error .syn by
        unfold popL
        rw [HS.out]
        simp only
        rw [if_neg (by rw [HKD.out];simp),if_pos hloc,if_pos (by rw [← HSTR.out];exact hst)])
      have a1:¬ 9223372036854775807 < 9 + e.loc.length:=by omega
      have a2:¬ 9223372036854775807 < 9 + e.loc.length + 14:=by omega
      have a3:¬ 9223372036854775807 < 9 + e.loc.length + 14 + nm.2.length:=by omega
      have a4:¬ 9223372036854775807 < 9 + e.loc.length + 14 + nm.2.length + 1:=by omega
      clear hloc hl1 hl2 hle hll
      go_quiet (fail)
      (repeat (first|(with_reducible first|refine zA fun K hK=>?_|refine zB ?_|refine zC ?_)|((with_reducible first|refine zD rfl fun K hK=>?_|refine zE fun K hK=>?_);go_simp)|(with_reducible first|((repeat ((fail_if_success refine hK _ _ ?_);clear hK K));refine hK _ _ ?_;clear hK K)|refine zt ?_|refine zf ?_|refine zG ?_|refine zR ?_|refine zK ?_|refine zL ?_|refine zN ?_|refine zS ?_)|simp only [Exit.then,Exit.inBlock,Exit.noGoto,↓reduceIte,Nat.reduceEqDiff]|simp only [undef,reduceCtorEq,↓reduceIte]))
      (refine wp_region_pi [0,0,0,0,0,0,1,0,0,0,1,0,0,2,0,0,2] [0,1,2,3,4,5,6,7,8,9,10,11,12,13,14,15,16] (by kernel_rfl) (by kernel_rfl) ?_;repeat (first|(with_reducible refine wpPi_nil (fun nq=>?_))|((with_reducible refine wpPi_free rfl rfl (fun K hK=>?_));go_simp;refine hK _ ?_;clear hK K)|((with_reducible refine wpPi_quiet rfl rfl (fun K hK=>?_));go_simp;refine hK _ ?_;clear hK K)|((with_reducible refine wpPi_eff rfl rfl (fun nq K hK=>?_));go_simp;refine hK.out _ _ ?_;clear hK K)))
      (refine wpPi_eff rfl rfl (fun nq K hK=>?_);go_simp)
      refine (HSY.out _ _).mono ?_
      rintro e3 w3 ⟨a9,rfl,hS⟩
      have hc2:=hS.dec.cell
      have hf2:=hS.dec.frozen
      have HSS:=Lib.hid hS
      clear hS hcd hfd hcq hfq hct hft hcn hfn
      (go_simp;refine hK.out _ _ ?_;clear hK K)
      (repeat (first|(with_reducible refine wpPi_nil (fun nq=>?_))|((with_reducible refine wpPi_free rfl rfl (fun K hK=>?_));go_simp;refine hK _ ?_;clear hK K)|((with_reducible refine wpPi_quiet rfl rfl (fun K hK=>?_));go_simp;refine hK _ ?_;clear hK K)|((with_reducible refine wpPi_eff rfl rfl (fun nq K hK=>?_));go_simp;refine hK.out _ _ ?_;clear hK K)))
      (repeat (first|(with_reducible first|refine zA fun K hK=>?_|refine zB ?_|refine zC ?_)|((with_reducible first|refine zD rfl fun K hK=>?_|refine zE fun K hK=>?_);go_simp)|(with_reducible first|((repeat ((fail_if_success refine hK _ _ ?_);clear hK K));refine hK _ _ ?_;clear hK K)|refine zt ?_|refine zf ?_|refine zG ?_|refine zR ?_|refine zK ?_|refine zL ?_|refine zN ?_|refine zS ?_)|simp only [Exit.then,Exit.inBlock,Exit.noGoto,↓reduceIte,Nat.reduceEqDiff]|simp only [undef,reduceCtorEq,↓reduceIte]))
      (refine fr_out1 rfl (by decide) (by simp only [lk_cons,lk_nil,Nat.reduceEqDiff,↓reduceIte];rfl) ?_)
      unfold PopEPost
      rw [HPOP.out]
      exact ⟨rfl,c1,_,(HSS.out.drewN _).err.drewN _,popMod HS2.out.mod (((Mod.refl (x.S1 v) w2).drewN _).trans ((HSS.out.drewN _).stp.drawn _).mod (fun _ _ h=>h))⟩
    | false=>
      have HPOP:=Lib.hid (show popL x.o nm s=.ok (.fin (e.space,e.loc),{ s with stk:=stk',toClose:=some nm }) by
        unfold popL
        rw [HS.out]
        simp only
        rw [if_neg (by rw [HKD.out];simp),if_pos hloc,if_neg (by rw [← HSTR.out,hst];simp)])
      clear hloc hl1 hl2 hle hll
      go_quiet (fail)
      (repeat (first|(with_reducible first|refine zA fun K hK=>?_|refine zB ?_|refine zC ?_)|((with_reducible first|refine zD rfl fun K hK=>?_|refine zE fun K hK=>?_);go_simp)|(with_reducible first|((repeat ((fail_if_success refine hK _ _ ?_);clear hK K));refine hK _ _ ?_;clear hK K)|refine zt ?_|refine zf ?_|refine zG ?_|refine zR ?_|refine zK ?_|refine zL ?_|refine zN ?_|refine zS ?_)|simp only [Exit.then,Exit.inBlock,Exit.noGoto,↓reduceIte,Nat.reduceEqDiff]|simp only [undef,reduceCtorEq,↓reduceIte]))
      (refine fr_out1 rfl (by decide) (by simp only [lk_cons,lk_nil,Nat.reduceEqDiff,↓reduceIte];rfl) ?_)
      unfold PopEPost
      rw [HPOP.out]
      have hperm:∀ b,b ∈ m :: (sb' ++ q :: fb) → b ∈ m :: ((q :: sb') ++ fb):=by
        intro b hb
        simp only [List.mem_cons,List.mem_append,List.cons_append] at hb ⊢
        rcases hb with h|h|h|h
        · exact Or.inl h
        · exact Or.inr (Or.inr (Or.inl h))
        · exact Or.inr (Or.inl h)
        · exact Or.inr (Or.inr (Or.inr h))
      have hm:Mod (fun b=>b=x.d ∨ b=tb) w2 ((((((w2.drewN nq).setCell ⟨x.d,14,none⟩ (.bool true)).setCell ⟨x.d,15,none⟩ (strV nm.1)).setCell ⟨x.d,16,none⟩ (strV nm.2)).setCell ⟨tb,0,none⟩ (strV e.space)).setCell ⟨tb,1,none⟩ (strV e.loc)):=
        ((((((Mod.refl (fun b=>b=x.d ∨ b=tb) w2).drewN nq).setCell (p:=⟨x.d,14,none⟩) (Or.inl (Or.inl rfl)) _).setCell (p:=⟨x.d,15,none⟩) (Or.inl (Or.inl rfl)) _).setCell (p:=⟨x.d,16,none⟩) (Or.inl (Or.inl rfl)) _).setCell (p:=⟨tb,0,none⟩) (Or.inl (Or.inr rfl)) _).setCell (p:=⟨tb,1,none⟩) (Or.inl (Or.inr rfl)) _
      have hd9:DecAt ((((((w2.drewN nq).setCell ⟨x.d,14,none⟩ (.bool true)).setCell ⟨x.d,15,none⟩ (strV nm.1)).setCell ⟨x.d,16,none⟩ (strV nm.2)).setCell ⟨tb,0,none⟩ (strV e.space)).setCell ⟨tb,1,none⟩ (strV e.loc)) x.d { c1 with needClose:=true,tcs:=⟨nm.1.toArray⟩,tcl:=⟨nm.2.toArray⟩ } v:=
        ((((show Blk (w2.drewN nq) x.d _ _ from HR3.out.dec).set 14 (.bool true)).set 15 (strV nm.1)).set 16 (strV nm.2)).set_ne (a:=⟨tb,0,none⟩) (fun he=>t2 he.symm) (strV e.space) |>.set_ne (a:=⟨tb,1,none⟩) (fun he=>t2 he.symm) (strV e.loc)
      have ht9:Blk ((((((w2.drewN nq).setCell ⟨x.d,14,none⟩ (.bool true)).setCell ⟨x.d,15,none⟩ (strV nm.1)).setCell ⟨x.d,16,none⟩ (strV nm.2)).setCell ⟨tb,0,none⟩ (strV e.space)).setCell ⟨tb,1,none⟩ (strV e.loc)) tb #[strV e.space,strV e.loc] 103:=
        (((((show Blk (w2.drewN nq) tb _ _ from HT2.out).set_ne (a:=⟨x.d,14,none⟩) t2 (.bool true)).set_ne (a:=⟨x.d,15,none⟩) t2 (strV nm.1)).set_ne (a:=⟨x.d,16,none⟩) t2 (strV nm.2)).set 0 (strV e.space)).set 1 (strV e.loc)
      have hR9:RdS x { c1 with needClose:=true,tcs:=⟨nm.1.toArray⟩,tcl:=⟨nm.2.toArray⟩ } _ v s.rest none b1:=HR3.out.own HX.out.toOk hd9 hm (fun k hk=>by
        rcases hk with hk|hk
        · exact Or.inl hk
        · exact Or.inr (hk ▸ ⟨HPE.out.tS,HPE.out.tB⟩))
      have hO9:=HO2.out.mod hm (fun b hb hh=>by
        rcases hh with hh|hh
        · exact HO2.out.s1 b hb (Or.inl (Or.inl hh))
        · exact HQT.out.2.2.2 b hb hh) HO2.out.s1
      have hmall:=(HS2.out.mod.mono (S':=fun b=>b=x.d ∨ b ∈ m :: ((q :: sb') ++ fb) ∨ b=tb) (fun b _ hb=>by
        rcases hb with hb|hb
        · exact Or.inl hb
        · exact Or.inr (Or.inl hb))).trans (hm.mono (S':=fun b=>b=x.d ∨ b ∈ m :: ((q :: sb') ++ fb) ∨ b=tb) (fun b _ hb=>by
        rcases hb with hb|hb
        · exact Or.inl hb
        · exact Or.inr (Or.inr hb))) (fun _ _ h=>h)
      refine ⟨(e.space,e.loc),rfl,rfl,_,sb',q :: fb,n,⟨⟨none,b1,hR9,fun hh=>(by have:=HEN0.out;rw [show s.ended=true from hh] at this;cases this),fun hh=>absurd rfl hh⟩,rfl,fun nm' hnm'=>?_,HPE.out.rts.nb⟩,⟨hO9.stk,hO9.free,hO9.map,hO9.ns,hO9.nodup,hO9.base,hO9.s1⟩,ht9,HS2.out.same.trans ⟨c1.stk,c1.free,c1.depth,true,⟨nm.1.toArray⟩,⟨nm.2.toArray⟩,rfl⟩,hmall,HS2.out.sub,?_⟩
      · simp only [Option.some.injEq] at hnm'
        subst hnm'
        exact ⟨rfl,rfl⟩
      · rw [HS.out];simp only [List.length_cons];omega
end Go.Proofs.YtkjnockljapnbaaGreatDoor
