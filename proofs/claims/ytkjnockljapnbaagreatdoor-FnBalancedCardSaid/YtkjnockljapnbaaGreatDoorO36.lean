/- Part of the proof that laws.FnBalanced returns true for every argument (Sh, Si). No condition of its own. -/
import Derived.Test.YtkjnockljapnbaaGreatDoorO35
import Derived.Test.YtkjnockljapnbaaGreatDoorO14
set_option linter.all false
set_option maxHeartbeats 8000000
set_option maxRecDepth 100000
namespace Go.Proofs.YtkjnockljapnbaaGreatDoor
open Go Go.RowKit
noncomputable def tkCode (n:Nat):Code:=((Tryz.f17.body).bind (Code.partAt n)).getD .skip
def bind1 (a:At3) (p:List Ent × (Bs → Option Bs)):List Ent × (Bs → Option Bs):=
  if a.1=xmlnsL then ({ kind:=1,space:=(p.2 a.2.1).getD [],loc:=a.2.1,ok:=(p.2 a.2.1).isSome } :: p.1,setNs p.2 a.2.1 (some a.2.2))
  else if a.1=[]∧a.2.1=xmlnsL then ({ kind:=1,space:=(p.2 []).getD [],loc:=[],ok:=(p.2 []).isSome } :: p.1,setNs p.2 [] (some a.2.2))
  else p
theorem bindL_cons (a:At3) (l:List At3) (stk:List Ent) (ns:Bs → Option Bs):bindL (a :: l) stk ns=bindL l (bind1 a (stk,ns)).1 (bind1 a (stk,ns)).2:=by
  obtain ⟨sp,loc,v⟩:=a
  conv=>lhs;unfold bindL
  unfold bind1
  simp only
  by_cases h1:sp=xmlnsL
  · have h1':sp=xmlnsB:=h1
    have h2:¬ (sp=[]∧loc=xmlnsB):=by rintro ⟨h,_⟩;rw [h1] at h;cases h
    simp only [if_pos h1',if_neg h2,if_pos h1]
  · have h1':¬ sp=xmlnsB:=h1
    by_cases h2:sp=[]∧loc=xmlnsL
    · have h2':sp=[]∧loc=xmlnsB:=h2
      simp only [if_neg h1',if_pos h2',if_neg h1,if_pos h2]
    · have h2':¬ (sp=[]∧loc=xmlnsB):=h2
      simp only [if_neg h1',if_neg h2',if_neg h1,if_neg h2]
theorem bindL_snoc (a:At3):∀ (l:List At3) (stk:List Ent) (ns:Bs → Option Bs),bindL (l ++ [a]) stk ns=bind1 a (bindL l stk ns)
  | [],stk,ns=>by rw [List.nil_append,bindL_cons];rfl
  | b :: l,stk,ns=>by
    rw [List.cons_append,bindL_cons,bindL_snoc a l,← bindL_cons]
def NsOk (ns:Bs → Option Bs):Prop:=∀ k u,ns k=some u → u.length ≤ 100000000000
theorem NsOk.set {ns:Bs → Option Bs} (h:NsOk ns) (k v:Bs) (hv:v.length ≤ 100000000000):NsOk (setNs ns k (some v)):=by
  intro k' u hu
  unfold setNs at hu
  split at hu
  · simp only [Option.some.injEq] at hu;rw [← hu];exact hv
  · exact h k' u hu
theorem NsOk.get {ns:Bs → Option Bs} (h:NsOk ns) (k:Bs):((ns k).getD []).length ≤ 100000000000:=by
  cases hk:ns k with
  | none=>simp
  | some u=>exact h k u hk
theorem bind1_ok {N:Nat} {a:At3} (ha:AtLe 1000000000 a) {p:List Ent × (Bs → Option Bs)} (hs:StkOk p.1) (hn:NsOk p.2):StkOk (bind1 a p).1∧NsOk (bind1 a p).2∧(bind1 a p).1.length ≤ p.1.length + 1:=by
  obtain ⟨h1,h2,h3⟩:=ha
  unfold bind1
  split
  · refine ⟨fun e he=>?_,hn.set _ _ (by omega),by simp⟩
    rcases List.mem_cons.1 he with rfl|he
    · exact ⟨Or.inr rfl,by have:=hn.get a.2.1;simp only;omega,by simp only;omega⟩
    · exact hs e he
  · split
    · refine ⟨fun e he=>?_,hn.set _ _ (by omega),by simp⟩
      rcases List.mem_cons.1 he with rfl|he
      · exact ⟨Or.inr rfl,by have:=hn.get [];simp only;omega,by simp⟩
      · exact hs e he
    · exact ⟨hs,hn,by omega⟩
theorem OwnStep.more {x:Cx} {c:DC} {w:World} {v:DV} {m:Nat} {sb fb:List Nat} {c':DC} {w' w'':World} {sb' fb':List Nat} {S:Nat → Prop} (h:OwnStep x c w v m sb fb c' w' sb' fb') (hm:Mod S w' w'') (hS:∀ k,S k → k ∈ m :: (sb' ++ fb')∧k ≠ x.d):OwnStep x c w v m sb fb c' w'' sb' fb':=by
  refine ⟨Blk.mod h.dec hm (fun hh=>(hS _ hh).2 rfl),h.cs,h.mod.trans hm (fun i hi hs=>?_),h.sub⟩
  rcases h.sub i (hS i hs).1 with h9|h9
  · exact Or.inr h9
  · omega
theorem Own.drewN {x:Cx} {w:World} {c:DC} {v:DV} {m:Nat} {sb fb:List Nat} {n:Nat} {stk:List Ent} {ns:Bs → Option Bs} (h:Own x w c v m sb fb n stk ns) (k:Nat):Own x (w.drewN k) c v m sb fb n stk ns:=h.mod ((Mod.refl (fun _=>False) w).drewN k) (fun _ _=>id) h.s1
theorem at_cell {cur:Array Value} {ats:List At3} (h:cur.toList.take (ats.length * 3)=atCells ats) {i:Nat} {a:At3} (ha:ats[i]?=some a):cur[i * 3]?=some (strV a.1)∧cur[i * 3 + 1]?=some (strV a.2.1)∧cur[i * 3 + 2]?=some (strV a.2.2):=by
  have hi:=(List.getElem?_eq_some_iff.1 ha).1
  have key:∀ (l:List At3) (i:Nat) (a:At3),l[i]?=some a → (atCells l)[i * 3]?=some (strV a.1)∧(atCells l)[i * 3 + 1]?=some (strV a.2.1)∧(atCells l)[i * 3 + 2]?=some (strV a.2.2):=by
    intro l
    induction l with
    | nil=>intro i a h;simp at h
    | cons b l ih=>
      intro i a h
      have e:atCells (b :: l)=[strV b.1,strV b.2.1,strV b.2.2] ++ atCells l:=rfl
      cases i with
      | zero=>
        simp only [List.getElem?_cons_zero,Option.some.injEq] at h
        subst h
        rw [e];exact ⟨rfl,rfl,rfl⟩
      | succ i=>
        simp only [List.getElem?_cons_succ] at h
        obtain ⟨h1,h2,h3⟩:=ih i a h
        rw [e]
        refine ⟨?_,?_,?_⟩
        · rw [List.getElem?_append_right (by simp;omega)];simpa [Nat.succ_mul] using h1
        · rw [List.getElem?_append_right (by simp;omega)];simpa [Nat.succ_mul] using h2
        · rw [List.getElem?_append_right (by simp;omega)];simpa [Nat.succ_mul] using h3
  obtain ⟨k1,k2,k3⟩:=key ats i a ha
  rw [← h] at k1 k2 k3
  rw [List.getElem?_take,if_pos (by omega),Array.getElem?_toList] at k1
  rw [List.getElem?_take,if_pos (by omega),Array.getElem?_toList] at k2
  rw [List.getElem?_take,if_pos (by omega),Array.getElem?_toList] at k3
  exact ⟨k1,k2,k3⟩
def BdInv (x:Cx) (c0:DC) (w0:World) (v:DV) (m:Nat) (sb0 fb0:List Nat) (n0:Nat) (stk0:List Ent) (ns0:Bs → Option Bs) (t8:Nat) (sv:Value) (ats:List At3) (k:Nat) (a:Act) (w:World):Prop:=
  ∃ f c sb fb n i,a=fr 204 f [(0,decP x),(5,.nilIface),(8,.pointer (some ⟨t8,0,none⟩)),(101,sv),(102,.int .i64 ats.length),(103,.int .i64 (i:Nat))]∧OwnStep x c0 w0 v m sb0 fb0 c w sb fb ∧
    Own x w c v m sb fb n (bindL (ats.take i) stk0 ns0).1 (bindL (ats.take i) stk0 ns0).2∧k=ats.length - i∧i ≤ ats.length∧n + (bindL (ats.take i) stk0 ns0).1.length ≤ n0 + stk0.length + 2 * i∧StkOk (bindL (ats.take i) stk0 ns0).1∧NsOk (bindL (ats.take i) stk0 ns0).2
theorem tkBind (x:Cx) (hx:x.Ok) (c0:DC) (w0:World) (v:DV) (hd:DecAt w0 x.d c0 v) (hs1:∀ k,x.S1 v k → k < w0.heap.size) (hB:x.B ≤ w0.heap.size) (m:Nat) (sb0 fb0:List Nat) (n0:Nat) (stk0:List Ent) (ns0:Bs → Option Bs) (h:Own x w0 c0 v m sb0 fb0 n0 stk0 ns0) (hok:StkOk stk0) (hns:NsOk ns0)
    (ats:List At3) (hats:∀ a ∈ ats,AtLe 1000000000 a) (hlen:ats.length ≤ 1000000000) (hn:n0 + stk0.length ≤ 10000000000) (t8 g cap:Nat) (cur:Array Value) (hg:Blk w0 g cur 96) (hcur:cur.toList.take (ats.length * 3)=atCells ats) (hgn:g ≠ x.d∧g ∉ m :: (sb0 ++ fb0)) (Q:Exit → Act → World → Prop)
    (hQ:∀ f c w sb fb n,OwnStep x c0 w0 v m sb0 fb0 c w sb fb → Own x w c v m sb fb n (bindL ats stk0 ns0).1 (bindL ats stk0 ns0).2 → n + (bindL ats stk0 ns0).1.length ≤ n0 + stk0.length + 2 * ats.length → StkOk (bindL ats stk0 ns0).1 → NsOk (bindL ats stk0 ns0).2 → Q .normal (fr 204 f [(0,decP x),(5,.nilIface),(8,.pointer (some ⟨t8,0,none⟩))]) w) (f:Nat → Value) (c1:Code) (hc1:c1=.loop (tkCode 23)) :
    c1.wp Tryz.prog (Exit.inBlock 1 Q) (fr 204 f [(0,decP x),(5,.nilIface),(8,.pointer (some ⟨t8,0,none⟩)),(101,.slice (some ⟨g,0,none⟩) ats.length cap),(102,.int .i64 ats.length),(103,.int .i64 0)]) w0:=by
  subst hc1
  have HX:=Lib.hid hx
  have HQ:=Lib.hid hQ
  have HN:=Lib.hid hn
  have HATS:=Lib.hid hats
  have HLEN:=Lib.hid hlen
  have HG:=Lib.hid hg
  have HCUR:=Lib.hid hcur
  have HGN:=Lib.hid hgn
  have HS1:=Lib.hid hs1
  have HB:=Lib.hid hB
  refine wp_loop_ghost_k (BdInv x c0 w0 v m sb0 fb0 n0 stk0 ns0 t8 (.slice (some ⟨g,0,none⟩) ats.length cap) ats) ats.length ⟨f,c0,sb0,fb0,n0,0,rfl,OwnStep.refl hd m sb0 fb0,h,by simp,Nat.zero_le _,by simp [bindL],hok,hns⟩ ?_
  clear h hok hd hx hQ hn hns hats hlen hg hcur hgn hs1 hB
  rintro k _ w ⟨f,c,sb,fb,n,i,rfl,hs,ho,hk,hi,hnn,hok,hns⟩ J K2 hJ hK2
  have HJ:=Lib.hid hJ
  have HK2:=Lib.hid hK2
  have HS:=Lib.hid hs
  have HO:=Lib.hid ho
  have HK:=Lib.hid hk
  have HNN:=Lib.hid hnn
  have HOK:=Lib.hid hok
  have HNS:=Lib.hid hns
  clear hJ hK2 hs hk hnn hok hns ho
  unfold tkCode
  conv=>arg 2;whnf
  by_cases hlt:i < ats.length
  · have h1:(i:Int) < (ats.length:Int):=by omega
    have h0:(0:Int) ≤ (i:Int):=by omega
    have hw1:IntKind.i64.wrap ((i:Int) + 1)=((i + 1:Nat):Int):=by rw [IntKind.wrap_i64];have:=HLEN.out;omega
    obtain ⟨a,ha⟩:∃ a,ats[i]?=some a:=⟨ats[i],by simp [hlt]⟩
    obtain ⟨k1,k2,k3⟩:=at_cell HCUR.out ha
    have hgw:Blk w g cur 96:=HG.out.mod HS.out.mod (fun hh=>by
      rcases hh with hh|hh
      · exact HGN.out.1 hh
      · exact HGN.out.2 hh)
    have hcg0:w.cell? ⟨g,i * 3,none⟩=some (strV a.1):=(hgw.cell _).trans k1
    have hcg1:w.cell? ⟨g,i * 3 + 1,none⟩=some (strV a.2.1):=(hgw.cell _).trans k2
    have hcg2:w.cell? ⟨g,i * 3 + 2,none⟩=some (strV a.2.2):=(hgw.cell _).trans k3
    have htake:ats.take (i + 1)=ats.take i ++ [a]:=by
      rw [List.take_succ,ha];rfl
    have hsn:=bindL_snoc a (ats.take i) stk0 ns0
    rw [← htake] at hsn
    have hale:=HATS.out a (List.mem_of_getElem? ha)
    obtain ⟨b1,b2,b3⟩:=bind1_ok (N:=0) hale HOK.out HNS.out
    rw [← hsn] at b1 b2 b3
    have HSN:=Lib.hid hsn
    have HB1:=Lib.hid b1
    have HB2:=Lib.hid b2
    have HB3:=Lib.hid b3
    have HALE:=Lib.hid hale
    obtain ⟨stk,hstk⟩:∃ stk,stk=(bindL (ats.take i) stk0 ns0).1:=⟨_,rfl⟩
    obtain ⟨ns,hnsd⟩:∃ ns,ns=(bindL (ats.take i) stk0 ns0).2:=⟨_,rfl⟩
    rw [show bindL (ats.take i) stk0 ns0=(stk,ns) from by rw [hstk,hnsd]] at HSN HO HNN HOK HNS HB3
    simp only at HSN HO HNN HOK HNS HB3
    clear b1 b2 b3 hsn htake k1 k2 k3 ha hstk hnsd hale hgw
    obtain ⟨sp,loc,val⟩:=a
    simp only at hcg0 hcg1 hcg2
    obtain ⟨wa,hwa⟩:∃ wa,wa=w.alloc (.cells #[strV sp,strV loc,strV val] 96):=⟨_,rfl⟩
    have hal:Mod (fun _=>False) w wa:=by rw [hwa];exact mod_none ((Below.refl _ w).alloc (Nat.le_refl _) _) _
    have hba:Blk wa w.heap.size #[strV sp,strV loc,strV val] 96:=by rw [hwa];exact Blk.new w _ _
    have hoa:Own x wa c v m sb fb n stk ns:=HO.out.mod hal (fun _ _=>id) HO.out.s1
    have hsa:=HS.out.more hal (fun _ h=>h.elim)
    have hsz:w.heap.size + 1=wa.heap.size:=by rw [hwa];exact (Array.size_push _).symm
    have HBA:=Lib.hid hba
    have HOA:=Lib.hid hoa
    have HSA:=Lib.hid hsa
    have hda:=hsa.dec
    have hc:=hda.cell
    have hf:=hda.frozen
    have hca:=hba.cell
    have hfa:=hba.frozen
    have hmp:=hoa.map
    obtain ⟨d1,d2,d3,d4,d5,d6,d7,d8,d9,d10,d11,d12,d13⟩:=c
    simp only at hmp
    subst hmp
    clear hba hoa hsa hal
    by_cases e1:sp=xmlnsL
    · subst e1
      (repeat (first|(with_reducible first|refine zA fun K hK=>?_|refine zB ?_|refine zC ?_)|((with_reducible first|refine zD rfl fun K hK=>?_|refine zE fun K hK=>?_);go_simp)|(with_reducible first|((repeat ((fail_if_success refine hK _ _ ?_);clear hK K));refine hK _ _ ?_;clear hK K)|refine zt ?_|refine zf ?_|refine zG ?_|refine zR ?_|refine zK ?_|refine zL ?_|refine zN ?_|refine zS ?_)|simp only [Exit.then,Exit.inBlock,Exit.noGoto,↓reduceIte,Nat.reduceEqDiff]|simp only [undef,reduceCtorEq,↓reduceIte]))
      rw [show w.alloc (.cells #[.string ⟨List.toArray xmlnsL⟩,.string ⟨List.toArray loc⟩,.string ⟨List.toArray val⟩] 96)=wa from hwa.symm]
      clear hwa hcg0 hcg1 hcg2
      have hlk:=fun k=>(HOA.out.ns.drewN k).look loc (by have:=HALE.out.2.1;unfold maxLen;simp only at this;omega)
      (refine wp_keep [0,5,8,10,101,102,103] (fun f=>?_);simp only [keep_cons,keep_nil,lk_cons,lk_nil,Nat.reduceEqDiff,↓reduceIte])
      go_quiet (fail)
      have hpu:=Lib.hid (pushNs_c x HX.out _ (wa.drewN nq) v (show DecAt (wa.drewN nq) x.d _ v from hda) (fun k hk=>Nat.lt_of_lt_of_le (HS1.out k hk) HSA.out.mod.size) (Nat.le_trans HB.out HSA.out.mod.size) m sb fb n stk ns (HOA.out.drewN nq) loc ((ns loc).getD []) (ns loc).isSome)
      clear hlk
      (repeat (first|(with_reducible first|refine zA fun K hK=>?_|refine zB ?_|refine zC ?_)|((with_reducible first|refine zD rfl fun K hK=>?_|refine zE fun K hK=>?_);go_simp)|(with_reducible first|((repeat ((fail_if_success refine hK _ _ ?_);clear hK K));refine hK _ _ ?_;clear hK K)|refine zt ?_|refine zf ?_|refine zG ?_|refine zR ?_|refine zK ?_|refine zL ?_|refine zN ?_|refine zS ?_)|simp only [Exit.then,Exit.inBlock,Exit.noGoto,↓reduceIte,Nat.reduceEqDiff]|simp only [undef,reduceCtorEq,↓reduceIte]))
      refine hpu.out.mono ?_
      rintro e1 w1 ⟨rfl,c1,sb1,fb1,hs1,ho1⟩
      have hnq:w.heap.size ≠ x.d∧w.heap.size ∉ m :: (sb ++ fb):=⟨fun e=>by have:=HS1.out x.d (Or.inl (Or.inl rfl));have h9:=HS.out.mod.size;omega,fun hh=>Nat.lt_irrefl _ (HO.out.lt _ hh)⟩
      have hb1:=(show Blk (wa.drewN nq) w.heap.size _ _ from HBA.out).mod hs1.mod (fun hh=>by rcases hh with hh|hh;exact hnq.1 hh;exact hnq.2 hh)
      have hmp1:=ho1.map
      have HO1:=Lib.hid ho1
      have HSB:=Lib.hid ((HSA.out.more (S:=fun _=>False) ((Mod.refl _ wa).drewN nq) (fun _ h=>h.elim)).trans hs1)
      obtain ⟨p1,p2,p3,p4,p5,p6,p7,p8,p9,p10,p11,p12,p13⟩:=c1
      simp only at hmp1
      subst hmp1
      have hc1:=hs1.dec.cell
      have hf1:=hs1.dec.frozen
      have hcq:=hb1.cell
      have HBQ:=Lib.hid hb1
      have hfq:=hb1.frozen
      clear hpu hs1 ho1 hb1 hc hf hca hfa hda
      go_simp
      (repeat (first|(with_reducible first|refine zA fun K hK=>?_|refine zB ?_|refine zC ?_)|((with_reducible first|refine zD rfl fun K hK=>?_|refine zE fun K hK=>?_);go_simp)|(with_reducible first|((repeat ((fail_if_success refine hK _ _ ?_);clear hK K));refine hK _ _ ?_;clear hK K)|refine zt ?_|refine zf ?_|refine zG ?_|refine zR ?_|refine zK ?_|refine zL ?_|refine zN ?_|refine zS ?_)|simp only [Exit.then,Exit.inBlock,Exit.noGoto,↓reduceIte,Nat.reduceEqDiff]|simp only [undef,reduceCtorEq,↓reduceIte]))
      (refine wp_keep [0,5,8,10,101,102,103] (fun f=>?_);simp only [keep_cons,keep_nil,lk_cons,lk_nil,Nat.reduceEqDiff,↓reduceIte])
      (refine wp_region_pi [0,0,0,1,0,0,1,0,1,2] [0,1,2,3,4,5,6,7,8,9] (by kernel_rfl) (by kernel_rfl) ?_;repeat (first|(with_reducible refine wpPi_nil (fun nq=>?_))|((with_reducible refine wpPi_free rfl rfl (fun K hK=>?_));go_simp;refine hK _ ?_;clear hK K)|((with_reducible refine wpPi_quiet rfl rfl (fun K hK=>?_));go_simp;refine hK _ ?_;clear hK K)|((with_reducible refine wpPi_eff rfl rfl (fun nq K hK=>?_));go_simp;refine hK.out _ _ ?_;clear hK K)))
      refine wpPi_eff rfl rfl (fun nq2 K hK=>?_)
      obtain ⟨w2,hr2,hn2,ht2⟩:=(HO1.out.ns.drewN nq2).store (by have h9:n + stk.length ≤ n0 + stk0.length + 2 * i:=HNN.out;have:=HN.out;have:=HLEN.out;unfold maxLen;omega) loc val (by have:=HALE.out.2.1;unfold maxLen;simp only at this;omega) (by have:=HALE.out.2.2;unfold maxLen;simp only at this;omega)
      have hb2:=(show Blk (w1.drewN nq2) w.heap.size _ _ from HBQ.out).mod (turned_mod ht2) (fun hh=>hnq.2 (by rw [hh];exact List.mem_cons_self))
      have hcq2:=hb2.cell
      have hfq2:=hb2.frozen
      have HN2:=Lib.hid hn2
      have HT2:=Lib.hid ht2
      clear hn2 ht2 hb2 hcq hfq
      go_simp
      refine hK.out _ _ ?_
      clear hK K
      (repeat (first|(with_reducible refine wpPi_nil (fun nq=>?_))|((with_reducible refine wpPi_free rfl rfl (fun K hK=>?_));go_simp;refine hK _ ?_;clear hK K)|((with_reducible refine wpPi_quiet rfl rfl (fun K hK=>?_));go_simp;refine hK _ ?_;clear hK K)|((with_reducible refine wpPi_eff rfl rfl (fun nq K hK=>?_));go_simp;refine hK.out _ _ ?_;clear hK K)))
      (try (repeat (first|(with_reducible first|refine zA fun K hK=>?_|refine zB ?_|refine zC ?_)|((with_reducible first|refine zD rfl fun K hK=>?_|refine zE fun K hK=>?_);go_simp)|(with_reducible first|((repeat ((fail_if_success refine hK _ _ ?_);clear hK K));refine hK _ _ ?_;clear hK K)|refine zt ?_|refine zf ?_|refine zG ?_|refine zR ?_|refine zK ?_|refine zL ?_|refine zN ?_|refine zS ?_)|simp only [Exit.then,Exit.inBlock,Exit.noGoto,↓reduceIte,Nat.reduceEqDiff]|simp only [undef,reduceCtorEq,↓reduceIte])))
      have hm2:Mod (fun k=>k=m) w1 (w2.drewN nq):=((show Mod (fun k=>k=m) w1 (w1.drewN _) from (Mod.refl _ w1).drewN _).trans (turned_mod HT2.out) (fun _ _ h=>h)).drewN nq
      have hO2:=HO1.out.turned hm2 (HN2.out.drewN nq)
      have hS2:=HSB.out.more hm2 (fun k hk=>by subst hk;exact ⟨List.mem_cons_self,fun e=>HO1.out.s1 _ List.mem_cons_self (Or.inl (Or.inl e))⟩)
      (refine K_keep [0,5,8,101,102,103] (fun f=>?_);simp only [keep_cons,keep_nil,lk_cons,lk_nil,Nat.reduceEqDiff,↓reduceIte])
      refine HK2.out _ _ ⟨ats.length - (i + 1),by rw [HK.out];omega,HJ.out _ _ _ ⟨f,_,sb1,fb1,n + 1,i + 1,rfl,hS2,?_,rfl,hlt,?_,HB1.out,HB2.out⟩⟩
      · rw [HSN.out,show bind1 (xmlnsL,loc,val) (stk,ns)=({ kind:=1,space:=(ns loc).getD [],loc:=loc,ok:=(ns loc).isSome } :: stk,setNs ns loc (some val)) from rfl];exact hO2
      · have h9:n + stk.length ≤ n0 + stk0.length + 2 * i:=HNN.out
        rw [HSN.out,show bind1 (xmlnsL,loc,val) (stk,ns)=({ kind:=1,space:=(ns loc).getD [],loc:=loc,ok:=(ns loc).isSome } :: stk,setNs ns loc (some val)) from rfl]
        simp only [List.length_cons]
        omega
    · obtain ⟨a1,a2⟩:=lbne e1
      by_cases e2:sp=[]∧loc=xmlnsL
      · obtain ⟨rfl,rfl⟩:=e2
        have hlk:=HOA.out.ns.look [] (by simp)
        (repeat ((fail_if_success with_reducible refine wp_stop 30 ?_);(fail_if_success with_reducible refine wp_stop2 30 ?_);(first|(with_reducible first|refine zA fun K hK=>?_|refine zB ?_|refine zC ?_)|((with_reducible first|refine zD rfl fun K hK=>?_|refine zE fun K hK=>?_);go_simp)|(with_reducible first|((repeat ((fail_if_success refine hK _ _ ?_);clear hK K));refine hK _ _ ?_;clear hK K)|refine zt ?_|refine zf ?_|refine zG ?_|refine zR ?_|refine zK ?_|refine zL ?_|refine zN ?_|refine zS ?_)|simp only [Exit.then,Exit.inBlock,Exit.noGoto,↓reduceIte,Nat.reduceEqDiff]|simp only [undef,reduceCtorEq,↓reduceIte])))
        rw [show w.alloc (.cells #[.string ⟨#[]⟩,.string ⟨List.toArray xmlnsL⟩,.string ⟨List.toArray val⟩] 96)=wa from hwa.symm]
        clear hwa hcg0 hcg1 hcg2
        have hpu:=Lib.hid (pushNs_c x HX.out _ wa v (show DecAt wa x.d _ v from hda) (fun k hk=>Nat.lt_of_lt_of_le (HS1.out k hk) HSA.out.mod.size) (Nat.le_trans HB.out HSA.out.mod.size) m sb fb n stk ns (HOA.out) [] ((ns []).getD []) (ns []).isSome)
        (repeat (first|(with_reducible first|refine zA fun K hK=>?_|refine zB ?_|refine zC ?_)|((with_reducible first|refine zD rfl fun K hK=>?_|refine zE fun K hK=>?_);go_simp)|(with_reducible first|((repeat ((fail_if_success refine hK _ _ ?_);clear hK K));refine hK _ _ ?_;clear hK K)|refine zt ?_|refine zf ?_|refine zG ?_|refine zR ?_|refine zK ?_|refine zL ?_|refine zN ?_|refine zS ?_)|simp only [Exit.then,Exit.inBlock,Exit.noGoto,↓reduceIte,Nat.reduceEqDiff]|simp only [undef,reduceCtorEq,↓reduceIte]))
        refine hpu.out.mono ?_
        rintro e1 w1 ⟨rfl,c1,sb1,fb1,hs1,ho1⟩
        have hnq:w.heap.size ≠ x.d∧w.heap.size ∉ m :: (sb ++ fb):=⟨fun e=>by have:=HS1.out x.d (Or.inl (Or.inl rfl));have h9:=HS.out.mod.size;omega,fun hh=>Nat.lt_irrefl _ (HO.out.lt _ hh)⟩
        have hb1:=(show Blk wa w.heap.size _ _ from HBA.out).mod hs1.mod (fun hh=>by rcases hh with hh|hh;exact hnq.1 hh;exact hnq.2 hh)
        have hmp1:=ho1.map
        have HO1:=Lib.hid ho1
        have HSB:=Lib.hid ((HSA.out).trans hs1)
        obtain ⟨p1,p2,p3,p4,p5,p6,p7,p8,p9,p10,p11,p12,p13⟩:=c1
        simp only at hmp1
        subst hmp1
        have hc1:=hs1.dec.cell
        have hf1:=hs1.dec.frozen
        have hcq:=hb1.cell
        have HBQ:=Lib.hid hb1
        have hfq:=hb1.frozen
        clear hpu hs1 ho1 hb1 hc hf hca hfa hda
        go_simp
        (repeat (first|(with_reducible first|refine zA fun K hK=>?_|refine zB ?_|refine zC ?_)|((with_reducible first|refine zD rfl fun K hK=>?_|refine zE fun K hK=>?_);go_simp)|(with_reducible first|((repeat ((fail_if_success refine hK _ _ ?_);clear hK K));refine hK _ _ ?_;clear hK K)|refine zt ?_|refine zf ?_|refine zG ?_|refine zR ?_|refine zK ?_|refine zL ?_|refine zN ?_|refine zS ?_)|simp only [Exit.then,Exit.inBlock,Exit.noGoto,↓reduceIte,Nat.reduceEqDiff]|simp only [undef,reduceCtorEq,↓reduceIte]))
        (refine wp_keep [0,5,8,10,101,102,103] (fun f=>?_);simp only [keep_cons,keep_nil,lk_cons,lk_nil,Nat.reduceEqDiff,↓reduceIte])
        (refine wp_region_pi [0,0,0,1,0,1,2] [0,1,2,3,4,5,6] (by kernel_rfl) (by kernel_rfl) ?_;repeat (first|(with_reducible refine wpPi_nil (fun nq=>?_))|((with_reducible refine wpPi_free rfl rfl (fun K hK=>?_));go_simp;refine hK _ ?_;clear hK K)|((with_reducible refine wpPi_quiet rfl rfl (fun K hK=>?_));go_simp;refine hK _ ?_;clear hK K)|((with_reducible refine wpPi_eff rfl rfl (fun nq K hK=>?_));go_simp;refine hK.out _ _ ?_;clear hK K)))
        refine wpPi_eff rfl rfl (fun nq2 K hK=>?_)
        obtain ⟨w2,hr2,hn2,ht2⟩:=(HO1.out.ns.drewN nq2).store (by have h9:n + stk.length ≤ n0 + stk0.length + 2 * i:=HNN.out;have:=HN.out;have:=HLEN.out;unfold maxLen;omega) [] val (by simp) (by have:=HALE.out.2.2;unfold maxLen;simp only at this;omega)
        have hb2:=(show Blk (w1.drewN nq2) w.heap.size _ _ from HBQ.out).mod (turned_mod ht2) (fun hh=>hnq.2 (by rw [hh];exact List.mem_cons_self))
        have hcq2:=hb2.cell
        have hfq2:=hb2.frozen
        have HN2:=Lib.hid hn2
        have HT2:=Lib.hid ht2
        clear hn2 ht2 hb2 hcq hfq
        go_simp
        refine hK.out _ _ ?_
        clear hK K
        (repeat (first|(with_reducible refine wpPi_nil (fun nq=>?_))|((with_reducible refine wpPi_free rfl rfl (fun K hK=>?_));go_simp;refine hK _ ?_;clear hK K)|((with_reducible refine wpPi_quiet rfl rfl (fun K hK=>?_));go_simp;refine hK _ ?_;clear hK K)|((with_reducible refine wpPi_eff rfl rfl (fun nq K hK=>?_));go_simp;refine hK.out _ _ ?_;clear hK K)))
        (try (repeat (first|(with_reducible first|refine zA fun K hK=>?_|refine zB ?_|refine zC ?_)|((with_reducible first|refine zD rfl fun K hK=>?_|refine zE fun K hK=>?_);go_simp)|(with_reducible first|((repeat ((fail_if_success refine hK _ _ ?_);clear hK K));refine hK _ _ ?_;clear hK K)|refine zt ?_|refine zf ?_|refine zG ?_|refine zR ?_|refine zK ?_|refine zL ?_|refine zN ?_|refine zS ?_)|simp only [Exit.then,Exit.inBlock,Exit.noGoto,↓reduceIte,Nat.reduceEqDiff]|simp only [undef,reduceCtorEq,↓reduceIte])))
        have hm2:Mod (fun k=>k=m) w1 (w2.drewN nq):=((show Mod (fun k=>k=m) w1 (w1.drewN _) from (Mod.refl _ w1).drewN _).trans (turned_mod HT2.out) (fun _ _ h=>h)).drewN nq
        have hO2:=HO1.out.turned hm2 (HN2.out.drewN nq)
        have hS2:=HSB.out.more hm2 (fun k hk=>by subst hk;exact ⟨List.mem_cons_self,fun e=>HO1.out.s1 _ List.mem_cons_self (Or.inl (Or.inl e))⟩)
        (refine K_keep [0,5,8,101,102,103] (fun f=>?_);simp only [keep_cons,keep_nil,lk_cons,lk_nil,Nat.reduceEqDiff,↓reduceIte])
        refine HK2.out _ _ ⟨ats.length - (i + 1),by rw [HK.out];omega,HJ.out _ _ _ ⟨f,_,sb1,fb1,n + 1,i + 1,rfl,hS2,?_,rfl,hlt,?_,HB1.out,HB2.out⟩⟩
        · rw [HSN.out,show bind1 ([],xmlnsL,val) (stk,ns)=({ kind:=1,space:=(ns []).getD [],loc:=[],ok:=(ns []).isSome } :: stk,setNs ns [] (some val)) from rfl];exact hO2
        · have h9:n + stk.length ≤ n0 + stk0.length + 2 * i:=HNN.out
          rw [HSN.out,show bind1 ([],xmlnsL,val) (stk,ns)=({ kind:=1,space:=(ns []).getD [],loc:=[],ok:=(ns []).isSome } :: stk,setNs ns [] (some val)) from rfl]
          simp only [List.length_cons]
          omega
      · have hbr:(sp == [])=false ∨ ((sp == [])=true∧(loc == xmlnsL)=false):=by
          by_cases h3:sp=[]
          · refine Or.inr ⟨by rw [h3];rfl,(lbne (fun h4=>e2 ⟨h3,h4⟩)).1⟩
          · exact Or.inl (lbne h3).1
        have e9:bind1 (sp,loc,val) (stk,ns)=(stk,ns):=by
          unfold bind1
          rw [if_neg e1,if_neg e2]
        have E9:=Lib.hid e9
        clear e9 e2 e1
        rcases hbr with hbr|⟨hbr,hbr2⟩
        all_goals
          (repeat (first|(with_reducible first|refine zA fun K hK=>?_|refine zB ?_|refine zC ?_)|((with_reducible first|refine zD rfl fun K hK=>?_|refine zE fun K hK=>?_);go_simp)|(with_reducible first|((repeat ((fail_if_success refine hK _ _ ?_);clear hK K));refine hK _ _ ?_;clear hK K)|refine zt ?_|refine zf ?_|refine zG ?_|refine zR ?_|refine zK ?_|refine zL ?_|refine zN ?_|refine zS ?_)|simp only [Exit.then,Exit.inBlock,Exit.noGoto,↓reduceIte,Nat.reduceEqDiff]|simp only [undef,reduceCtorEq,↓reduceIte]))
          rw [show w.alloc (.cells #[.string ⟨List.toArray sp⟩,.string ⟨List.toArray loc⟩,.string ⟨List.toArray val⟩] 96)=wa from hwa.symm]
          (refine K_keep [0,5,8,101,102,103] (fun f=>?_);simp only [keep_cons,keep_nil,lk_cons,lk_nil,Nat.reduceEqDiff,↓reduceIte])
          refine HK2.out _ _ ⟨ats.length - (i + 1),by rw [HK.out];omega,HJ.out _ _ _ ⟨f,_,sb,fb,n,i + 1,rfl,HSA.out,?_,rfl,hlt,?_,HB1.out,HB2.out⟩⟩
          · rw [HSN.out,E9.out];exact HOA.out
          · have h9:n + stk.length ≤ n0 + stk0.length + 2 * i:=HNN.out
            rw [HSN.out,E9.out]
            simp only
            omega
  · have hii:i=ats.length:=by omega
    subst hii
    have h1:¬ ((ats.length:Int) < (ats.length:Int)):=by omega
    (repeat (first|(with_reducible first|refine zA fun K hK=>?_|refine zB ?_|refine zC ?_)|((with_reducible first|refine zD rfl fun K hK=>?_|refine zE fun K hK=>?_);go_simp)|(with_reducible first|((repeat ((fail_if_success refine hK _ _ ?_);clear hK K));refine hK _ _ ?_;clear hK K)|refine zt ?_|refine zf ?_|refine zG ?_|refine zR ?_|refine zK ?_|refine zL ?_|refine zN ?_|refine zS ?_)|simp only [Exit.then,Exit.inBlock,Exit.noGoto,↓reduceIte,Nat.reduceEqDiff]|simp only [undef,reduceCtorEq,↓reduceIte]))
    refine Q_keep [0,5,8] (fun f=>?_);simp only [keep_cons,keep_nil,lk_cons,lk_nil,Nat.reduceEqDiff,↓reduceIte]
    have h2:=HO.out
    have h3:=HNN.out
    have h4:=HOK.out
    have h5:=HNS.out
    rw [List.take_length] at h2 h3 h4 h5
    exact HQ.out f c w sb fb n HS.out h2 h3 h4 h5
end Go.Proofs.YtkjnockljapnbaaGreatDoor
namespace Go.Proofs.YtkjnockljapnbaaGreatDoor
open Go Go.RowKit
theorem transL_snd (o:Opt) (ns:Bs → Option Bs) (nm:Bs × Bs) (el:Bool):(transL o ns nm el).2=nm.2:=by
  unfold transL
  split
  · rfl
  split
  · rfl
  split
  · rfl
  have key:∀ sp:Bs,(match ns sp with|some v=>(v,nm.2)|none=>if sp=[] then (o.space,nm.2) else (sp,nm.2):Bs × Bs).2=nm.2:=by
    intro sp
    cases ns sp with
    | some v=>rfl
    | none=>simp only;split <;> rfl
  exact key _
def trA (o:Opt) (ns:Bs → Option Bs) (a:At3):At3:=let q:=transL o ns (a.1,a.2.1) false;(q.1,q.2,a.2.2)
theorem trA_eq (o:Opt) (ns:Bs → Option Bs) (a:At3):trA o ns a=((transL o ns (a.1,a.2.1) false).1,a.2):=by
  unfold trA
  simp only [transL_snd]
theorem atCells_set (s:Bs):∀ (l:List At3) (i:Nat) (a:At3),l[i]?=some a → (atCells l).set (i * 3) (strV s)=atCells (l.set i (s,a.2))
  | [],i,a,h=>by simp at h
  | b :: l,0,a,h=>by
    simp only [List.getElem?_cons_zero,Option.some.injEq] at h
    subst h;rfl
  | b :: l,i + 1,a,h=>by
    simp only [List.getElem?_cons_succ] at h
    have ih:=atCells_set s l i a h
    have e:∀ (b:At3) (l:List At3),atCells (b :: l)=[strV b.1,strV b.2.1,strV b.2.2] ++ atCells l:=fun _ _=>rfl
    rw [e,List.set_cons_succ,e,← ih,List.set_append_right _ _ (by simp;omega)]
    congr 2
    simp;omega
theorem at_set {cur:Array Value} {l:List At3} {n:Nat} (hn:n=l.length) (h:cur.toList.take (n * 3)=atCells l) {i:Nat} {a:At3} (ha:l[i]?=some a) (s:Bs):(cur.setIfInBounds (i * 3) (strV s)).toList.take (n * 3)=atCells (l.set i (s,a.2)):=by
  rw [Array.toList_setIfInBounds,List.take_set,h,atCells_set s l i a ha]
theorem mid_set (f:At3 → At3) (ats:List At3) (i:Nat) (a:At3) (ha:ats[i]?=some a):((ats.take i).map f ++ ats.drop i)[i]?=some a∧((ats.take i).map f ++ ats.drop i).set i (f a)=(ats.take (i + 1)).map f ++ ats.drop (i + 1):=by
  obtain ⟨hi,he⟩:=List.getElem?_eq_some_iff.1 ha
  have hd:ats.drop i=a :: ats.drop (i + 1):=by rw [← he];exact List.drop_eq_getElem_cons hi
  have hl:((ats.take i).map f).length=i:=by simp;omega
  have ht:ats.take (i + 1)=ats.take i ++ [a]:=by rw [List.take_succ,ha];rfl
  constructor
  · rw [List.getElem?_append_right (by omega),hl,hd];simp
  · rw [List.set_append_right _ _ (by omega),hl,hd,ht];simp
def TrInv (x:Cx) (w0:World) (ns:Bs → Option Bs) (t8 g:Nat) (sz:Nat) (ats:List At3) (k:Nat) (a:Act) (w:World):Prop:=
  ∃ f i cur,a=fr 204 f [(0,decP x),(5,.nilIface),(8,.pointer (some ⟨t8,0,none⟩)),(176,.int .i64 ats.length),(177,.int .i64 (i:Nat))]∧Mod (fun b=>b=g) w0 w ∧
    Blk w g cur 96∧cur.size=sz∧cur.toList.take (ats.length * 3)=atCells ((ats.take i).map (trA x.o ns) ++ ats.drop i)∧k=ats.length - i∧i ≤ ats.length
theorem tkTrans (x:Cx) (hx:x.Ok) (c:DC) (w0:World) (v:DV) (hd:DecAt w0 x.d c v) (m n:Nat) (ns:Bs → Option Bs) (hmap:c.ns=.map (some m)) (hns:NsAt w0 m n ns) (hsp:c.space=⟨x.o.space.toArray⟩)
    (ats:List At3) (hats:∀ a ∈ ats,AtLe 1000000000 a) (hlen:ats.length ≤ 1000000000) (t8 g cap:Nat) (nm:Bs × Bs) (cur:Array Value) (hg:Blk w0 g cur 96) (hcur:cur.toList.take (ats.length * 3)=atCells ats) (hgn:g ≠ x.d∧g ≠ m∧g ≠ t8)
    (ht8:Blk w0 t8 #[strV nm.1,strV nm.2,.slice (some ⟨g,0,none⟩) ats.length cap] 94) (Q:Exit → Act → World → Prop)
    (hQ:∀ f w cur',Mod (fun b=>b=g) w0 w → Blk w g cur' 96 → cur'.size=cur.size → cur'.toList.take (ats.length * 3)=atCells (ats.map (trA x.o ns)) → Q .normal (fr 204 f [(0,decP x),(5,.nilIface),(8,.pointer (some ⟨t8,0,none⟩))]) w) (f:Nat → Value) (c1:Code) (hc1:c1=.loop (tkCode 37)) :
    c1.wp Tryz.prog (Exit.inBlock 3 Q) (fr 204 f [(0,decP x),(5,.nilIface),(8,.pointer (some ⟨t8,0,none⟩)),(176,.int .i64 ats.length),(177,.int .i64 0)]) w0:=by
  subst hc1
  have HX:=Lib.hid hx
  have HQ:=Lib.hid hQ
  have HATS:=Lib.hid hats
  have HLEN:=Lib.hid hlen
  have HGN:=Lib.hid hgn
  have HD:=Lib.hid hd
  have HNS:=Lib.hid hns
  have HSP:=Lib.hid hsp
  have HMP:=Lib.hid hmap
  have HT8:=Lib.hid ht8
  refine wp_loop_ghost_k (TrInv x w0 ns t8 g cur.size ats) ats.length ⟨f,0,cur,rfl,Mod.refl _ _,hg,rfl,by simpa using hcur,by simp,Nat.zero_le _⟩ ?_
  clear hd hx hQ hats hlen hg hcur hgn hns hsp hmap ht8
  rintro k _ w ⟨f,i,cur1,rfl,hm,hg,hsz,hcur,hk,hi⟩ J K2 hJ hK2
  have HJ:=Lib.hid hJ
  have HK2:=Lib.hid hK2
  have HM:=Lib.hid hm
  have HG:=Lib.hid hg
  have HSZ:=Lib.hid hsz
  have HCUR:=Lib.hid hcur
  have HK:=Lib.hid hk
  clear hJ hK2 hm hg hsz hcur hk
  unfold tkCode
  conv=>arg 2;whnf
  by_cases hlt:i < ats.length
  · have h1:(i:Int) < (ats.length:Int):=by omega
    have h0:(0:Int) ≤ (i:Int):=by omega
    have hw1:IntKind.i64.wrap ((i:Int) + 1)=((i + 1:Nat):Int):=by rw [IntKind.wrap_i64];have:=HLEN.out;omega
    obtain ⟨a,ha⟩:∃ a,ats[i]?=some a:=⟨ats[i],by simp [hlt]⟩
    obtain ⟨k0,k9⟩:=mid_set (trA x.o ns) ats i a ha
    have hll:((ats.take i).map (trA x.o ns) ++ ats.drop i).length=ats.length:=by simp;omega
    have hcur:=HCUR.out
    rw [← hll] at hcur
    obtain ⟨k1,k2,k3⟩:=at_cell hcur k0
    have hset:=at_set hll.symm HCUR.out k0 (transL x.o ns (a.1,a.2.1) false).1
    rw [← trA_eq,k9] at hset
    have HSET:=Lib.hid hset
    have ht8w:=HT8.out.mod HM.out (fun hh=>HGN.out.2.2 hh.symm)
    have hct:=ht8w.cell
    have hft:=ht8w.frozen
    have hdw:DecAt w x.d c v:=Blk.mod HD.out HM.out (fun hh=>HGN.out.1 hh.symm)
    have htr:=Lib.hid (translate_c x c w v hdw m n ns HMP.out (HNS.out.mod HM.out (fun hh=>HGN.out.2.1 hh.symm)) HSP.out g cur1 _ HG.out HGN.out.1 HGN.out.2.1 (i * 3) (a.1,a.2.1) k1 k2 (Nat.le_trans (HATS.out a (List.mem_of_getElem? ha)).1 (by decide)) false)
    clear hset k0 k1 k2 k3 k9 hcur ht8w hdw hll
    (repeat (first|(with_reducible first|refine zA fun K hK=>?_|refine zB ?_|refine zC ?_)|((with_reducible first|refine zD rfl fun K hK=>?_|refine zE fun K hK=>?_);go_simp)|(with_reducible first|((repeat ((fail_if_success refine hK _ _ ?_);clear hK K));refine hK _ _ ?_;clear hK K)|refine zt ?_|refine zf ?_|refine zG ?_|refine zR ?_|refine zK ?_|refine zL ?_|refine zN ?_|refine zS ?_)|simp only [Exit.then,Exit.inBlock,Exit.noGoto,↓reduceIte,Nat.reduceEqDiff]|simp only [undef,reduceCtorEq,↓reduceIte]))
    refine htr.out.mono ?_
    rintro e1 w1 ⟨rfl,hm1,hb1,hz1⟩
    clear hct hft htr
    go_simp
    (repeat (first|(with_reducible first|refine zA fun K hK=>?_|refine zB ?_|refine zC ?_)|((with_reducible first|refine zD rfl fun K hK=>?_|refine zE fun K hK=>?_);go_simp)|(with_reducible first|((repeat ((fail_if_success refine hK _ _ ?_);clear hK K));refine hK _ _ ?_;clear hK K)|refine zt ?_|refine zf ?_|refine zG ?_|refine zR ?_|refine zK ?_|refine zL ?_|refine zN ?_|refine zS ?_)|simp only [Exit.then,Exit.inBlock,Exit.noGoto,↓reduceIte,Nat.reduceEqDiff]|simp only [undef,reduceCtorEq,↓reduceIte]))
    (refine K_keep [0,5,8,176,177] (fun f=>?_);simp only [keep_cons,keep_nil,lk_cons,lk_nil,Nat.reduceEqDiff,↓reduceIte])
    exact HK2.out _ _ ⟨ats.length - (i + 1),by rw [HK.out];omega,HJ.out _ _ _ ⟨f,i + 1,_,rfl,HM.out.trans hm1 (fun _ _ h=>h),hb1,by simpa using HSZ.out,HSET.out,rfl,hlt⟩⟩
  · have hii:i=ats.length:=by omega
    subst hii
    have h1:¬ ((ats.length:Int) < (ats.length:Int)):=by omega
    (repeat (first|(with_reducible first|refine zA fun K hK=>?_|refine zB ?_|refine zC ?_)|((with_reducible first|refine zD rfl fun K hK=>?_|refine zE fun K hK=>?_);go_simp)|(with_reducible first|((repeat ((fail_if_success refine hK _ _ ?_);clear hK K));refine hK _ _ ?_;clear hK K)|refine zt ?_|refine zf ?_|refine zG ?_|refine zR ?_|refine zK ?_|refine zL ?_|refine zN ?_|refine zS ?_)|simp only [Exit.then,Exit.inBlock,Exit.noGoto,↓reduceIte,Nat.reduceEqDiff]|simp only [undef,reduceCtorEq,↓reduceIte]))
    refine Q_keep [0,5,8] (fun f=>?_);simp only [keep_cons,keep_nil,lk_cons,lk_nil,Nat.reduceEqDiff,↓reduceIte]
    refine HQ.out f w cur1 HM.out HG.out HSZ.out ?_
    have:=HCUR.out
    simpa using this
end Go.Proofs.YtkjnockljapnbaaGreatDoor
