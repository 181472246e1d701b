/- Part of the proof that laws.FnBalanced returns true for every argument (Sl, Iu, Iv). No condition of its own. -/
import Derived.Test.YtkjnockljapnbaaGreatDoorO43
import Derived.Test.YtkjnockljapnbaaGreatDoorO44
import Derived.Test.YtkjnockljapnbaaGreatDoorO27
set_option linter.all false
set_option maxHeartbeats 8000000
set_option maxRecDepth 100000
namespace Go.Proofs.YtkjnockljapnbaaGreatDoor
open Go Go.RowKit
theorem RdS.notRow {x:Cx} {c:DC} {w:World} {v:DV} {rest:Bs} {e:Option EK} {buf:Bs} (h:RdS x c w v rest e buf) {g:Nat} {cur:Array Value} (hg:Blk w g cur 96) (h0:¬ x.S0 g):¬ x.S1 v g:=by
  rintro (h1|h1)
  · exact h0 h1
  · rcases h.bf with ⟨hv,_⟩|⟨g',cap,arr,hv,hb,_⟩
    · rw [hv] at h1;exact h1
    · rw [hv] at h1
      have h2:g=g':=h1
      subst h2
      unfold Blk at hb hg
      rw [hb] at hg
      simp at hg
theorem tkStart (x:Cx) (hx:x.All) (c:DC) (w:World) (v:DV) (s:St) (m:Nat) (sb fb:List Nat) (n B:Nat) (tv:Value) (nm:Bs × Bs) (ats:List At3) (h:RawSt x c w v s m sb fb n B tv (.start nm ats)) (hsn:s.next=none) (Q:Exit → Act → World → Prop)
    (hQ:∀ f w' t e,WkPost x w v c (workL x.o (.start nm ats) s) m sb fb tv t e w' → Q .ret (fr 204 f [(2,t),(3,e)]) w') (f:Nat → Value):(tkCode 19).wp Tryz.prog Q (fr 204 f [(0,decP x),(4,tv),(5,.nilIface)]) w:=by
  obtain ⟨sv,rfl,hne,hrow⟩:=h.tok
  obtain ⟨g,cap,cur,rfl,hgB,hgc,hncap,hcap,hsz,hcur⟩:∃ g cap cur,sv=.slice (some ⟨g,0,none⟩) ats.length cap∧B ≤ g∧w.heap[g]?=some (.cells cur 96 (0,0))∧ats.length ≤ cap∧cap ≤ maxLen∧cur.size=cap * 3∧cur.toList.take (ats.length * 3)=atCells ats:=by
    rcases hrow.2 with h9|h9
    · exact absurd (h9.2 ▸ h9.1) hne
    · exact h9
  have q3:=fun a b s w=>taStS a b s w
  obtain ⟨hen,b0,hR⟩:s.ended=false∧∃ b,RdS x c w v s.rest none b:=by
    rcases h.nt (by simp) with h1|⟨nm',e,stk',h1,_⟩
    · exact h1
    · cases h1
  obtain ⟨wt,hwt⟩:∃ wt,wt=w.alloc (.cells #[strV nm.1,strV nm.2,.slice (some ⟨g,0,none⟩) ats.length cap] 94):=⟨_,rfl⟩
  have hbl:Below w.heap.size w wt:=by rw [hwt];exact (Below.refl _ w).alloc (Nat.le_refl _) _
  have hal:Mod (fun _=>False) w wt:=mod_none hbl _
  have hR2:=hR.below hx.toOk hbl
  have hob:∀ k ∈ m :: (sb ++ fb),k < w.heap.size:=h.own.lt
  have hdB:x.d < w.heap.size:=hR.dec.lt
  have hlen:=hx.len
  obtain ⟨k1,k2,k3,k4⟩:TkLe x.T.length (.start nm ats):=by
    rcases h.le with h1|⟨nm',e,stk',h1,_⟩
    · exact h1
    · cases h1
  have hnx:c.nextTok=.nilIface:=by
    have h9:=h.nxt
    unfold NxAt at h9
    rw [hsn] at h9;exact h9
  have HNX:=Lib.hid hnx
  have HSN:=Lib.hid hsn
  clear hnx hsn
  have hgw:Blk w g cur 96:=hgc
  have hgt:Blk wt g cur 96:=hgw.mod hal id
  have htt:Blk wt w.heap.size #[strV nm.1,strV nm.2,.slice (some ⟨g,0,none⟩) ats.length cap] 94:=by rw [hwt];exact Blk.new w _ _
  have hown:=h.own.mod hal (fun _ _=>id) h.own.s1
  have HGL:=Lib.hid hgw.lt
  obtain ⟨hgo,hgS⟩:=h.tkd g rfl
  have HNS:=Lib.hid hgS
  have HN8:=Lib.hid hR.newS1
  have HROW:=Lib.hid (show B ≤ g∧ats.length ≤ cap∧cap ≤ maxLen∧cur.size=cap * 3∧cur.toList.take (ats.length * 3)=atCells ats from ⟨hgB,hncap,hcap,hsz,hcur⟩)
  have hgd:g ≠ x.d:=fun e=>hgS (e ▸ Or.inl (Or.inl rfl))
  have hbd9:n + s.stk.length + 2 * s.rest.length + 2 * nextW s.next + 2 * (1 + ats.length) ≤ 2 * x.T.length:=h.bnd
  have hbind:=fun Q hQ f c1 e=>tkBind x hx.toOk c wt v hR2.dec hR2.s1lt (Nat.le_trans h.hB (Nat.le_trans h.hBs hal.size)) m sb fb n s.stk s.ns hown h.sok h.nok ats (fun a ha=>(k3 a ha).mono hlen) (by omega) (by omega) w.heap.size g cap cur hgt hcur ⟨hgd,hgo⟩ Q hQ f c1 e
  have HBIND:=Lib.hid hbind
  have HQ:=Lib.hid hQ
  have H:=Lib.hid h
  have HX:=Lib.hid hx
  have HR2:=Lib.hid hR2
  have HT:=Lib.hid htt
  have HG:=Lib.hid hgt
  have HAL:=Lib.hid hal
  have HOB:=Lib.hid hob
  have HDB:=Lib.hid hdB
  have HL:=Lib.hid (show nm.1.length ≤ 1000000000∧nm.2.length ≤ 1000000000∧ats.length ≤ 1000000000 by omega)
  clear hbd9
  clear hbind hQ h hx hR hR2 hbl hown hne hrow hgc k1 k2 k4 hlen hgw hgt
  conv=>arg 2;unfold tkCode;whnf
  have hct:=htt.cell
  have hft:=htt.frozen
  clear htt
  (repeat (first|(with_reducible first|refine zA fun K hK=>?_|refine zB ?_|refine zC ?_)|((with_reducible first|refine zD rfl fun K hK=>?_|refine zE fun K hK=>?_);go_simp)|(with_reducible first|((repeat ((fail_if_success refine hK _ _ ?_);clear hK K));refine hK _ _ ?_;clear hK K)|refine zt ?_|refine zf ?_|refine zG ?_|refine zR ?_|refine zK ?_|refine zL ?_|refine zN ?_|refine zS ?_)|simp only [Exit.then,Exit.inBlock,Exit.noGoto,↓reduceIte,Nat.reduceEqDiff]|simp only [undef,reduceCtorEq,↓reduceIte]))
  rw [← hwt]
  clear hct hft
  (refine wp_keep [0,5,8,101,102,103] (fun f=>?_);simp only [keep_cons,keep_nil,lk_cons,lk_nil,Nat.reduceEqDiff,↓reduceIte])
  refine HBIND.out _ ?_ f _ (by kernel_rfl)
  intro f c1 w1 sb1 fb1 n1 hs1 ho1 hn1 hok1 hns1
  have HWK:=Lib.hid (show workL x.o (.start nm ats) s=.ok (.start (transL x.o (bindL ats s.stk s.ns).2 nm true) (ats.map (trA x.o (bindL ats s.stk s.ns).2)),
      { s with stk:={ kind:=0,space:=nm.1,loc:=nm.2,ok:=false } :: (bindL ats s.stk s.ns).1,ns:=(bindL ats s.stk s.ns).2 }) from rfl)
  obtain ⟨stk1,hstk1⟩:∃ a,a=(bindL ats s.stk s.ns).1:=⟨_,rfl⟩
  obtain ⟨ns1,hns1d⟩:∃ a,a=(bindL ats s.stk s.ns).2:=⟨_,rfl⟩
  rw [← hstk1] at hn1 hok1 HWK ho1
  rw [← hns1d] at hns1 HWK ho1
  have hwz:w.heap.size < wt.heap.size:=by rw [hwt];show _ < (w.heap.push _).size;rw [Array.size_push];omega
  have hnt:∀ k,(k=x.d ∨ k ∈ m :: (sb ++ fb)) → k < w.heap.size:=fun k hk=>by
    rcases hk with hk|hk
    · rw [hk];exact HDB.out
    · exact HOB.out k hk
  have hgs:g < wt.heap.size:=HG.out.lt
  have ht1:=HT.out.mod hs1.mod (fun hh=>Nat.lt_irrefl _ (hnt _ hh))
  have hg1:=HG.out.mod hs1.mod (fun hh=>by
    rcases hh with hh|hh
    · exact hgd hh
    · exact hgo hh)
  have hpu:=Lib.hid (pushElement_c x HX.out.toOk c1 w1 v hs1.dec (fun k hk=>Nat.lt_of_lt_of_le (HR2.out.s1lt k hk) hs1.mod.size) (Nat.le_trans (Nat.le_trans H.out.hB (Nat.le_trans H.out.hBs HAL.out.size)) hs1.mod.size) m sb1 fb1 n1 stk1 ns1 ho1 nm)
  have hct:=ht1.cell
  have hft:=ht1.frozen
  have HT1:=Lib.hid ht1
  have HG1:=Lib.hid hg1
  have HS1:=Lib.hid hs1
  have HN1:=Lib.hid hn1
  have HOK1:=Lib.hid hok1
  have HNS1:=Lib.hid hns1
  have HNT:=Lib.hid hnt
  clear ht1 hg1 hs1 ho1 hn1 hok1 hns1 HBIND hnt hwt hstk1 hns1d
  (repeat (first|(with_reducible first|refine zA fun K hK=>?_|refine zB ?_|refine zC ?_)|((with_reducible first|refine zD rfl fun K hK=>?_|refine zE fun K hK=>?_);go_simp)|(with_reducible first|((repeat ((fail_if_success refine hK _ _ ?_);clear hK K));refine hK _ _ ?_;clear hK K)|refine zt ?_|refine zf ?_|refine zG ?_|refine zR ?_|refine zK ?_|refine zL ?_|refine zN ?_|refine zS ?_)|simp only [Exit.then,Exit.inBlock,Exit.noGoto,↓reduceIte,Nat.reduceEqDiff]|simp only [undef,reduceCtorEq,↓reduceIte]))
  refine hpu.out.mono ?_
  rintro e2 w2 ⟨rfl,c2,sb2,fb2,hs2,ho2⟩
  have HS2:=Lib.hid (HS1.out.trans hs2)
  have hsub:∀ b,b ∈ m :: (sb1 ++ fb1) → b ∈ m :: (sb ++ fb) ∨ wt.heap.size ≤ b:=HS1.out.sub
  have hg1s:∀ k,(k=x.d ∨ k ∈ m :: (sb1 ++ fb1)) → k ≠ w.heap.size∧k ≠ g:=by
    rintro k (hk|hk)
    · rw [hk];exact ⟨Nat.ne_of_lt HDB.out,fun e=>hgd e.symm⟩
    · rcases hsub k hk with h9|h9
      · exact ⟨Nat.ne_of_lt (HOB.out k h9),fun e=>hgo (e ▸ h9)⟩
      · exact ⟨fun e=>by omega,fun e=>by omega⟩
  have ht2:=HT1.out.mod hs2.mod (fun hh=>(hg1s _ hh).1 rfl)
  have hg2:=HG1.out.mod hs2.mod (fun hh=>(hg1s _ hh).2 rfl)
  have hmN:m < w.heap.size:=HOB.out m List.mem_cons_self
  obtain ⟨sp2,fr2,dp2,hcs2⟩:=HS2.out.cs
  have hsp2:c2.space=⟨x.o.space.toArray⟩:=by rw [hcs2];exact H.out.cfg.sp
  have htr:=Lib.hid (translate_c x c2 w2 v hs2.dec m n1 ns1 ho2.map ho2.ns hsp2 w.heap.size _ _ ht2 (Nat.ne_of_gt HDB.out) (Nat.ne_of_gt hmN) 0 nm rfl rfl (Nat.le_trans HL.out.1 (by decide)) true)
  have HO2:=Lib.hid ho2
  have HG2:=Lib.hid hg2
  have HT2:=Lib.hid ht2
  clear hpu hct hft hs2 ho2 hg2 ht2 hsub hg1s
  go_simp
  (repeat (first|(with_reducible first|refine zA fun K hK=>?_|refine zB ?_|refine zC ?_)|((with_reducible first|refine zD rfl fun K hK=>?_|refine zE fun K hK=>?_);go_simp)|(with_reducible first|((repeat ((fail_if_success refine hK _ _ ?_);clear hK K));refine hK _ _ ?_;clear hK K)|refine zt ?_|refine zf ?_|refine zG ?_|refine zR ?_|refine zK ?_|refine zL ?_|refine zN ?_|refine zS ?_)|simp only [Exit.then,Exit.inBlock,Exit.noGoto,↓reduceIte,Nat.reduceEqDiff]|simp only [undef,reduceCtorEq,↓reduceIte]))
  refine htr.out.mono ?_
  rintro e3 w3 ⟨rfl,hm3,hb3,hz3⟩
  have htb3:Blk w3 w.heap.size #[strV (transL x.o ns1 nm true).1,strV nm.2,.slice (some ⟨g,0,none⟩) ats.length cap] 94:=hb3
  have ht8g:g ≠ w.heap.size:=Nat.ne_of_lt HGL.out
  have hd3:DecAt w3 x.d c2 v:=Blk.mod HS2.out.dec hm3 (Nat.ne_of_lt HDB.out)
  have hgm:g ≠ m:=fun e=>hgo (by rw [e];exact List.mem_cons_self)
  have hg3:=HG2.out.mod hm3 ht8g
  have ho3:Own x w3 c2 v m sb2 fb2 n1 _ ns1:=HO2.out.mod hm3 (fun b hb he=>by
    rcases HS2.out.sub b hb with h9|h9
    · exact Nat.lt_irrefl _ (he ▸ HOB.out b h9)
    · omega) HO2.out.s1
  have HTR:=Lib.hid (fun Q hQ f c1 e=>tkTrans x HX.out.toOk c2 w3 v hd3 m n1 ns1 ho3.map ho3.ns hsp2 ats (fun a ha=>(k3 a ha).mono HX.out.len) HL.out.2.2 w.heap.size g cap ((transL x.o ns1 nm true).1,nm.2) cur hg3 hcur ⟨hgd,hgm,ht8g⟩ htb3 Q hQ f c1 e)
  have hct:=htb3.cell
  have hft:=htb3.frozen
  have HT3:=Lib.hid htb3
  have HM3:=Lib.hid hm3
  have HD3:=Lib.hid hd3
  have HO3:=Lib.hid ho3
  clear htr hb3 hz3 htb3 hm3 hd3 hg3 ho3
  go_simp
  (repeat (first|(with_reducible first|refine zA fun K hK=>?_|refine zB ?_|refine zC ?_)|((with_reducible first|refine zD rfl fun K hK=>?_|refine zE fun K hK=>?_);go_simp)|(with_reducible first|((repeat ((fail_if_success refine hK _ _ ?_);clear hK K));refine hK _ _ ?_;clear hK K)|refine zt ?_|refine zf ?_|refine zG ?_|refine zR ?_|refine zK ?_|refine zL ?_|refine zN ?_|refine zS ?_)|simp only [Exit.then,Exit.inBlock,Exit.noGoto,↓reduceIte,Nat.reduceEqDiff]|simp only [undef,reduceCtorEq,↓reduceIte]))
  (refine wp_keep [0,5,8,176,177] (fun f=>?_);simp only [keep_cons,keep_nil,lk_cons,lk_nil,Nat.reduceEqDiff,↓reduceIte])
  refine HTR.out _ ?_ f _ (by kernel_rfl)
  intro f w4 cur4 hm4 hg4 hsz4 hcur4
  have ht4:=HT3.out.mod hm4 (fun e=>ht8g e.symm)
  have hct4:=ht4.cell
  have hft4:=ht4.frozen
  have HM4:=Lib.hid hm4
  have HG4:=Lib.hid hg4
  have HSZ4:=Lib.hid hsz4
  have HCUR4:=Lib.hid hcur4
  clear ht4 hm4 hg4 hsz4 hcur4 HTR hct hft
  (repeat (first|(with_reducible first|refine zA fun K hK=>?_|refine zB ?_|refine zC ?_)|((with_reducible first|refine zD rfl fun K hK=>?_|refine zE fun K hK=>?_);go_simp)|(with_reducible first|((repeat ((fail_if_success refine hK _ _ ?_);clear hK K));refine hK _ _ ?_;clear hK K)|refine zt ?_|refine zf ?_|refine zG ?_|refine zR ?_|refine zK ?_|refine zL ?_|refine zN ?_|refine zS ?_)|simp only [Exit.then,Exit.inBlock,Exit.noGoto,↓reduceIte,Nat.reduceEqDiff]|simp only [undef,reduceCtorEq,↓reduceIte]))
  refine Q_keep [2,3] (fun f=>?_);simp only [keep_cons,keep_nil,lk_cons,lk_nil,Nat.reduceEqDiff,↓reduceIte]
  refine HQ.out f _ _ _ ?_
  rw [HWK.out]
  have hsnd:nm.2=(transL x.o ns1 nm true).2:=(transL_snd _ _ _ _).symm
  have htv:(Value.iface 94 (.agg #[strV (transL x.o ns1 nm true).1,strV nm.2,.slice (some ⟨g,0,none⟩) ats.length cap]))=stV (transL x.o ns1 nm true) (.slice (some ⟨g,0,none⟩) ats.length cap):=by
    show _=Value.iface _ (.agg #[strV (transL x.o ns1 nm true).1,strV (transL x.o ns1 nm true).2,.slice (some ⟨g,0,none⟩) ats.length cap])
    rw [← hsnd]
  rw [htv]
  obtain ⟨r1,r2,r3,r4,r5⟩:=HROW.out
  have hmT:Mod (fun b=>(b=x.d ∨ b ∈ m :: (sb ++ fb)) ∨ b=w.heap.size ∨ b=g) wt w4:=by
    refine (HS2.out.mod.mono (fun _ _ hk=>Or.inl hk)).trans ((HM3.out.mono (fun _ _ hk=>Or.inr (Or.inl hk))).trans (HM4.out.mono (fun _ _ hk=>Or.inr (Or.inr hk))) (fun _ _ hk=>hk)) (fun _ _ hk=>hk)
  have hd4:DecAt w4 x.d c2 v:=Blk.mod HD3.out HM4.out (fun e=>hgd e.symm)
  have hg2n:g ∉ m :: (sb2 ++ fb2):=fun hh=>by
    rcases HS2.out.sub g hh with h9|h9
    · exact hgo h9
    · omega
  have ho4:=HO3.out.mod HM4.out (fun b hb he=>hg2n (he ▸ hb)) HO3.out.s1
  have hrd4:RdS x c2 w4 v s.rest none b0:=HR2.out.own HX.out.toOk hd4 hmT (fun k hk=>by
    rcases hk with (hk|hk)|hk|hk
    · exact Or.inl hk
    · exact Or.inr ⟨H.out.own.s1 k hk,H.out.own.base k hk⟩
    · rw [hk];exact Or.inr ⟨HN8.out,Nat.le_trans H.out.hB H.out.hBs⟩
    · rw [hk];exact Or.inr ⟨HNS.out,Nat.le_trans H.out.hB r1⟩)
  have hsame:=HS2.out.same
  refine ⟨rfl,c2,v,sb2,fb2,n1,⟨H.out.cfg.same hsame,⟨⟨none,b0,hrd4,fun hh=>?_,fun hh=>absurd rfl hh⟩,?_,?_,H.out.rd.nb⟩,ho4,?_,HNS1.out,H.out.tcl,?_,NxAt.none HSN.out (by rw [hsame.next];exact HNX.out)⟩,⟨B,_,rfl,by simp,?_⟩,?_,fun b hb=>?_,rfl,hsame.next⟩
  · have h9:s.ended=true:=hh
    rw [hen] at h9;cases h9
  · rw [hcs2];exact H.out.rd.nc
  · rw [hcs2];exact H.out.rd.tc
  · intro e he
    rcases List.mem_cons.1 he with rfl|he
    · have:=HL.out;exact ⟨Or.inl rfl,by simp only;omega,by simp only;omega⟩
    · exact HOK1.out e he
  · have h8:=HN1.out
    have h9:n + s.stk.length + 2 * s.rest.length + 2 * nextW s.next + 2 * (1 + ats.length) ≤ 2 * x.T.length:=H.out.bnd
    simp only [List.length_cons]
    omega
  · refine ⟨by rw [atCells_len],Or.inr ⟨g,cap,cur4,by simp,r1,HG4.out,by simpa using r2,r3,by rw [HSZ4.out,r4],by simpa using HCUR4.out⟩⟩
  · refine (HAL.out.mono (fun _ _ h=>h.elim)).trans hmT (fun i hi hs=>?_)
    rcases hs with (hs|hs)|hs|hs
    · exact Or.inl hs
    · exact Or.inr (Or.inl hs)
    · omega
    · exact Or.inr (Or.inr hs)
  · rcases HS2.out.sub b hb with h9|h9
    · exact Or.inl h9
    · exact Or.inr (by omega)
end Go.Proofs.YtkjnockljapnbaaGreatDoor
namespace Go.Proofs.YtkjnockljapnbaaGreatDoor
open Go Go.RowKit
theorem itaInfo:(Tryz.prog.info? 61).map (fun i=>(i.zero,i.size,i.bytes))=some (some (.agg #[.string ⟨#[]⟩,.string ⟨#[]⟩,.string ⟨#[]⟩]),3,48):=by kernel_rfl
theorem ita_append (w3:World) (base:Nat) (hb:base ≤ w3.heap.size) (v:Value) (acc:List At3) (hn:acc.length ≤ 1000000000) (h:w3.ownsRow base 61 3 v acc.length (atCells acc)) (a:At3) :
    ∃ v' w4,(Builtin.append_ #[31,31] 31 #[v,.slice (some ⟨w3.heap.size,0,none⟩) 1 1]).run Tryz.prog (w3.alloc (.cells #[strV a.1,strV a.2.1,strV a.2.2] 61))=.ok v' w4 ∧
      w4.ownsRow base 61 3 v' (acc ++ [a]).length (atCells (acc ++ [a]))∧(w3.alloc (.cells #[strV a.1,strV a.2.1,strV a.2.2] 61)).grownBy w4 v.ownBlock∧(v'.ownBlock=v.ownBlock ∨ v'.ownBlock=some (w3.heap.size + 1)):=by
  obtain ⟨i,hi,hz,h1,h2⟩:=info_parts itaInfo
  obtain ⟨v',w4,hr,ho,hg,hnil,hown⟩:=run_append_own_at (P:=Tryz.prog) (w3.alloc (.cells #[strV a.1,strV a.2.1,strV a.2.2] 61)) base 31 31 61 i _ 3 48 Tryz.underlying31 hi hz h1 h2 rfl (by omega) v acc.length (atCells acc) (h.alloc _) ⟨w3.heap.size,0,none⟩ 1 1 [strV a.1,strV a.2.1,strV a.2.2] rfl
    (by
      intro j u hj
      have hb:=Blk.new w3 #[strV a.1,strV a.2.1,strV a.2.2] 61
      rw [show ((⟨w3.heap.size,0,none⟩:Addr).add j)=⟨w3.heap.size,j,none⟩ by cases j <;> simp [Addr.add],hb.cell]
      simpa using hj)
    (by
      intro u hu
      simp only [List.mem_cons,List.not_mem_nil,or_false] at hu
      rcases hu with rfl|rfl|rfl <;> rfl)
    (by unfold maxLen;omega) (by omega) (by simp;omega)
  refine ⟨v',w4,hr,?_,hg,by simpa using hown⟩
  have e1:atCells (acc ++ [a])=atCells acc ++ [strV a.1,strV a.2.1,strV a.2.2]:=by simp [atCells]
  rw [e1,List.length_append]
  exact ho
theorem ownsRow_slice {w:World} {base:Nat} {e:TypeId} {size:Nat} {v:Value} {n:Nat} {xs:List Value} (h:w.ownsRow base e size v n xs):∃ sa sl sc,v=.slice sa sl sc:=by
  rcases h.2 with ⟨rfl,_⟩|⟨g,cap,cur,rfl,_⟩
  · exact ⟨_,_,_,rfl⟩
  · exact ⟨_,_,_,rfl⟩
structure IuSt (w0:World) (nm:Bs × Bs) (i5:Nat) (i6 i7:Int) (g:Nat) (cur:Array Value) (acc:List At3) (sa:Option Addr) (sl sc:Nat) (w:World):Prop where
  below:Below w0.heap.size w0 w
  z:Blk w w0.heap.size itZero 33
  t5:Blk w (w0.heap.size + 1) #[.int .i64 1,strV nm.1,strV nm.2,.slice sa sl sc,.string ⟨#[]⟩,.int .i64 i5,.int .i64 i6,.int .i64 i7] 33
  src:Blk w g cur 96
  row:w.ownsRow w0.heap.size 61 3 (.slice sa sl sc) acc.length (atCells acc)
  rowS:∀ k,(Value.slice sa sl sc).ownBlock=some k → k ≠ w0.heap.size∧k ≠ w0.heap.size + 1
  sz:w0.heap.size + 2 ≤ w.heap.size
def IuInv (w0:World) (nm:Bs × Bs) (i5:Nat) (i6 i7:Int) (g cap:Nat) (cur:Array Value) (ats:List At3) (k:Nat) (a:Act) (w:World):Prop:=
  ∃ f i sa sl sc,a=fr 104 f [(4,.pointer (some ⟨w0.heap.size,0,none⟩)),(5,.pointer (some ⟨w0.heap.size + 1,0,none⟩)),(38,.slice (some ⟨g,0,none⟩) ats.length cap),(39,.int .i64 ats.length),(40,.int .i64 (i:Nat))] ∧
    IuSt w0 nm i5 i6 i7 g cur (ats.take i) sa sl sc w∧k=ats.length - i∧i ≤ ats.length
theorem itLoop (w0 w:World) (nm:Bs × Bs) (i5:Nat) (i6 i7:Int) (g cap:Nat) (cur:Array Value) (ats:List At3) (hlen:ats.length ≤ 1000000000) (hg:g < w0.heap.size) (hcur:cur.toList.take (ats.length * 3)=atCells ats) (h:IuSt w0 nm i5 i6 i7 g cur [] none 0 0 w) (Q:Exit → Act → World → Prop)
    (hQ:∀ f w' sa sl sc,IuSt w0 nm i5 i6 i7 g cur ats sa sl sc w' → Q .normal (fr 104 f [(4,.pointer (some ⟨w0.heap.size,0,none⟩)),(5,.pointer (some ⟨w0.heap.size + 1,0,none⟩))]) w') (f:Nat → Value) (c1:Code) (hc1:c1=.loop (itCode 8)) :
    c1.wp Tryz.prog (Exit.inBlock 1 Q) (fr 104 f [(4,.pointer (some ⟨w0.heap.size,0,none⟩)),(5,.pointer (some ⟨w0.heap.size + 1,0,none⟩)),(38,.slice (some ⟨g,0,none⟩) ats.length cap),(39,.int .i64 ats.length),(40,.int .i64 0)]) w:=by
  subst hc1
  have HQ:=Lib.hid hQ
  have HLEN:=Lib.hid hlen
  have HCUR:=Lib.hid hcur
  have HGL:=Lib.hid hg
  refine wp_loop_ghost_k (IuInv w0 nm i5 i6 i7 g cap cur ats) ats.length ⟨f,0,none,0,0,rfl,by simpa using h,by simp,Nat.zero_le _⟩ ?_
  clear hQ hlen hcur hg h
  rintro k _ w ⟨f,i,sa,sl,sc,rfl,hs,hk,hi⟩ J K2 hJ hK2
  have HJ:=Lib.hid hJ
  have HK2:=Lib.hid hK2
  have HS:=Lib.hid hs
  have HK:=Lib.hid hk
  clear hJ hK2 hs hk
  unfold itCode
  conv=>arg 2;whnf
  by_cases hlt:i < ats.length
  · have h1:(i:Int) < (ats.length:Int):=by omega
    have h0:(0:Int) ≤ (i:Int):=by omega
    have hw1:IntKind.i64.wrap ((i:Int) + 1)=((i + 1:Nat):Int):=by rw [IntKind.wrap_i64];have:=HLEN.out;omega
    obtain ⟨a,ha⟩:∃ a,ats[i]?=some a:=⟨ats[i],by simp [hlt]⟩
    obtain ⟨k1,k2,k3⟩:=at_cell HCUR.out ha
    have hcg0:w.cell? ⟨g,i * 3,none⟩=some (strV a.1):=(HS.out.src.cell _).trans k1
    have hcg1:w.cell? ⟨g,i * 3 + 1,none⟩=some (strV a.2.1):=(HS.out.src.cell _).trans k2
    have hcg2:w.cell? ⟨g,i * 3 + 2,none⟩=some (strV a.2.2):=(HS.out.src.cell _).trans k3
    have htake:ats.take (i + 1)=ats.take i ++ [a]:=by rw [List.take_succ,ha];rfl
    have hti:(ats.take i).length=i:=by simp;omega
    obtain ⟨wa,hwa⟩:∃ wa,wa=w.alloc (.cells #[strV a.1,strV a.2.1,strV a.2.2] 96):=⟨_,rfl⟩
    have hbl:Below w.heap.size w wa:=by rw [hwa];exact (Below.refl _ w).alloc (Nat.le_refl _) _
    have hal:Mod (fun _=>False) w wa:=mod_none hbl _
    have hba:Blk wa w.heap.size #[strV a.1,strV a.2.1,strV a.2.2] 96:=by rw [hwa];exact Blk.new w _ _
    have hsw:w.heap.size < wa.heap.size:=hba.lt
    have ht5:=HS.out.t5.mod hal id
    have hz5:=HS.out.z.mod hal id
    obtain ⟨av',w4,hrun,hown,hgr,hob⟩:=ita_append wa w0.heap.size (by have:=HS.out.sz;omega) (.slice sa sl sc) (ats.take i) (by have:=HLEN.out;omega) (ownsRow_mod HS.out.row hal (fun _ _=>id)) a
    obtain ⟨sa',sl',sc',rfl⟩:=ownsRow_slice hown
    have hca:=hba.cell
    have hfa:=hba.frozen
    have hc5:=ht5.cell
    have hf5:=ht5.frozen
    have HG:=Lib.hid hgr
    have HO:=Lib.hid hown
    have HOB:=Lib.hid hob
    have HAL:=Lib.hid hal
    have HT5:=Lib.hid ht5
    have HZ5:=Lib.hid hz5
    have HTK:=Lib.hid htake
    have HSW:=Lib.hid hsw
    clear k1 k2 k3 ha hgr hown hob hal hbl hba ht5 hz5 htake hti hsw
    (repeat ((fail_if_success with_reducible refine wp_stop0 10 ?_);(first|(with_reducible first|refine zA fun K hK=>?_|refine zB ?_|refine zC ?_)|((with_reducible first|refine zD rfl fun K hK=>?_|refine zE fun K hK=>?_);go_simp)|(with_reducible first|((repeat ((fail_if_success refine hK _ _ ?_);clear hK K));refine hK _ _ ?_;clear hK K)|refine zt ?_|refine zf ?_|refine zG ?_|refine zR ?_|refine zK ?_|refine zL ?_|refine zN ?_|refine zS ?_)|simp only [Exit.then,Exit.inBlock,Exit.noGoto,↓reduceIte,Nat.reduceEqDiff]|simp only [undef,reduceCtorEq,↓reduceIte])))
    rw [show w.alloc (.cells #[.string ⟨List.toArray a.1⟩,.string ⟨List.toArray a.2.1⟩,.string ⟨List.toArray a.2.2⟩] 96)=wa from hwa.symm]
    clear hwa hcg0 hcg1 hcg2
    (repeat ((fail_if_success at_builtin);(first|(with_reducible first|refine zA fun K hK=>?_|refine zB ?_|refine zC ?_)|((with_reducible first|refine zD rfl fun K hK=>?_|refine zE fun K hK=>?_);go_simp)|(with_reducible first|((repeat ((fail_if_success refine hK _ _ ?_);clear hK K));refine hK _ _ ?_;clear hK K)|refine zt ?_|refine zf ?_|refine zG ?_|refine zR ?_|refine zK ?_|refine zL ?_|refine zN ?_|refine zS ?_)|simp only [Exit.then,Exit.inBlock,Exit.noGoto,↓reduceIte,Nat.reduceEqDiff]|simp only [undef,reduceCtorEq,↓reduceIte])))
    refine wpList_app rfl (.tmp 45) (.tmp 55) _ _ rfl _ _ _ (by rw [fr_eval (by decide)];(try simp only [keep_cons,keep_nil,lk_cons,lk_nil,Nat.reduceEqDiff,↓reduceIte]);(try rfl)) (by rw [fr_eval (by decide)];(try simp only [keep_cons,keep_nil,lk_cons,lk_nil,Nat.reduceEqDiff,↓reduceIte]);(try rfl)) hrun ?_
    clear hrun
    rw [fr_put (by decide)]
    have hm4:Mod (fun k=>(Value.slice sa sl sc).ownBlock=some k) wa w4:=(mod_none ((Below.refl _ wa).alloc (Nat.le_refl _) _) _).trans (S':=fun k=>(Value.slice sa sl sc).ownBlock=some k) ⟨HG.out.os,HG.out.tape,HG.out.output,HG.out.size,fun k hk hn=>HG.out.block k hk (fun he=>hn he.symm)⟩ (fun i _ hi=>hi)
    have h45:=HT5.out.mod hm4 (fun he=>(HS.out.rowS _ he).2 rfl)
    have hc45:=h45.cell
    have hf45:=h45.frozen
    have H45:=Lib.hid h45
    have HM4:=Lib.hid hm4
    clear h45 hm4 hc5 hf5 hca hfa
    (repeat (first|(with_reducible first|refine zA fun K hK=>?_|refine zB ?_|refine zC ?_)|((with_reducible first|refine zD rfl fun K hK=>?_|refine zE fun K hK=>?_);go_simp)|(with_reducible first|((repeat ((fail_if_success refine hK _ _ ?_);clear hK K));refine hK _ _ ?_;clear hK K)|refine zt ?_|refine zf ?_|refine zG ?_|refine zR ?_|refine zK ?_|refine zL ?_|refine zN ?_|refine zS ?_)|simp only [Exit.then,Exit.inBlock,Exit.noGoto,↓reduceIte,Nat.reduceEqDiff]|simp only [undef,reduceCtorEq,↓reduceIte]))
    (refine K_keep [4,5,38,39,40] (fun f=>?_);simp only [keep_cons,keep_nil,lk_cons,lk_nil,Nat.reduceEqDiff,↓reduceIte])
    have hbg:∀ k,(Value.slice sa sl sc).ownBlock=some k → w0.heap.size ≤ k:=fun k hk=>(ownsRow_lt HS.out.row hk).2
    have hm5:Mod (fun k=>k=w0.heap.size + 1) w4 (w4.setCell ⟨w0.heap.size + 1,3,none⟩ (.slice sa' sl' sc')):=(Mod.refl (fun k=>k=w0.heap.size + 1) w4).setCell (p:=⟨w0.heap.size + 1,3,none⟩) (Or.inl rfl) _
    have hrs:∀ k,(Value.slice sa' sl' sc').ownBlock=some k → k ≠ w0.heap.size∧k ≠ w0.heap.size + 1:=fun k hk=>by
      rcases HOB.out with hob|hob
      · exact HS.out.rowS k (hob ▸ hk)
      · rw [hob] at hk
        have hk':wa.heap.size + 1=k:=by simpa using hk
        have:=HS.out.sz
        have:=HSW.out
        omega
    have hb4:Below w0.heap.size w0 w4:=Mod.below (Mod.below HS.out.below HS.out.below.size HAL.out (fun _ h=>h.elim)) (Nat.le_trans HS.out.below.size HAL.out.size) HM4.out hbg
    refine HK2.out _ _ ⟨ats.length - (i + 1),by rw [HK.out];omega,HJ.out _ _ _ ⟨f,i + 1,sa',sl',sc',rfl,?_,rfl,hlt⟩⟩
    rw [HTK.out]
    refine ⟨Mod.below hb4 hb4.size hm5 (fun k hk=>by omega),?_,?_,?_,ownsRow_mod HO.out hm5 (fun k hk he=>(hrs k hk).2 he),hrs,?_⟩
    · exact (HZ5.out.mod HM4.out (fun he=>(HS.out.rowS _ he).1 rfl)).mod hm5 (fun he=>by omega)
    · exact H45.out.set 3 (.slice sa' sl' sc')
    · refine ((HS.out.src.mod HAL.out id).mod HM4.out (fun he=>?_)).mod hm5 (fun he=>?_)
      · have:=hbg _ he;have:=HGL.out;omega
      · have:=HGL.out;omega
    · have:=HS.out.sz
      have:=HAL.out.size
      have:=HM4.out.size
      have:=hm5.size
      omega
  · have hii:i=ats.length:=by omega
    subst hii
    have h1:¬ ((ats.length:Int) < (ats.length:Int)):=by omega
    (repeat (first|(with_reducible first|refine zA fun K hK=>?_|refine zB ?_|refine zC ?_)|((with_reducible first|refine zD rfl fun K hK=>?_|refine zE fun K hK=>?_);go_simp)|(with_reducible first|((repeat ((fail_if_success refine hK _ _ ?_);clear hK K));refine hK _ _ ?_;clear hK K)|refine zt ?_|refine zf ?_|refine zG ?_|refine zR ?_|refine zK ?_|refine zL ?_|refine zN ?_|refine zS ?_)|simp only [Exit.then,Exit.inBlock,Exit.noGoto,↓reduceIte,Nat.reduceEqDiff]|simp only [undef,reduceCtorEq,↓reduceIte]))
    refine Q_keep [4,5] (fun f=>?_);simp only [keep_cons,keep_nil,lk_cons,lk_nil,Nat.reduceEqDiff,↓reduceIte]
    have h2:=HS.out
    rw [List.take_length] at h2
    exact HQ.out f w sa sl sc h2
theorem itStart {li co:Nat} (w0 w:World) (i5:Nat) (i6 i7:Int) (hbl:Below w0.heap.size w0 w) (hsz:w0.heap.size + 2 ≤ w.heap.size) (hz:Blk w w0.heap.size itZero 33) (hb:Blk w (w0.heap.size + 1) #[.int .i64 0,.string ⟨#[]⟩,.string ⟨#[]⟩,.slice none 0 0,.string ⟨#[]⟩,.int .i64 i5,.int .i64 i6,.int .i64 i7] 33)
    (nm:Bs × Bs) (ats:List At3) (hlen:ats.length ≤ 1000000000) (g cap:Nat) (cur:Array Value) (hg:g < w0.heap.size) (hgc:Blk w g cur 96) (hcur:cur.toList.take (ats.length * 3)=atCells ats) (f:Nat → Value) :
    (itCode 3).wp Tryz.prog (itPost (ItOut w0 ⟨1,nm.1,nm.2,ats,[],i5,li,co⟩ i6 i7)) (fr 104 f [(0,stV nm (.slice (some ⟨g,0,none⟩) ats.length cap)),(4,.pointer (some ⟨w0.heap.size,0,none⟩)),(5,.pointer (some ⟨w0.heap.size + 1,0,none⟩))]) w:=by
  have t0:=fun a b s w=>taStS a b s w
  have hn2:w.heap.size ≠ w0.heap.size + 1:=by omega
  have hn3:w0.heap.size + 1 ≠ w.heap.size:=by omega
  obtain ⟨wn,hwn⟩:∃ wn,wn=w.alloc (.cells #[strV nm.1,strV nm.2,.slice (some ⟨g,0,none⟩) ats.length cap] 94):=⟨_,rfl⟩
  have hal:Below w.heap.size w wn:=by rw [hwn];exact (Below.refl _ w).alloc (Nat.le_refl _) _
  have hnb:Blk wn w.heap.size #[strV nm.1,strV nm.2,.slice (some ⟨g,0,none⟩) ats.length cap] 94:=by rw [hwn];exact Blk.new w _ _
  have hb1:Blk wn (w0.heap.size + 1) _ _:=Blk.mod (S:=fun _=>False) hb (mod_none hal _) id
  have hz1:Blk wn w0.heap.size _ _:=Blk.mod (S:=fun _=>False) hz (mod_none hal _) id
  have hg1:Blk wn g cur _:=Blk.mod (S:=fun _=>False) hgc (mod_none hal _) id
  have HB:=Lib.hid hb1
  have HZ:=Lib.hid hz1
  have HG:=Lib.hid hg1
  have HNB:=Lib.hid hnb
  have HL:=Lib.hid (hbl.trans (hal.mono hbl.size))
  have HSZ:=Lib.hid (show w0.heap.size + 2 ≤ wn.heap.size from Nat.le_trans hsz hal.size)
  have HLEN:=Lib.hid hlen
  have HCUR:=Lib.hid hcur
  have h12:w0.heap.size ≠ w0.heap.size + 1:=by omega
  have hc:=hb1.cell
  have hf:=hb1.frozen
  have hcn:=hnb.cell
  clear hbl hz hb hnb hal hb1 hz1 hg1 hgc hsz hlen hcur
  conv=>arg 2;unfold itCode;whnf
  (repeat (first|(with_reducible first|refine zA fun K hK=>?_|refine zB ?_|refine zC ?_)|((with_reducible first|refine zD rfl fun K hK=>?_|refine zE fun K hK=>?_);go_simp)|(with_reducible first|((repeat ((fail_if_success refine hK _ _ ?_);clear hK K));refine hK _ _ ?_;clear hK K)|refine zt ?_|refine zf ?_|refine zG ?_|refine zR ?_|refine zK ?_|refine zL ?_|refine zN ?_|refine zS ?_)|simp only [Exit.then,Exit.inBlock,Exit.noGoto,↓reduceIte,Nat.reduceEqDiff]|simp only [undef,reduceCtorEq,↓reduceIte]))
  rw [← hwn]
  clear hwn
  (refine wp_keep [4,5,6] (fun f=>?_);simp only [keep_cons,keep_nil,lk_cons,lk_nil,Nat.reduceEqDiff,↓reduceIte])
  go_region_held3 (fun w'=>w'.cell? ⟨w.heap.size,0,none⟩=some (strV nm.1)∧w'.cell? ⟨w.heap.size,1,none⟩=some (strV nm.2))
    (go_keep)
    (fail)
  obtain ⟨w3,hw3⟩:∃ w3,w3=(((wn.setCell ⟨w0.heap.size + 1,0,none⟩ (.int .i64 1)).setCell ⟨w0.heap.size + 1,1,none⟩ (strV nm.1)).setCell ⟨w0.heap.size + 1,2,none⟩ (strV nm.2)).drew:=⟨_,rfl⟩
  rw [show (((wn.setCell ⟨w0.heap.size + 1,0,none⟩ (.int .i64 1)).setCell ⟨w0.heap.size + 1,1,none⟩ (.string ⟨List.toArray nm.1⟩)).setCell ⟨w0.heap.size + 1,2,none⟩ (.string ⟨List.toArray nm.2⟩)).drew=w3 from hw3.symm]
  have hm3:Mod (fun k=>k=w0.heap.size + 1) wn w3:=by
    rw [hw3]
    exact ((((Mod.refl (fun k=>k=w0.heap.size + 1) wn).setCell (p:=⟨w0.heap.size + 1,0,none⟩) (Or.inl rfl) _).setCell (p:=⟨w0.heap.size + 1,1,none⟩) (Or.inl rfl) _).setCell (p:=⟨w0.heap.size + 1,2,none⟩) (Or.inl rfl) _).drewN 1
  have ht3:Blk w3 (w0.heap.size + 1) #[.int .i64 1,strV nm.1,strV nm.2,.slice none 0 0,.string ⟨#[]⟩,.int .i64 i5,.int .i64 i6,.int .i64 i7] 33:=by
    rw [hw3]
    exact ((((show Blk wn (w0.heap.size + 1) _ _ from HB.out).set 0 (.int .i64 1)).set 1 (strV nm.1)).set 2 (strV nm.2)).drew
  have hn3':=HNB.out.mod hm3 hn2
  have hst:IuSt w0 nm i5 i6 i7 g cur [] none 0 0 w3:=⟨Mod.below HL.out HL.out.size hm3 (fun k hk=>by omega),HZ.out.mod hm3 h12,ht3,HG.out.mod hm3 (by omega),noRow _ _,fun k hk=>(by cases hk),(by have:=HSZ.out;have:=hm3.size;omega)⟩
  have HLP:=Lib.hid (fun Q hQ f c1 e=>itLoop w0 w3 nm i5 i6 i7 g cap cur ats HLEN.out hg HCUR.out hst Q hQ f c1 e)
  have hcn3:=hn3'.cell
  have hfn3:=hn3'.frozen
  clear hn3' ht3 hst hw3 hc hf hcn hm3
  (repeat (first|(with_reducible first|refine zA fun K hK=>?_|refine zB ?_|refine zC ?_)|((with_reducible first|refine zD rfl fun K hK=>?_|refine zE fun K hK=>?_);go_simp)|(with_reducible first|((repeat ((fail_if_success refine hK _ _ ?_);clear hK K));refine hK _ _ ?_;clear hK K)|refine zt ?_|refine zf ?_|refine zG ?_|refine zR ?_|refine zK ?_|refine zL ?_|refine zN ?_|refine zS ?_)|simp only [Exit.then,Exit.inBlock,Exit.noGoto,↓reduceIte,Nat.reduceEqDiff]|simp only [undef,reduceCtorEq,↓reduceIte]))
  (refine wp_keep [4,5,38,39,40] (fun f=>?_);simp only [keep_cons,keep_nil,lk_cons,lk_nil,Nat.reduceEqDiff,↓reduceIte])
  refine HLP.out _ ?_ f _ (by kernel_rfl)
  intro f w' sa sl sc hs
  have HS:=Lib.hid hs
  clear hs HLP hcn3 hfn3
  (repeat ((fail_if_success with_reducible refine wp_stop 27 ?_);(fail_if_success with_reducible refine wp_stop2 27 ?_);(first|(with_reducible first|refine zA fun K hK=>?_|refine zB ?_|refine zC ?_)|((with_reducible first|refine zD rfl fun K hK=>?_|refine zE fun K hK=>?_);go_simp)|(with_reducible first|((repeat ((fail_if_success refine hK _ _ ?_);clear hK K));refine hK _ _ ?_;clear hK K)|refine zt ?_|refine zf ?_|refine zG ?_|refine zR ?_|refine zK ?_|refine zL ?_|refine zN ?_|refine zS ?_)|simp only [Exit.then,Exit.inBlock,Exit.noGoto,↓reduceIte,Nat.reduceEqDiff]|simp only [undef,reduceCtorEq,↓reduceIte])))
  (refine K_keep [4,5] (fun f=>?_);simp only [keep_cons,keep_nil,lk_cons,lk_nil,Nat.reduceEqDiff,↓reduceIte])
  refine wp_code (itEnd _ w0.heap.size 1 nm.1 nm.2 [] sa sl sc i5 i6 i7 HS.out.z HS.out.t5 _ (fun w' hm=>⟨⟨sa,sl,sc,rfl,?_⟩,?_⟩) f) (by kernel_rfl)
  · exact ownsRow_mod HS.out.row hm (fun k hk he=>(HS.out.rowS k hk).1 he)
  · exact Mod.below HS.out.below HS.out.below.size hm (fun k hk=>by rw [hk];exact Nat.le_refl _)
end Go.Proofs.YtkjnockljapnbaaGreatDoor
namespace Go.Proofs.YtkjnockljapnbaaGreatDoor
open Go Go.RowKit
theorem PosAt.col' {x:Cx} {v:DV} {rest:Bs} (hx:x.Ok) (h:PosAt x v rest):-1000000000000 ≤ v.off - v.lstart∧v.off - v.lstart ≤ 1000000000000:=by
  by_cases hn:v.nb=10
  · obtain ⟨pre,hT,ho,_,_,hs⟩:=h
    have h1:=hs hn
    omega
  · exact h.col hx hn
theorem BufAt.lt {x:Cx} {w:World} {v:Value} {b:Bs} (h:BufAt x w v b) {g cap n:Nat} (hv:v=.slice (some ⟨g,0,none⟩) n cap):g < w.heap.size:=by
  rcases h with ⟨h1,_⟩|⟨g',cap',arr,h1,hg,_⟩
  · rw [h1] at hv;cases hv
  · rw [h1] at hv
    simp only [Value.slice.injEq,Option.some.injEq,Addr.mk.injEq] at hv
    obtain ⟨⟨rfl,_⟩,_⟩:=hv
    exact hg.lt
theorem itok_c (x:Cx) (hx:x.Ok) (c:DC) (w:World) (v:DV) (rest:Bs) (e:Option EK) (buf:Bs) (hR:RdS x c w v rest e buf) (pre:Bs) (hpre:x.T=pre ++ rest) (B:Nat) (tv:Value) (tk:RTok) (ht:TokAt w v.bufv B tv tk) (hle:∀ nm ats,tk=.start nm ats → ats.length ≤ 1000000000) :
    Calls Tryz.prog 19 #[tv,decP x] w (ItOut w (tk.itok pre) v.line (v.off - v.lstart + 1)):=by
  obtain ⟨b1,b2⟩:=hR.pos.col' hx
  have ho:v.off=(pre.length:Int):=by
    obtain ⟨p,hT,ho,_⟩:=hR.pos
    have:p=pre:=List.append_cancel_right (by rw [← hT,← hpre])
    rw [← this];exact ho
  refine itBegin x c w v hR.dec b1 b2 tv _ (fun f w' hbl hz hb hsz=>?_)
  have hb':Blk w' (w.heap.size + 1) #[.int .i64 0,.string ⟨#[]⟩,.string ⟨#[]⟩,.slice none 0 0,.string ⟨#[]⟩,.int .i64 (pre.length:Nat),.int .i64 v.line,.int .i64 (v.off - v.lstart + 1)] 33:=by
    rw [← ho];exact hb
  cases tk with
  | text d=>
    obtain ⟨sv,rfl,⟨g,cap,n,rfl,hbv,hby,_⟩⟩:=ht
    exact itText w w' pre.length _ _ hbl hz hb' d g cap (hby.below hbl) (hR.bf.lt hbv) f
  | comment d=>
    obtain ⟨sv,rfl,⟨g,cap,n,rfl,hbv,hby,_⟩⟩:=ht
    exact itCom w w' pre.length _ _ hbl hz hb' d g cap (hby.below hbl) (hR.bf.lt hbv) f
  | dir d=>
    obtain ⟨sv,rfl,⟨g,cap,n,rfl,hbv,hby,_⟩⟩:=ht
    exact itDir w w' pre.length _ _ hbl hz hb' d g cap (hby.below hbl) (hR.bf.lt hbv) f
  | proc tg d=>
    obtain ⟨sv,rfl,⟨g,cap,n,rfl,hbv,hby,_⟩⟩:=ht
    exact itPro w w' pre.length _ _ hbl hsz hz hb' tg d g cap (hby.below hbl) (hR.bf.lt hbv) f
  | fin nm=>
    rw [show tv=enV nm from ht]
    exact itFin w w' pre.length _ _ hbl hsz hz hb' nm f
  | start nm ats=>
    obtain ⟨sv,rfl,hne,hrow⟩:=ht
    rcases hrow.2 with h9|⟨g,cap,cur,rfl,_,hgc,_,_,_,hcur⟩
    · exact absurd (h9.2 ▸ h9.1) hne
    · have hgw:Blk w g cur 96:=hgc
      exact itStart w w' pre.length _ _ hbl hsz hz hb' nm ats (hle nm ats rfl) g cap cur hgw.lt (Blk.mod (S:=fun _=>False) hgw (mod_none hbl _) id) hcur f
end Go.Proofs.YtkjnockljapnbaaGreatDoor
