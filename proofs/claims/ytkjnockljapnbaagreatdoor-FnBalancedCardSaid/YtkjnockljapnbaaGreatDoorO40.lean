/- Part of the proof that laws.FnBalanced returns true for every argument (Hd). No condition of its own. -/
import Derived.Test.YtkjnockljapnbaaGreatDoorO39
set_option linter.all false
set_option maxHeartbeats 8000000
set_option maxRecDepth 100000
namespace Go.Proofs.YtkjnockljapnbaaGreatDoor
open Go Go.RowKit
theorem eqPair (lo hi:Nat) (hlh:lo < hi) (hhi:hi ≤ 1114111) (w:World) (hE:FoldEnv w) (v0 v1 v67:Value) (Q:Exit → Act → World → Prop)
    (hT:runeLt lo hi=true → ∀ f w',Below w.heap.size w w' → Q (.exit 3) (fr 123 f [(0,v0),(1,v1),(67,v67)]) w')
    (hF:runeLt lo hi=false → ∀ f w',Below w.heap.size w w' → Q .ret (fr 123 f [(4,.bool false)]) w') (f:Nat → Value) :
    (eqCode 26).wp Tryz.prog Q (fr 123 f [(0,v0),(1,v1),(10,.int .i32 (lo:Nat)),(11,.int .i32 (hi:Nat)),(67,v67)]) w:=by
  have HT:=Lib.hid hT
  have HF:=Lib.hid hF
  have HE:=Lib.hid hE
  have HLH:=Lib.hid hlh
  have HHI:=Lib.hid hhi
  clear hT hF hE hlh hhi
  by_cases h128:hi < 128
  · have t0:(hi:Int) < 128:=by omega
    have hrl:runeLt lo hi=decide (65 ≤ lo∧lo ≤ 90∧hi=lo + 32):=by unfold runeLt;rw [if_pos h128]
    have w1:IntKind.i32.wrap ((lo:Int) + 97)=(lo:Int) + 97:=by rw [IntKind.wrap_i32];have:=HLH.out;omega
    have w2:IntKind.i32.wrap ((lo:Int) + 97 - 65)=(lo:Int) + 32:=by rw [IntKind.wrap_i32];have:=HLH.out;omega
    have hcs:(¬ (65:Int) ≤ (lo:Int)) ∨ ((65:Int) ≤ (lo:Int)∧¬ (lo:Int) ≤ 90) ∨ ((65:Int) ≤ (lo:Int)∧(lo:Int) ≤ 90∧((hi:Int) == (lo:Int) + 32)=false) ∨ ((65:Int) ≤ (lo:Int)∧(lo:Int) ≤ 90∧((hi:Int) == (lo:Int) + 32)=true):=by
      by_cases h1:65 ≤ lo
      · by_cases h2:lo ≤ 90
        · by_cases h3:hi=lo + 32
          · exact Or.inr (Or.inr (Or.inr ⟨by omega,by omega,by subst h3;simp⟩))
          · exact Or.inr (Or.inr (Or.inl ⟨by omega,by omega,by rw [beq_eq_false_iff_ne];omega⟩))
        · exact Or.inr (Or.inl ⟨by omega,by omega⟩)
      · exact Or.inl (by omega)
    have HRL:=Lib.hid hrl
    clear hrl h128
    unfold eqCode
    conv=>arg 2;whnf
    rcases hcs with t1|⟨t1,t2⟩|⟨t1,t2,t3⟩|⟨t1,t2,t3⟩
    case inr.inr.inr=>
      have HR:=Lib.hid (show runeLt lo hi=true by
        rw [HRL.out,decide_eq_true_eq]
        have:(hi:Int)=(lo:Int) + 32:=by simpa using t3
        exact ⟨by omega,by omega,by omega⟩)
      (repeat (first|(with_reducible first|refine zA fun K hK=>?_|refine zB ?_|refine zC ?_)|((with_reducible first|refine zD rfl fun K hK=>?_|refine zE fun K hK=>?_);go_simp)|(with_reducible first|((repeat ((fail_if_success refine hK _ _ ?_);clear hK K));refine hK _ _ ?_;clear hK K)|refine zt ?_|refine zf ?_|refine zG ?_|refine zR ?_|refine zK ?_|refine zL ?_|refine zN ?_|refine zS ?_)|simp only [Exit.then,Exit.inBlock,Exit.noGoto,↓reduceIte,Nat.reduceEqDiff]|simp only [undef,reduceCtorEq,↓reduceIte]))
      refine Q_keep [0,1,67] (fun f=>?_);simp only [keep_cons,keep_nil,lk_cons,lk_nil,Nat.reduceEqDiff,↓reduceIte]
      exact HT.out HR.out f w (Below.refl _ w)
    case inr.inr.inl=>
      have HR:=Lib.hid (show runeLt lo hi=false by
        rw [HRL.out,decide_eq_false_iff_not]
        rintro ⟨_,_,h⟩
        rw [beq_eq_false_iff_ne] at t3
        exact t3 (by omega))
      (repeat (first|(with_reducible first|refine zA fun K hK=>?_|refine zB ?_|refine zC ?_)|((with_reducible first|refine zD rfl fun K hK=>?_|refine zE fun K hK=>?_);go_simp)|(with_reducible first|((repeat ((fail_if_success refine hK _ _ ?_);clear hK K));refine hK _ _ ?_;clear hK K)|refine zt ?_|refine zf ?_|refine zG ?_|refine zR ?_|refine zK ?_|refine zL ?_|refine zN ?_|refine zS ?_)|simp only [Exit.then,Exit.inBlock,Exit.noGoto,↓reduceIte,Nat.reduceEqDiff]|simp only [undef,reduceCtorEq,↓reduceIte]))
      refine Q_keep [4] (fun f=>?_);simp only [keep_cons,keep_nil,lk_cons,lk_nil,Nat.reduceEqDiff,↓reduceIte]
      exact HF.out HR.out f w (Below.refl _ w)
    all_goals
      have HR:=Lib.hid (show runeLt lo hi=false by
        rw [HRL.out,decide_eq_false_iff_not]
        rintro ⟨_,_,_⟩
        omega)
      (repeat (first|(with_reducible first|refine zA fun K hK=>?_|refine zB ?_|refine zC ?_)|((with_reducible first|refine zD rfl fun K hK=>?_|refine zE fun K hK=>?_);go_simp)|(with_reducible first|((repeat ((fail_if_success refine hK _ _ ?_);clear hK K));refine hK _ _ ?_;clear hK K)|refine zt ?_|refine zf ?_|refine zG ?_|refine zR ?_|refine zK ?_|refine zL ?_|refine zN ?_|refine zS ?_)|simp only [Exit.then,Exit.inBlock,Exit.noGoto,↓reduceIte,Nat.reduceEqDiff]|simp only [undef,reduceCtorEq,↓reduceIte]))
      refine Q_keep [4] (fun f=>?_);simp only [keep_cons,keep_nil,lk_cons,lk_nil,Nat.reduceEqDiff,↓reduceIte]
      exact HF.out HR.out f w (Below.refl _ w)
  · have t0:¬ (hi:Int) < 128:=by omega
    have HRL:=Lib.hid (show runeLt lo hi=(foldLoop 4 lo hi (sfoldN lo) == hi) by unfold runeLt;rw [if_neg h128])
    clear h128
    unfold eqCode
    conv=>arg 2;whnf
    (repeat ((fail_if_success with_reducible refine wp_stop 29 ?_);(fail_if_success with_reducible refine wp_stop2 29 ?_);(first|(with_reducible first|refine zA fun K hK=>?_|refine zB ?_|refine zC ?_)|((with_reducible first|refine zD rfl fun K hK=>?_|refine zE fun K hK=>?_);go_simp)|(with_reducible first|((repeat ((fail_if_success refine hK _ _ ?_);clear hK K));refine hK _ _ ?_;clear hK K)|refine zt ?_|refine zf ?_|refine zG ?_|refine zR ?_|refine zK ?_|refine zL ?_|refine zN ?_|refine zS ?_)|simp only [Exit.then,Exit.inBlock,Exit.noGoto,↓reduceIte,Nat.reduceEqDiff]|simp only [undef,reduceCtorEq,↓reduceIte])))
    (refine wp_keep [0,1,10,11,67] (fun f=>?_);simp only [keep_cons,keep_nil,lk_cons,lk_nil,Nat.reduceEqDiff,↓reduceIte])
    refine wp_code (eqGen lo hi (by have:=HLH.out;have:=HHI.out;omega) HLH.out HHI.out w HE.out v0 v1 v67 _ ?_ ?_ f) (by kernel_rfl)
    · intro h f w' hb
      (repeat (first|(with_reducible first|refine zA fun K hK=>?_|refine zB ?_|refine zC ?_)|((with_reducible first|refine zD rfl fun K hK=>?_|refine zE fun K hK=>?_);go_simp)|(with_reducible first|((repeat ((fail_if_success refine hK _ _ ?_);clear hK K));refine hK _ _ ?_;clear hK K)|refine zt ?_|refine zf ?_|refine zG ?_|refine zR ?_|refine zK ?_|refine zL ?_|refine zN ?_|refine zS ?_)|simp only [Exit.then,Exit.inBlock,Exit.noGoto,↓reduceIte,Nat.reduceEqDiff]|simp only [undef,reduceCtorEq,↓reduceIte]))
      exact HT.out (by rw [HRL.out,h];simp) f w' hb
    · intro h f w' hb
      (repeat (first|(with_reducible first|refine zA fun K hK=>?_|refine zB ?_|refine zC ?_)|((with_reducible first|refine zD rfl fun K hK=>?_|refine zE fun K hK=>?_);go_simp)|(with_reducible first|((repeat ((fail_if_success refine hK _ _ ?_);clear hK K));refine hK _ _ ?_;clear hK K)|refine zt ?_|refine zf ?_|refine zG ?_|refine zR ?_|refine zK ?_|refine zL ?_|refine zN ?_|refine zS ?_)|simp only [Exit.then,Exit.inBlock,Exit.noGoto,↓reduceIte,Nat.reduceEqDiff]|simp only [undef,reduceCtorEq,↓reduceIte]))
      exact HF.out (by rw [HRL.out];simpa using h) f w' hb
def EuInv (S U:Bs) (v0:Value) (ib:Nat) (w0:World) (k:Nat) (a:Act) (w:World):Prop:=
  ∃ f p T,a=fr 123 f [(0,v0),(1,strV T),(67,.pointer (some ⟨ib,0,none⟩))]∧Below w0.heap.size w0 w∧w.heap[ib]?=some (.stringIter ⟨S.toArray⟩ p)∧eqU S (S.length + 1) 0 U=eqU S k p T∧S.length - p < k∧T.length ≤ 1000000000000
theorem eqUni (s t:Bs) (hs:s.length ≤ 1000000000000) (ht:t.length ≤ 1000000000000) (i:Nat) (his:i < s.length) (hit:i < t.length) (w:World) (hE:FoldEnv w) (Q:Exit → Act → World → Prop)
    (hQ:∀ f w',Below w.heap.size w w' → Q .ret (fr 123 f [(4,.bool (eqU (s.drop i) ((s.drop i).length + 1) 0 (t.drop i)))]) w') (f:Nat → Value) :
    (eqCode 14).wp Tryz.prog Q (fr 123 f [(0,strV s),(1,strV t),(5,.int .i64 (i:Nat))]) w:=by
  have h0:(0:Int) ≤ (i:Int):=by omega
  have h1:(i:Int) ≤ (s.length:Int):=by omega
  have h2:(i:Int) ≤ (t.length:Int):=by omega
  have hsub:=ext_drop s i
  have hsub2:=ext_drop t i
  obtain ⟨S,hS⟩:∃ S,S=s.drop i:=⟨_,rfl⟩
  obtain ⟨U,hU⟩:∃ U,U=t.drop i:=⟨_,rfl⟩
  rw [← hS] at hsub hQ
  rw [← hU] at hsub2 hQ
  have hSl:S.length ≤ 1000000000000:=by rw [hS,List.length_drop];omega
  have hUl:U.length ≤ 1000000000000:=by rw [hU,List.length_drop];omega
  have HQ:=Lib.hid hQ
  have HE:=Lib.hid hE
  have HSL:=Lib.hid hSl
  have HUL:=Lib.hid hUl
  have HIT:=Lib.hid (World.iter_heap w ⟨S.toArray⟩ 0)
  have HBI:=Lib.hid (show Below w.heap.size w (w.iter ⟨S.toArray⟩ 0) from (Below.refl _ w).alloc (Nat.le_refl _) _)
  clear hQ hE hSl hUl hS hU hs ht his hit
  unfold eqCode
  conv=>arg 2;whnf
  (repeat (first|(with_reducible first|refine zA fun K hK=>?_|refine zB ?_|refine zC ?_)|((with_reducible first|refine zD rfl fun K hK=>?_|refine zE fun K hK=>?_);go_simp)|(with_reducible first|((repeat ((fail_if_success refine hK _ _ ?_);clear hK K));refine hK _ _ ?_;clear hK K)|refine zt ?_|refine zf ?_|refine zG ?_|refine zR ?_|refine zK ?_|refine zL ?_|refine zN ?_|refine zS ?_)|simp only [Exit.then,Exit.inBlock,Exit.noGoto,↓reduceIte,Nat.reduceEqDiff]|simp only [undef,reduceCtorEq,↓reduceIte]))
  (refine wp_keep [0,1,67] (fun f=>?_);simp only [keep_cons,keep_nil,lk_cons,lk_nil,Nat.reduceEqDiff,↓reduceIte])
  refine wp_loop_ghost_k (EuInv S U (strV S) w.heap.size w) (S.length + 1) ⟨f,0,U,rfl,HBI.out,HIT.out,rfl,by omega,HUL.out⟩ ?_
  clear hsub hsub2
  rintro k _ w6 ⟨f,p,T,rfl,hb,hit,hans,hk,hTl⟩ J K2 hJ hK2
  obtain ⟨k',rfl⟩:∃ k',k=k' + 1:=⟨k - 1,by omega⟩
  have HJ:=Lib.hid hJ
  have HK2:=Lib.hid hK2
  have HB:=Lib.hid hb
  have HITR:=Lib.hid hit
  have HANS:=Lib.hid hans
  have HTL:=Lib.hid hTl
  clear hJ hK2 hb hans hTl HIT HBI
  by_cases hp:p < S.length
  · have hnx:=Lib.run_next_any_at (P:=Tryz.prog) w6 w.heap.size ⟨S.toArray⟩ p 0 hit (by simpa [ByteArray.size] using hp)
    obtain ⟨sr,hsr⟩:∃ sr,sr=(Utf8.decode ⟨S.toArray⟩ p).1:=⟨_,rfl⟩
    obtain ⟨sz,hsz⟩:∃ sz,sz=(Utf8.decode ⟨S.toArray⟩ p).2:=⟨_,rfl⟩
    rw [← hsr,← hsz] at hnx
    obtain ⟨w7,hw7⟩:∃ w7,w7=w6.iterAt w.heap.size ⟨S.toArray⟩ (p + sz):=⟨_,rfl⟩
    rw [← hw7] at hnx
    have HB7:=Lib.hid (show Below w.heap.size w w7 by rw [hw7];exact Lib.below_iterAt HB.out (Nat.le_refl _) _ _)
    have HIT7:=Lib.hid (show w7.heap[w.heap.size]?=some (.stringIter ⟨S.toArray⟩ (p + sz)) by rw [hw7];exact Lib.iterAt_heap _ _ _ _ _ hit)
    have HSR:=Lib.hid (show sr ≤ 1114111 by rw [hsr];exact rune_le S p)
    have hpos:1 ≤ sz:=by
      rw [hsz]
      exact Lib.width_pos _ _
    have hcase:T=[] ∨ T ≠ []:=by by_cases h:T=[] <;> simp [h]
    rcases hcase with hT|hT
    · subst hT
      have HRES:=Lib.hid (show eqU S (S.length + 1) 0 U=false by rw [HANS.out];unfold eqU;rw [if_pos hp,if_pos rfl])
      clear hit hw7 hsr hsz
      (repeat (first|(with_reducible first|refine zA fun K hK=>?_|refine zB ?_|refine zC ?_)|((with_reducible first|refine zD rfl fun K hK=>?_|refine zE fun K hK=>?_);go_simp)|(with_reducible first|((repeat ((fail_if_success refine hK _ _ ?_);clear hK K));refine hK _ _ ?_;clear hK K)|refine zt ?_|refine zf ?_|refine zG ?_|refine zR ?_|refine zK ?_|refine zL ?_|refine zN ?_|refine zS ?_)|simp only [Exit.then,Exit.inBlock,Exit.noGoto,↓reduceIte,Nat.reduceEqDiff]|simp only [undef,reduceCtorEq,↓reduceIte]))
      refine Q_keep [4] (fun f=>?_);simp only [keep_cons,keep_nil,lk_cons,lk_nil,Nat.reduceEqDiff,↓reduceIte]
      have h9:=HQ.out f w7 HB7.out
      rw [HRES.out] at h9
      exact h9
    · have htl:((T.length:Int) == 0)=false:=by
        rw [beq_eq_false_iff_ne];intro h;exact hT (List.eq_nil_of_length_eq_zero (by omega))
      obtain ⟨tr,htr⟩:∃ tr,tr=(Lib.decodeGo ⟨T.toArray⟩).1:=⟨_,rfl⟩
      obtain ⟨tz,htz⟩:∃ tz,tz=(Lib.decodeGo ⟨T.toArray⟩).2:=⟨_,rfl⟩
      have hdc:=Lib.hid (Tryz.utf8_DecodeRuneInString ⟨T.toArray⟩ w7 (HE.out.below HB7.out).u8)
      have HTR:=Lib.hid (show tr ≤ 1114111 by rw [htr];exact decodeGo_rune T)
      have htz1:tz ≤ T.length:=by rw [htz];exact decodeGo_wid T hT
      have HRES:=Lib.hid (show eqU S (S.length + 1) 0 U=if runeEq sr tr then eqU S k' (p + sz) (T.drop tz) else false by
        rw [HANS.out];conv=>lhs;unfold eqU
        rw [if_pos hp,if_neg hT,← hsr,← hsz,← htr,← htz])
      rw [← htr,← htz] at hdc
      have z0:(0:Int) ≤ (tz:Int):=by omega
      have z1:(tz:Int) ≤ (T.length:Int):=by omega
      have hsub:=ext_drop T tz
      clear hit hw7 hsr hsz htr htz hT
      (repeat (first|(with_reducible first|refine zA fun K hK=>?_|refine zB ?_|refine zC ?_)|((with_reducible first|refine zD rfl fun K hK=>?_|refine zE fun K hK=>?_);go_simp)|(with_reducible first|((repeat ((fail_if_success refine hK _ _ ?_);clear hK K));refine hK _ _ ?_;clear hK K)|refine zt ?_|refine zf ?_|refine zG ?_|refine zR ?_|refine zK ?_|refine zL ?_|refine zN ?_|refine zS ?_)|simp only [Exit.then,Exit.inBlock,Exit.noGoto,↓reduceIte,Nat.reduceEqDiff]|simp only [undef,reduceCtorEq,↓reduceIte]))
      refine hdc.out.mono ?_
      rintro e8 w8 ⟨rfl,hb8⟩
      have HB8:=Lib.hid (HB7.out.trans (hb8.mono HB7.out.size))
      have HIT8:=Lib.hid (show w8.heap[w.heap.size]?=some (.stringIter ⟨S.toArray⟩ (p + sz)) by
        rw [hb8.block w.heap.size (Array.getElem?_eq_some_iff.1 HIT7.out).1];exact HIT7.out)
      have HON:=Lib.hid (show runeEq sr tr=true → ∀ f w',Below w8.heap.size w8 w' → K2 (fr 123 f [(0,strV S),(1,strV (T.drop tz)),(67,.pointer (some ⟨w.heap.size,0,none⟩))]) w' by
        intro hr f w' hb'
        have h9:=HRES.out
        rw [hr,if_pos rfl] at h9
        refine HK2.out _ _ ⟨k',by omega,HJ.out _ _ _ ⟨f,p + sz,T.drop tz,rfl,HB8.out.trans (hb'.mono HB8.out.size),?_,h9,by omega,by rw [List.length_drop];have:=HTL.out;omega⟩⟩
        rw [hb'.block w.heap.size (Array.getElem?_eq_some_iff.1 HIT8.out).1];exact HIT8.out)
      have HOFF:=Lib.hid (show runeEq sr tr=false → ∀ f w',Below w8.heap.size w8 w' → Q .ret (fr 123 f [(4,.bool false)]) w' by
        intro hr f w' hb'
        have h9:=HQ.out f w' (HB8.out.trans (hb'.mono HB8.out.size))
        rw [HRES.out,hr] at h9
        exact h9)
      have HE8:=Lib.hid ((HE.out.below HB7.out).below hb8)
      have hcs:tr=sr ∨ (tr < sr∧runeEq sr tr=runeLt tr sr) ∨ (sr < tr∧runeEq sr tr=runeLt sr tr):=by
        unfold runeEq
        rcases Nat.lt_trichotomy tr sr with h|h|h
        · exact Or.inr (Or.inl ⟨h,by rw [if_neg (by omega),if_pos h]⟩)
        · exact Or.inl h
        · exact Or.inr (Or.inr ⟨h,by rw [if_neg (by omega),if_neg (by omega)]⟩)
      have HSUB:=Lib.hid hp
      clear hb8 hdc hnx htz1 hk hp
      rcases hcs with hcs|⟨hcs,hre⟩|⟨hcs,hre⟩
      · subst hcs
        have HRE:=Lib.hid (show runeEq tr tr=true by unfold runeEq;rw [if_pos rfl])
        go_simp
        (repeat (first|(with_reducible first|refine zA fun K hK=>?_|refine zB ?_|refine zC ?_)|((with_reducible first|refine zD rfl fun K hK=>?_|refine zE fun K hK=>?_);go_simp)|(with_reducible first|((repeat ((fail_if_success refine hK _ _ ?_);clear hK K));refine hK _ _ ?_;clear hK K)|refine zt ?_|refine zf ?_|refine zG ?_|refine zR ?_|refine zK ?_|refine zL ?_|refine zN ?_|refine zS ?_)|simp only [Exit.then,Exit.inBlock,Exit.noGoto,↓reduceIte,Nat.reduceEqDiff]|simp only [undef,reduceCtorEq,↓reduceIte]))
        (refine K_keep [0,1,67] (fun f=>?_);simp only [keep_cons,keep_nil,lk_cons,lk_nil,Nat.reduceEqDiff,↓reduceIte])
        exact HON.out HRE.out f w8 (Below.refl _ _)
      · have t1:((tr:Int) == (sr:Int))=false:=by rw [beq_eq_false_iff_ne];omega
        have t2:(tr:Int) < (sr:Int):=by omega
        have HRE:=Lib.hid hre
        have HLT:=Lib.hid hcs
        clear hcs hre
        go_simp
        (repeat ((fail_if_success with_reducible refine wp_stop 26 ?_);(fail_if_success with_reducible refine wp_stop2 26 ?_);(first|(with_reducible first|refine zA fun K hK=>?_|refine zB ?_|refine zC ?_)|((with_reducible first|refine zD rfl fun K hK=>?_|refine zE fun K hK=>?_);go_simp)|(with_reducible first|((repeat ((fail_if_success refine hK _ _ ?_);clear hK K));refine hK _ _ ?_;clear hK K)|refine zt ?_|refine zf ?_|refine zG ?_|refine zR ?_|refine zK ?_|refine zL ?_|refine zN ?_|refine zS ?_)|simp only [Exit.then,Exit.inBlock,Exit.noGoto,↓reduceIte,Nat.reduceEqDiff]|simp only [undef,reduceCtorEq,↓reduceIte])))
        (refine wp_keep [0,1,10,11,67] (fun f=>?_);simp only [keep_cons,keep_nil,lk_cons,lk_nil,Nat.reduceEqDiff,↓reduceIte])
        refine wp_code (eqPair tr sr HLT.out HSR.out w8 HE8.out (strV S) (strV (T.drop tz)) _ _ ?_ ?_ f) (by kernel_rfl)
        · intro h f w' hb
          (repeat (first|(with_reducible first|refine zA fun K hK=>?_|refine zB ?_|refine zC ?_)|((with_reducible first|refine zD rfl fun K hK=>?_|refine zE fun K hK=>?_);go_simp)|(with_reducible first|((repeat ((fail_if_success refine hK _ _ ?_);clear hK K));refine hK _ _ ?_;clear hK K)|refine zt ?_|refine zf ?_|refine zG ?_|refine zR ?_|refine zK ?_|refine zL ?_|refine zN ?_|refine zS ?_)|simp only [Exit.then,Exit.inBlock,Exit.noGoto,↓reduceIte,Nat.reduceEqDiff]|simp only [undef,reduceCtorEq,↓reduceIte]))
          exact HON.out (HRE.out.trans h) f w' hb
        · intro h f w' hb
          (repeat (first|(with_reducible first|refine zA fun K hK=>?_|refine zB ?_|refine zC ?_)|((with_reducible first|refine zD rfl fun K hK=>?_|refine zE fun K hK=>?_);go_simp)|(with_reducible first|((repeat ((fail_if_success refine hK _ _ ?_);clear hK K));refine hK _ _ ?_;clear hK K)|refine zt ?_|refine zf ?_|refine zG ?_|refine zR ?_|refine zK ?_|refine zL ?_|refine zN ?_|refine zS ?_)|simp only [Exit.then,Exit.inBlock,Exit.noGoto,↓reduceIte,Nat.reduceEqDiff]|simp only [undef,reduceCtorEq,↓reduceIte]))
          exact HOFF.out (HRE.out.trans h) f w' hb
      · have t1:((tr:Int) == (sr:Int))=false:=by rw [beq_eq_false_iff_ne];omega
        have t2:¬ (tr:Int) < (sr:Int):=by omega
        have HRE:=Lib.hid hre
        have HLT:=Lib.hid hcs
        clear hcs hre
        go_simp
        (repeat ((fail_if_success with_reducible refine wp_stop 26 ?_);(fail_if_success with_reducible refine wp_stop2 26 ?_);(first|(with_reducible first|refine zA fun K hK=>?_|refine zB ?_|refine zC ?_)|((with_reducible first|refine zD rfl fun K hK=>?_|refine zE fun K hK=>?_);go_simp)|(with_reducible first|((repeat ((fail_if_success refine hK _ _ ?_);clear hK K));refine hK _ _ ?_;clear hK K)|refine zt ?_|refine zf ?_|refine zG ?_|refine zR ?_|refine zK ?_|refine zL ?_|refine zN ?_|refine zS ?_)|simp only [Exit.then,Exit.inBlock,Exit.noGoto,↓reduceIte,Nat.reduceEqDiff]|simp only [undef,reduceCtorEq,↓reduceIte])))
        (refine wp_keep [0,1,10,11,67] (fun f=>?_);simp only [keep_cons,keep_nil,lk_cons,lk_nil,Nat.reduceEqDiff,↓reduceIte])
        refine wp_code (eqPair sr tr HLT.out HTR.out w8 HE8.out (strV S) (strV (T.drop tz)) _ _ ?_ ?_ f) (by kernel_rfl)
        · intro h f w' hb
          (repeat (first|(with_reducible first|refine zA fun K hK=>?_|refine zB ?_|refine zC ?_)|((with_reducible first|refine zD rfl fun K hK=>?_|refine zE fun K hK=>?_);go_simp)|(with_reducible first|((repeat ((fail_if_success refine hK _ _ ?_);clear hK K));refine hK _ _ ?_;clear hK K)|refine zt ?_|refine zf ?_|refine zG ?_|refine zR ?_|refine zK ?_|refine zL ?_|refine zN ?_|refine zS ?_)|simp only [Exit.then,Exit.inBlock,Exit.noGoto,↓reduceIte,Nat.reduceEqDiff]|simp only [undef,reduceCtorEq,↓reduceIte]))
          exact HON.out (HRE.out.trans h) f w' hb
        · intro h f w' hb
          (repeat (first|(with_reducible first|refine zA fun K hK=>?_|refine zB ?_|refine zC ?_)|((with_reducible first|refine zD rfl fun K hK=>?_|refine zE fun K hK=>?_);go_simp)|(with_reducible first|((repeat ((fail_if_success refine hK _ _ ?_);clear hK K));refine hK _ _ ?_;clear hK K)|refine zt ?_|refine zf ?_|refine zG ?_|refine zR ?_|refine zK ?_|refine zL ?_|refine zN ?_|refine zS ?_)|simp only [Exit.then,Exit.inBlock,Exit.noGoto,↓reduceIte,Nat.reduceEqDiff]|simp only [undef,reduceCtorEq,↓reduceIte]))
          exact HOFF.out (HRE.out.trans h) f w' hb
  · have hnx:=Lib.run_next_end_at (P:=Tryz.prog) w6 w.heap.size ⟨S.toArray⟩ p 0 hit (by simpa [ByteArray.size] using hp)
    have HRES:=Lib.hid (show eqU S (S.length + 1) 0 U=decide (T.length=0) by rw [HANS.out];unfold eqU;rw [if_neg hp])
    have htl:((T.length:Int) == 0)=decide (T.length=0):=by
      by_cases h:T.length=0
      · rw [h];rfl
      · rw [decide_eq_false h,beq_eq_false_iff_ne];omega
    clear hit
    (repeat (first|(with_reducible first|refine zA fun K hK=>?_|refine zB ?_|refine zC ?_)|((with_reducible first|refine zD rfl fun K hK=>?_|refine zE fun K hK=>?_);go_simp)|(with_reducible first|((repeat ((fail_if_success refine hK _ _ ?_);clear hK K));refine hK _ _ ?_;clear hK K)|refine zt ?_|refine zf ?_|refine zG ?_|refine zR ?_|refine zK ?_|refine zL ?_|refine zN ?_|refine zS ?_)|simp only [Exit.then,Exit.inBlock,Exit.noGoto,↓reduceIte,Nat.reduceEqDiff]|simp only [undef,reduceCtorEq,↓reduceIte]))
    refine Q_keep [4] (fun f=>?_);simp only [keep_cons,keep_nil,lk_cons,lk_nil,Nat.reduceEqDiff,↓reduceIte]
    have h9:=HQ.out f w6 HB.out
    rw [HRES.out,show decide (T.length=0)=decide (T=[]) by simp] at h9
    exact h9
end Go.Proofs.YtkjnockljapnbaaGreatDoor
