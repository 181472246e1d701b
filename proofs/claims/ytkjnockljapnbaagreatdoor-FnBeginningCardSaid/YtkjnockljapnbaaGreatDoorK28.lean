/- Part of the proof that laws.FnBeginning, laws.FnPlaces returns true for every argument (Ps). No condition of its own. -/
import Derived.Test.YtkjnockljapnbaaGreatDoorK24
set_option linter.all false
set_option maxHeartbeats 8000000
set_option maxRecDepth 100000
namespace Go.Proofs.YtkjnockljapnbaaGreatDoor
open Go Go.RowKit
theorem findSub_idx (p:Bs) (hp:p ≠ []):∀ l:Bs,findSub p l=(idxL p l).map fun k=>l.drop (k + p.length)
  | []=>by unfold findSub idxL;rw [if_neg hp,if_neg hp];rfl
  | b :: r=>by
    unfold findSub idxL
    split
    · simp
    · rw [findSub_idx p hp r,Option.map_map]
      congr 1
      funext k
      simp [Nat.succ_add]
theorem upTo_idx (c:UInt8):∀ l:Bs,(Lib.indexByte l c=-1∧upTo c l=none) ∨ ∃ j:Nat,Lib.indexByte l c=j∧j < l.length∧upTo c l=some (l.take j)
  | []=>Or.inl ⟨rfl,rfl⟩
  | b :: r=>by
    unfold Lib.indexByte upTo
    by_cases h:b=c
    · right
      refine ⟨0,?_,by simp,?_⟩
      · rw [if_pos (by simpa using h)];rfl
      · rw [if_pos h];rfl
    · have h':(b == c)=false:=by simpa using h
      rw [h',if_neg h]
      rcases upTo_idx c r with ⟨h1,h2⟩|⟨j,h1,h2,h3⟩
      · left
        rw [h1,h2];exact ⟨rfl,rfl⟩
      · right
        rw [h1,h3]
        refine ⟨j + 1,?_,by simp;omega,by simp⟩
        have:((j:Int) == -1)=false:=by
          rw [beq_eq_false_iff_ne];omega
        simp [this]
def PsInv (p s:Bs) (w0:World) (k:Nat) (a:Act) (w:World):Prop:=
  ∃ f i,a=fr 69 f [(0,strV p),(1,strV s),(5,.int .i64 p.length),(6,.int .i64 (i:Nat)),(7,.int .u8 0)]∧w0=w∧i ≤ s.length∧k=s.length - i∧pinstL p s=pinstL p (s.drop i)
theorem procInst_c (q p:Bs) (hq:q ++ [61]=p) (hpl:p.length ≤ 100) (s:Bs) (hs:s.length ≤ 1000000000) (w:World) :
    Calls Tryz.prog 45 #[strV q,strV s] w fun en w'=>en=.returned (strV (pinstL p s))∧w'=w:=by
  have hqp:(⟨q.toArray⟩:ByteArray) ++ ⟨#[61]⟩=⟨p.toArray⟩:=by
    rw [← hq];apply ByteArray.ext;apply Array.toList_inj.1;simp
  have hpn:p ≠ []:=by rw [← hq];simp
  have hp1:1 ≤ p.length:=by rw [← hq];simp
  have hc1:¬ 9223372036854775807 < q.length + 1:=by rw [← hq] at hpl;simp at hpl;omega
  have HPN:=Lib.hid hpn
  have HPL:=Lib.hid hpl
  have HP1:=Lib.hid hp1
  have HS:=Lib.hid hs
  clear hq hpn hp1
  refine calls_fr (vs:=[_,_]) 69 Tryz.func45 rfl rfl (Nat.le_of_ble_eq_true rfl) fun f=>?_
  simp only [argSlots]
  (repeat (first|(with_reducible first|refine zA fun K hK=>?_|refine zB ?_|refine zC ?_)|((with_reducible first|refine zD rfl fun K hK=>?_|refine zE fun K hK=>?_);go_simp)|(with_reducible first|((repeat ((fail_if_success refine hK _ _ ?_);clear hK K));refine hK _ _ ?_;clear hK K)|refine zT (by go_simp;first|done|omega) ?_|refine zF (by go_simp;first|done|omega) ?_|refine zG ?_|refine zR ?_|refine zK ?_|refine zL ?_|refine zN ?_|refine zS ?_)|simp only [Exit.then,Exit.inBlock,Exit.noGoto,↓reduceIte,Nat.reduceEqDiff]|simp only [undef,reduceCtorEq,↓reduceIte]))
  (refine wp_keep [0,1,5,6,7] (fun f=>?_);simp only [keep_cons,keep_nil,lk_cons,lk_nil,Nat.reduceEqDiff,↓reduceIte])
  clear hqp hc1
  refine wp_loop_ghost_k (PsInv p s w) s.length ⟨f,0,rfl,rfl,Nat.zero_le _,rfl,by simp⟩ ?_
  rintro k _ w6 ⟨f,i,rfl,hww,hi,hk,hpi⟩ J K2 hJ hK2
  subst hww
  have HJ:=Lib.hid hJ
  have HK2:=Lib.hid hK2
  have HK:=Lib.hid hk
  have HPI:=Lib.hid hpi
  clear hJ hK2 hk hpi
  by_cases hlt:i < s.length
  · have h1:(i:Int) < (s.length:Int):=by omega
    have h0:(0:Int) ≤ (i:Int):=by omega
    have h2:(i:Int) ≤ (s.length:Int):=by omega
    have hsub:=ext_drop s i
    have hdl:(s.drop i).length=s.length - i:=List.length_drop
    have hix:=Lib.hid (zzIndex_c (s.drop i) p w (by omega) (by omega) HP1.out)
    have HDL:=Lib.hid hdl
    have hne:s.drop i ≠ []:=by intro h;rw [h] at hdl;simp at hdl;omega
    have HNE:=Lib.hid hne
    clear hdl hne
    (repeat (first|(with_reducible first|refine zA fun K hK=>?_|refine zB ?_|refine zC ?_)|((with_reducible first|refine zD rfl fun K hK=>?_|refine zE fun K hK=>?_);go_simp)|(with_reducible first|((repeat ((fail_if_success refine hK _ _ ?_);clear hK K));refine hK _ _ ?_;clear hK K)|refine zT (by go_simp;first|done|omega) ?_|refine zF (by go_simp;first|done|omega) ?_|refine zG ?_|refine zR ?_|refine zK ?_|refine zL ?_|refine zN ?_|refine zS ?_)|simp only [Exit.then,Exit.inBlock,Exit.noGoto,↓reduceIte,Nat.reduceEqDiff]|simp only [undef,reduceCtorEq,↓reduceIte]))
    refine hix.out.mono ?_
    rintro e1 w1 ⟨rfl,rfl⟩
    clear hix
    cases hx:idxL p (s.drop i) with
    | none=>
      have hI:idxI p (s.drop i)=-1:=by unfold idxI;rw [hx]
      rw [hI]
      have HRES:=Lib.hid (show pinstL p s=[] by
        rw [HPI.out,pinstL.eq_def,if_neg HNE.out]
        split
        · rfl
        · rfl
        · rename_i h;rw [findSub_idx p HPN.out,hx] at h;cases h)
      clear hx hI
      go_simp
      (repeat (first|(with_reducible first|refine zA fun K hK=>?_|refine zB ?_|refine zC ?_)|((with_reducible first|refine zD rfl fun K hK=>?_|refine zE fun K hK=>?_);go_simp)|(with_reducible first|((repeat ((fail_if_success refine hK _ _ ?_);clear hK K));refine hK _ _ ?_;clear hK K)|refine zT (by go_simp;first|done|omega) ?_|refine zF (by go_simp;first|done|omega) ?_|refine zG ?_|refine zR ?_|refine zK ?_|refine zL ?_|refine zN ?_|refine zS ?_)|simp only [Exit.then,Exit.inBlock,Exit.noGoto,↓reduceIte,Nat.reduceEqDiff]|simp only [undef,reduceCtorEq,↓reduceIte]))
      (refine fr_out1 rfl (by decide) (by simp only [lk_cons,lk_nil,Nat.reduceEqDiff,↓reduceIte];rfl) ?_)
      exact ⟨by rw [HRES.out],rfl⟩
    | some j=>
      have hI:idxI p (s.drop i)=j:=by unfold idxI;rw [hx]
      rw [hI]
      have hjl:=idxL_le p (s.drop i) j hx
      rw [HDL.out] at hjl
      have hj0:¬ ((j:Int) < 0):=by omega
      have hw1:IntKind.i64.wrap ((p.length:Int) + (j:Int))=((p.length + j:Nat):Int):=by rw [IntKind.wrap_i64];have:=HPL.out;have:=HS.out;omega
      obtain ⟨m,hm⟩:∃ m,m=p.length + j:=⟨_,rfl⟩
      rw [← hm] at hw1
      have hfs:findSub p (s.drop i)=some ((s.drop i).drop m):=by rw [findSub_idx p HPN.out,hx,hm];simp [Nat.add_comm]
      have hslen:(s.drop i).length=s.length - i:=HDL.out
      have HM:=Lib.hid hm
      have hml:m ≤ s.length - i:=by omega
      by_cases hend:m=s.length - i
      · have HRES:=Lib.hid (show pinstL p s=[] by
          rw [HPI.out,pinstL.eq_def,if_neg HNE.out]
          split
          · rfl
          · rfl
          · rename_i h;rw [hfs,List.drop_eq_nil_of_le (by rw [hslen];omega)] at h;cases h)
        have hge:((s.length - i:Nat):Int) ≤ (m:Int):=by omega
        clear hx hI hfs hslen hjl hm
        go_simp
        (repeat (first|(with_reducible first|refine zA fun K hK=>?_|refine zB ?_|refine zC ?_)|((with_reducible first|refine zD rfl fun K hK=>?_|refine zE fun K hK=>?_);go_simp)|(with_reducible first|((repeat ((fail_if_success refine hK _ _ ?_);clear hK K));refine hK _ _ ?_;clear hK K)|refine zT (by go_simp;first|done|omega) ?_|refine zF (by go_simp;first|done|omega) ?_|refine zG ?_|refine zR ?_|refine zK ?_|refine zL ?_|refine zN ?_|refine zS ?_)|simp only [Exit.then,Exit.inBlock,Exit.noGoto,↓reduceIte,Nat.reduceEqDiff]|simp only [undef,reduceCtorEq,↓reduceIte]))
        (refine fr_out1 rfl (by decide) (by simp only [lk_cons,lk_nil,Nat.reduceEqDiff,↓reduceIte];rfl) ?_)
        exact ⟨by rw [HRES.out],rfl⟩
      · have hlt2:m < s.length - i:=by omega
        obtain ⟨c,hc⟩:∃ c,c=(s.drop i).getD m 0:=⟨_,rfl⟩
        have hdrop:(s.drop i).drop m=c :: s.drop (i + m + 1):=by
          rw [hc,List.drop_drop]
          have h3:i + m < s.length:=by omega
          rw [List.drop_eq_getElem_cons h3]
          congr 1
          simp [List.getD_eq_getElem?_getD,List.getElem?_drop,h3]
        have hge:¬ ((s.length - i:Nat):Int) ≤ (m:Int):=by omega
        have hge2:(m:Int) < ((s.length - i:Nat):Int):=by omega
        have hm0:(0:Int) ≤ (m:Int):=by omega
        have hixx:∀ h,(⟨(s.drop i).toArray⟩:ByteArray)[m]'h=c:=by
          intro h;rw [hc];exact ixc (s.drop i) m h
        have hw2:IntKind.i64.wrap ((m:Int) + 1)=(m:Int) + 1:=by rw [IntKind.wrap_i64];have:=HS.out;omega
        have hw3:IntKind.i64.wrap ((i:Int) + ((m:Int) + 1))=((i + m + 1:Nat):Int):=by rw [IntKind.wrap_i64];have:=HS.out;omega
        have HPR:=Lib.hid (show pinstL p s=if c=39 ∨ c=34 then (upTo c (s.drop (i + m + 1))).getD [] else pinstL p (s.drop (i + m + 1)) by
          rw [HPI.out,pinstL.eq_def,if_neg HNE.out]
          split
          · rename_i h;rw [hfs] at h;cases h
          · rename_i h;rw [hfs,hdrop] at h;cases h
          · rename_i c' t' h
            rw [hfs,hdrop] at h
            simp only [Option.some.injEq,List.cons.injEq] at h
            obtain ⟨rfl,rfl⟩:=h
            rfl)
        have HLE:=Lib.hid (show i + m + 1 ≤ s.length by omega)
        clear hx hI hfs hslen hjl hm hdrop hc
        have hi3:=ext_drop s (i + m + 1)
        by_cases hq:c=39 ∨ c=34
        · have hcs:((c.toNat:Int) == 39)=true ∨ (((c.toNat:Int) == 39)=false∧((c.toNat:Int) == 34)=true):=by
            rcases hq with rfl|rfl
            · exact Or.inl rfl
            · exact Or.inr ⟨rfl,rfl⟩
          have hc0:((c.toNat:Int) == 0)=false:=by rcases hq with rfl|rfl <;> rfl
          have HPR2:=Lib.hid (show pinstL p s=(upTo c (s.drop (i + m + 1))).getD [] by rw [HPR.out,if_pos hq])
          have hib:=Lib.hid (Tryz.strings_IndexByte ⟨(s.drop (i + m + 1)).toArray⟩ (c.toNat:Int) w1)
          have hup:=upTo_idx c (s.drop (i + m + 1))
          obtain ⟨i2,hi2⟩:∃ i2,i2=i + m + 1:=⟨_,rfl⟩
          have HLE2:=Lib.hid (show i2 ≤ s.length by rw [hi2];exact HLE.out)
          rw [← hi2] at hw3 hi3 hib hup
          rw [← hi2] at HPR2
          have hcc:(c.toNat:Int).toNat.toUInt8=c:=by simp
          have hib2:=Lib.hid (show Calls Tryz.prog 72 #[.string ⟨(s.drop i2).toArray⟩,.int .u8 (c.toNat:Int)] w1 fun e w'=>e=.returned (.int .i64 (Lib.indexByte (s.drop i2) c))∧w'=w1 by have:=hib.out;rw [hcc] at this;exact this)
          have i20:(0:Int) ≤ (i2:Int):=by omega
          have i21:(i2:Int) ≤ (s.length:Int):=by have:=HLE2.out;omega
          clear hib hq hi2 hcc
          rcases hcs with t1|⟨t1,t2⟩
          all_goals
            go_simp
            (repeat (first|(with_reducible first|refine zA fun K hK=>?_|refine zB ?_|refine zC ?_)|((with_reducible first|refine zD rfl fun K hK=>?_|refine zE fun K hK=>?_);go_simp)|(with_reducible first|((repeat ((fail_if_success refine hK _ _ ?_);clear hK K));refine hK _ _ ?_;clear hK K)|refine zT (by go_simp;first|done|omega) ?_|refine zF (by go_simp;first|done|omega) ?_|refine zG ?_|refine zR ?_|refine zK ?_|refine zL ?_|refine zN ?_|refine zS ?_)|simp only [Exit.then,Exit.inBlock,Exit.noGoto,↓reduceIte,Nat.reduceEqDiff]|simp only [undef,reduceCtorEq,↓reduceIte]))
            refine hib2.out.mono ?_
            rintro e2 w2 ⟨rfl,rfl⟩
            rcases hup with ⟨u1,u2⟩|⟨j2,u1,u2,u3⟩
            · rw [u1]
              have HRES:=Lib.hid (show pinstL p s=[] by rw [HPR2.out,u2];rfl)
              clear u1 u2
              go_simp
              (repeat (first|(with_reducible first|refine zA fun K hK=>?_|refine zB ?_|refine zC ?_)|((with_reducible first|refine zD rfl fun K hK=>?_|refine zE fun K hK=>?_);go_simp)|(with_reducible first|((repeat ((fail_if_success refine hK _ _ ?_);clear hK K));refine hK _ _ ?_;clear hK K)|refine zT (by go_simp;first|done|omega) ?_|refine zF (by go_simp;first|done|omega) ?_|refine zG ?_|refine zR ?_|refine zK ?_|refine zL ?_|refine zN ?_|refine zS ?_)|simp only [Exit.then,Exit.inBlock,Exit.noGoto,↓reduceIte,Nat.reduceEqDiff]|simp only [undef,reduceCtorEq,↓reduceIte]))
              (refine fr_out1 rfl (by decide) (by simp only [lk_cons,lk_nil,Nat.reduceEqDiff,↓reduceIte];rfl) ?_)
              exact ⟨by rw [HRES.out],rfl⟩
            · rw [u1]
              have HRES:=Lib.hid (show pinstL p s=(s.drop i2).take j2 by rw [HPR2.out,u3];rfl)
              have hjj:¬ ((j2:Int) < 0):=by omega
              rw [List.length_drop] at u2
              obtain ⟨en,hen⟩:∃ en,en=i2 + j2:=⟨_,rfl⟩
              have hw4:IntKind.i64.wrap ((i2:Int) + (j2:Int))=(en:Int):=by rw [IntKind.wrap_i64];have:=HS.out;omega
              have h5:(en:Int) ≤ (s.length:Int):=by omega
              have h6:(i2:Int) ≤ (en:Int):=by omega
              have h7:(0:Int) ≤ (en:Int):=by omega
              have hex:(⟨s.toArray⟩:ByteArray).extract i2 en=⟨((s.drop i2).take j2).toArray⟩:=by
                rw [hen]
                apply ByteArray.ext
                apply Array.toList_inj.1
                rw [Lib.extract_data];simp
              clear hen
              clear u1 u2 u3
              go_simp
              (repeat (first|(with_reducible first|refine zA fun K hK=>?_|refine zB ?_|refine zC ?_)|((with_reducible first|refine zD rfl fun K hK=>?_|refine zE fun K hK=>?_);go_simp)|(with_reducible first|((repeat ((fail_if_success refine hK _ _ ?_);clear hK K));refine hK _ _ ?_;clear hK K)|refine zT (by go_simp;first|done|omega) ?_|refine zF (by go_simp;first|done|omega) ?_|refine zG ?_|refine zR ?_|refine zK ?_|refine zL ?_|refine zN ?_|refine zS ?_)|simp only [Exit.then,Exit.inBlock,Exit.noGoto,↓reduceIte,Nat.reduceEqDiff]|simp only [undef,reduceCtorEq,↓reduceIte]))
              (refine fr_out1 rfl (by decide) (by simp only [lk_cons,lk_nil,Nat.reduceEqDiff,↓reduceIte];rfl) ?_)
              exact ⟨by rw [HRES.out],rfl⟩
        · have t1:=u8ne (n:=39) (fun h=>hq (Or.inl h)) rfl
          have t2:=u8ne (n:=34) (fun h=>hq (Or.inr h)) rfl
          have HPR2:=Lib.hid (show pinstL p s=pinstL p (s.drop (i + m + 1)) by rw [HPR.out,if_neg hq])
          clear hq
          go_simp
          (repeat (first|(with_reducible first|refine zA fun K hK=>?_|refine zB ?_|refine zC ?_)|((with_reducible first|refine zD rfl fun K hK=>?_|refine zE fun K hK=>?_);go_simp)|(with_reducible first|((repeat ((fail_if_success refine hK _ _ ?_);clear hK K));refine hK _ _ ?_;clear hK K)|refine zT (by go_simp;first|done|omega) ?_|refine zF (by go_simp;first|done|omega) ?_|refine zG ?_|refine zR ?_|refine zK ?_|refine zL ?_|refine zN ?_|refine zS ?_)|simp only [Exit.then,Exit.inBlock,Exit.noGoto,↓reduceIte,Nat.reduceEqDiff]|simp only [undef,reduceCtorEq,↓reduceIte]))
          (refine K_keep [0,1,5,6,7] (fun f=>?_);simp only [keep_cons,keep_nil,lk_cons,lk_nil,Nat.reduceEqDiff,↓reduceIte])
          refine HK2.out _ _ ⟨s.length - (i + m + 1),?_,HJ.out _ _ _ ⟨f,i + m + 1,rfl,rfl,HLE.out,rfl,HPR2.out⟩⟩
          rw [HK.out];have:=HLE.out;omega
  · have hii:i=s.length:=by omega
    subst hii
    have h1:¬ ((s.length:Int) < (s.length:Int)):=by omega
    have HRES:=Lib.hid (show pinstL p s=[] by rw [HPI.out,List.drop_length,pinstL.eq_def,if_pos rfl])
    (repeat (first|(with_reducible first|refine zA fun K hK=>?_|refine zB ?_|refine zC ?_)|((with_reducible first|refine zD rfl fun K hK=>?_|refine zE fun K hK=>?_);go_simp)|(with_reducible first|((repeat ((fail_if_success refine hK _ _ ?_);clear hK K));refine hK _ _ ?_;clear hK K)|refine zT (by go_simp;first|done|omega) ?_|refine zF (by go_simp;first|done|omega) ?_|refine zG ?_|refine zR ?_|refine zK ?_|refine zL ?_|refine zN ?_|refine zS ?_)|simp only [Exit.then,Exit.inBlock,Exit.noGoto,↓reduceIte,Nat.reduceEqDiff]|simp only [undef,reduceCtorEq,↓reduceIte]))
    (refine fr_out1 rfl (by decide) (by simp only [lk_cons,lk_nil,Nat.reduceEqDiff,↓reduceIte];rfl) ?_)
    exact ⟨by rw [HRES.out],rfl⟩
end Go.Proofs.YtkjnockljapnbaaGreatDoor
