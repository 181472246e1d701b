/- Part of the proof that laws.FnBalanced returns true for every argument (Ps, Wn). No condition of its own. -/
import Derived.Test.YtkjnockljapnbaaGreatDoorO21
import Derived.Test.YtkjnockljapnbaaGreatDoorO24
import Derived.Test.YtkjnockljapnbaaGreatDoorO14
set_option linter.all false
set_option maxHeartbeats 8000000
set_option maxRecDepth 100000
namespace Go.Proofs.YtkjnockljapnbaaGreatDoor
open Go Go.RowKit
theorem findSub_idx (p:Bs) (hp:p ≠ []):∀ l:Bs,findSub p l=(idxL p l).map fun k=>l.drop (k + p.length)
  | []=>by unfold findSub idxL;rw [if_neg hp,if_neg hp];rfl
  | b :: r=>by
    unfold findSub idxL
    split
    · simp
    · rw [findSub_idx p hp r,Option.map_map]
      congr 1
      funext k
      simp [Nat.succ_add]
theorem upTo_idx (c:UInt8):∀ l:Bs,(Lib.indexByte l c=-1∧upTo c l=none) ∨ ∃ j:Nat,Lib.indexByte l c=j∧j < l.length∧upTo c l=some (l.take j)
  | []=>Or.inl ⟨rfl,rfl⟩
  | b :: r=>by
    unfold Lib.indexByte upTo
    by_cases h:b=c
    · right
      refine ⟨0,?_,by simp,?_⟩
      · rw [if_pos (by simpa using h)];rfl
      · rw [if_pos h];rfl
    · have h':(b == c)=false:=by simpa using h
      rw [h',if_neg h]
      rcases upTo_idx c r with ⟨h1,h2⟩|⟨j,h1,h2,h3⟩
      · left
        rw [h1,h2];exact ⟨rfl,rfl⟩
      · right
        rw [h1,h3]
        refine ⟨j + 1,?_,by simp;omega,by simp⟩
        have:((j:Int) == -1)=false:=by
          rw [beq_eq_false_iff_ne];omega
        simp [this]
def PsInv (p s:Bs) (w0:World) (k:Nat) (a:Act) (w:World):Prop:=
  ∃ f i,a=fr 69 f [(0,strV p),(1,strV s),(5,.int .i64 p.length),(6,.int .i64 (i:Nat)),(7,.int .u8 0)]∧w0=w∧i ≤ s.length∧k=s.length - i∧pinstL p s=pinstL p (s.drop i)
theorem procInst_c (q p:Bs) (hq:q ++ [61]=p) (hpl:p.length ≤ 100) (s:Bs) (hs:s.length ≤ 1000000000) (w:World) :
    Calls Tryz.prog 45 #[strV q,strV s] w fun en w'=>en=.returned (strV (pinstL p s))∧w'=w:=by
  have hqp:(⟨q.toArray⟩:ByteArray) ++ ⟨#[61]⟩=⟨p.toArray⟩:=by
    rw [← hq];apply ByteArray.ext;apply Array.toList_inj.1;simp
  have hpn:p ≠ []:=by rw [← hq];simp
  have hp1:1 ≤ p.length:=by rw [← hq];simp
  have hc1:¬ 9223372036854775807 < q.length + 1:=by rw [← hq] at hpl;simp at hpl;omega
  have HPN:=Lib.hid hpn
  have HPL:=Lib.hid hpl
  have HP1:=Lib.hid hp1
  have HS:=Lib.hid hs
  clear hq hpn hp1
  refine calls_fr (vs:=[_,_]) 69 Tryz.func45 rfl rfl (Nat.le_of_ble_eq_true rfl) fun f=>?_
  simp only [argSlots]
  (repeat (first|(with_reducible first|refine zA fun K hK=>?_|refine zB ?_|refine zC ?_)|((with_reducible first|refine zD rfl fun K hK=>?_|refine zE fun K hK=>?_);go_simp)|(with_reducible first|((repeat ((fail_if_success refine hK _ _ ?_);clear hK K));refine hK _ _ ?_;clear hK K)|refine zt ?_|refine zf ?_|refine zG ?_|refine zR ?_|refine zK ?_|refine zL ?_|refine zN ?_|refine zS ?_)|simp only [Exit.then,Exit.inBlock,Exit.noGoto,↓reduceIte,Nat.reduceEqDiff]|simp only [undef,reduceCtorEq,↓reduceIte]))
  (refine wp_keep [0,1,5,6,7] (fun f=>?_);simp only [keep_cons,keep_nil,lk_cons,lk_nil,Nat.reduceEqDiff,↓reduceIte])
  clear hqp hc1
  refine wp_loop_ghost_k (PsInv p s w) s.length ⟨f,0,rfl,rfl,Nat.zero_le _,rfl,by simp⟩ ?_
  rintro k _ w6 ⟨f,i,rfl,hww,hi,hk,hpi⟩ J K2 hJ hK2
  subst hww
  have HJ:=Lib.hid hJ
  have HK2:=Lib.hid hK2
  have HK:=Lib.hid hk
  have HPI:=Lib.hid hpi
  clear hJ hK2 hk hpi
  by_cases hlt:i < s.length
  · have h1:(i:Int) < (s.length:Int):=by omega
    have h0:(0:Int) ≤ (i:Int):=by omega
    have h2:(i:Int) ≤ (s.length:Int):=by omega
    have hsub:=ext_drop s i
    have hdl:(s.drop i).length=s.length - i:=List.length_drop
    have hix:=Lib.hid (zzIndex_c (s.drop i) p w (by omega) (by omega) HP1.out)
    have HDL:=Lib.hid hdl
    have hne:s.drop i ≠ []:=by intro h;rw [h] at hdl;simp at hdl;omega
    have HNE:=Lib.hid hne
    clear hdl hne
    (repeat (first|(with_reducible first|refine zA fun K hK=>?_|refine zB ?_|refine zC ?_)|((with_reducible first|refine zD rfl fun K hK=>?_|refine zE fun K hK=>?_);go_simp)|(with_reducible first|((repeat ((fail_if_success refine hK _ _ ?_);clear hK K));refine hK _ _ ?_;clear hK K)|refine zt ?_|refine zf ?_|refine zG ?_|refine zR ?_|refine zK ?_|refine zL ?_|refine zN ?_|refine zS ?_)|simp only [Exit.then,Exit.inBlock,Exit.noGoto,↓reduceIte,Nat.reduceEqDiff]|simp only [undef,reduceCtorEq,↓reduceIte]))
    refine hix.out.mono ?_
    rintro e1 w1 ⟨rfl,rfl⟩
    clear hix
    cases hx:idxL p (s.drop i) with
    | none=>
      have hI:idxI p (s.drop i)=-1:=by unfold idxI;rw [hx]
      rw [hI]
      have HRES:=Lib.hid (show pinstL p s=[] by
        rw [HPI.out,pinstL.eq_def,if_neg HNE.out]
        split
        · rfl
        · rfl
        · rename_i h;rw [findSub_idx p HPN.out,hx] at h;cases h)
      clear hx hI
      go_simp
      (repeat (first|(with_reducible first|refine zA fun K hK=>?_|refine zB ?_|refine zC ?_)|((with_reducible first|refine zD rfl fun K hK=>?_|refine zE fun K hK=>?_);go_simp)|(with_reducible first|((repeat ((fail_if_success refine hK _ _ ?_);clear hK K));refine hK _ _ ?_;clear hK K)|refine zt ?_|refine zf ?_|refine zG ?_|refine zR ?_|refine zK ?_|refine zL ?_|refine zN ?_|refine zS ?_)|simp only [Exit.then,Exit.inBlock,Exit.noGoto,↓reduceIte,Nat.reduceEqDiff]|simp only [undef,reduceCtorEq,↓reduceIte]))
      (refine fr_out1 rfl (by decide) (by simp only [lk_cons,lk_nil,Nat.reduceEqDiff,↓reduceIte];rfl) ?_)
      exact ⟨by rw [HRES.out],rfl⟩
    | some j=>
      have hI:idxI p (s.drop i)=j:=by unfold idxI;rw [hx]
      rw [hI]
      have hjl:=idxL_le p (s.drop i) j hx
      rw [HDL.out] at hjl
      have hj0:¬ ((j:Int) < 0):=by omega
      have hw1:IntKind.i64.wrap ((p.length:Int) + (j:Int))=((p.length + j:Nat):Int):=by rw [IntKind.wrap_i64];have:=HPL.out;have:=HS.out;omega
      obtain ⟨m,hm⟩:∃ m,m=p.length + j:=⟨_,rfl⟩
      rw [← hm] at hw1
      have hfs:findSub p (s.drop i)=some ((s.drop i).drop m):=by rw [findSub_idx p HPN.out,hx,hm];simp [Nat.add_comm]
      have hslen:(s.drop i).length=s.length - i:=HDL.out
      have HM:=Lib.hid hm
      have hml:m ≤ s.length - i:=by omega
      by_cases hend:m=s.length - i
      · have HRES:=Lib.hid (show pinstL p s=[] by
          rw [HPI.out,pinstL.eq_def,if_neg HNE.out]
          split
          · rfl
          · rfl
          · rename_i h;rw [hfs,List.drop_eq_nil_of_le (by rw [hslen];omega)] at h;cases h)
        have hge:((s.length - i:Nat):Int) ≤ (m:Int):=by omega
        clear hx hI hfs hslen hjl hm
        go_simp
        (repeat (first|(with_reducible first|refine zA fun K hK=>?_|refine zB ?_|refine zC ?_)|((with_reducible first|refine zD rfl fun K hK=>?_|refine zE fun K hK=>?_);go_simp)|(with_reducible first|((repeat ((fail_if_success refine hK _ _ ?_);clear hK K));refine hK _ _ ?_;clear hK K)|refine zt ?_|refine zf ?_|refine zG ?_|refine zR ?_|refine zK ?_|refine zL ?_|refine zN ?_|refine zS ?_)|simp only [Exit.then,Exit.inBlock,Exit.noGoto,↓reduceIte,Nat.reduceEqDiff]|simp only [undef,reduceCtorEq,↓reduceIte]))
        (refine fr_out1 rfl (by decide) (by simp only [lk_cons,lk_nil,Nat.reduceEqDiff,↓reduceIte];rfl) ?_)
        exact ⟨by rw [HRES.out],rfl⟩
      · have hlt2:m < s.length - i:=by omega
        obtain ⟨c,hc⟩:∃ c,c=(s.drop i).getD m 0:=⟨_,rfl⟩
        have hdrop:(s.drop i).drop m=c :: s.drop (i + m + 1):=by
          rw [hc,List.drop_drop]
          have h3:i + m < s.length:=by omega
          rw [List.drop_eq_getElem_cons h3]
          congr 1
          simp [List.getD_eq_getElem?_getD,List.getElem?_drop,h3]
        have hge:¬ ((s.length - i:Nat):Int) ≤ (m:Int):=by omega
        have hge2:(m:Int) < ((s.length - i:Nat):Int):=by omega
        have hm0:(0:Int) ≤ (m:Int):=by omega
        have hixx:∀ h,(⟨(s.drop i).toArray⟩:ByteArray)[m]'h=c:=by
          intro h;rw [hc];exact ixc (s.drop i) m h
        have hw2:IntKind.i64.wrap ((m:Int) + 1)=(m:Int) + 1:=by rw [IntKind.wrap_i64];have:=HS.out;omega
        have hw3:IntKind.i64.wrap ((i:Int) + ((m:Int) + 1))=((i + m + 1:Nat):Int):=by rw [IntKind.wrap_i64];have:=HS.out;omega
        have HPR:=Lib.hid (show pinstL p s=if c=39 ∨ c=34 then (upTo c (s.drop (i + m + 1))).getD [] else pinstL p (s.drop (i + m + 1)) by
          rw [HPI.out,pinstL.eq_def,if_neg HNE.out]
          split
          · rename_i h;rw [hfs] at h;cases h
          · rename_i h;rw [hfs,hdrop] at h;cases h
          · rename_i c' t' h
            rw [hfs,hdrop] at h
            simp only [Option.some.injEq,List.cons.injEq] at h
            obtain ⟨rfl,rfl⟩:=h
            rfl)
        have HLE:=Lib.hid (show i + m + 1 ≤ s.length by omega)
        clear hx hI hfs hslen hjl hm hdrop hc
        have hi3:=ext_drop s (i + m + 1)
        by_cases hq:c=39 ∨ c=34
        · have hcs:((c.toNat:Int) == 39)=true ∨ (((c.toNat:Int) == 39)=false∧((c.toNat:Int) == 34)=true):=by
            rcases hq with rfl|rfl
            · exact Or.inl rfl
            · exact Or.inr ⟨rfl,rfl⟩
          have hc0:((c.toNat:Int) == 0)=false:=by rcases hq with rfl|rfl <;> rfl
          have HPR2:=Lib.hid (show pinstL p s=(upTo c (s.drop (i + m + 1))).getD [] by rw [HPR.out,if_pos hq])
          have hib:=Lib.hid (Tryz.strings_IndexByte ⟨(s.drop (i + m + 1)).toArray⟩ (c.toNat:Int) w1)
          have hup:=upTo_idx c (s.drop (i + m + 1))
          obtain ⟨i2,hi2⟩:∃ i2,i2=i + m + 1:=⟨_,rfl⟩
          have HLE2:=Lib.hid (show i2 ≤ s.length by rw [hi2];exact HLE.out)
          rw [← hi2] at hw3 hi3 hib hup
          rw [← hi2] at HPR2
          have hcc:(c.toNat:Int).toNat.toUInt8=c:=by simp
          have hib2:=Lib.hid (show Calls Tryz.prog 72 #[.string ⟨(s.drop i2).toArray⟩,.int .u8 (c.toNat:Int)] w1 fun e w'=>e=.returned (.int .i64 (Lib.indexByte (s.drop i2) c))∧w'=w1 by have:=hib.out;rw [hcc] at this;exact this)
          have i20:(0:Int) ≤ (i2:Int):=by omega
          have i21:(i2:Int) ≤ (s.length:Int):=by have:=HLE2.out;omega
          clear hib hq hi2 hcc
          rcases hcs with t1|⟨t1,t2⟩
          all_goals
            go_simp
            (repeat (first|(with_reducible first|refine zA fun K hK=>?_|refine zB ?_|refine zC ?_)|((with_reducible first|refine zD rfl fun K hK=>?_|refine zE fun K hK=>?_);go_simp)|(with_reducible first|((repeat ((fail_if_success refine hK _ _ ?_);clear hK K));refine hK _ _ ?_;clear hK K)|refine zt ?_|refine zf ?_|refine zG ?_|refine zR ?_|refine zK ?_|refine zL ?_|refine zN ?_|refine zS ?_)|simp only [Exit.then,Exit.inBlock,Exit.noGoto,↓reduceIte,Nat.reduceEqDiff]|simp only [undef,reduceCtorEq,↓reduceIte]))
            refine hib2.out.mono ?_
            rintro e2 w2 ⟨rfl,rfl⟩
            rcases hup with ⟨u1,u2⟩|⟨j2,u1,u2,u3⟩
            · rw [u1]
              have HRES:=Lib.hid (show pinstL p s=[] by rw [HPR2.out,u2];rfl)
              clear u1 u2
              go_simp
              (repeat (first|(with_reducible first|refine zA fun K hK=>?_|refine zB ?_|refine zC ?_)|((with_reducible first|refine zD rfl fun K hK=>?_|refine zE fun K hK=>?_);go_simp)|(with_reducible first|((repeat ((fail_if_success refine hK _ _ ?_);clear hK K));refine hK _ _ ?_;clear hK K)|refine zt ?_|refine zf ?_|refine zG ?_|refine zR ?_|refine zK ?_|refine zL ?_|refine zN ?_|refine zS ?_)|simp only [Exit.then,Exit.inBlock,Exit.noGoto,↓reduceIte,Nat.reduceEqDiff]|simp only [undef,reduceCtorEq,↓reduceIte]))
              (refine fr_out1 rfl (by decide) (by simp only [lk_cons,lk_nil,Nat.reduceEqDiff,↓reduceIte];rfl) ?_)
              exact ⟨by rw [HRES.out],rfl⟩
            · rw [u1]
              have HRES:=Lib.hid (show pinstL p s=(s.drop i2).take j2 by rw [HPR2.out,u3];rfl)
              have hjj:¬ ((j2:Int) < 0):=by omega
              rw [List.length_drop] at u2
              obtain ⟨en,hen⟩:∃ en,en=i2 + j2:=⟨_,rfl⟩
              have hw4:IntKind.i64.wrap ((i2:Int) + (j2:Int))=(en:Int):=by rw [IntKind.wrap_i64];have:=HS.out;omega
              have h5:(en:Int) ≤ (s.length:Int):=by omega
              have h6:(i2:Int) ≤ (en:Int):=by omega
              have h7:(0:Int) ≤ (en:Int):=by omega
              have hex:(⟨s.toArray⟩:ByteArray).extract i2 en=⟨((s.drop i2).take j2).toArray⟩:=by
                rw [hen]
                apply ByteArray.ext
                apply Array.toList_inj.1
                rw [Lib.extract_data];simp
              clear hen
              clear u1 u2 u3
              go_simp
              (repeat (first|(with_reducible first|refine zA fun K hK=>?_|refine zB ?_|refine zC ?_)|((with_reducible first|refine zD rfl fun K hK=>?_|refine zE fun K hK=>?_);go_simp)|(with_reducible first|((repeat ((fail_if_success refine hK _ _ ?_);clear hK K));refine hK _ _ ?_;clear hK K)|refine zt ?_|refine zf ?_|refine zG ?_|refine zR ?_|refine zK ?_|refine zL ?_|refine zN ?_|refine zS ?_)|simp only [Exit.then,Exit.inBlock,Exit.noGoto,↓reduceIte,Nat.reduceEqDiff]|simp only [undef,reduceCtorEq,↓reduceIte]))
              (refine fr_out1 rfl (by decide) (by simp only [lk_cons,lk_nil,Nat.reduceEqDiff,↓reduceIte];rfl) ?_)
              exact ⟨by rw [HRES.out],rfl⟩
        · have t1:=u8ne (n:=39) (fun h=>hq (Or.inl h)) rfl
          have t2:=u8ne (n:=34) (fun h=>hq (Or.inr h)) rfl
          have HPR2:=Lib.hid (show pinstL p s=pinstL p (s.drop (i + m + 1)) by rw [HPR.out,if_neg hq])
          clear hq
          go_simp
          (repeat (first|(with_reducible first|refine zA fun K hK=>?_|refine zB ?_|refine zC ?_)|((with_reducible first|refine zD rfl fun K hK=>?_|refine zE fun K hK=>?_);go_simp)|(with_reducible first|((repeat ((fail_if_success refine hK _ _ ?_);clear hK K));refine hK _ _ ?_;clear hK K)|refine zt ?_|refine zf ?_|refine zG ?_|refine zR ?_|refine zK ?_|refine zL ?_|refine zN ?_|refine zS ?_)|simp only [Exit.then,Exit.inBlock,Exit.noGoto,↓reduceIte,Nat.reduceEqDiff]|simp only [undef,reduceCtorEq,↓reduceIte]))
          (refine K_keep [0,1,5,6,7] (fun f=>?_);simp only [keep_cons,keep_nil,lk_cons,lk_nil,Nat.reduceEqDiff,↓reduceIte])
          refine HK2.out _ _ ⟨s.length - (i + m + 1),?_,HJ.out _ _ _ ⟨f,i + m + 1,rfl,rfl,HLE.out,rfl,HPR2.out⟩⟩
          rw [HK.out];have:=HLE.out;omega
  · have hii:i=s.length:=by omega
    subst hii
    have h1:¬ ((s.length:Int) < (s.length:Int)):=by omega
    have HRES:=Lib.hid (show pinstL p s=[] by rw [HPI.out,List.drop_length,pinstL.eq_def,if_pos rfl])
    (repeat (first|(with_reducible first|refine zA fun K hK=>?_|refine zB ?_|refine zC ?_)|((with_reducible first|refine zD rfl fun K hK=>?_|refine zE fun K hK=>?_);go_simp)|(with_reducible first|((repeat ((fail_if_success refine hK _ _ ?_);clear hK K));refine hK _ _ ?_;clear hK K)|refine zt ?_|refine zf ?_|refine zG ?_|refine zR ?_|refine zK ?_|refine zL ?_|refine zN ?_|refine zS ?_)|simp only [Exit.then,Exit.inBlock,Exit.noGoto,↓reduceIte,Nat.reduceEqDiff]|simp only [undef,reduceCtorEq,↓reduceIte]))
    (refine fr_out1 rfl (by decide) (by simp only [lk_cons,lk_nil,Nat.reduceEqDiff,↓reduceIte];rfl) ?_)
    exact ⟨by rw [HRES.out],rfl⟩
end Go.Proofs.YtkjnockljapnbaaGreatDoor
namespace Go.Proofs.YtkjnockljapnbaaGreatDoor
open Go Go.RowKit
abbrev xmlL:Bs:=[120,109,108]
theorem errNew_c (m:ByteArray) (w:World):Calls Tryz.prog 46 #[.string m] w fun e w'=>∃ a:Addr,e=.returned (errV a)∧w.heap.size ≤ a.block∧Below w.heap.size w w'∧∃ cs t,Blk w' a.block cs t:=by
  refine calls_fr (vs:=[_]) 7 Tryz.func46 rfl rfl (Nat.le_of_ble_eq_true rfl) fun f=>?_
  simp only [argSlots]
  (repeat (first|(with_reducible first|refine zA fun K hK=>?_|refine zB ?_|refine zC ?_)|((with_reducible first|refine zD rfl fun K hK=>?_|refine zE fun K hK=>?_);go_simp)|(with_reducible first|((repeat ((fail_if_success refine hK _ _ ?_);clear hK K));refine hK _ _ ?_;clear hK K)|refine zt ?_|refine zf ?_|refine zG ?_|refine zR ?_|refine zK ?_|refine zL ?_|refine zN ?_|refine zS ?_)|simp only [Exit.then,Exit.inBlock,Exit.noGoto,↓reduceIte,Nat.reduceEqDiff]|simp only [undef,reduceCtorEq,↓reduceIte]))
  (refine fr_out1 rfl (by decide) (by simp only [lk_cons,lk_nil,Nat.reduceEqDiff,↓reduceIte];rfl) ?_)
  exact ⟨⟨w.heap.size,0,none⟩,rfl,Nat.le_refl _,(Below.refl _ w).alloc (Nat.le_refl _) _,_,_,Blk.new w _ _⟩
theorem RdS.oth {x:Cx} (hx:x.Ok) {c:DC} {w w':World} {v:DV} {rest:Bs} {e:Option EK} {buf:Bs} (h:RdS x c w v rest e buf) (hb:Below w.heap.size w w') (a:Addr) (ha:w.heap.size ≤ a.block) :
    DecAt w' x.d c v∧ErrS x c (w'.setCell ⟨x.d,20,none⟩ (errV a)) { v with err:=errV a } .other∧Stp x w v (w'.setCell ⟨x.d,20,none⟩ (errV a)) { v with err:=errV a }:=
  ⟨Blk.mod (S:=fun _=>False) h.dec (mod_none hb _) id,
   ⟨(Mod.below h.base h.base.size (mod_none hb (fun _=>False)) (fun _ h=>h.elim)).setCell hx.d _,(show Blk _ x.d _ _ from Blk.mod (S:=fun _=>False) h.dec (mod_none hb _) id).set 20 _,⟨a,rfl,Nat.le_trans h.base.size ha⟩⟩,
   (Stp.refl x w v).syn hb _⟩
def OthAt (w:World) (e:Value) (k:EK):Prop:=k=.other → ∃ a cs t,e=errV a∧Blk w a.block cs t
theorem OthAt.no {w:World} {e:Value} {k:EK} (h:k ≠ .other):OthAt w e k:=fun hh=>absurd hh h
def RawPostO (x:Cx) (c:DC) (w:World) (v:DV) (R:Except EK (RTok × Bs)) (t e:Value) (w':World):Prop:=RawPost x c w v R t e w'∧∀ k,R=.error k → OthAt w' e k
theorem RawPost.o {x:Cx} {c:DC} {w:World} {v:DV} {R:Except EK (RTok × Bs)} {t e:Value} {w':World} (h:RawPost x c w v R t e w') (hn:NoO R):RawPostO x c w v R t e w':=
  ⟨h,fun k hk=>OthAt.no (fun hh=>by subst hh;exact hn hk)⟩
def piEnd (o:Opt) (tg d r:Bs):Except EK (RTok × Bs):=if tg=xmlL∧declOk d=false then .error .other else .ok (.proc tg d,r)
theorem lbne {s p:Bs} (h:¬ s=p):(s == p)=false∧(s != p)=true:=by
  have h1:(s == p)=false:=by simpa using h
  exact ⟨h1,by simp [h]⟩
theorem upTo_len (c:UInt8):∀ (l r:Bs),upTo c l=some r → r.length ≤ l.length
  | [],r,h=>by unfold upTo at h;cases h
  | b :: l,r,h=>by
    unfold upTo at h
    split at h
    · simp only [Option.some.injEq] at h;subst h;simp
    · rw [Option.map_eq_some_iff] at h
      obtain ⟨q,hq,rfl⟩:=h
      have:=upTo_len c l q hq
      simp;omega
theorem pinstL_len (p:Bs):∀ (n:Nat) (s:Bs),s.length ≤ n → (pinstL p s).length ≤ s.length:=by
  intro n
  induction n with
  | zero=>
    intro s hs
    have:s=[]:=List.eq_nil_of_length_eq_zero (by omega)
    subst this
    rw [pinstL.eq_def,if_pos rfl];simp
  | succ n ih=>
    intro s hs
    rw [pinstL.eq_def]
    split
    · simp
    · split
      · simp
      · simp
      · rename_i c t h
        have h1:=findSub_len h
        simp only [List.length_cons] at h1
        split
        · cases hu:upTo c t with
          | none=>simp
          | some q=>have:=upTo_len c t q hu;simp;omega
        · have:=ih t (by omega)
          omega
theorem nilFuncEq (w:World):(binOp .eql 69 .nilFunc .nilFunc).run Tryz.prog w=.ok (.bool true) w:=by kernel_rfl
theorem piDecl (x:Cx) (hx:x.All) (haf:AfTab x.W0) (hafB:3 < x.B) (c:DC) (w:World) (v:DV) (r:Bs) (b:Bs) (h:RdS x c w v r none b) (hnb:v.nb=-1) (tg d:Bs) (g cap:Nat) (hby:BytesAt w g 0 d) (hl:d.length ≤ 1000000000) (hcl:d.length ≤ cap) (hcm:cap ≤ 9223372036854775807) (n:Nat) (hbv:v.bufv=.slice (some ⟨g,0,none⟩) n cap)
    (Q:Exit → Act → World → Prop) (hQ:∀ f w' t e,RawPostO x c w v (piEnd x.o tg d r) t e w' → Q .ret (fr 731 f [(2,t),(3,e)]) w') (f:Nat → Value) :
    (rwCode 54).wp Tryz.prog Q (fr 731 f [(0,decP x),(8,strV tg),(10,.slice (some ⟨g,0,none⟩) d.length cap)]) w:=by
  have HX:=Lib.hid hx
  have HQ:=Lib.hid hQ
  have H:=Lib.hid h
  have HBV:=Lib.hid hbv
  have HAF:=Lib.hid (show ∀ w',Below x.B x.W0 w' → AfTab w' from fun w' hb=>haf.below hb)
  have HU8:=Lib.hid (fun w' (hb:Below x.B x.W0 w')=>hx.toFit.tabs hb)
  have HDAT:=Lib.hid (show ∀ w',Below w.heap.size w w' → DataAt w' v.bufv (.slice (some ⟨g,0,none⟩) d.length cap) d from fun w' hb=>⟨g,cap,n,rfl,hbv,hby.below hb,hcl,hcm⟩)
  have hcv:=conv_part d w g 0 cap hby
  have HL:=Lib.hid hl
  have HNB:=Lib.hid hnb
  clear hx haf hafB hQ h hby hbv hl hcl hcm hnb
  have HTOK:=Lib.hid (show ∀ w',Below w.heap.size w w' → piEnd x.o tg d r=.ok (.proc tg d,r) → RawPostO x c w v (piEnd x.o tg d r) (pvV tg (.slice (some ⟨g,0,none⟩) d.length cap)) .nilIface w' from
    fun w' hb he=>⟨⟨v,(Stp.refl x w v).below hb,by rw [he];exact ⟨rfl,none,b,H.out.below HX.out.toOk hb,⟨_,rfl,HDAT.out w' hb⟩,Or.inl rfl,HNB.out⟩⟩,fun k hk=>by rw [he] at hk;cases hk⟩)
  unfold rwCode
  conv=>arg 2;whnf
  by_cases hxml:tg=xmlL
  · subst hxml
    have hv:=Lib.hid (procInst_c [118,101,114,115,105,111,110] verP rfl (by decide) d HL.out w)
    have he:=Lib.hid (procInst_c [101,110,99,111,100,105,110,103] encP rfl (by decide) d HL.out w)
    (repeat (first|(with_reducible first|refine zA fun K hK=>?_|refine zB ?_|refine zC ?_)|((with_reducible first|refine zD rfl fun K hK=>?_|refine zE fun K hK=>?_);go_simp)|(with_reducible first|((repeat ((fail_if_success refine hK _ _ ?_);clear hK K));refine hK _ _ ?_;clear hK K)|refine zt ?_|refine zf ?_|refine zG ?_|refine zR ?_|refine zK ?_|refine zL ?_|refine zN ?_|refine zS ?_)|simp only [Exit.then,Exit.inBlock,Exit.noGoto,↓reduceIte,Nat.reduceEqDiff]|simp only [undef,reduceCtorEq,↓reduceIte]))
    refine hv.out.mono ?_
    rintro e1 w1 ⟨rfl,rfl⟩
    obtain ⟨ver,hver⟩:∃ ver,ver=pinstL verP d:=⟨_,rfl⟩
    obtain ⟨enc,henc⟩:∃ enc,enc=pinstL encP d:=⟨_,rfl⟩
    have HPE:=Lib.hid (show piEnd x.o xmlL d r=if (ver == [] || ver == [49,46,48]) && (enc == [] || isUtf8 enc) then .ok (.proc xmlL d,r) else .error .other by
      unfold piEnd declOk
      rw [← hver,← henc]
      cases ((ver == [] || ver == [49,46,48]) && (enc == [] || isUtf8 enc)) <;> simp)
    rw [← hver]
    rw [← henc] at he
    have HENCL:=Lib.hid (show enc.length ≤ 1000000000 by rw [henc];exact Nat.le_trans (pinstL_len encP d.length d (Nat.le_refl _)) HL.out)
    clear hver henc hv hcv
    by_cases hv0:ver=[] ∨ ver=[49,46,48]
    · have hvt:(ver == [] || ver == [49,46,48])=true:=by
        rcases hv0 with rfl|rfl <;> rfl
      have HVT:=Lib.hid hvt
      clear hvt
      have hcs:(ver=[]) ∨ ((ver == [])=false∧(ver != [])=true∧ver=[49,46,48]):=by
        rcases hv0 with rfl|rfl
        · exact Or.inl rfl
        · exact Or.inr ⟨rfl,rfl,rfl⟩
      clear hv0
      rcases hcs with rfl|⟨q1,q2,rfl⟩
      all_goals
        go_simp
        (repeat (first|(with_reducible first|refine zA fun K hK=>?_|refine zB ?_|refine zC ?_)|((with_reducible first|refine zD rfl fun K hK=>?_|refine zE fun K hK=>?_);go_simp)|(with_reducible first|((repeat ((fail_if_success refine hK _ _ ?_);clear hK K));refine hK _ _ ?_;clear hK K)|refine zt ?_|refine zf ?_|refine zG ?_|refine zR ?_|refine zK ?_|refine zL ?_|refine zN ?_|refine zS ?_)|simp only [Exit.then,Exit.inBlock,Exit.noGoto,↓reduceIte,Nat.reduceEqDiff]|simp only [undef,reduceCtorEq,↓reduceIte]))
        refine he.out.mono ?_
        rintro e2 w2 ⟨rfl,rfl⟩
        by_cases he0:enc=[]
        · subst he0
          go_simp
          (repeat (first|(with_reducible first|refine zA fun K hK=>?_|refine zB ?_|refine zC ?_)|((with_reducible first|refine zD rfl fun K hK=>?_|refine zE fun K hK=>?_);go_simp)|(with_reducible first|((repeat ((fail_if_success refine hK _ _ ?_);clear hK K));refine hK _ _ ?_;clear hK K)|refine zt ?_|refine zf ?_|refine zG ?_|refine zR ?_|refine zK ?_|refine zL ?_|refine zN ?_|refine zS ?_)|simp only [Exit.then,Exit.inBlock,Exit.noGoto,↓reduceIte,Nat.reduceEqDiff]|simp only [undef,reduceCtorEq,↓reduceIte]))
          refine Q_keep [2,3] (fun f=>?_);simp only [keep_cons,keep_nil,lk_cons,lk_nil,Nat.reduceEqDiff,↓reduceIte]
          exact HQ.out f _ _ _ (HTOK.out _ (Below.refl _ _) (by rw [HPE.out];rfl))
        · obtain ⟨n1,n2⟩:=lbne he0
          by_cases he1:enc=[117,116,102,45,56]
          · subst he1
            go_simp
            (repeat (first|(with_reducible first|refine zA fun K hK=>?_|refine zB ?_|refine zC ?_)|((with_reducible first|refine zD rfl fun K hK=>?_|refine zE fun K hK=>?_);go_simp)|(with_reducible first|((repeat ((fail_if_success refine hK _ _ ?_);clear hK K));refine hK _ _ ?_;clear hK K)|refine zt ?_|refine zf ?_|refine zG ?_|refine zR ?_|refine zK ?_|refine zL ?_|refine zN ?_|refine zS ?_)|simp only [Exit.then,Exit.inBlock,Exit.noGoto,↓reduceIte,Nat.reduceEqDiff]|simp only [undef,reduceCtorEq,↓reduceIte]))
            refine Q_keep [2,3] (fun f=>?_);simp only [keep_cons,keep_nil,lk_cons,lk_nil,Nat.reduceEqDiff,↓reduceIte]
            exact HQ.out f _ _ _ (HTOK.out _ (Below.refl _ _) (by rw [HPE.out];rfl))
          · obtain ⟨n3,n4⟩:=lbne he1
            by_cases he2:enc=[85,84,70,45,56]
            · subst he2
              go_simp
              (repeat (first|(with_reducible first|refine zA fun K hK=>?_|refine zB ?_|refine zC ?_)|((with_reducible first|refine zD rfl fun K hK=>?_|refine zE fun K hK=>?_);go_simp)|(with_reducible first|((repeat ((fail_if_success refine hK _ _ ?_);clear hK K));refine hK _ _ ?_;clear hK K)|refine zt ?_|refine zf ?_|refine zG ?_|refine zR ?_|refine zK ?_|refine zL ?_|refine zN ?_|refine zS ?_)|simp only [Exit.then,Exit.inBlock,Exit.noGoto,↓reduceIte,Nat.reduceEqDiff]|simp only [undef,reduceCtorEq,↓reduceIte]))
              refine Q_keep [2,3] (fun f=>?_);simp only [keep_cons,keep_nil,lk_cons,lk_nil,Nat.reduceEqDiff,↓reduceIte]
              exact HQ.out f _ _ _ (HTOK.out _ (Below.refl _ _) (by rw [HPE.out];rfl))
            · obtain ⟨n5,n6⟩:=lbne he2
              have hef:=Lib.hid (equalFold_utf8 enc HENCL.out w2 (HAF.out _ H.out.base) (HU8.out _ H.out.base))
              have HPE2:=Lib.hid (show piEnd x.o xmlL d r=if isUtf8 enc then .ok (.proc xmlL d,r) else .error .other by rw [HPE.out,HVT.out,n1];simp)
              clear he0 he1 he2
              go_simp
              (repeat (first|(with_reducible first|refine zA fun K hK=>?_|refine zB ?_|refine zC ?_)|((with_reducible first|refine zD rfl fun K hK=>?_|refine zE fun K hK=>?_);go_simp)|(with_reducible first|((repeat ((fail_if_success refine hK _ _ ?_);clear hK K));refine hK _ _ ?_;clear hK K)|refine zt ?_|refine zf ?_|refine zG ?_|refine zR ?_|refine zK ?_|refine zL ?_|refine zN ?_|refine zS ?_)|simp only [Exit.then,Exit.inBlock,Exit.noGoto,↓reduceIte,Nat.reduceEqDiff]|simp only [undef,reduceCtorEq,↓reduceIte]))
              refine hef.out.mono ?_
              rintro e3 w3 ⟨rfl,hb3⟩
              have HB3:=Lib.hid hb3
              have hd3:=(H.out.below HX.out.toOk hb3).dec
              have hc3:=hd3.cell
              have hf3:=hd3.frozen
              clear hb3 hd3 hef
              cases hiu:isUtf8 enc with
              | true=>
                go_simp
                (repeat (first|(with_reducible first|refine zA fun K hK=>?_|refine zB ?_|refine zC ?_)|((with_reducible first|refine zD rfl fun K hK=>?_|refine zE fun K hK=>?_);go_simp)|(with_reducible first|((repeat ((fail_if_success refine hK _ _ ?_);clear hK K));refine hK _ _ ?_;clear hK K)|refine zt ?_|refine zf ?_|refine zG ?_|refine zR ?_|refine zK ?_|refine zL ?_|refine zN ?_|refine zS ?_)|simp only [Exit.then,Exit.inBlock,Exit.noGoto,↓reduceIte,Nat.reduceEqDiff]|simp only [undef,reduceCtorEq,↓reduceIte]))
                refine Q_keep [2,3] (fun f=>?_);simp only [keep_cons,keep_nil,lk_cons,lk_nil,Nat.reduceEqDiff,↓reduceIte]
                exact HQ.out f _ _ _ (HTOK.out _ HB3.out (by rw [HPE2.out,hiu];rfl))
              | false=>
                have hen:=Lib.hid (fun m=>errNew_c m w3)
                have hnf:=fun w=>nilFuncEq w
                go_simp
                (repeat (first|(with_reducible first|refine zA fun K hK=>?_|refine zB ?_|refine zC ?_)|((with_reducible first|refine zD rfl fun K hK=>?_|refine zE fun K hK=>?_);go_simp)|(with_reducible first|((repeat ((fail_if_success refine hK _ _ ?_);clear hK K));refine hK _ _ ?_;clear hK K)|refine zt ?_|refine zf ?_|refine zG ?_|refine zR ?_|refine zK ?_|refine zL ?_|refine zN ?_|refine zS ?_)|simp only [Exit.then,Exit.inBlock,Exit.noGoto,↓reduceIte,Nat.reduceEqDiff]|simp only [undef,reduceCtorEq,↓reduceIte]))
                refine (hen.out _).mono ?_
                rintro e4 w4 ⟨a4,rfl,ha4,hb4,cs4,ty4,hbl4⟩
                have hR3:=H.out.below HX.out.toOk HB3.out
                obtain ⟨hd4,hE4,hS4⟩:=hR3.oth HX.out.toOk hb4 a4 ha4
                have hc4:=hd4.cell
                have hf4:=hd4.frozen
                have HE4:=Lib.hid hE4
                have HO4:=Lib.hid (show ∀ n,Blk ((w4.setCell ⟨x.d,20,none⟩ (errV a4)).drewN n) a4.block cs4 ty4 from fun n=>Blk.mod (S:=fun k=>k=x.d) hbl4 (((Mod.refl (fun k=>k=x.d) w4).setCell (p:=⟨x.d,20,none⟩) (Or.inl rfl) _).drewN n) (fun hh=>by have h1:=hR3.dec.lt;omega))
                have HS4:=Lib.hid (((Stp.refl x w2 v).below HB3.out).trans hS4)
                clear hR3 hd4 hE4 hS4 hb4 hen hc3 hf3 hbl4
                go_simp
                (repeat (first|(with_reducible first|refine zA fun K hK=>?_|refine zB ?_|refine zC ?_)|((with_reducible first|refine zD rfl fun K hK=>?_|refine zE fun K hK=>?_);go_simp)|(with_reducible first|((repeat ((fail_if_success refine hK _ _ ?_);clear hK K));refine hK _ _ ?_;clear hK K)|refine zt ?_|refine zf ?_|refine zG ?_|refine zR ?_|refine zK ?_|refine zL ?_|refine zN ?_|refine zS ?_)|simp only [Exit.then,Exit.inBlock,Exit.noGoto,↓reduceIte,Nat.reduceEqDiff]|simp only [undef,reduceCtorEq,↓reduceIte]))
                ((refine wp_keep [0] (fun f=>?_);simp only [keep_cons,keep_nil,lk_cons,lk_nil,Nat.reduceEqDiff,↓reduceIte]);go_quiet (fail);(repeat (first|(with_reducible first|refine zA fun K hK=>?_|refine zB ?_|refine zC ?_)|((with_reducible first|refine zD rfl fun K hK=>?_|refine zE fun K hK=>?_);go_simp)|(with_reducible first|((repeat ((fail_if_success refine hK _ _ ?_);clear hK K));refine hK _ _ ?_;clear hK K)|refine zt ?_|refine zf ?_|refine zG ?_|refine zR ?_|refine zK ?_|refine zL ?_|refine zN ?_|refine zS ?_)|simp only [Exit.then,Exit.inBlock,Exit.noGoto,↓reduceIte,Nat.reduceEqDiff]|simp only [undef,reduceCtorEq,↓reduceIte]));refine Q_keep [2,3] (fun f=>?_);simp only [keep_cons,keep_nil,lk_cons,lk_nil,Nat.reduceEqDiff,↓reduceIte])
                exact HQ.out f _ _ _ ⟨⟨_,HS4.out.drawn _,by rw [HPE2.out,hiu];exact ⟨rfl,rfl,HE4.out.drewN _⟩⟩,fun _ _ _=>⟨_,_,_,rfl,HO4.out _⟩⟩
    · have hv1:¬ ver=[]:=fun h=>hv0 (Or.inl h)
      have hv2:¬ ver=[49,46,48]:=fun h=>hv0 (Or.inr h)
      obtain ⟨n1,n2⟩:=lbne hv1
      obtain ⟨n3,n4⟩:=lbne hv2
      have HPE2:=Lib.hid (show piEnd x.o xmlL d r=.error .other by rw [HPE.out,n1,n3];rfl)
      have hen:=Lib.hid (fun m=>errNew_c m w1)
      clear hv0 hv1 hv2
      go_simp
      (repeat (first|(with_reducible first|refine zA fun K hK=>?_|refine zB ?_|refine zC ?_)|((with_reducible first|refine zD rfl fun K hK=>?_|refine zE fun K hK=>?_);go_simp)|(with_reducible first|((repeat ((fail_if_success refine hK _ _ ?_);clear hK K));refine hK _ _ ?_;clear hK K)|refine zt ?_|refine zf ?_|refine zG ?_|refine zR ?_|refine zK ?_|refine zL ?_|refine zN ?_|refine zS ?_)|simp only [Exit.then,Exit.inBlock,Exit.noGoto,↓reduceIte,Nat.reduceEqDiff]|simp only [undef,reduceCtorEq,↓reduceIte]))
      refine (hen.out _).mono ?_
      rintro e4 w4 ⟨a4,rfl,ha4,hb4,cs4,ty4,hbl4⟩
      obtain ⟨hd4,hE4,hS4⟩:=H.out.oth HX.out.toOk hb4 a4 ha4
      have hc4:=hd4.cell
      have hf4:=hd4.frozen
      have HE4:=Lib.hid hE4
      have HO4:=Lib.hid (show ∀ n,Blk ((w4.setCell ⟨x.d,20,none⟩ (errV a4)).drewN n) a4.block cs4 ty4 from fun n=>Blk.mod (S:=fun k=>k=x.d) hbl4 (((Mod.refl (fun k=>k=x.d) w4).setCell (p:=⟨x.d,20,none⟩) (Or.inl rfl) _).drewN n) (fun hh=>by have h1:=H.out.dec.lt;omega))
      have HS4:=Lib.hid hS4
      clear hd4 hE4 hS4 hb4 hen hbl4
      go_simp
      (repeat (first|(with_reducible first|refine zA fun K hK=>?_|refine zB ?_|refine zC ?_)|((with_reducible first|refine zD rfl fun K hK=>?_|refine zE fun K hK=>?_);go_simp)|(with_reducible first|((repeat ((fail_if_success refine hK _ _ ?_);clear hK K));refine hK _ _ ?_;clear hK K)|refine zt ?_|refine zf ?_|refine zG ?_|refine zR ?_|refine zK ?_|refine zL ?_|refine zN ?_|refine zS ?_)|simp only [Exit.then,Exit.inBlock,Exit.noGoto,↓reduceIte,Nat.reduceEqDiff]|simp only [undef,reduceCtorEq,↓reduceIte]))
      ((refine wp_keep [0] (fun f=>?_);simp only [keep_cons,keep_nil,lk_cons,lk_nil,Nat.reduceEqDiff,↓reduceIte]);go_quiet (fail);(repeat (first|(with_reducible first|refine zA fun K hK=>?_|refine zB ?_|refine zC ?_)|((with_reducible first|refine zD rfl fun K hK=>?_|refine zE fun K hK=>?_);go_simp)|(with_reducible first|((repeat ((fail_if_success refine hK _ _ ?_);clear hK K));refine hK _ _ ?_;clear hK K)|refine zt ?_|refine zf ?_|refine zG ?_|refine zR ?_|refine zK ?_|refine zL ?_|refine zN ?_|refine zS ?_)|simp only [Exit.then,Exit.inBlock,Exit.noGoto,↓reduceIte,Nat.reduceEqDiff]|simp only [undef,reduceCtorEq,↓reduceIte]));refine Q_keep [2,3] (fun f=>?_);simp only [keep_cons,keep_nil,lk_cons,lk_nil,Nat.reduceEqDiff,↓reduceIte])
      exact HQ.out f _ _ _ ⟨⟨_,HS4.out.drawn _,by rw [HPE2.out];exact ⟨rfl,rfl,HE4.out.drewN _⟩⟩,fun _ _ _=>⟨_,_,_,rfl,HO4.out _⟩⟩
  · obtain ⟨n1,n2⟩:=lbne hxml
    have HPE2:=Lib.hid (show piEnd x.o tg d r=.ok (.proc tg d,r) by unfold piEnd;rw [if_neg (fun h=>hxml h.1)])
    clear hxml
    (repeat (first|(with_reducible first|refine zA fun K hK=>?_|refine zB ?_|refine zC ?_)|((with_reducible first|refine zD rfl fun K hK=>?_|refine zE fun K hK=>?_);go_simp)|(with_reducible first|((repeat ((fail_if_success refine hK _ _ ?_);clear hK K));refine hK _ _ ?_;clear hK K)|refine zt ?_|refine zf ?_|refine zG ?_|refine zR ?_|refine zK ?_|refine zL ?_|refine zN ?_|refine zS ?_)|simp only [Exit.then,Exit.inBlock,Exit.noGoto,↓reduceIte,Nat.reduceEqDiff]|simp only [undef,reduceCtorEq,↓reduceIte]))
    refine Q_keep [2,3] (fun f=>?_);simp only [keep_cons,keep_nil,lk_cons,lk_nil,Nat.reduceEqDiff,↓reduceIte]
    exact HQ.out f _ _ _ (HTOK.out _ (Below.refl _ _) HPE2.out)
end Go.Proofs.YtkjnockljapnbaaGreatDoor
