/- Part of the proof that laws.FnBalanced returns true for every argument (He). No condition of its own. -/
import Derived.Test.YtkjnockljapnbaaGreatDoorO40
set_option linter.all false
set_option maxHeartbeats 8000000
set_option maxRecDepth 100000
namespace Go.Proofs.YtkjnockljapnbaaGreatDoor
open Go Go.RowKit
def EaInv (s t:Bs) (N:Nat) (w0:World) (k:Nat) (a:Act) (w:World):Prop:=
  ∃ f i,a=fr 123 f [(0,strV s),(1,strV t),(5,.int .i64 (i:Nat)),(6,.int .i64 (N:Nat))]∧w0=w∧i ≤ N∧k=N - i∧eqFold s t=eqA s t (N - i) i
def EaJ (s t:Bs) (w0:World) (k:Nat) (a:Act) (w:World):Prop:=
  k=0∧∃ f i,a=fr 123 f [(0,strV s),(1,strV t),(5,.int .i64 (i:Nat))]∧w0=w∧i < s.length∧i < t.length∧eqFold s t=eqU (s.drop i) ((s.drop i).length + 1) 0 (t.drop i)
theorem eqFold_c (s t:Bs) (hs:s.length ≤ 1000000000000) (ht:t.length ≤ 1000000000000) (w:World) (hE:FoldEnv w) :
    Calls Tryz.prog 47 #[strV s,strV t] w fun e w'=>e=.returned (.bool (eqFold s t))∧Below w.heap.size w w':=by
  have HE:=Lib.hid hE
  have HS:=Lib.hid hs
  have HT:=Lib.hid ht
  obtain ⟨N,hN⟩:∃ N:Nat,min (s.length:Int) (t.length:Int)=(N:Int):=⟨min s.length t.length,by omega⟩
  have hNm:N=min s.length t.length:=by omega
  have HN:=Lib.hid hNm
  clear hE hs ht
  refine calls_fr (vs:=[_,_]) 123 Tryz.func47 rfl rfl (Nat.le_of_ble_eq_true rfl) fun f=>?_
  simp only [argSlots]
  clear hNm
  (repeat ((fail_if_success with_reducible refine wp_stopS ?_);(first|(with_reducible first|refine zA fun K hK=>?_|refine zB ?_|refine zC ?_)|((with_reducible first|refine zD rfl fun K hK=>?_|refine zE fun K hK=>?_);go_simp)|(with_reducible first|((repeat ((fail_if_success refine hK _ _ ?_);clear hK K));refine hK _ _ ?_;clear hK K)|refine zt ?_|refine zf ?_|refine zG ?_|refine zR ?_|refine zK ?_|refine zL ?_|refine zN ?_|refine zS ?_)|simp only [Exit.then,Exit.inBlock,Exit.noGoto,↓reduceIte,Nat.reduceEqDiff]|simp only [undef,reduceCtorEq,↓reduceIte])))
  (refine wp_keep [0,1] (fun f=>?_);simp only [keep_cons,keep_nil,lk_cons,lk_nil,Nat.reduceEqDiff,↓reduceIte])
  refine wp_scope_jumps_k (rest:=.seq .skip (eqCode 14)) 0 (EaJ s t w) (by kernel_rfl) ?_ ?_
  · (repeat (first|(with_reducible first|refine zA fun K hK=>?_|refine zB ?_|refine zC ?_)|((with_reducible first|refine zD rfl fun K hK=>?_|refine zE fun K hK=>?_);go_simp)|(with_reducible first|((repeat ((fail_if_success refine hK _ _ ?_);clear hK K));refine hK _ _ ?_;clear hK K)|refine zt ?_|refine zf ?_|refine zG ?_|refine zR ?_|refine zK ?_|refine zL ?_|refine zN ?_|refine zS ?_)|simp only [Exit.then,Exit.inBlock,Exit.noGoto,↓reduceIte,Nat.reduceEqDiff]|simp only [undef,reduceCtorEq,↓reduceIte]))
    (refine wp_keep [0,1,5,6] (fun f=>?_);simp only [keep_cons,keep_nil,lk_cons,lk_nil,Nat.reduceEqDiff,↓reduceIte])
    refine wp_loop_ghost_k (EaInv s t N w) N ⟨f,0,rfl,rfl,Nat.zero_le _,rfl,by rw [HN.out];rfl⟩ ?_
    rintro k _ w6 ⟨f,i,rfl,hww,hi,hk,hans⟩ J K2 hJ hK2
    subst hww
    have HJ:=Lib.hid hJ
    have HK2:=Lib.hid hK2
    have HK:=Lib.hid hk
    have HANS:=Lib.hid hans
    clear hJ hK2 hk hans hN
    by_cases hlt:i < N
    · have hls:i < s.length:=by have:=HN.out;omega
      have hlt2:i < t.length:=by have:=HN.out;omega
      have h1:(i:Int) < (N:Int):=by omega
      have h0:(0:Int) ≤ (i:Int):=by omega
      have h2:(i:Int) < (s.length:Int):=by omega
      have h3:(i:Int) < (t.length:Int):=by omega
      have hw1:IntKind.i64.wrap ((i:Int) + 1)=((i + 1:Nat):Int):=by rw [IntKind.wrap_i64];have:=HS.out;omega
      obtain ⟨c,hc⟩:∃ c,c=s.getD i 0:=⟨_,rfl⟩
      obtain ⟨d,hd⟩:∃ d,d=t.getD i 0:=⟨_,rfl⟩
      have hix:∀ h,(⟨s.toArray⟩:ByteArray)[i]'h=c:=by intro h;rw [hc];exact ixc s i h
      have hiy:∀ h,(⟨t.toArray⟩:ByteArray)[i]'h=d:=by intro h;rw [hd];exact ixc t i h
      have hor:=or_all' c d
      have hstep:eqFold s t=if 128 ≤ c.toNat ∨ 128 ≤ d.toNat then eqU (s.drop i) ((s.drop i).length + 1) 0 (t.drop i) else if Lib.foldEq c d then eqA s t (N - (i + 1)) (i + 1) else false:=by
        rw [HANS.out,show N - i=(N - (i + 1)) + 1 by omega,hc,hd]
        rfl
      have HSTEP:=Lib.hid hstep
      clear hc hd hstep
      by_cases h8:128 ≤ c.toNat ∨ 128 ≤ d.toNat
      · have hor2:decide ((128:Int) ≤ bits .or .u8 (c.toNat:Int) (d.toNat:Int))=true:=by
          rw [hor];rcases h8 with h|h <;> simp [h]
        have HR:=Lib.hid (show eqFold s t=eqU (s.drop i) ((s.drop i).length + 1) 0 (t.drop i) by rw [HSTEP.out,if_pos h8])
        clear hor h8
        (repeat (first|(with_reducible first|refine zA fun K hK=>?_|refine zB ?_|refine zC ?_)|((with_reducible first|refine zD rfl fun K hK=>?_|refine zE fun K hK=>?_);go_simp)|(with_reducible first|((repeat ((fail_if_success refine hK _ _ ?_);clear hK K));refine hK _ _ ?_;clear hK K)|refine zt ?_|refine zf ?_|refine zG ?_|refine zR ?_|refine zK ?_|refine zL ?_|refine zN ?_|refine zS ?_)|simp only [Exit.then,Exit.inBlock,Exit.noGoto,↓reduceIte,Nat.reduceEqDiff]|simp only [undef,reduceCtorEq,↓reduceIte]))
        refine wp_goto ?_
        (try simp only [Exit.then,Exit.inBlock])
        refine Q_keep [0,1,5] (fun f=>?_);simp only [keep_cons,keep_nil,lk_cons,lk_nil,Nat.reduceEqDiff,↓reduceIte]
        exact ⟨rfl,0,rfl,f,i,rfl,rfl,hls,hlt2,HR.out⟩
      · have hc8:c.toNat < 128:=by omega
        have hd8:d.toNat < 128:=by omega
        have hor2:decide ((128:Int) ≤ bits .or .u8 (c.toNat:Int) (d.toNat:Int))=false:=by
          rw [hor,decide_eq_false (show ¬ 128 ≤ c.toNat by omega),decide_eq_false (show ¬ 128 ≤ d.toNat by omega)];rfl
        have hor3:¬ ((128:Int) ≤ bits .or .u8 (c.toNat:Int) (d.toNat:Int)):=by simpa using hor2
        have HSTEP2:=Lib.hid (show eqFold s t=if Lib.foldEq c d then eqA s t (N - (i + 1)) (i + 1) else false by rw [HSTEP.out,if_neg h8])
        clear hor h8
        by_cases heq:d=c
        · subst heq
          have HF:=Lib.hid (show eqFold s t=eqA s t (N - (i + 1)) (i + 1) by rw [HSTEP2.out,if_pos (show Lib.foldEq d d=true from decide_eq_true (Or.inl rfl))])
          (repeat (first|(with_reducible first|refine zA fun K hK=>?_|refine zB ?_|refine zC ?_)|((with_reducible first|refine zD rfl fun K hK=>?_|refine zE fun K hK=>?_);go_simp)|(with_reducible first|((repeat ((fail_if_success refine hK _ _ ?_);clear hK K));refine hK _ _ ?_;clear hK K)|refine zt ?_|refine zf ?_|refine zG ?_|refine zR ?_|refine zK ?_|refine zL ?_|refine zN ?_|refine zS ?_)|simp only [Exit.then,Exit.inBlock,Exit.noGoto,↓reduceIte,Nat.reduceEqDiff]|simp only [undef,reduceCtorEq,↓reduceIte]))
          (refine K_keep [0,1,5,6] (fun f=>?_);simp only [keep_cons,keep_nil,lk_cons,lk_nil,Nat.reduceEqDiff,↓reduceIte])
          exact HK2.out _ _ ⟨N - (i + 1),by rw [HK.out];omega,HJ.out _ _ _ ⟨f,i + 1,rfl,rfl,hlt,rfl,HF.out⟩⟩
        · have t1:((d.toNat:Int) == (c.toNat:Int))=false:=u8ne heq rfl
          have t2:((c.toNat:Int) == (d.toNat:Int))=false:=u8ne (fun h=>heq h.symm) rfl
          have hne:c.toNat ≠ d.toNat:=fun h=>heq (UInt8.toNat_inj.1 h.symm)
          by_cases hfold:Lib.foldEq c d=true
          · have HF:=Lib.hid (show eqFold s t=eqA s t (N - (i + 1)) (i + 1) by rw [HSTEP2.out,if_pos hfold])
            have hcd:(65 ≤ c.toNat∧c.toNat ≤ 90∧d.toNat=c.toNat + 32) ∨ (65 ≤ d.toNat∧d.toNat ≤ 90∧c.toNat=d.toNat + 32):=by
              have h:=of_decide_eq_true hfold
              rcases h with h|h|h
              · exact absurd (UInt8.toNat_inj.1 h.symm) heq
              · exact Or.inl h
              · exact Or.inr h
            rcases hcd with ⟨a1,a2,a3⟩|⟨a1,a2,a3⟩
            · have b1:¬ ((d.toNat:Int) < (c.toNat:Int)):=by omega
              have b2:(65:Int) ≤ (c.toNat:Int):=by omega
              have b3:(c.toNat:Int) ≤ 90:=by omega
              have b4:IntKind.u8.wrap ((c.toNat:Int) + 97)=(c.toNat:Int) + 97:=by rw [IntKind.wrap_u8];omega
              have b5:IntKind.u8.wrap ((c.toNat:Int) + 97 - 65)=(d.toNat:Int):=by rw [IntKind.wrap_u8];omega
              clear heq hfold a1 a2 a3 hne hc8 hd8
              (repeat (first|(with_reducible first|refine zA fun K hK=>?_|refine zB ?_|refine zC ?_)|((with_reducible first|refine zD rfl fun K hK=>?_|refine zE fun K hK=>?_);go_simp)|(with_reducible first|((repeat ((fail_if_success refine hK _ _ ?_);clear hK K));refine hK _ _ ?_;clear hK K)|refine zt ?_|refine zf ?_|refine zG ?_|refine zR ?_|refine zK ?_|refine zL ?_|refine zN ?_|refine zS ?_)|simp only [Exit.then,Exit.inBlock,Exit.noGoto,↓reduceIte,Nat.reduceEqDiff]|simp only [undef,reduceCtorEq,↓reduceIte]))
              (refine K_keep [0,1,5,6] (fun f=>?_);simp only [keep_cons,keep_nil,lk_cons,lk_nil,Nat.reduceEqDiff,↓reduceIte])
              exact HK2.out _ _ ⟨N - (i + 1),by rw [HK.out];omega,HJ.out _ _ _ ⟨f,i + 1,rfl,rfl,hlt,rfl,HF.out⟩⟩
            · have b1:((d.toNat:Int) < (c.toNat:Int)):=by omega
              have b2:(65:Int) ≤ (d.toNat:Int):=by omega
              have b3:(d.toNat:Int) ≤ 90:=by omega
              have b4:IntKind.u8.wrap ((d.toNat:Int) + 97)=(d.toNat:Int) + 97:=by rw [IntKind.wrap_u8];omega
              have b5:IntKind.u8.wrap ((d.toNat:Int) + 97 - 65)=(c.toNat:Int):=by rw [IntKind.wrap_u8];omega
              clear heq hfold a1 a2 a3 hne hc8 hd8
              (repeat (first|(with_reducible first|refine zA fun K hK=>?_|refine zB ?_|refine zC ?_)|((with_reducible first|refine zD rfl fun K hK=>?_|refine zE fun K hK=>?_);go_simp)|(with_reducible first|((repeat ((fail_if_success refine hK _ _ ?_);clear hK K));refine hK _ _ ?_;clear hK K)|refine zt ?_|refine zf ?_|refine zG ?_|refine zR ?_|refine zK ?_|refine zL ?_|refine zN ?_|refine zS ?_)|simp only [Exit.then,Exit.inBlock,Exit.noGoto,↓reduceIte,Nat.reduceEqDiff]|simp only [undef,reduceCtorEq,↓reduceIte]))
              (refine K_keep [0,1,5,6] (fun f=>?_);simp only [keep_cons,keep_nil,lk_cons,lk_nil,Nat.reduceEqDiff,↓reduceIte])
              exact HK2.out _ _ ⟨N - (i + 1),by rw [HK.out];omega,HJ.out _ _ _ ⟨f,i + 1,rfl,rfl,hlt,rfl,HF.out⟩⟩
          · have HF:=Lib.hid (show eqFold s t=false by rw [HSTEP2.out,if_neg hfold])
            have hn1:¬ (65 ≤ c.toNat∧c.toNat ≤ 90∧d.toNat=c.toNat + 32):=fun h=>hfold (decide_eq_true (Or.inr (Or.inl h)))
            have hn2:¬ (65 ≤ d.toNat∧d.toNat ≤ 90∧c.toNat=d.toNat + 32):=fun h=>hfold (decide_eq_true (Or.inr (Or.inr h)))
            have hcs:((c.toNat:Int) < (d.toNat:Int)∧¬ ((d.toNat:Int) < (c.toNat:Int))∧¬ ((65:Int) ≤ (c.toNat:Int))) ∨
                ((c.toNat:Int) < (d.toNat:Int)∧¬ ((d.toNat:Int) < (c.toNat:Int))∧(65:Int) ≤ (c.toNat:Int)∧¬ ((c.toNat:Int) ≤ 90)) ∨
                ((c.toNat:Int) < (d.toNat:Int)∧¬ ((d.toNat:Int) < (c.toNat:Int))∧(65:Int) ≤ (c.toNat:Int)∧(c.toNat:Int) ≤ 90) ∨
                ((d.toNat:Int) < (c.toNat:Int)∧¬ ((65:Int) ≤ (d.toNat:Int))) ∨ ((d.toNat:Int) < (c.toNat:Int)∧(65:Int) ≤ (d.toNat:Int)∧¬ ((d.toNat:Int) ≤ 90)) ∨
                ((d.toNat:Int) < (c.toNat:Int)∧(65:Int) ≤ (d.toNat:Int)∧(d.toNat:Int) ≤ 90):=by omega
            rcases hcs with ⟨b1,b2,b3⟩|⟨b1,b2,b3,b4⟩|⟨b1,b2,b3,b4⟩|⟨b1,b2⟩|⟨b1,b2,b3⟩|⟨b1,b2,b3⟩
            case inr.inr.inl=>
              have b5:IntKind.u8.wrap ((c.toNat:Int) + 97)=(c.toNat:Int) + 97:=by rw [IntKind.wrap_u8];omega
              have b6:IntKind.u8.wrap ((c.toNat:Int) + 97 - 65)=(c.toNat:Int) + 32:=by rw [IntKind.wrap_u8];omega
              have b7:((d.toNat:Int) == (c.toNat:Int) + 32)=false:=by rw [beq_eq_false_iff_ne];intro h;exact hn1 ⟨by omega,by omega,by omega⟩
              clear heq hfold hn1 hn2 hne hc8 hd8
              (repeat (first|(with_reducible first|refine zA fun K hK=>?_|refine zB ?_|refine zC ?_)|((with_reducible first|refine zD rfl fun K hK=>?_|refine zE fun K hK=>?_);go_simp)|(with_reducible first|((repeat ((fail_if_success refine hK _ _ ?_);clear hK K));refine hK _ _ ?_;clear hK K)|refine zt ?_|refine zf ?_|refine zG ?_|refine zR ?_|refine zK ?_|refine zL ?_|refine zN ?_|refine zS ?_)|simp only [Exit.then,Exit.inBlock,Exit.noGoto,↓reduceIte,Nat.reduceEqDiff]|simp only [undef,reduceCtorEq,↓reduceIte]))
              (try simp only [Exit.jump])
              (refine fr_out1 rfl (by decide) (by simp only [lk_cons,lk_nil,Nat.reduceEqDiff,↓reduceIte];rfl) ?_)
              exact ⟨by rw [HF.out],Below.refl _ _⟩
            case inr.inr.inr.inr.inr=>
              have b5:IntKind.u8.wrap ((d.toNat:Int) + 97)=(d.toNat:Int) + 97:=by rw [IntKind.wrap_u8];omega
              have b6:IntKind.u8.wrap ((d.toNat:Int) + 97 - 65)=(d.toNat:Int) + 32:=by rw [IntKind.wrap_u8];omega
              have b7:((c.toNat:Int) == (d.toNat:Int) + 32)=false:=by rw [beq_eq_false_iff_ne];intro h;exact hn2 ⟨by omega,by omega,by omega⟩
              clear heq hfold hn1 hn2 hne hc8 hd8
              (repeat (first|(with_reducible first|refine zA fun K hK=>?_|refine zB ?_|refine zC ?_)|((with_reducible first|refine zD rfl fun K hK=>?_|refine zE fun K hK=>?_);go_simp)|(with_reducible first|((repeat ((fail_if_success refine hK _ _ ?_);clear hK K));refine hK _ _ ?_;clear hK K)|refine zt ?_|refine zf ?_|refine zG ?_|refine zR ?_|refine zK ?_|refine zL ?_|refine zN ?_|refine zS ?_)|simp only [Exit.then,Exit.inBlock,Exit.noGoto,↓reduceIte,Nat.reduceEqDiff]|simp only [undef,reduceCtorEq,↓reduceIte]))
              (try simp only [Exit.jump])
              (refine fr_out1 rfl (by decide) (by simp only [lk_cons,lk_nil,Nat.reduceEqDiff,↓reduceIte];rfl) ?_)
              exact ⟨by rw [HF.out],Below.refl _ _⟩
            all_goals
              clear heq hfold hn1 hn2 hne hc8 hd8
              (repeat (first|(with_reducible first|refine zA fun K hK=>?_|refine zB ?_|refine zC ?_)|((with_reducible first|refine zD rfl fun K hK=>?_|refine zE fun K hK=>?_);go_simp)|(with_reducible first|((repeat ((fail_if_success refine hK _ _ ?_);clear hK K));refine hK _ _ ?_;clear hK K)|refine zt ?_|refine zf ?_|refine zG ?_|refine zR ?_|refine zK ?_|refine zL ?_|refine zN ?_|refine zS ?_)|simp only [Exit.then,Exit.inBlock,Exit.noGoto,↓reduceIte,Nat.reduceEqDiff]|simp only [undef,reduceCtorEq,↓reduceIte]))
              (try simp only [Exit.jump])
              (refine fr_out1 rfl (by decide) (by simp only [lk_cons,lk_nil,Nat.reduceEqDiff,↓reduceIte];rfl) ?_)
              exact ⟨by rw [HF.out],Below.refl _ _⟩
    · have hNN:i=N:=by omega
      subst hNN
      have h1:¬ ((i:Int) < (i:Int)):=by omega
      have HR:=Lib.hid (show eqFold s t=decide (s.length=t.length) by rw [HANS.out,Nat.sub_self];rfl)
      have hlen:((s.length:Int) == (t.length:Int))=decide (s.length=t.length):=by
        by_cases h:s.length=t.length
        · rw [h];simp
        · rw [decide_eq_false h,beq_eq_false_iff_ne];omega
      (repeat (first|(with_reducible first|refine zA fun K hK=>?_|refine zB ?_|refine zC ?_)|((with_reducible first|refine zD rfl fun K hK=>?_|refine zE fun K hK=>?_);go_simp)|(with_reducible first|((repeat ((fail_if_success refine hK _ _ ?_);clear hK K));refine hK _ _ ?_;clear hK K)|refine zt ?_|refine zf ?_|refine zG ?_|refine zR ?_|refine zK ?_|refine zL ?_|refine zN ?_|refine zS ?_)|simp only [Exit.then,Exit.inBlock,Exit.noGoto,↓reduceIte,Nat.reduceEqDiff]|simp only [undef,reduceCtorEq,↓reduceIte]))
      (try simp only [Exit.jump])
      (refine fr_out1 rfl (by decide) (by simp only [lk_cons,lk_nil,Nat.reduceEqDiff,↓reduceIte];rfl) ?_)
      exact ⟨by rw [HR.out],Below.refl _ _⟩
  · rintro k _ w6 ⟨rfl,f,i,rfl,hww,hi,hi2,hans⟩
    subst hww
    have HANS:=Lib.hid hans
    clear hans
    refine wp_seq_k (fun K hK=>?_)
    refine wp_skip ?_
    simp only [Exit.then]
    refine hK _ _ ?_
    clear hK K
    refine eqUni s t HS.out HT.out i hi hi2 w HE.out _ (fun f w' hb=>?_) f
    (try simp only [Exit.jump])
    (refine fr_out1 rfl (by decide) (by simp only [lk_cons,lk_nil,Nat.reduceEqDiff,↓reduceIte];rfl) ?_)
    exact ⟨by rw [HANS.out],hb⟩
end Go.Proofs.YtkjnockljapnbaaGreatDoor
