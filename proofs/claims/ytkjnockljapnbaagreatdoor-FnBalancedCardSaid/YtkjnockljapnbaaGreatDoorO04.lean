/- Part of the proof that laws.FnBalanced returns true for every argument (Pu, Rd2). No condition of its own. -/
import Derived.Test.YtkjnockljapnbaaGreatDoorO03
import Derived.Lib.ConvBytes
import Derived.Lib.AtoiErrMem
set_option linter.all false
set_option maxHeartbeats 8000000
set_option maxRecDepth 100000
namespace Go.Proofs.YtkjnockljapnbaaGreatDoor
open Go Go.RowKit
theorem numFold_ge (hex:Bool):∀ (ds:Bs) (n:Nat),n ≤ ds.foldl (fun n b=>n * (if hex then 16 else 10) + digVal b) n
  | [],n=>Nat.le_refl _
  | b :: ds,n=>by
    refine Nat.le_trans ?_ (numFold_ge hex ds _)
    show n ≤ n * (if hex then 16 else 10) + digVal b
    cases hex <;> simp <;> omega
theorem isDig_cases {hex:Bool} {b:UInt8} (h:isDig hex b=true):(48 ≤ b.toNat∧b.toNat ≤ 57∧digVal b=b.toNat - 48) ∨ (hex=true∧97 ≤ b.toNat∧b.toNat ≤ 102∧digVal b=b.toNat - 87) ∨ (hex=true∧65 ≤ b.toNat∧b.toNat ≤ 70∧digVal b=b.toNat - 55):=by
  have e1:(48:UInt8).toNat=48:=rfl
  have e2:(57:UInt8).toNat=57:=rfl
  have e3:(97:UInt8).toNat=97:=rfl
  have e4:(102:UInt8).toNat=102:=rfl
  have e5:(65:UInt8).toNat=65:=rfl
  have e6:(70:UInt8).toNat=70:=rfl
  simp only [isDig,Bool.or_eq_true,Bool.and_eq_true,decide_eq_true_eq,UInt8.le_iff_toNat_le,e1,e2,e3,e4,e5,e6] at h
  unfold digVal
  simp only [UInt8.le_iff_toNat_le,e2,e3]
  rcases h with (⟨h1,h2⟩|⟨⟨h0,h1⟩,h2⟩)|⟨⟨h0,h1⟩,h2⟩
  · left;rw [if_pos h2];exact ⟨h1,h2,rfl⟩
  · right;left;rw [if_neg (by omega),if_pos h1];exact ⟨h0,h1,h2,rfl⟩
  · right;right;rw [if_neg (by omega),if_neg (by omega)];exact ⟨h0,h1,h2,rfl⟩
theorem lower_at (n v:Nat) (h:(97 ≤ n∧n ≤ 102∧v=n) ∨ (65 ≤ n∧n ≤ 70∧v=n + 32)) (w:World):Calls Tryz.prog 91 #[.int .u8 n] w fun e w'=>e=.returned (.int .u8 v)∧w=w':=by
  rcases h with ⟨h1,h2,rfl⟩|⟨h1,h2,rfl⟩
  · have hs:v=97 ∨ v=98 ∨ v=99 ∨ v=100 ∨ v=101 ∨ v=102:=by omega
    clear h1 h2
    rcases hs with rfl|rfl|rfl|rfl|rfl|rfl
    all_goals
      go_enter Tryz.func91,Tryz.ntmps91
      go_wp2
      go_ret
      exact ⟨rfl,rfl⟩
  · have hs:n=65 ∨ n=66 ∨ n=67 ∨ n=68 ∨ n=69 ∨ n=70:=by omega
    clear h1 h2
    rcases hs with rfl|rfl|rfl|rfl|rfl|rfl
    all_goals
      go_enter Tryz.func91,Tryz.ntmps91
      go_wp2
      go_ret
      exact ⟨rfl,rfl⟩
abbrev strL (s:Bs):Value:=.string ⟨s.toArray⟩
def PuPost (hex:Bool) (ds:Bs) (u:TypeId) (en:Ending):Prop:=
  if ds=[] ∨ 18446744073709551616 ≤ numVal hex ds then ∃ n k,en=.returned (.tuple #[.int .u64 n,.iface u (.int .i64 k)])∧(k=1 ∨ k=2) else en=.returned (.tuple #[.int .u64 (numVal hex ds),.nilIface])
def PuInv (hex:Bool) (ds:Bs) (bsl:Value) (w1:World) (k:Nat) (a:Act) (w:World):Prop:=
  ∃ (f:Nat → Value) (i acc:Nat) (n:Int),a=fr 172 f [(0,strL ds),(1,.int .i64 (if hex then 16 else 10)),(8,.bool false),(10,.int .u64 (if hex then 1152921504606846976 else 1844674407370955162)),(11,.int .u64 18446744073709551615),(12,.bool false),(13,.int .u64 n),(99,bsl),(100,.int .i64 ds.length),(101,.int .i64 i)] ∧
    w=w1∧i ≤ ds.length∧k=ds.length - i∧n=(acc:Int)∧acc < 18446744073709551616∧numVal hex ds=(ds.drop i).foldl (fun n b=>n * (if hex then 16 else 10) + digVal b) acc
noncomputable def puBody:Code:=((Tryz.f78.body).bind (Code.partAt 36)).getD .skip
structure PuMem (ds:Bs) (b:Nat) (w1:World):Prop where
  at':∀ j,(hj:j < ds.length) → w1.cell? ⟨b,j,none⟩=some (.int .u8 ds[j].toNat)
theorem puRound (hex:Bool) (ds:Bs) (hd:∀ b ∈ ds,isDig hex b=true) (hl:ds.length ≤ 1000000000) (b cap:Nat) (w0 w1:World) (hm:PuMem ds b w1) (hB:Below w0.heap.size w0 w1) (K:Act → World → Prop) (J:Nat → Act → World → Prop) (k:Nat)
    (f:Nat → Value) (i acc:Nat) (n:Int) (hi:i ≤ ds.length) (hk:k=ds.length - i) (hn:n=(acc:Int)) (hacc:acc < 18446744073709551616) (hnum:numVal hex ds=(ds.drop i).foldl (fun n b=>n * (if hex then 16 else 10) + digVal b) acc)
    (hJ:∀ k a w,PuInv hex ds (.slice (some ⟨b,0,none⟩) ds.length cap) w1 k a w → J k a w) (hK:∀ a w,Handed J k a w → K a w) (K2:Act → World → Prop)
    (hK2:∀ f n,18446744073709551616 > numVal hex ds → n=(numVal hex ds:Int) → K2 (fr 172 f [(0,strL ds),(12,.bool false),(13,.int .u64 n)]) w1) :
    puBody.wp Tryz.prog (Exit.then K (Exit.inBlock 3 (Exit.then K2 (bodyPost Tryz.prog Tryz.f78 fun en w'=>PuPost hex ds 218 en∧Below w0.heap.size w0 w'))))
      (fr 172 f [(0,strL ds),(1,.int .i64 (if hex then 16 else 10)),(8,.bool false),(10,.int .u64 (if hex then 1152921504606846976 else 1844674407370955162)),(11,.int .u64 18446744073709551615),(12,.bool false),(13,.int .u64 n),(99,.slice (some ⟨b,0,none⟩) ds.length cap),(100,.int .i64 ds.length),(101,.int .i64 i)]) w1:=by
  have n0:0 ≤ n:=by omega
  have n1:n < 18446744073709551616:=by omega
  have hl':(ds.length:Int) ≤ 1000000000:=by omega
  have HK:=Lib.hid hk
  have HN:=Lib.hid hn
  have HA:=Lib.hid hacc
  have HB:=Lib.hid hB
  have HNUM:=Lib.hid hnum
  have HJ:=Lib.hid hJ
  have HK2:=Lib.hid hK2
  clear hk hn hacc hB hJ hK2
  by_cases hlt:i < ds.length
  · have hc:=hm.at' i hlt
    have hdig:=hd ds[i] (List.getElem_mem hlt)
    rw [show ds.drop i=ds[i] :: ds.drop (i + 1) from List.drop_eq_getElem_cons hlt,List.foldl_cons] at hnum
    generalize ds[i]=c at hc hdig hnum
    obtain ⟨cn,hcn⟩:∃ cn,cn=c.toNat:=⟨_,rfl⟩
    obtain ⟨dI,hdI⟩:∃ dI:Int,dI=(digVal c:Int):=⟨_,rfl⟩
    have hcase:((48:Int) ≤ cn∧(cn:Int) ≤ 57∧dI=(cn:Int) - 48∧dI ≤ 9) ∨ (hex=true∧∃ v:Nat,((97 ≤ cn∧cn ≤ 102∧v=cn) ∨ (65 ≤ cn∧cn ≤ 70∧v=cn + 32))∧dI=(v:Int) - 97 + 10∧(97:Int) ≤ v∧(v:Int) ≤ 102):=by
      rcases isDig_cases hdig with ⟨h1,h2,h3⟩|⟨hx,h1,h2,h3⟩|⟨hx,h1,h2,h3⟩
      · left;omega
      · right;exact ⟨hx,cn,by omega,by omega,by omega,by omega⟩
      · right;exact ⟨hx,cn + 32,by omega,by omega,by omega,by omega⟩
    have hd0:0 ≤ dI:=by omega
    have HDI:=Lib.hid hdI
    have HNUM:=Lib.hid hnum
    rw [← hcn] at hc
    clear hcn hdig hdI hnum hd hm
    unfold puBody
    conv=>arg 2;whnf
    cases hex
    · simp only [Bool.false_eq_true,↓reduceIte] at HNUM ⊢
      rcases hcase with ⟨h1,h2,h3,h4⟩|⟨hx,_⟩
      · have HH3:=Lib.hid h3
        have hdw:IntKind.u8.wrap ((cn:Int) - 48)=dI:=by rw [IntKind.wrap_u8];omega
        have hdw2:IntKind.u64.wrap dI=dI:=by rw [IntKind.wrap_u64];omega
        have hne:((cn:Int) == 95)=false:=by simp;omega
        have h5:dI < 10:=by omega
        have hb1:IntKind.u8.wrap 10=10:=by rw [IntKind.wrap_u8];rfl
        have hb2:IntKind.u64.wrap 10=10:=by rw [IntKind.wrap_u64];rfl
        have hi2:IntKind.i64.wrap ((i:Int) + 1)=((i + 1:Nat):Int):=by rw [IntKind.wrap_i64];omega
        clear h3
        by_cases hcut:(1844674407370955162:Int) ≤ n
        · (repeat (first|(with_reducible first|refine zA fun K hK=>?_|refine zB ?_|refine zC ?_)|((with_reducible first|refine zD rfl fun K hK=>?_|refine zE fun K hK=>?_);go_simp)|(with_reducible first|((repeat ((fail_if_success refine hK _ _ ?_);clear hK K));refine hK _ _ ?_;clear hK K)|refine zt ?_|refine zf ?_|refine zG ?_|refine zR ?_|refine zK ?_|refine zL ?_|refine zN ?_|refine zS ?_)|simp only [Exit.then,Exit.inBlock,Exit.noGoto,↓reduceIte,Nat.reduceEqDiff]|simp only [undef,reduceCtorEq,↓reduceIte]))
          (refine fr_out2 rfl (by decide) (by decide) (by simp only [lk_cons,lk_nil,Nat.reduceEqDiff,↓reduceIte];rfl) (by simp only [lk_cons,lk_nil,Nat.reduceEqDiff,↓reduceIte];rfl) ?_)
          refine ⟨?_,HB.out⟩
          unfold PuPost
          rw [if_pos (Or.inr (by
            rw [HNUM.out]
            have h:=numFold_ge false (ds.drop (i + 1)) (acc * 10 + digVal c)
            simp only [Bool.false_eq_true,↓reduceIte] at h
            have:=HN.out
            omega))]
          exact ⟨_,_,rfl,by decide⟩
        · have hw1:IntKind.u64.wrap (n * 10)=n * 10:=by rw [IntKind.wrap_u64];omega
          by_cases hov:n * 10 + dI < 18446744073709551616
          · have hw2:IntKind.u64.wrap (n * 10 + dI)=n * 10 + dI:=by rw [IntKind.wrap_u64];omega
            have hx1:¬ (n * 10 + dI < n * 10):=by omega
            have hx2:¬ (18446744073709551615 < n * 10 + dI):=by omega
            (repeat (first|(with_reducible first|refine zA fun K hK=>?_|refine zB ?_|refine zC ?_)|((with_reducible first|refine zD rfl fun K hK=>?_|refine zE fun K hK=>?_);go_simp)|(with_reducible first|((repeat ((fail_if_success refine hK _ _ ?_);clear hK K));refine hK _ _ ?_;clear hK K)|refine zt ?_|refine zf ?_|refine zG ?_|refine zR ?_|refine zK ?_|refine zL ?_|refine zN ?_|refine zS ?_)|simp only [Exit.then,Exit.inBlock,Exit.noGoto,↓reduceIte,Nat.reduceEqDiff]|simp only [undef,reduceCtorEq,↓reduceIte]))
            (refine K_keep [0,1,8,10,11,12,13,99,100,101] (fun f=>?_);simp only [keep_cons,keep_nil,lk_cons,lk_nil,Nat.reduceEqDiff,↓reduceIte])
            refine ⟨ds.length - (i + 1),by have:=HK.out;omega,HJ.out _ _ _ ⟨f,i + 1,acc * 10 + digVal c,_,rfl,rfl,by omega,rfl,by have:=HN.out;have:=HDI.out;omega,by have:=HN.out;have:=HDI.out;omega,HNUM.out⟩⟩
          · have hw2:IntKind.u64.wrap (n * 10 + dI)=n * 10 + dI - 18446744073709551616:=by rw [IntKind.wrap_u64];omega
            have hx1:n * 10 + dI - 18446744073709551616 < n * 10:=by omega
            (repeat (first|(with_reducible first|refine zA fun K hK=>?_|refine zB ?_|refine zC ?_)|((with_reducible first|refine zD rfl fun K hK=>?_|refine zE fun K hK=>?_);go_simp)|(with_reducible first|((repeat ((fail_if_success refine hK _ _ ?_);clear hK K));refine hK _ _ ?_;clear hK K)|refine zt ?_|refine zf ?_|refine zG ?_|refine zR ?_|refine zK ?_|refine zL ?_|refine zN ?_|refine zS ?_)|simp only [Exit.then,Exit.inBlock,Exit.noGoto,↓reduceIte,Nat.reduceEqDiff]|simp only [undef,reduceCtorEq,↓reduceIte]))
            (refine fr_out2 rfl (by decide) (by decide) (by simp only [lk_cons,lk_nil,Nat.reduceEqDiff,↓reduceIte];rfl) (by simp only [lk_cons,lk_nil,Nat.reduceEqDiff,↓reduceIte];rfl) ?_)
            refine ⟨?_,HB.out⟩
            unfold PuPost
            rw [if_pos (Or.inr (by
              rw [HNUM.out]
              have h:=numFold_ge false (ds.drop (i + 1)) (acc * 10 + digVal c)
              simp only [Bool.false_eq_true,↓reduceIte] at h
              have:=HN.out
              have:=HDI.out
              omega))]
            exact ⟨_,_,rfl,by decide⟩
      · cases hx
    · simp only [↓reduceIte] at HNUM ⊢
      rcases hcase with ⟨h1,h2,h3,h4⟩|⟨_,v,hv,h3,h1,h2⟩
      · have HH3:=Lib.hid h3
        have hdw:IntKind.u8.wrap ((cn:Int) - 48)=dI:=by rw [IntKind.wrap_u8];omega
        have hdw2:IntKind.u64.wrap dI=dI:=by rw [IntKind.wrap_u64];omega
        have hne:((cn:Int) == 95)=false:=by simp;omega
        have h5:dI < 16:=by omega
        have hb1:IntKind.u8.wrap 16=16:=by rw [IntKind.wrap_u8];rfl
        have hb2:IntKind.u64.wrap 16=16:=by rw [IntKind.wrap_u64];rfl
        have hi2:IntKind.i64.wrap ((i:Int) + 1)=((i + 1:Nat):Int):=by rw [IntKind.wrap_i64];omega
        clear h3
        by_cases hcut:(1152921504606846976:Int) ≤ n
        · (repeat (first|(with_reducible first|refine zA fun K hK=>?_|refine zB ?_|refine zC ?_)|((with_reducible first|refine zD rfl fun K hK=>?_|refine zE fun K hK=>?_);go_simp)|(with_reducible first|((repeat ((fail_if_success refine hK _ _ ?_);clear hK K));refine hK _ _ ?_;clear hK K)|refine zt ?_|refine zf ?_|refine zG ?_|refine zR ?_|refine zK ?_|refine zL ?_|refine zN ?_|refine zS ?_)|simp only [Exit.then,Exit.inBlock,Exit.noGoto,↓reduceIte,Nat.reduceEqDiff]|simp only [undef,reduceCtorEq,↓reduceIte]))
          (refine fr_out2 rfl (by decide) (by decide) (by simp only [lk_cons,lk_nil,Nat.reduceEqDiff,↓reduceIte];rfl) (by simp only [lk_cons,lk_nil,Nat.reduceEqDiff,↓reduceIte];rfl) ?_)
          refine ⟨?_,HB.out⟩
          unfold PuPost
          rw [if_pos (Or.inr (by
            rw [HNUM.out]
            have h:=numFold_ge true (ds.drop (i + 1)) (acc * 16 + digVal c)
            simp only [Bool.false_eq_true,↓reduceIte] at h
            have:=HN.out
            omega))]
          exact ⟨_,_,rfl,by decide⟩
        · have hw1:IntKind.u64.wrap (n * 16)=n * 16:=by rw [IntKind.wrap_u64];omega
          by_cases hov:n * 16 + dI < 18446744073709551616
          · have hw2:IntKind.u64.wrap (n * 16 + dI)=n * 16 + dI:=by rw [IntKind.wrap_u64];omega
            have hx1:¬ (n * 16 + dI < n * 16):=by omega
            have hx2:¬ (18446744073709551615 < n * 16 + dI):=by omega
            (repeat (first|(with_reducible first|refine zA fun K hK=>?_|refine zB ?_|refine zC ?_)|((with_reducible first|refine zD rfl fun K hK=>?_|refine zE fun K hK=>?_);go_simp)|(with_reducible first|((repeat ((fail_if_success refine hK _ _ ?_);clear hK K));refine hK _ _ ?_;clear hK K)|refine zt ?_|refine zf ?_|refine zG ?_|refine zR ?_|refine zK ?_|refine zL ?_|refine zN ?_|refine zS ?_)|simp only [Exit.then,Exit.inBlock,Exit.noGoto,↓reduceIte,Nat.reduceEqDiff]|simp only [undef,reduceCtorEq,↓reduceIte]))
            (refine K_keep [0,1,8,10,11,12,13,99,100,101] (fun f=>?_);simp only [keep_cons,keep_nil,lk_cons,lk_nil,Nat.reduceEqDiff,↓reduceIte])
            refine ⟨ds.length - (i + 1),by have:=HK.out;omega,HJ.out _ _ _ ⟨f,i + 1,acc * 16 + digVal c,_,rfl,rfl,by omega,rfl,by have:=HN.out;have:=HDI.out;omega,by have:=HN.out;have:=HDI.out;omega,HNUM.out⟩⟩
          · exfalso;omega
      · have HH3:=Lib.hid h3
        have hlow:=Lib.hid (fun w=>lower_at cn v hv w)
        have hg1:(57:Int) < cn:=by omega
        have hg2:(48:Int) ≤ cn:=by omega
        have hvw:IntKind.u8.wrap ((v:Int) - 97)=(v:Int) - 97:=by rw [IntKind.wrap_u8];omega
        have hdw:IntKind.u8.wrap ((v:Int) - 97 + 10)=dI:=by rw [IntKind.wrap_u8];omega
        have hdw2:IntKind.u64.wrap dI=dI:=by rw [IntKind.wrap_u64];omega
        have hne:((cn:Int) == 95)=false:=by simp;omega
        have h5:dI < 16:=by omega
        have hb1:IntKind.u8.wrap 16=16:=by rw [IntKind.wrap_u8];rfl
        have hb2:IntKind.u64.wrap 16=16:=by rw [IntKind.wrap_u64];rfl
        have hi2:IntKind.i64.wrap ((i:Int) + 1)=((i + 1:Nat):Int):=by rw [IntKind.wrap_i64];omega
        clear h3 hv
        (repeat (first|(with_reducible first|refine zA fun K hK=>?_|refine zB ?_|refine zC ?_)|((with_reducible first|refine zD rfl fun K hK=>?_|refine zE fun K hK=>?_);go_simp)|(with_reducible first|((repeat ((fail_if_success refine hK _ _ ?_);clear hK K));refine hK _ _ ?_;clear hK K)|refine zt ?_|refine zf ?_|refine zG ?_|refine zR ?_|refine zK ?_|refine zL ?_|refine zN ?_|refine zS ?_)|simp only [Exit.then,Exit.inBlock,Exit.noGoto,↓reduceIte,Nat.reduceEqDiff]|simp only [undef,reduceCtorEq,↓reduceIte]))
        refine (hlow.out _).mono ?_
        rintro e1 w2 ⟨rfl,rfl⟩
        go_simp
        (repeat (first|(with_reducible first|refine zA fun K hK=>?_|refine zB ?_|refine zC ?_)|((with_reducible first|refine zD rfl fun K hK=>?_|refine zE fun K hK=>?_);go_simp)|(with_reducible first|((repeat ((fail_if_success refine hK _ _ ?_);clear hK K));refine hK _ _ ?_;clear hK K)|refine zt ?_|refine zf ?_|refine zG ?_|refine zR ?_|refine zK ?_|refine zL ?_|refine zN ?_|refine zS ?_)|simp only [Exit.then,Exit.inBlock,Exit.noGoto,↓reduceIte,Nat.reduceEqDiff]|simp only [undef,reduceCtorEq,↓reduceIte]))
        refine (hlow.out _).mono ?_
        rintro e1 w2 ⟨rfl,rfl⟩
        go_simp
        (repeat (first|(with_reducible first|refine zA fun K hK=>?_|refine zB ?_|refine zC ?_)|((with_reducible first|refine zD rfl fun K hK=>?_|refine zE fun K hK=>?_);go_simp)|(with_reducible first|((repeat ((fail_if_success refine hK _ _ ?_);clear hK K));refine hK _ _ ?_;clear hK K)|refine zt ?_|refine zf ?_|refine zG ?_|refine zR ?_|refine zK ?_|refine zL ?_|refine zN ?_|refine zS ?_)|simp only [Exit.then,Exit.inBlock,Exit.noGoto,↓reduceIte,Nat.reduceEqDiff]|simp only [undef,reduceCtorEq,↓reduceIte]))
        refine (hlow.out _).mono ?_
        rintro e1 w2 ⟨rfl,rfl⟩
        go_simp
        by_cases hcut:(1152921504606846976:Int) ≤ n
        · (repeat (first|(with_reducible first|refine zA fun K hK=>?_|refine zB ?_|refine zC ?_)|((with_reducible first|refine zD rfl fun K hK=>?_|refine zE fun K hK=>?_);go_simp)|(with_reducible first|((repeat ((fail_if_success refine hK _ _ ?_);clear hK K));refine hK _ _ ?_;clear hK K)|refine zt ?_|refine zf ?_|refine zG ?_|refine zR ?_|refine zK ?_|refine zL ?_|refine zN ?_|refine zS ?_)|simp only [Exit.then,Exit.inBlock,Exit.noGoto,↓reduceIte,Nat.reduceEqDiff]|simp only [undef,reduceCtorEq,↓reduceIte]))
          (refine fr_out2 rfl (by decide) (by decide) (by simp only [lk_cons,lk_nil,Nat.reduceEqDiff,↓reduceIte];rfl) (by simp only [lk_cons,lk_nil,Nat.reduceEqDiff,↓reduceIte];rfl) ?_)
          refine ⟨?_,HB.out⟩
          unfold PuPost
          rw [if_pos (Or.inr (by
            rw [HNUM.out]
            have h:=numFold_ge true (ds.drop (i + 1)) (acc * 16 + digVal c)
            simp only [Bool.false_eq_true,↓reduceIte] at h
            have:=HN.out
            omega))]
          exact ⟨_,_,rfl,by decide⟩
        · have hw1:IntKind.u64.wrap (n * 16)=n * 16:=by rw [IntKind.wrap_u64];omega
          by_cases hov:n * 16 + dI < 18446744073709551616
          · have hw2:IntKind.u64.wrap (n * 16 + dI)=n * 16 + dI:=by rw [IntKind.wrap_u64];omega
            have hx1:¬ (n * 16 + dI < n * 16):=by omega
            have hx2:¬ (18446744073709551615 < n * 16 + dI):=by omega
            (repeat (first|(with_reducible first|refine zA fun K hK=>?_|refine zB ?_|refine zC ?_)|((with_reducible first|refine zD rfl fun K hK=>?_|refine zE fun K hK=>?_);go_simp)|(with_reducible first|((repeat ((fail_if_success refine hK _ _ ?_);clear hK K));refine hK _ _ ?_;clear hK K)|refine zt ?_|refine zf ?_|refine zG ?_|refine zR ?_|refine zK ?_|refine zL ?_|refine zN ?_|refine zS ?_)|simp only [Exit.then,Exit.inBlock,Exit.noGoto,↓reduceIte,Nat.reduceEqDiff]|simp only [undef,reduceCtorEq,↓reduceIte]))
            (refine K_keep [0,1,8,10,11,12,13,99,100,101] (fun f=>?_);simp only [keep_cons,keep_nil,lk_cons,lk_nil,Nat.reduceEqDiff,↓reduceIte])
            refine ⟨ds.length - (i + 1),by have:=HK.out;omega,HJ.out _ _ _ ⟨f,i + 1,acc * 16 + digVal c,_,rfl,rfl,by omega,rfl,by have:=HN.out;have:=HDI.out;omega,by have:=HN.out;have:=HDI.out;omega,HNUM.out⟩⟩
          · exfalso;omega
  · have hii:i=ds.length:=by omega
    subst hii
    have hdd:numVal hex ds=acc:=by
      have:=HNUM.out
      rw [List.drop_eq_nil_of_le (Nat.le_refl _)] at this
      exact this
    have HDD:=Lib.hid hdd
    clear hdd hnum hlt hi hm hd
    unfold puBody
    conv=>arg 2;whnf
    (repeat (first|(with_reducible first|refine zA fun K hK=>?_|refine zB ?_|refine zC ?_)|((with_reducible first|refine zD rfl fun K hK=>?_|refine zE fun K hK=>?_);go_simp)|(with_reducible first|((repeat ((fail_if_success refine hK _ _ ?_);clear hK K));refine hK _ _ ?_;clear hK K)|refine zt ?_|refine zf ?_|refine zG ?_|refine zR ?_|refine zK ?_|refine zL ?_|refine zN ?_|refine zS ?_)|simp only [Exit.then,Exit.inBlock,Exit.noGoto,↓reduceIte,Nat.reduceEqDiff]|simp only [undef,reduceCtorEq,↓reduceIte]))
    (refine K_keep [0,12,13] (fun f=>?_);simp only [keep_cons,keep_nil,lk_cons,lk_nil,Nat.reduceEqDiff,↓reduceIte])
    exact HK2.out _ _ (by have:=HDD.out;have:=HA.out;omega) (by rw [HDD.out];exact HN.out)
theorem parseUintI_c (hex:Bool) (ds:Bs) (hd:∀ b ∈ ds,isDig hex b=true) (hl:ds.length ≤ 1000000000) (w:World) :
    Calls Tryz.prog 78 #[strL ds,.int .i64 (if hex then 16 else 10),.int .i64 64] w fun en w'=>PuPost hex ds 218 en∧Below w.heap.size w w':=by
  have HD:=Lib.hid hd
  have hmv:IntKind.u64.wrap (IntKind.u64.wrap 18446744073709551616 - 1)=18446744073709551615:=by
    rw [IntKind.wrap_u64,IntKind.wrap_u64]
    decide
  have hcv:=Lib.run_convert_string_bytes (P:=Tryz.prog) w 9 74 5 ⟨ds.toArray⟩ Tryz.underlying9 Tryz.underlying74 Tryz.underlying5
  have HB:=Lib.hid (fun (j:Nat) (hj:j < ds.length)=>(Lib.bytesWorld_cell w 5 ⟨ds.toArray⟩ j hj))
  have HBel:=Lib.hid (Lib.bytesWorld_below w 5 ⟨ds.toArray⟩)
  obtain ⟨w1,hw1⟩:∃ w1,w1=Lib.bytesWorld w 5 ⟨ds.toArray⟩:=⟨_,rfl⟩
  rw [← hw1] at hcv HB HBel
  clear hw1 hd
  by_cases hne:ds=[]
  · subst hne
    refine calls_fr (vs:=[_,_,_]) 172 Tryz.func78 rfl rfl (Nat.le_of_ble_eq_true rfl) fun f=>?_
    simp only [argSlots]
    (repeat (first|(with_reducible first|refine zA fun K hK=>?_|refine zB ?_|refine zC ?_)|((with_reducible first|refine zD rfl fun K hK=>?_|refine zE fun K hK=>?_);go_simp)|(with_reducible first|((repeat ((fail_if_success refine hK _ _ ?_);clear hK K));refine hK _ _ ?_;clear hK K)|refine zt ?_|refine zf ?_|refine zG ?_|refine zR ?_|refine zK ?_|refine zL ?_|refine zN ?_|refine zS ?_)|simp only [Exit.then,Exit.inBlock,Exit.noGoto,↓reduceIte,Nat.reduceEqDiff]|simp only [undef,reduceCtorEq,↓reduceIte]))
    (refine fr_out2 rfl (by decide) (by decide) (by simp only [lk_cons,lk_nil,Nat.reduceEqDiff,↓reduceIte];rfl) (by simp only [lk_cons,lk_nil,Nat.reduceEqDiff,↓reduceIte];rfl) ?_)
    refine ⟨?_,Below.refl _ _⟩
    unfold PuPost
    rw [if_pos (Or.inl rfl)]
    exact ⟨_,_,rfl,by decide⟩
  · have hemp:True:=trivial
    have hemp3:ds.isEmpty=false:=by simp [hne]
    have HNE:=Lib.hid hne
    clear hne hemp
    cases hex
    all_goals
      (try simp only [Bool.false_eq_true,↓reduceIte])
      refine calls_fr (vs:=[_,_,_]) 172 Tryz.func78 rfl rfl (Nat.le_of_ble_eq_true rfl) fun f=>?_
      simp only [argSlots]
      (repeat (first|(with_reducible first|refine zA fun K hK=>?_|refine zB ?_|refine zC ?_)|((with_reducible first|refine zD rfl fun K hK=>?_|refine zE fun K hK=>?_);go_simp)|(with_reducible first|((repeat ((fail_if_success refine hK _ _ ?_);clear hK K));refine hK _ _ ?_;clear hK K)|refine zt ?_|refine zf ?_|refine zG ?_|refine zR ?_|refine zK ?_|refine zL ?_|refine zN ?_|refine zS ?_)|simp only [Exit.then,Exit.inBlock,Exit.noGoto,↓reduceIte,Nat.reduceEqDiff]|simp only [undef,reduceCtorEq,↓reduceIte]))
      have hmv2:IntKind.u64.wrap (IntKind.u64.wrap (2 ^ min (IntKind.u64.wrap 64).toNat 64) - 1)=18446744073709551615:=by
        rw [IntKind.wrap_u64,IntKind.wrap_u64,IntKind.wrap_u64]
        decide
      (refine wp_keep [0,1,8,10,11,12,13,99,100,101] (fun f=>?_);simp only [keep_cons,keep_nil,lk_cons,lk_nil,Nat.reduceEqDiff,↓reduceIte])
      rw [hmv2]
      clear hmv2
      have h0:=Nat.zero_le ds.length
      have hmem:PuMem ds w.heap.size w1:=⟨fun j hj=>by
        have h:=HB.out j hj
        rw [show (⟨ds.toArray⟩:ByteArray).data.toList.getD j 0=ds[j] by simp [List.getD,List.getElem?_eq_getElem hj]] at h
        exact h⟩
      first
        | refine wp_loop_ghost_k (PuInv false ds (.slice (some ⟨w.heap.size,0,none⟩) ds.length (grownCap w ds.length 0 5)) w1) ds.length ⟨f,0,0,0,rfl,rfl,h0,rfl,rfl,by decide,by first|rfl|simp [numVal]⟩ ?_
        | refine wp_loop_ghost_k (PuInv true ds (.slice (some ⟨w.heap.size,0,none⟩) ds.length (grownCap w ds.length 0 5)) w1) ds.length ⟨f,0,0,0,rfl,rfl,h0,rfl,rfl,by decide,by first|rfl|simp [numVal]⟩ ?_
      rintro k _ wr ⟨f,i,acc,n,rfl,rfl,hi,hk,hn,hacc,hnum⟩ J K2 hJ hK2
      first
        | refine wp_code (puRound false ds HD.out hl _ _ w _ hmem HBel.out K2 J k f i acc n hi hk hn hacc hnum hJ hK2 K ?_) (by kernel_rfl)
        | refine wp_code (puRound true ds HD.out hl _ _ w _ hmem HBel.out K2 J k f i acc n hi hk hn hacc hnum hJ hK2 K ?_) (by kernel_rfl)
      intro f n hn1 hn2
      subst hn2
      have HN1:=Lib.hid hn1
      clear hn1 hn hnum hacc
      (repeat (first|(with_reducible first|refine zA fun K hK=>?_|refine zB ?_|refine zC ?_)|((with_reducible first|refine zD rfl fun K hK=>?_|refine zE fun K hK=>?_);go_simp)|(with_reducible first|((repeat ((fail_if_success refine hK _ _ ?_);clear hK K));refine hK _ _ ?_;clear hK K)|refine zt ?_|refine zf ?_|refine zG ?_|refine zR ?_|refine zK ?_|refine zL ?_|refine zN ?_|refine zS ?_)|simp only [Exit.then,Exit.inBlock,Exit.noGoto,↓reduceIte,Nat.reduceEqDiff]|simp only [undef,reduceCtorEq,↓reduceIte]))
      (refine fr_out2 rfl (by decide) (by decide) (by simp only [lk_cons,lk_nil,Nat.reduceEqDiff,↓reduceIte];rfl) (by simp only [lk_cons,lk_nil,Nat.reduceEqDiff,↓reduceIte];rfl) ?_)
      refine ⟨?_,HBel.out⟩
      unfold PuPost
      rw [if_neg (by
        intro h
        rcases h with h|h
        · exact HNE.out h
        · have:=HN1.out;omega)]
end Go.Proofs.YtkjnockljapnbaaGreatDoor
namespace Go.Proofs.YtkjnockljapnbaaGreatDoor
open Go Go.RowKit
@[go_sem] def rdC (x:Cx) (s:ByteArray) (n:Int):Array Value:=#[.string s,.slice x.pcA x.pcN x.pcC,.int .i64 n,.bool x.o.fails]
def endV (x:Cx):Value:=if x.o.fails then ownV else x.eofV
section
variable {P:Program}
def bytesV (l:Bs):List Value:=l.map fun b=>Value.int .u8 b.toNat
theorem run_copy_str (w:World) (dT sT ty elem:TypeId) (g dLen dCap:Nat) (s:ByteArray) (cur:Array Value) (t:TypeId)
    (hu:P.underlying dT=some (.slice elem)) (hs:(P.info? elem).map (·.size)=some 1)
    (hg:w.heap[g]?=some (.cells cur t (0,0))) (hfit:Nat.min s.size dLen ≤ cur.size) :
    (Builtin.copy_ #[dT,sT] ty #[.slice (some ⟨g,0,none⟩) dLen dCap,.string s]).run P w =
      .ok (goInt (Nat.min s.size dLen)) (w.setRow g (bytesV (s.data.toList.take (Nat.min s.size dLen)) ++ cur.toList.drop (Nat.min s.size dLen)).toArray):=by
  have hle:Nat.min s.size dLen ≤ s.size:=Nat.min_le_left _ _
  have hsz:s.data.toList.length=s.size:=rfl
  have hst:=run_storeCells_at P g 0 t ((s.data.toList.take (Nat.min s.size dLen)).map fun b=>Value.int .u8 b.toNat) 0 cur w hg (by
    simp only [List.length_map,List.length_take,hsz];omega) (by intro v hv;simp only [List.mem_map] at hv;obtain ⟨b,_,rfl⟩:=hv;rfl)
  have hl:((s.data.toList.take (Nat.min s.size dLen)).map fun b=>Value.int .u8 b.toNat).length=Nat.min s.size dLen:=by
    simp only [List.length_map,List.length_take,hsz];omega
  rw [hl] at hst
  simp only [Nat.zero_add,List.take_zero,List.nil_append] at hst
  cases hq:P.info? elem with
  | none=>simp [hq] at hs
  | some i=>
    simp only [Builtin.copy_,Builtin.lenOf,Builtin.firstCells,sizeOf,typeInfo]
    simp only [List.getElem?_toArray,List.getElem?_cons_zero,List.getElem?_cons_succ,Sem.run_bind,run_underlying hu,Result.andThen_ok]
    rw [List.map_take] at hst
    unfold bytesV
    rw [List.map_take]
    simp [hq]
    rw [hst]
    rfl
end
theorem step_copy_str {P:Program} {ops:Array Oper} {o:Oper} {a:Act} {w:World} {K:Act → World → Prop} {Q:Exit → Act → World → Prop} {E:Prop} (hgd:o.guard=none) (d s:Operand) (dT sT:TypeId)
    (ho:o.op=.call { callee:=.builtin .copy,args:=#[d,s],argTypes:=#[dT,sT] }) (elem:TypeId) (hu:P.underlying dT=some (.slice elem)) (hsz:(P.info? elem).map (·.size)=some 1)
    (g dLen dCap:Nat) (str:ByteArray) (hd:a.eval d=.slice (some ⟨g,0,none⟩) dLen dCap) (hs:a.eval s=.string str)
    (cur:Array Value) (t:TypeId) (hg:w.heap[g]?=some (.cells cur t (0,0))) (m:Nat) (hm:m=Nat.min str.size dLen) (hfit:m ≤ cur.size)
    (h:∀ w',Hid (w'=w.setRow g (bytesV (str.data.toList.take m) ++ cur.toList.drop m).toArray) → K (a.put o.dst (.int .i64 m)) w') :
    if Region.wanted o (yielded ops a.tmps)=true then Oper.wp P o a w K Q else E:=by
  have hw:Region.wanted o (yielded ops a.tmps)=true:=by simp [Region.wanted,hgd]
  rw [if_pos hw]
  subst hm
  have hrun:=run_copy_str (P:=P) w dT sT o.type elem g dLen dCap str cur t hu hsz hg hfit
  unfold Oper.wp
  simp only [execOp,ho,resolve,invoke,builtin]
  simp [hd,hs,hrun,Result.andThen]
  exact h _ (show _=_ from rfl)
theorem u8info:(Tryz.prog.info? 5).map (·.size)=some 1:=by kernel_rfl
theorem rd_end (x:Cx) (w:World) (n:Int) (s:ByteArray) (hs:s.toList.isEmpty=true) (hrd:Blk w x.rd (rdC x s n) 52)
   (heof:w.cell? ⟨0,0,none⟩=some x.eofV) :
    Calls Tryz.prog 134 #[.pointer (some ⟨x.rd,0,none⟩),.slice (some ⟨x.rb,0,none⟩) 4096 4096] w fun e w'=>e=.returned (.tuple #[.int .i64 0,endV x])∧∃ k,w'=w.drewN k:=by
  have hc:=hrd.cell
  have hf:=hrd.frozen
  clear hrd
  cases hfl:x.o.fails
  · go_enter Tryz.func134,Tryz.ntmps134
    go_wp2
    go_quiet (fail)
    go_wp2
    go_ret2
    exact ⟨by simp [endV,hfl],_,rfl⟩
  · go_enter Tryz.func134,Tryz.ntmps134
    go_wp2
    go_ret2
    exact ⟨by simp [endV,hfl],0,rfl⟩
structure RdPost (x:Cx) (w:World) (s:ByteArray) (n:Nat) (arr:Array Value) (m:Nat) (w':World):Prop where
  m1:1 ≤ m
  m2:m ≤ 4096
  m3:m ≤ s.size
  row:Blk w' x.rb (bytesV (s.data.toList.take m) ++ arr.toList.drop m).toArray 5
  rd:∃ n',n' ≤ n + 1∧Blk w' x.rd (rdC x (s.extract m s.size) n') 52
  mod:Mod (fun k=>k=x.rb ∨ k=x.rd) w w'
  size:w'.heap.size=w.heap.size
theorem rd_whole (x:Cx) (w:World) (n:Nat) (s:ByteArray) (hs:s.toList.isEmpty=false) (arr:Array Value) (hrd:Blk w x.rd (rdC x s n) 52) (hrb:Blk w x.rb arr 5) (hsz:arr.size=4096)
   (hpc:x.pcN=0) (hsn:s.size ≤ 1000000000) (hne:x.rb ≠ x.rd) :
    Calls Tryz.prog 134 #[.pointer (some ⟨x.rd,0,none⟩),.slice (some ⟨x.rb,0,none⟩) 4096 4096] w fun e w'=>∃ m:Nat,e=.returned (.tuple #[.int .i64 m,.nilIface])∧RdPost x w s n arr m w':=by
  have hc:=hrd.cell
  have hf:=hrd.frozen
  have h0:decide ((0:Int) < (x.pcN:Int))=false:=by simp [hpc]
  have h1:0 < s.size:=by
    rcases Nat.eq_zero_or_pos s.size with h|h
    · have:s=ByteArray.empty:=by simpa using h
      subst this
      simp at hs
    · exact h
  obtain ⟨m,hm⟩:∃ m,m=Nat.min s.size 4096:=⟨_,rfl⟩
  have hm1:m ≤ s.size:=by rw [hm];exact Nat.min_le_left _ _
  have hm2:m ≤ 4096:=by rw [hm];exact Nat.min_le_right _ _
  have hm3:1 ≤ m:=by rw [hm];exact Nat.le_min.2 ⟨h1,by omega⟩
  have hM:Hid (m=Nat.min s.size 4096):=hm
  clear hm
  have HRD:=Lib.hid hrd
  have HRB:=Lib.hid hrb
  clear hrd hrb
  go_enter Tryz.func134,Tryz.ntmps134
  go_wp2
  go_region_law (refine step_copy_str rfl (.tmp 55) (.tmp 59) 74 9 rfl 5 Tryz.underlying74 u8info x.rb 4096 4096 s rfl rfl arr 5 HRB.out m hM.out (by omega) ?_;intro w1 hw1)
  have hc1:∀ o,w1.cell? ⟨x.rd,o,none⟩=(rdC x s n)[o]?:=by
    rw [hw1.out];exact (Blk.row_ne (show Blk _ x.rd _ _ from HRD.out) (fun h=>hne h.symm) _).cell
  have hf1:∀ o,w1.frozen? ⟨x.rd,o,none⟩=false:=by
    rw [hw1.out];exact (Blk.row_ne (show Blk _ x.rd _ _ from HRD.out) (fun h=>hne h.symm) _).frozen
  clear hc hf
  go_wp2
  go_ret2
  have hr1:Blk w1 x.rb (bytesV (s.data.toList.take m) ++ arr.toList.drop m).toArray 5:=by
    rw [hw1.out];exact Blk.row (show Blk _ x.rb _ _ from HRB.out) _
  have hd1:Blk w1 x.rd (rdC x s n) 52:=by
    rw [hw1.out];exact Blk.row_ne (show Blk _ x.rd _ _ from HRD.out) (fun h=>hne h.symm) _
  have hmod:Mod (fun k=>k=x.rb ∨ k=x.rd) w w1:=by
    rw [hw1.out];exact Mod.setRow (Mod.refl _ w).drew (Or.inl (Or.inl rfl)) _
  have hz:w1.heap.size=w.heap.size:=by rw [hw1.out];simp [World.setRow]
  exact ⟨m,rfl,hm3,hm2,hm1,hr1.set_ne (by simpa using hne) _,⟨n,by omega,hd1.set 0 _⟩,hmod.setCell (Or.inl (Or.inr rfl)) _,by simp [hz]⟩
theorem rd_piece0 (x:Cx) (w:World) (n:Nat) (s:ByteArray) (hs:s.toList.isEmpty=false) (arr:Array Value) (hrd:Blk w x.rd (rdC x s n) 52) (hrb:Blk w x.rb arr 5) (hsz:arr.size=4096)
   (pb po:Nat) (pc:0 < x.pcN) (hpc:x.pcA=some ⟨pb,po,none⟩) (hpl:x.pcN ≤ 9223372036854775807) (p:Int) (hv:w.cell? ⟨pb,po + n % x.pcN,none⟩=some (.int .i64 p))
   (q:Nat) (hq:(p ≤ 1∧q=1) ∨ (1 < p∧p < 4096∧p=q) ∨ (4096 ≤ p∧q=4096))
   (hsn:s.size ≤ 1000000000) (hn:n ≤ 1000000000) (hne:x.rb ≠ x.rd) :
    Calls Tryz.prog 134 #[.pointer (some ⟨x.rd,0,none⟩),.slice (some ⟨x.rb,0,none⟩) 4096 4096] w fun e w'=>∃ m:Nat,e=.returned (.tuple #[.int .i64 m,.nilIface])∧RdPost x w s n arr m w':=by
  have hc:=hrd.cell
  have hf:=hrd.frozen
  have h0:decide ((0:Int) < (x.pcN:Int))=true:=by simpa using pc
  have h1:0 < s.size:=by
    rcases Nat.eq_zero_or_pos s.size with h|h
    · have:s=ByteArray.empty:=by simpa using h
      subst this
      simp at hs
    · exact h
  have hk:n % x.pcN < x.pcN:=Nat.mod_lt _ pc
  have hq1:1 ≤ q:=by omega
  have hq2:q ≤ 4096:=by omega
  have hq3:(q:Int) ≤ 4096:=by omega
  obtain ⟨m,hm⟩:∃ m,m=Nat.min s.size q:=⟨_,rfl⟩
  have hm1:m ≤ s.size:=by rw [hm];exact Nat.min_le_left _ _
  have hm2:m ≤ q:=by rw [hm];exact Nat.min_le_right _ _
  have hm3:1 ≤ m:=by rw [hm];exact Nat.le_min.2 ⟨h1,by omega⟩
  have hM:Hid (m=Nat.min s.size q):=hm
  clear hm
  have HRD:=Lib.hid hrd
  have HRB:=Lib.hid hrb
  clear hrd hrb
  rcases hq with ⟨hp,rfl⟩|⟨hp,hp',rfl⟩|⟨hp,rfl⟩
  all_goals
    go_enter Tryz.func134,Tryz.ntmps134
    go_wp2
    go_quiet (fail)
    go_wp2
    go_region_law (refine step_copy_str rfl (.tmp 55) (.tmp 59) 74 9 rfl 5 Tryz.underlying74 u8info x.rb _ _ s rfl rfl arr 5 (Blk.set_ne (show Blk _ x.rb _ _ from HRB.out) (by simpa using hne) _) m hM.out (by omega) ?_;intro w1 hw1)
    have hd0:Blk ((w.drewN nq).setCell ⟨x.rd,2,none⟩ (.int .i64 ((n:Int) + 1))) x.rd (rdC x s ((n:Int) + 1)) 52:=(show Blk (w.drewN nq) x.rd _ _ from HRD.out).set 2 _
    have hd1:Blk w1 x.rd (rdC x s ((n:Int) + 1)) 52:=by
      rw [hw1.out];exact Blk.row_ne (show Blk _ x.rd _ _ from hd0) (fun h=>hne h.symm) _
    have hc1:=hd1.cell
    have hf1:=hd1.frozen
    clear hc hf
    have HD1:=Lib.hid hd1
    clear hd1 hd0
    go_wp2
    go_ret2
    have hr1:Blk w1 x.rb (bytesV (s.data.toList.take m) ++ arr.toList.drop m).toArray 5:=by
      rw [hw1.out];exact Blk.row (Blk.set_ne (show Blk _ x.rb _ _ from HRB.out) (by simpa using hne) _) _
    have hmod:Mod (fun k=>k=x.rb ∨ k=x.rd) w w1:=by
      rw [hw1.out];exact Mod.setRow ((Mod.refl _ w).drewN nq |>.setCell (Or.inl (Or.inr rfl)) _).drew (Or.inl (Or.inl rfl)) _
    have hz:w1.heap.size=w.heap.size:=by rw [hw1.out];simp [World.setRow]
    exact ⟨m,rfl,hm3,by omega,hm1,hr1.set_ne (by simpa using hne) _,⟨n + 1,by omega,HD1.out.set 0 _⟩,hmod.setCell (Or.inl (Or.inr rfl)) _,by simp [hz]⟩
end Go.Proofs.YtkjnockljapnbaaGreatDoor
