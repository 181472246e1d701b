/- Part of the proof that laws.FnBalanced returns true for every argument (Ef). No condition of its own. -/
import Derived.Test.YtkjnockljapnbaaGreatDoorO21
import Derived.Test.YtkjnockljapnbaaGreatDoorO23
import Derived.Lib.OthersKept
import Derived.Lib.TrimAscii
set_option linter.all false
set_option maxHeartbeats 8000000
set_option maxRecDepth 100000
namespace Go.Proofs.YtkjnockljapnbaaGreatDoor
open Go Go.RowKit
def afL:List Int:=(List.range 128).map fun (c:Nat)=>if 65 ≤ c∧c ≤ 90 then (c:Int) + 32 else if c=107 then 8490 else if c=115 then 383 else if 97 ≤ c∧c ≤ 122 then (c:Int) - 32 else c
structure AfTab (w:World):Prop where
  at':∀ i,i < 128 → w.cell? ⟨3,i,none⟩=some (.int .u16 (afL.getD i 0))
  lt:3 < w.heap.size
theorem AfTab.below {w w':World} (h:AfTab w) (hb:Below w.heap.size w w'):AfTab w':=
  ⟨fun i hi=>by rw [hb.cell (p:=⟨_,i,none⟩) h.lt];exact h.at' i hi,Nat.lt_of_lt_of_le h.lt hb.size⟩
theorem AfTab.drewN {w:World} (h:AfTab w) (k:Nat):AfTab (w.drewN k):=⟨h.at',h.lt⟩
theorem simpleFold_asc (n:Nat) (hn:n < 128) (m:Nat) (hm:afL.getD n 0=m) (hm2:m ≤ 10000) (w:World) (h:AfTab w) :
    Calls Tryz.prog 74 #[.int .i32 n] w fun e w'=>e=.returned (.int .i32 m)∧∃ k,w'=w.drewN k:=by
  have hc:=h.at' n hn
  rw [hm] at hc
  have h1:(n:Int) < 128:=by omega
  have h2:¬ ((n:Int) < 0):=by omega
  have h0:(0:Int) ≤ (n:Int):=by omega
  have h3:¬ ((1114111:Int) < (n:Int)):=by omega
  have h4:IntKind.i64.wrap (n:Int)=(n:Int):=by rw [IntKind.wrap_i64];omega
  have h5:IntKind.i32.wrap (m:Int)=(m:Int):=by rw [IntKind.wrap_i32];omega
  clear h hm
  refine calls_fr (vs:=[_]) 80 Tryz.func74 rfl rfl (Nat.le_of_ble_eq_true rfl) fun f=>?_
  simp only [argSlots]
  (repeat (first|(with_reducible first|refine zA fun K hK=>?_|refine zB ?_|refine zC ?_)|((with_reducible first|refine zD rfl fun K hK=>?_|refine zE fun K hK=>?_);go_simp)|(with_reducible first|((repeat ((fail_if_success refine hK _ _ ?_);clear hK K));refine hK _ _ ?_;clear hK K)|refine zt ?_|refine zf ?_|refine zG ?_|refine zR ?_|refine zK ?_|refine zL ?_|refine zN ?_|refine zS ?_)|simp only [Exit.then,Exit.inBlock,Exit.noGoto,↓reduceIte,Nat.reduceEqDiff]|simp only [undef,reduceCtorEq,↓reduceIte]))
  (refine fr_out1 rfl (by decide) (by simp only [lk_cons,lk_nil,Nat.reduceEqDiff,↓reduceIte];rfl) ?_)
  exact ⟨rfl,0,rfl⟩
abbrev utf8L:Bs:=[117,116,102,45,56]
theorem foldEq_utf8:∀ n,n < 256 → ∀ y ∈ utf8L,Lib.foldEq (UInt8.ofNat n) y=(ascLow (UInt8.ofNat n) == y):=by decide +kernel
theorem foldEq_utf8' (x y:UInt8) (hy:y ∈ utf8L):Lib.foldEq x y=(ascLow x == y):=by
  have:=foldEq_utf8 x.toNat x.toNat_lt y hy
  simpa using this
theorem equalFold_map:∀ (s t:Bs),(∀ y ∈ t,y ∈ utf8L) → Lib.equalFold s t=(s.map ascLow == t)
  | [],[],_=>rfl
  | [],_ :: _,_=>by rw [Lib.equalFold_end _ _ (Or.inl rfl)];simp
  | _ :: _,[],_=>by rw [Lib.equalFold_end _ _ (Or.inr rfl)];simp
  | x :: s,y :: t,h=>by
    have h1:=foldEq_utf8' x y (h y (by simp))
    have h2:=equalFold_map s t (fun z hz=>h z (by simp [hz]))
    cases hf:Lib.foldEq x y with
    | true=>
      rw [Lib.equalFold_yes _ _ _ _ hf,h2]
      rw [hf] at h1
      have:ascLow x=y:=by simpa using h1.symm
      simp [this]
    | false=>
      rw [Lib.equalFold_no _ _ _ _ hf]
      rw [hf] at h1
      have:ascLow x ≠ y:=by simpa using h1.symm
      simp [this]
theorem or_hi:∀ n,n < 256 → ∀ m ∈ [117,116,102,45,56],decide ((128:Int) ≤ bits .or .u8 ((n:Nat):Int) ((m:Nat):Int))=decide (128 ≤ n):=by decide +kernel
theorem or_hi' (c d:UInt8) (hd:d ∈ utf8L):decide ((128:Int) ≤ bits .or .u8 (c.toNat:Int) (d.toNat:Int))=decide (128 ≤ c.toNat):=by
  refine or_hi c.toNat c.toNat_lt d.toNat ?_
  simp only [utf8L,List.mem_cons,List.not_mem_nil,or_false] at hd
  rcases hd with rfl|rfl|rfl|rfl|rfl <;> decide
theorem wp_stopS {P:Program} {c:Code} {Q:Exit → Act → World → Prop} {a:Act} {w:World} (h:(Code.scope c).wp P Q a w):(Code.scope c).wp P Q a w:=h
noncomputable def efCode (n:Nat):Code:=((Tryz.f47.body).bind (Code.partAt n)).getD .skip
def EfInv (s:Bs) (N:Nat) (w0:World) (k:Nat) (a:Act) (w:World):Prop:=
  ∃ f i,a=fr 123 f [(0,strV s),(1,strV utf8L),(5,.int .i64 (i:Nat)),(6,.int .i64 N)]∧w0=w∧i ≤ N∧k=N - i∧∀ j,j < i → (s.getD j 0).toNat < 128
def EfJ (s:Bs) (w0:World) (k:Nat) (a:Act) (w:World):Prop:=
  k=0∧∃ f i,a=fr 123 f [(0,strV s),(1,strV utf8L),(5,.int .i64 (i:Nat))]∧w0=w∧i < s.length∧i < 5∧128 ≤ (s.getD i 0).toNat
theorem equalFold_hi (s:Bs) (hs:s.length ≤ 1000000000) (j0:Nat) (hj0:j0 < s.length) (hhi:128 ≤ (s.getD j0 0).toNat) (w:World) (haf:AfTab w) (hu:Lib.Utf8Tabs 6 7 w) :
    Calls Tryz.prog 47 #[strV s,strV utf8L] w fun e w'=>e=.returned (.bool false)∧Below w.heap.size w w':=by
  have HAF:=Lib.hid haf
  have HU:=Lib.hid hu
  have HHI:=Lib.hid hhi
  have HJ0:=Lib.hid hj0
  have HS:=Lib.hid hs
  obtain ⟨N,hN⟩:∃ N:Nat,min (s.length:Int) 5=(N:Int):=⟨min s.length 5,by omega⟩
  have HN:=Lib.hid hN
  clear haf hu hhi hj0 hs
  refine calls_fr (vs:=[_,_]) 123 Tryz.func47 rfl rfl (Nat.le_of_ble_eq_true rfl) fun f=>?_
  simp only [argSlots]
  (repeat ((fail_if_success with_reducible refine wp_stopS ?_);(first|(with_reducible first|refine zA fun K hK=>?_|refine zB ?_|refine zC ?_)|((with_reducible first|refine zD rfl fun K hK=>?_|refine zE fun K hK=>?_);go_simp)|(with_reducible first|((repeat ((fail_if_success refine hK _ _ ?_);clear hK K));refine hK _ _ ?_;clear hK K)|refine zt ?_|refine zf ?_|refine zG ?_|refine zR ?_|refine zK ?_|refine zL ?_|refine zN ?_|refine zS ?_)|simp only [Exit.then,Exit.inBlock,Exit.noGoto,↓reduceIte,Nat.reduceEqDiff]|simp only [undef,reduceCtorEq,↓reduceIte])))
  (refine wp_keep [0,1] (fun f=>?_);simp only [keep_cons,keep_nil,lk_cons,lk_nil,Nat.reduceEqDiff,↓reduceIte])
  refine wp_scope_jumps_k (rest:=.seq .skip (efCode 14)) 0 (EfJ s w) (by kernel_rfl) ?_ ?_
  · (repeat (first|(with_reducible first|refine zA fun K hK=>?_|refine zB ?_|refine zC ?_)|((with_reducible first|refine zD rfl fun K hK=>?_|refine zE fun K hK=>?_);go_simp)|(with_reducible first|((repeat ((fail_if_success refine hK _ _ ?_);clear hK K));refine hK _ _ ?_;clear hK K)|refine zt ?_|refine zf ?_|refine zG ?_|refine zR ?_|refine zK ?_|refine zL ?_|refine zN ?_|refine zS ?_)|simp only [Exit.then,Exit.inBlock,Exit.noGoto,↓reduceIte,Nat.reduceEqDiff]|simp only [undef,reduceCtorEq,↓reduceIte]))
    (refine wp_keep [0,1,5,6] (fun f=>?_);simp only [keep_cons,keep_nil,lk_cons,lk_nil,Nat.reduceEqDiff,↓reduceIte])
    refine wp_loop_ghost_k (EfInv s N w) N ⟨f,0,rfl,rfl,Nat.zero_le _,rfl,fun j hj=>by omega⟩ ?_
    rintro k _ w6 ⟨f,i,rfl,hww,hi,hk,hall⟩ J K2 hJ hK2
    subst hww
    have HJ:=Lib.hid hJ
    have HK2:=Lib.hid hK2
    have HK:=Lib.hid hk
    have HALL:=Lib.hid hall
    clear hJ hK2 hk hall
    by_cases hlt:i < N
    · have hN5:N ≤ 5∧N ≤ s.length:=by have:=HN.out;omega
      obtain ⟨hN5,hNs⟩:=hN5
      have h1:(i:Int) < (N:Int):=by omega
      have h0:(0:Int) ≤ (i:Int):=by omega
      have h2:(i:Int) < (s.length:Int):=by omega
      have h3:(i:Int) < 5:=by omega
      have h3':i < 5:=by omega
      have h2':i < s.length:=by omega
      have hw1:IntKind.i64.wrap ((i:Int) + 1)=((i + 1:Nat):Int):=by rw [IntKind.wrap_i64];omega
      obtain ⟨c,hc⟩:∃ c,c=s.getD i 0:=⟨_,rfl⟩
      obtain ⟨d,hd⟩:∃ d,d=utf8L.getD i 0:=⟨_,rfl⟩
      have hix:∀ h,(⟨s.toArray⟩:ByteArray)[i]'h=c:=by intro h;rw [hc];exact ixc s i h
      have hiy:∀ h,(⟨utf8L.toArray⟩:ByteArray)[i]'h=d:=by intro h;rw [hd];exact ixc utf8L i h
      have hdm:d ∈ utf8L:=by rw [hd];rw [List.getD_eq_getElem?_getD,List.getElem?_eq_getElem (show i < utf8L.length from h3')];exact List.getElem_mem _
      have hor:=or_hi' c d hdm
      have HC:=Lib.hid hc
      have HDM:=Lib.hid hdm
      by_cases hc8:128 ≤ c.toNat
      · have hor2:decide ((128:Int) ≤ bits .or .u8 (c.toNat:Int) (d.toNat:Int))=true:=by rw [hor];simpa using hc8
        have HC8:=Lib.hid hc8
        clear hor hd hdm hc8 hc
        (repeat (first|(with_reducible first|refine zA fun K hK=>?_|refine zB ?_|refine zC ?_)|((with_reducible first|refine zD rfl fun K hK=>?_|refine zE fun K hK=>?_);go_simp)|(with_reducible first|((repeat ((fail_if_success refine hK _ _ ?_);clear hK K));refine hK _ _ ?_;clear hK K)|refine zt ?_|refine zf ?_|refine zG ?_|refine zR ?_|refine zK ?_|refine zL ?_|refine zN ?_|refine zS ?_)|simp only [Exit.then,Exit.inBlock,Exit.noGoto,↓reduceIte,Nat.reduceEqDiff]|simp only [undef,reduceCtorEq,↓reduceIte]))
        refine wp_goto ?_
        (try simp only [Exit.then,Exit.inBlock])
        refine Q_keep [0,1,5] (fun f=>?_);simp only [keep_cons,keep_nil,lk_cons,lk_nil,Nat.reduceEqDiff,↓reduceIte]
        exact ⟨rfl,0,rfl,f,i,rfl,rfl,h2',h3',by rw [← HC.out];exact HC8.out⟩
      · have hor2:decide ((128:Int) ≤ bits .or .u8 (c.toNat:Int) (d.toNat:Int))=false:=by rw [hor];simpa using hc8
        have hor3:¬ ((128:Int) ≤ bits .or .u8 (c.toNat:Int) (d.toNat:Int)):=by simpa using hor2
        have HC8:=Lib.hid hc8
        have hd8:d.toNat < 128:=by
          have:∀ z ∈ utf8L,z.toNat < 128:=by decide
          exact this d hdm
        clear hor hd hdm hc
        by_cases heq:d=c
        · subst heq
          clear hc8
          (repeat (first|(with_reducible first|refine zA fun K hK=>?_|refine zB ?_|refine zC ?_)|((with_reducible first|refine zD rfl fun K hK=>?_|refine zE fun K hK=>?_);go_simp)|(with_reducible first|((repeat ((fail_if_success refine hK _ _ ?_);clear hK K));refine hK _ _ ?_;clear hK K)|refine zt ?_|refine zf ?_|refine zG ?_|refine zR ?_|refine zK ?_|refine zL ?_|refine zN ?_|refine zS ?_)|simp only [Exit.then,Exit.inBlock,Exit.noGoto,↓reduceIte,Nat.reduceEqDiff]|simp only [undef,reduceCtorEq,↓reduceIte]))
          (refine K_keep [0,1,5,6] (fun f=>?_);simp only [keep_cons,keep_nil,lk_cons,lk_nil,Nat.reduceEqDiff,↓reduceIte])
          refine HK2.out _ _ ⟨N - (i + 1),by rw [HK.out];omega,HJ.out _ _ _ ⟨f,i + 1,rfl,rfl,hlt,rfl,fun j hj=>?_⟩⟩
          by_cases hji:j=i
          · subst hji;rw [← HC.out];have:=HC8.out;omega
          · exact HALL.out j (by omega)
        · have t1:((d.toNat:Int) == (c.toNat:Int))=false:=u8ne heq rfl
          have t2:((c.toNat:Int) == (d.toNat:Int))=false:=u8ne (fun h=>heq h.symm) rfl
          by_cases hfold:Lib.foldEq c d=true
          ·
            have hcd:(65 ≤ c.toNat∧c.toNat ≤ 90∧d.toNat=c.toNat + 32) ∨ (65 ≤ d.toNat∧d.toNat ≤ 90∧c.toNat=d.toNat + 32):=by
              have h:=of_decide_eq_true hfold
              rcases h with h|h|h
              · exact absurd (UInt8.toNat_inj.1 h.symm) heq
              · exact Or.inl h
              · exact Or.inr h
            rcases hcd with ⟨a1,a2,a3⟩|⟨a1,a2,a3⟩
            · have b1:¬ ((d.toNat:Int) < (c.toNat:Int)):=by omega
              have b2:(65:Int) ≤ (c.toNat:Int):=by omega
              have b3:(c.toNat:Int) ≤ 90:=by omega
              have b4:IntKind.u8.wrap ((c.toNat:Int) + 97)=(c.toNat:Int) + 97:=by rw [IntKind.wrap_u8];omega
              have b5:IntKind.u8.wrap ((c.toNat:Int) + 97 - 65)=(d.toNat:Int):=by rw [IntKind.wrap_u8];omega
              clear hc8 heq hfold a1 a2 a3
              (repeat (first|(with_reducible first|refine zA fun K hK=>?_|refine zB ?_|refine zC ?_)|((with_reducible first|refine zD rfl fun K hK=>?_|refine zE fun K hK=>?_);go_simp)|(with_reducible first|((repeat ((fail_if_success refine hK _ _ ?_);clear hK K));refine hK _ _ ?_;clear hK K)|refine zt ?_|refine zf ?_|refine zG ?_|refine zR ?_|refine zK ?_|refine zL ?_|refine zN ?_|refine zS ?_)|simp only [Exit.then,Exit.inBlock,Exit.noGoto,↓reduceIte,Nat.reduceEqDiff]|simp only [undef,reduceCtorEq,↓reduceIte]))
              (refine K_keep [0,1,5,6] (fun f=>?_);simp only [keep_cons,keep_nil,lk_cons,lk_nil,Nat.reduceEqDiff,↓reduceIte])
              refine HK2.out _ _ ⟨N - (i + 1),by rw [HK.out];omega,HJ.out _ _ _ ⟨f,i + 1,rfl,rfl,hlt,rfl,fun j hj=>?_⟩⟩
              by_cases hji:j=i
              · subst hji;rw [← HC.out];have:=HC8.out;omega
              · exact HALL.out j (by omega)
            · exfalso
              have h9:∀ z ∈ utf8L,¬ (65 ≤ z.toNat∧z.toNat ≤ 90):=by decide
              exact h9 d HDM.out ⟨a1,a2⟩
          · have hnf:¬ (65 ≤ c.toNat∧c.toNat ≤ 90∧d.toNat=c.toNat + 32):=fun h=>hfold (decide_eq_true (Or.inr (Or.inl h)))
            have hdu:¬ (65 ≤ d.toNat∧d.toNat ≤ 90):=by
              have h9:∀ z ∈ utf8L,¬ (65 ≤ z.toNat∧z.toNat ≤ 90):=by decide
              exact h9 d HDM.out
            have hne:c.toNat ≠ d.toNat:=fun h=>heq (UInt8.toNat_inj.1 h.symm)
            have hcs:((c.toNat:Int) < (d.toNat:Int)∧¬ ((d.toNat:Int) < (c.toNat:Int))∧¬ ((65:Int) ≤ (c.toNat:Int))) ∨
                ((c.toNat:Int) < (d.toNat:Int)∧¬ ((d.toNat:Int) < (c.toNat:Int))∧(65:Int) ≤ (c.toNat:Int)∧¬ ((c.toNat:Int) ≤ 90)) ∨
                ((c.toNat:Int) < (d.toNat:Int)∧¬ ((d.toNat:Int) < (c.toNat:Int))∧(65:Int) ≤ (c.toNat:Int)∧(c.toNat:Int) ≤ 90) ∨
                ((d.toNat:Int) < (c.toNat:Int)∧¬ ((65:Int) ≤ (d.toNat:Int))) ∨ ((d.toNat:Int) < (c.toNat:Int)∧(65:Int) ≤ (d.toNat:Int)∧¬ ((d.toNat:Int) ≤ 90)):=by omega
            rcases hcs with ⟨b1,b2,b3⟩|⟨b1,b2,b3,b4⟩|⟨b1,b2,b3,b4⟩|⟨b1,b2⟩|⟨b1,b2,b3⟩
            case inr.inr.inl=>
              have b5:IntKind.u8.wrap ((c.toNat:Int) + 97)=(c.toNat:Int) + 97:=by rw [IntKind.wrap_u8];omega
              have b6:IntKind.u8.wrap ((c.toNat:Int) + 97 - 65)=(c.toNat:Int) + 32:=by rw [IntKind.wrap_u8];omega
              have b7:((d.toNat:Int) == (c.toNat:Int) + 32)=false:=by rw [beq_eq_false_iff_ne];intro h;exact hnf ⟨by omega,by omega,by omega⟩
              clear hc8 heq hfold hnf hdu hne
              (repeat (first|(with_reducible first|refine zA fun K hK=>?_|refine zB ?_|refine zC ?_)|((with_reducible first|refine zD rfl fun K hK=>?_|refine zE fun K hK=>?_);go_simp)|(with_reducible first|((repeat ((fail_if_success refine hK _ _ ?_);clear hK K));refine hK _ _ ?_;clear hK K)|refine zt ?_|refine zf ?_|refine zG ?_|refine zR ?_|refine zK ?_|refine zL ?_|refine zN ?_|refine zS ?_)|simp only [Exit.then,Exit.inBlock,Exit.noGoto,↓reduceIte,Nat.reduceEqDiff]|simp only [undef,reduceCtorEq,↓reduceIte]))
              (try simp only [Exit.jump])
              (refine fr_out1 rfl (by decide) (by simp only [lk_cons,lk_nil,Nat.reduceEqDiff,↓reduceIte];rfl) ?_)
              exact ⟨rfl,Below.refl _ _⟩
            all_goals
              clear hc8 heq hfold hnf hdu hne
              (repeat (first|(with_reducible first|refine zA fun K hK=>?_|refine zB ?_|refine zC ?_)|((with_reducible first|refine zD rfl fun K hK=>?_|refine zE fun K hK=>?_);go_simp)|(with_reducible first|((repeat ((fail_if_success refine hK _ _ ?_);clear hK K));refine hK _ _ ?_;clear hK K)|refine zt ?_|refine zf ?_|refine zG ?_|refine zR ?_|refine zK ?_|refine zL ?_|refine zN ?_|refine zS ?_)|simp only [Exit.then,Exit.inBlock,Exit.noGoto,↓reduceIte,Nat.reduceEqDiff]|simp only [undef,reduceCtorEq,↓reduceIte]))
              (try simp only [Exit.jump])
              (refine fr_out1 rfl (by decide) (by simp only [lk_cons,lk_nil,Nat.reduceEqDiff,↓reduceIte];rfl) ?_)
              exact ⟨rfl,Below.refl _ _⟩
    · have hNN:i=N:=by omega
      subst hNN
      have h1:¬ ((i:Int) < (i:Int)):=by omega
      have hlen:((s.length:Int) == 5)=false:=by
        rw [beq_eq_false_iff_ne]
        intro h5
        have h2:=HN.out
        have h3:=HALL.out j0 (by have:=HJ0.out;omega)
        have:=HHI.out
        omega
      (repeat (first|(with_reducible first|refine zA fun K hK=>?_|refine zB ?_|refine zC ?_)|((with_reducible first|refine zD rfl fun K hK=>?_|refine zE fun K hK=>?_);go_simp)|(with_reducible first|((repeat ((fail_if_success refine hK _ _ ?_);clear hK K));refine hK _ _ ?_;clear hK K)|refine zt ?_|refine zf ?_|refine zG ?_|refine zR ?_|refine zK ?_|refine zL ?_|refine zN ?_|refine zS ?_)|simp only [Exit.then,Exit.inBlock,Exit.noGoto,↓reduceIte,Nat.reduceEqDiff]|simp only [undef,reduceCtorEq,↓reduceIte]))
      (try simp only [Exit.jump])
      (refine fr_out1 rfl (by decide) (by simp only [lk_cons,lk_nil,Nat.reduceEqDiff,↓reduceIte];rfl) ?_)
      exact ⟨rfl,Below.refl _ _⟩
  · rintro k _ w6 ⟨rfl,f,i,rfl,hww,hi,hi5,hc⟩
    subst hww
    have h0:(0:Int) ≤ (i:Int):=by omega
    have h1:(i:Int) ≤ (s.length:Int):=by omega
    have h2:(i:Int) ≤ 5:=by omega
    have hsub:=ext_drop s i
    have hsub2:(⟨utf8L.toArray⟩:ByteArray).extract i 5=⟨(utf8L.drop i).toArray⟩:=ext_drop utf8L i
    obtain ⟨c,hcc⟩:∃ c,c=s.getD i 0:=⟨_,rfl⟩
    obtain ⟨d,hdd⟩:∃ d,d=utf8L.getD i 0:=⟨_,rfl⟩
    have hsd:s.drop i=c :: s.drop (i + 1):=by rw [hcc,List.drop_eq_getElem_cons hi];simp [hi]
    have hud:utf8L.drop i=d :: utf8L.drop (i + 1):=by
      rw [hdd]
      have:i=0 ∨ i=1 ∨ i=2 ∨ i=3 ∨ i=4:=by omega
      rcases this with rfl|rfl|rfl|rfl|rfl <;> rfl
    rw [← hcc] at hc
    have hdm:d ∈ utf8L:=by
      have:d ∈ utf8L.drop i:=by rw [hud];simp
      exact List.mem_of_mem_drop this
    rw [hsd] at hsub
    rw [hud] at hsub2
    obtain ⟨S,hS⟩:∃ S,S=c :: s.drop (i + 1):=⟨_,rfl⟩
    obtain ⟨U,hU⟩:∃ U,U=d :: utf8L.drop (i + 1):=⟨_,rfl⟩
    rw [← hS] at hsub
    rw [← hU] at hsub2
    have hw1:(w.iter ⟨S.toArray⟩ 0).heap[w.heap.size]?=some (.stringIter ⟨S.toArray⟩ 0):=World.iter_heap _ _ _
    have hnx:=Lib.run_next_any_at (P:=Tryz.prog) (w.iter ⟨S.toArray⟩ 0) w.heap.size ⟨S.toArray⟩ 0 0 hw1 (by rw [hS];simp [ByteArray.size])
    have hrune:128 ≤ (Utf8.decode ⟨S.toArray⟩ 0).1∧(Utf8.decode ⟨S.toArray⟩ 0).1 ≤ 1114111:=by
      have hg:((⟨S.toArray⟩:ByteArray).get! 0).toNat=c.toNat:=by rw [hS];rfl
      rw [Lib.decode_at,hg]
      unfold Lib.decodeN
      rw [if_neg (by omega)]
      repeat' split
      all_goals (simp only [];omega)
    obtain ⟨R,hR⟩:∃ R,R=(Utf8.decode ⟨S.toArray⟩ 0).1:=⟨_,rfl⟩
    rw [← hR] at hnx hrune
    have hdr:Lib.decodeGo ⟨U.toArray⟩=(d.toNat,1):=by
      have hd8:d.toNat < 128:=by
        have h9:∀ z ∈ utf8L,z.toNat < 128:=by decide
        exact h9 d hdm
      have h8:=Lib.decodeL_ascii d (utf8L.drop (i + 1)) hd8
      rw [hU]
      exact h8
    have hbe:Below w.heap.size w ((w.iter ⟨S.toArray⟩ 0).iterAt w.heap.size ⟨S.toArray⟩ (0 + (Utf8.decode ⟨S.toArray⟩ 0).2)):=by
      have h1:Below w.heap.size w (w.iter ⟨S.toArray⟩ 0):=(Below.refl _ w).alloc (Nat.le_refl _) _
      exact ⟨h1.os,h1.tape,h1.output,by simp [World.iterAt,World.iter],fun k hk=>by
        rw [← h1.block k hk]
        simp only [World.iterAt]
        first
          | (rw [Array.getElem?_setIfInBounds];rw [if_neg (by omega)])
          | (rw [Array.getElem?_modify];rw [if_neg (by omega)])⟩
    obtain ⟨w2,hw2⟩:∃ w2,w2=(w.iter ⟨S.toArray⟩ 0).iterAt w.heap.size ⟨S.toArray⟩ (0 + (Utf8.decode ⟨S.toArray⟩ 0).2):=⟨_,rfl⟩
    rw [← hw2] at hnx hbe
    have hdc:=Lib.hid (Tryz.utf8_DecodeRuneInString ⟨U.toArray⟩ w2 (Utf8Tabs_below HU.out hbe))
    rw [hdr] at hdc
    have HBE:=Lib.hid hbe
    have HDM:=Lib.hid hdm
    have hul:((U.length:Int) == 0)=false:=by rw [hU];simp;omega
    have hul1:(1:Int) ≤ (U.length:Int):=by rw [hU];simp;omega
    have hr1:(128:Int) ≤ (R:Int):=by omega
    have hr2:¬ ((R:Int) < 128):=by omega
    clear hw1 hbe hdr hw2 hR hS hU hsd hud hcc hdd hdm hrune
    unfold efCode
    conv=>arg 2;arg 2;whnf
    (repeat (first|(with_reducible first|refine zA fun K hK=>?_|refine zB ?_|refine zC ?_)|((with_reducible first|refine zD rfl fun K hK=>?_|refine zE fun K hK=>?_);go_simp)|(with_reducible first|((repeat ((fail_if_success refine hK _ _ ?_);clear hK K));refine hK _ _ ?_;clear hK K)|refine zt ?_|refine zf ?_|refine zG ?_|refine zR ?_|refine zK ?_|refine zL ?_|refine zN ?_|refine zS ?_)|simp only [Exit.then,Exit.inBlock,Exit.noGoto,↓reduceIte,Nat.reduceEqDiff]|simp only [undef,reduceCtorEq,↓reduceIte]))
    refine wp_loop_once ?_
    (repeat (first|(with_reducible first|refine zA fun K hK=>?_|refine zB ?_|refine zC ?_)|((with_reducible first|refine zD rfl fun K hK=>?_|refine zE fun K hK=>?_);go_simp)|(with_reducible first|((repeat ((fail_if_success refine hK _ _ ?_);clear hK K));refine hK _ _ ?_;clear hK K)|refine zt ?_|refine zf ?_|refine zG ?_|refine zR ?_|refine zK ?_|refine zL ?_|refine zN ?_|refine zS ?_)|simp only [Exit.then,Exit.inBlock,Exit.noGoto,↓reduceIte,Nat.reduceEqDiff]|simp only [undef,reduceCtorEq,↓reduceIte]))
    refine hdc.out.mono ?_
    rintro e3 w3 ⟨rfl,hb3⟩
    have HB3:=Lib.hid (HBE.out.trans (hb3.mono HBE.out.size))
    have HAF3:=Lib.hid ((HAF.out.below HBE.out).below hb3)
    have hdm:=HDM.out
    clear hb3 hdc
    simp only [utf8L,List.mem_cons,List.not_mem_nil,or_false] at hdm
    rcases hdm with rfl|rfl|rfl|rfl|rfl
    case inr.inr.inr.inl=>
      have r1:((45:Int) == (R:Int))=false:=by rw [beq_eq_false_iff_ne];omega
      have r2:(45:Int) < (R:Int):=by omega
      have hsf:=Lib.hid (simpleFold_asc 45 (by decide) 45 (by decide +kernel) (by decide) w3 HAF3.out)
      go_simp
      (repeat (first|(with_reducible first|refine zA fun K hK=>?_|refine zB ?_|refine zC ?_)|((with_reducible first|refine zD rfl fun K hK=>?_|refine zE fun K hK=>?_);go_simp)|(with_reducible first|((repeat ((fail_if_success refine hK _ _ ?_);clear hK K));refine hK _ _ ?_;clear hK K)|refine zt ?_|refine zf ?_|refine zG ?_|refine zR ?_|refine zK ?_|refine zL ?_|refine zN ?_|refine zS ?_)|simp only [Exit.then,Exit.inBlock,Exit.noGoto,↓reduceIte,Nat.reduceEqDiff]|simp only [undef,reduceCtorEq,↓reduceIte]))
      refine hsf.out.mono ?_
      rintro e4 w4 ⟨rfl,k4,rfl⟩
      clear hsf
      go_simp
      (repeat (first|(with_reducible first|refine zA fun K hK=>?_|refine zB ?_|refine zC ?_)|((with_reducible first|refine zD rfl fun K hK=>?_|refine zE fun K hK=>?_);go_simp)|(with_reducible first|((repeat ((fail_if_success refine hK _ _ ?_);clear hK K));refine hK _ _ ?_;clear hK K)|refine zt ?_|refine zf ?_|refine zG ?_|refine zR ?_|refine zK ?_|refine zL ?_|refine zN ?_|refine zS ?_)|simp only [Exit.then,Exit.inBlock,Exit.noGoto,↓reduceIte,Nat.reduceEqDiff]|simp only [undef,reduceCtorEq,↓reduceIte]))
      refine wp_loop_once ?_
      (repeat (first|(with_reducible first|refine zA fun K hK=>?_|refine zB ?_|refine zC ?_)|((with_reducible first|refine zD rfl fun K hK=>?_|refine zE fun K hK=>?_);go_simp)|(with_reducible first|((repeat ((fail_if_success refine hK _ _ ?_);clear hK K));refine hK _ _ ?_;clear hK K)|refine zt ?_|refine zf ?_|refine zG ?_|refine zR ?_|refine zK ?_|refine zL ?_|refine zN ?_|refine zS ?_)|simp only [Exit.then,Exit.inBlock,Exit.noGoto,↓reduceIte,Nat.reduceEqDiff]|simp only [undef,reduceCtorEq,↓reduceIte]))
      (try simp only [Exit.jump])
      (refine fr_out1 rfl (by decide) (by simp only [lk_cons,lk_nil,Nat.reduceEqDiff,↓reduceIte];rfl) ?_)
      exact ⟨rfl,Below_drewN HB3.out _⟩
    case inr.inr.inr.inr=>
      have r1:((56:Int) == (R:Int))=false:=by rw [beq_eq_false_iff_ne];omega
      have r2:(56:Int) < (R:Int):=by omega
      have hsf:=Lib.hid (simpleFold_asc 56 (by decide) 56 (by decide +kernel) (by decide) w3 HAF3.out)
      go_simp
      (repeat (first|(with_reducible first|refine zA fun K hK=>?_|refine zB ?_|refine zC ?_)|((with_reducible first|refine zD rfl fun K hK=>?_|refine zE fun K hK=>?_);go_simp)|(with_reducible first|((repeat ((fail_if_success refine hK _ _ ?_);clear hK K));refine hK _ _ ?_;clear hK K)|refine zt ?_|refine zf ?_|refine zG ?_|refine zR ?_|refine zK ?_|refine zL ?_|refine zN ?_|refine zS ?_)|simp only [Exit.then,Exit.inBlock,Exit.noGoto,↓reduceIte,Nat.reduceEqDiff]|simp only [undef,reduceCtorEq,↓reduceIte]))
      refine hsf.out.mono ?_
      rintro e4 w4 ⟨rfl,k4,rfl⟩
      clear hsf
      go_simp
      (repeat (first|(with_reducible first|refine zA fun K hK=>?_|refine zB ?_|refine zC ?_)|((with_reducible first|refine zD rfl fun K hK=>?_|refine zE fun K hK=>?_);go_simp)|(with_reducible first|((repeat ((fail_if_success refine hK _ _ ?_);clear hK K));refine hK _ _ ?_;clear hK K)|refine zt ?_|refine zf ?_|refine zG ?_|refine zR ?_|refine zK ?_|refine zL ?_|refine zN ?_|refine zS ?_)|simp only [Exit.then,Exit.inBlock,Exit.noGoto,↓reduceIte,Nat.reduceEqDiff]|simp only [undef,reduceCtorEq,↓reduceIte]))
      refine wp_loop_once ?_
      (repeat (first|(with_reducible first|refine zA fun K hK=>?_|refine zB ?_|refine zC ?_)|((with_reducible first|refine zD rfl fun K hK=>?_|refine zE fun K hK=>?_);go_simp)|(with_reducible first|((repeat ((fail_if_success refine hK _ _ ?_);clear hK K));refine hK _ _ ?_;clear hK K)|refine zt ?_|refine zf ?_|refine zG ?_|refine zR ?_|refine zK ?_|refine zL ?_|refine zN ?_|refine zS ?_)|simp only [Exit.then,Exit.inBlock,Exit.noGoto,↓reduceIte,Nat.reduceEqDiff]|simp only [undef,reduceCtorEq,↓reduceIte]))
      (try simp only [Exit.jump])
      (refine fr_out1 rfl (by decide) (by simp only [lk_cons,lk_nil,Nat.reduceEqDiff,↓reduceIte];rfl) ?_)
      exact ⟨rfl,Below_drewN HB3.out _⟩
    case inl=>
      have r1:((117:Int) == (R:Int))=false:=by rw [beq_eq_false_iff_ne];omega
      have r2:(117:Int) < (R:Int):=by omega
      have r3:(85:Int) < (R:Int):=by omega
      have hsf:=Lib.hid (simpleFold_asc 117 (by decide) 85 (by decide +kernel) (by decide) w3 HAF3.out)
      go_simp
      (repeat (first|(with_reducible first|refine zA fun K hK=>?_|refine zB ?_|refine zC ?_)|((with_reducible first|refine zD rfl fun K hK=>?_|refine zE fun K hK=>?_);go_simp)|(with_reducible first|((repeat ((fail_if_success refine hK _ _ ?_);clear hK K));refine hK _ _ ?_;clear hK K)|refine zt ?_|refine zf ?_|refine zG ?_|refine zR ?_|refine zK ?_|refine zL ?_|refine zN ?_|refine zS ?_)|simp only [Exit.then,Exit.inBlock,Exit.noGoto,↓reduceIte,Nat.reduceEqDiff]|simp only [undef,reduceCtorEq,↓reduceIte]))
      refine hsf.out.mono ?_
      rintro e4 w4 ⟨rfl,k4,rfl⟩
      have hsf:=Lib.hid (simpleFold_asc 85 (by decide) 117 (by decide +kernel) (by decide) (w3.drewN k4) (HAF3.out.drewN k4))
      go_simp
      (repeat (first|(with_reducible first|refine zA fun K hK=>?_|refine zB ?_|refine zC ?_)|((with_reducible first|refine zD rfl fun K hK=>?_|refine zE fun K hK=>?_);go_simp)|(with_reducible first|((repeat ((fail_if_success refine hK _ _ ?_);clear hK K));refine hK _ _ ?_;clear hK K)|refine zt ?_|refine zf ?_|refine zG ?_|refine zR ?_|refine zK ?_|refine zL ?_|refine zN ?_|refine zS ?_)|simp only [Exit.then,Exit.inBlock,Exit.noGoto,↓reduceIte,Nat.reduceEqDiff]|simp only [undef,reduceCtorEq,↓reduceIte]))
      refine wp_loop_rounds 2 ?_
      rw [rounds_succ]
      (repeat (first|(with_reducible first|refine zA fun K hK=>?_|refine zB ?_|refine zC ?_)|((with_reducible first|refine zD rfl fun K hK=>?_|refine zE fun K hK=>?_);go_simp)|(with_reducible first|((repeat ((fail_if_success refine hK _ _ ?_);clear hK K));refine hK _ _ ?_;clear hK K)|refine zt ?_|refine zf ?_|refine zG ?_|refine zR ?_|refine zK ?_|refine zL ?_|refine zN ?_|refine zS ?_)|simp only [Exit.then,Exit.inBlock,Exit.noGoto,↓reduceIte,Nat.reduceEqDiff]|simp only [undef,reduceCtorEq,↓reduceIte]))
      refine hsf.out.mono ?_
      rintro e5 w5 ⟨rfl,k5,rfl⟩
      go_simp
      (repeat (first|(with_reducible first|refine zA fun K hK=>?_|refine zB ?_|refine zC ?_)|((with_reducible first|refine zD rfl fun K hK=>?_|refine zE fun K hK=>?_);go_simp)|(with_reducible first|((repeat ((fail_if_success refine hK _ _ ?_);clear hK K));refine hK _ _ ?_;clear hK K)|refine zt ?_|refine zf ?_|refine zG ?_|refine zR ?_|refine zK ?_|refine zL ?_|refine zN ?_|refine zS ?_)|simp only [Exit.then,Exit.inBlock,Exit.noGoto,↓reduceIte,Nat.reduceEqDiff]|simp only [undef,reduceCtorEq,↓reduceIte]))
      rw [rounds_succ]
      (repeat (first|(with_reducible first|refine zA fun K hK=>?_|refine zB ?_|refine zC ?_)|((with_reducible first|refine zD rfl fun K hK=>?_|refine zE fun K hK=>?_);go_simp)|(with_reducible first|((repeat ((fail_if_success refine hK _ _ ?_);clear hK K));refine hK _ _ ?_;clear hK K)|refine zt ?_|refine zf ?_|refine zG ?_|refine zR ?_|refine zK ?_|refine zL ?_|refine zN ?_|refine zS ?_)|simp only [Exit.then,Exit.inBlock,Exit.noGoto,↓reduceIte,Nat.reduceEqDiff]|simp only [undef,reduceCtorEq,↓reduceIte]))
      (try simp only [Exit.jump])
      (refine fr_out1 rfl (by decide) (by simp only [lk_cons,lk_nil,Nat.reduceEqDiff,↓reduceIte];rfl) ?_)
      exact ⟨rfl,Below_drewN HB3.out _⟩
    case inr.inl=>
      have r1:((116:Int) == (R:Int))=false:=by rw [beq_eq_false_iff_ne];omega
      have r2:(116:Int) < (R:Int):=by omega
      have r3:(84:Int) < (R:Int):=by omega
      have hsf:=Lib.hid (simpleFold_asc 116 (by decide) 84 (by decide +kernel) (by decide) w3 HAF3.out)
      go_simp
      (repeat (first|(with_reducible first|refine zA fun K hK=>?_|refine zB ?_|refine zC ?_)|((with_reducible first|refine zD rfl fun K hK=>?_|refine zE fun K hK=>?_);go_simp)|(with_reducible first|((repeat ((fail_if_success refine hK _ _ ?_);clear hK K));refine hK _ _ ?_;clear hK K)|refine zt ?_|refine zf ?_|refine zG ?_|refine zR ?_|refine zK ?_|refine zL ?_|refine zN ?_|refine zS ?_)|simp only [Exit.then,Exit.inBlock,Exit.noGoto,↓reduceIte,Nat.reduceEqDiff]|simp only [undef,reduceCtorEq,↓reduceIte]))
      refine hsf.out.mono ?_
      rintro e4 w4 ⟨rfl,k4,rfl⟩
      have hsf:=Lib.hid (simpleFold_asc 84 (by decide) 116 (by decide +kernel) (by decide) (w3.drewN k4) (HAF3.out.drewN k4))
      go_simp
      (repeat (first|(with_reducible first|refine zA fun K hK=>?_|refine zB ?_|refine zC ?_)|((with_reducible first|refine zD rfl fun K hK=>?_|refine zE fun K hK=>?_);go_simp)|(with_reducible first|((repeat ((fail_if_success refine hK _ _ ?_);clear hK K));refine hK _ _ ?_;clear hK K)|refine zt ?_|refine zf ?_|refine zG ?_|refine zR ?_|refine zK ?_|refine zL ?_|refine zN ?_|refine zS ?_)|simp only [Exit.then,Exit.inBlock,Exit.noGoto,↓reduceIte,Nat.reduceEqDiff]|simp only [undef,reduceCtorEq,↓reduceIte]))
      refine wp_loop_rounds 2 ?_
      rw [rounds_succ]
      (repeat (first|(with_reducible first|refine zA fun K hK=>?_|refine zB ?_|refine zC ?_)|((with_reducible first|refine zD rfl fun K hK=>?_|refine zE fun K hK=>?_);go_simp)|(with_reducible first|((repeat ((fail_if_success refine hK _ _ ?_);clear hK K));refine hK _ _ ?_;clear hK K)|refine zt ?_|refine zf ?_|refine zG ?_|refine zR ?_|refine zK ?_|refine zL ?_|refine zN ?_|refine zS ?_)|simp only [Exit.then,Exit.inBlock,Exit.noGoto,↓reduceIte,Nat.reduceEqDiff]|simp only [undef,reduceCtorEq,↓reduceIte]))
      refine hsf.out.mono ?_
      rintro e5 w5 ⟨rfl,k5,rfl⟩
      go_simp
      (repeat (first|(with_reducible first|refine zA fun K hK=>?_|refine zB ?_|refine zC ?_)|((with_reducible first|refine zD rfl fun K hK=>?_|refine zE fun K hK=>?_);go_simp)|(with_reducible first|((repeat ((fail_if_success refine hK _ _ ?_);clear hK K));refine hK _ _ ?_;clear hK K)|refine zt ?_|refine zf ?_|refine zG ?_|refine zR ?_|refine zK ?_|refine zL ?_|refine zN ?_|refine zS ?_)|simp only [Exit.then,Exit.inBlock,Exit.noGoto,↓reduceIte,Nat.reduceEqDiff]|simp only [undef,reduceCtorEq,↓reduceIte]))
      rw [rounds_succ]
      (repeat (first|(with_reducible first|refine zA fun K hK=>?_|refine zB ?_|refine zC ?_)|((with_reducible first|refine zD rfl fun K hK=>?_|refine zE fun K hK=>?_);go_simp)|(with_reducible first|((repeat ((fail_if_success refine hK _ _ ?_);clear hK K));refine hK _ _ ?_;clear hK K)|refine zt ?_|refine zf ?_|refine zG ?_|refine zR ?_|refine zK ?_|refine zL ?_|refine zN ?_|refine zS ?_)|simp only [Exit.then,Exit.inBlock,Exit.noGoto,↓reduceIte,Nat.reduceEqDiff]|simp only [undef,reduceCtorEq,↓reduceIte]))
      (try simp only [Exit.jump])
      (refine fr_out1 rfl (by decide) (by simp only [lk_cons,lk_nil,Nat.reduceEqDiff,↓reduceIte];rfl) ?_)
      exact ⟨rfl,Below_drewN HB3.out _⟩
    case inr.inr.inl=>
      have r1:((102:Int) == (R:Int))=false:=by rw [beq_eq_false_iff_ne];omega
      have r2:(102:Int) < (R:Int):=by omega
      have r3:(70:Int) < (R:Int):=by omega
      have hsf:=Lib.hid (simpleFold_asc 102 (by decide) 70 (by decide +kernel) (by decide) w3 HAF3.out)
      go_simp
      (repeat (first|(with_reducible first|refine zA fun K hK=>?_|refine zB ?_|refine zC ?_)|((with_reducible first|refine zD rfl fun K hK=>?_|refine zE fun K hK=>?_);go_simp)|(with_reducible first|((repeat ((fail_if_success refine hK _ _ ?_);clear hK K));refine hK _ _ ?_;clear hK K)|refine zt ?_|refine zf ?_|refine zG ?_|refine zR ?_|refine zK ?_|refine zL ?_|refine zN ?_|refine zS ?_)|simp only [Exit.then,Exit.inBlock,Exit.noGoto,↓reduceIte,Nat.reduceEqDiff]|simp only [undef,reduceCtorEq,↓reduceIte]))
      refine hsf.out.mono ?_
      rintro e4 w4 ⟨rfl,k4,rfl⟩
      have hsf:=Lib.hid (simpleFold_asc 70 (by decide) 102 (by decide +kernel) (by decide) (w3.drewN k4) (HAF3.out.drewN k4))
      go_simp
      (repeat (first|(with_reducible first|refine zA fun K hK=>?_|refine zB ?_|refine zC ?_)|((with_reducible first|refine zD rfl fun K hK=>?_|refine zE fun K hK=>?_);go_simp)|(with_reducible first|((repeat ((fail_if_success refine hK _ _ ?_);clear hK K));refine hK _ _ ?_;clear hK K)|refine zt ?_|refine zf ?_|refine zG ?_|refine zR ?_|refine zK ?_|refine zL ?_|refine zN ?_|refine zS ?_)|simp only [Exit.then,Exit.inBlock,Exit.noGoto,↓reduceIte,Nat.reduceEqDiff]|simp only [undef,reduceCtorEq,↓reduceIte]))
      refine wp_loop_rounds 2 ?_
      rw [rounds_succ]
      (repeat (first|(with_reducible first|refine zA fun K hK=>?_|refine zB ?_|refine zC ?_)|((with_reducible first|refine zD rfl fun K hK=>?_|refine zE fun K hK=>?_);go_simp)|(with_reducible first|((repeat ((fail_if_success refine hK _ _ ?_);clear hK K));refine hK _ _ ?_;clear hK K)|refine zt ?_|refine zf ?_|refine zG ?_|refine zR ?_|refine zK ?_|refine zL ?_|refine zN ?_|refine zS ?_)|simp only [Exit.then,Exit.inBlock,Exit.noGoto,↓reduceIte,Nat.reduceEqDiff]|simp only [undef,reduceCtorEq,↓reduceIte]))
      refine hsf.out.mono ?_
      rintro e5 w5 ⟨rfl,k5,rfl⟩
      go_simp
      (repeat (first|(with_reducible first|refine zA fun K hK=>?_|refine zB ?_|refine zC ?_)|((with_reducible first|refine zD rfl fun K hK=>?_|refine zE fun K hK=>?_);go_simp)|(with_reducible first|((repeat ((fail_if_success refine hK _ _ ?_);clear hK K));refine hK _ _ ?_;clear hK K)|refine zt ?_|refine zf ?_|refine zG ?_|refine zR ?_|refine zK ?_|refine zL ?_|refine zN ?_|refine zS ?_)|simp only [Exit.then,Exit.inBlock,Exit.noGoto,↓reduceIte,Nat.reduceEqDiff]|simp only [undef,reduceCtorEq,↓reduceIte]))
      rw [rounds_succ]
      (repeat (first|(with_reducible first|refine zA fun K hK=>?_|refine zB ?_|refine zC ?_)|((with_reducible first|refine zD rfl fun K hK=>?_|refine zE fun K hK=>?_);go_simp)|(with_reducible first|((repeat ((fail_if_success refine hK _ _ ?_);clear hK K));refine hK _ _ ?_;clear hK K)|refine zt ?_|refine zf ?_|refine zG ?_|refine zR ?_|refine zK ?_|refine zL ?_|refine zN ?_|refine zS ?_)|simp only [Exit.then,Exit.inBlock,Exit.noGoto,↓reduceIte,Nat.reduceEqDiff]|simp only [undef,reduceCtorEq,↓reduceIte]))
      (try simp only [Exit.jump])
      (refine fr_out1 rfl (by decide) (by simp only [lk_cons,lk_nil,Nat.reduceEqDiff,↓reduceIte];rfl) ?_)
      exact ⟨rfl,Below_drewN HB3.out _⟩
theorem isUtf8_hi (s:Bs) (j:Nat) (hj:j < s.length) (h:128 ≤ (s.getD j 0).toNat):isUtf8 s=false:=by
  unfold isUtf8
  rw [beq_eq_false_iff_ne]
  intro he
  have h1:=congrArg (fun l=>l[j]?) he
  simp only [List.getElem?_map,List.getElem?_eq_getElem hj,Option.map_some] at h1
  have h2:s[j]=s.getD j 0:=by simp [hj]
  have hm:ascLow s[j] ∈ utf8L:=by
    have:=List.mem_of_getElem? h1.symm
    exact this
  have h3:ascLow s[j]=s[j]:=by
    unfold ascLow
    rw [if_neg]
    simp only [Bool.and_eq_true,decide_eq_true_eq,UInt8.le_iff_toNat_le]
    rintro ⟨_,h5⟩
    have:(90:UInt8).toNat=90:=rfl
    rw [h2] at h5
    omega
  rw [h3,h2] at hm
  have h9:∀ z ∈ utf8L,z.toNat < 128:=by decide
  have:=h9 _ hm
  omega
theorem equalFold_utf8 (s:Bs) (hs:s.length ≤ 1000000000) (w:World) (haf:AfTab w) (hu:Lib.Utf8Tabs 6 7 w) :
    Calls Tryz.prog 47 #[strV s,strV utf8L] w fun e w'=>e=.returned (.bool (isUtf8 s))∧Below w.heap.size w w':=by
  by_cases h:∃ j,j < s.length∧128 ≤ (s.getD j 0).toNat
  · obtain ⟨j,hj,hh⟩:=h
    rw [isUtf8_hi s j hj hh]
    exact equalFold_hi s hs j hj hh w haf hu
  · have h1:=Tryz.strings_EqualFold ⟨s.toArray⟩ ⟨utf8L.toArray⟩ w (by simp [ByteArray.size];omega) (fun j b hb=>by
      rcases Nat.lt_or_ge b.toNat 128 with h2|h2
      · exact h2
      · obtain ⟨hj,he⟩:=List.getElem?_eq_some_iff.1 hb
        exact absurd ⟨j,hj,by rw [List.getD_eq_getElem?_getD,hb];exact h2⟩ h) (fun j b hb=>by
      have hm:b ∈ utf8L:=List.mem_of_getElem? hb
      have h9:∀ z ∈ utf8L,z.toNat < 128:=by decide
      exact h9 b hm)
    refine h1.mono ?_
    rintro e w' ⟨rfl,rfl⟩
    refine ⟨?_,Below.refl _ _⟩
    have:=equalFold_map s utf8L (fun _ h=>h)
    show Ending.returned (.bool (Lib.equalFold s utf8L))=_
    rw [this];rfl
end Go.Proofs.YtkjnockljapnbaaGreatDoor
