/- Part of the proof that laws.FnBalanced returns true for every argument (Hb, Hc). No condition of its own. -/
import Derived.Test.YtkjnockljapnbaaGreatDoorO38
import Derived.Test.YtkjnockljapnbaaGreatDoorO24
set_option linter.all false
set_option maxHeartbeats 8000000
set_option maxRecDepth 100000
namespace Go.Proofs.YtkjnockljapnbaaGreatDoor
open Go Go.RowKit
theorem asc_tab:∀ n,n < 128 → afL.getD n 0=((ascF n:Nat):Int):=by decide +kernel
theorem asc_small:∀ n,n < 128 → ascF n ≤ 10000:=by decide +kernel
theorem ptrCrNe (a:Addr) (w:World):(binOp .neq 210 (.pointer (some a)) (.pointer none)).run Tryz.prog w=.ok (.bool true) w:=by kernel_rfl
structure OrbTab (w:World):Prop where
  ex:∃ R oR cap,w.cell? ⟨4,0,none⟩=some (.slice (some ⟨R,oR,none⟩) 94 cap)∧R < w.heap.size ∧
    ∀ i a,orbL[i]?=some a → w.cell? ⟨R,oR + i * 2,none⟩=some (.int .u16 a.1)∧w.cell? ⟨R,oR + i * 2 + 1,none⟩=some (.int .u16 a.2)
  lt:4 < w.heap.size
theorem OrbTab.below {w w':World} (h:OrbTab w) (hb:Below w.heap.size w w'):OrbTab w':=by
  obtain ⟨R,oR,cap,h1,h2,h3⟩:=h.ex
  refine ⟨⟨R,oR,cap,by rw [hb.cell (p:=⟨_,0,none⟩) h.lt];exact h1,Nat.lt_of_lt_of_le h2 hb.size,fun i a ha=>?_⟩,Nat.lt_of_lt_of_le h.lt hb.size⟩
  rw [hb.cell (p:=⟨R,oR + i * 2,none⟩) h2,hb.cell (p:=⟨R,oR + i * 2 + 1,none⟩) h2]
  exact h3 i a ha
theorem OrbTab.drewN {w:World} (h:OrbTab w) (k:Nat):OrbTab (w.drewN k):=⟨h.ex,h.lt⟩
noncomputable def sfCode (n:Nat):Code:=((Tryz.f74.body).bind (Code.partAt n)).getD .skip
theorem sfTail (r:Nat) (hr:r ≤ 1114111) (w:World) (R2 oR2 cap2:Nat) (hg2:w.cell? ⟨5,0,none⟩=some (.slice (some ⟨R2,oR2,none⟩) Lib.caseA.size cap2)) (htab:Lib.CaseTab R2 oR2 Lib.caseA w) (h128:128 ≤ r) (hno:orbOf r=none)
    (Q:Exit → Act → World → Prop) (hQ:∀ f k,Q .ret (fr 80 f [(2,.int .i32 (sfoldN r:Nat))]) (w.drewN k)) (f:Nat → Value) :
    (sfCode 14).wp Tryz.prog Q (fr 80 f [(0,.int .i32 r)]) w:=by
  have hs128:sfoldN r=match orbOf r with|some p=>p.2|none=>(match rowOf r with|some x=>sfoldX r x|none=>r):=by
    unfold sfoldN
    rw [show Nat.ble 128 r=true from Nat.ble_eq_true_of_le h128]
    rfl
  rw [hno] at hs128
  have HSF:=Lib.hid hs128
  have hlk:=Lib.hid (Tryz.unicode_lookupCaseRange Lib.caseA R2 oR2 cap2 (r:Int) w htab Lib.caseA_ok2.ok (by rw [Lib.caseA_size];decide))
  have HTAB:=Lib.hid htab
  have HQ:=Lib.hid hQ
  have hrow:=lookup_row r
  clear hs128 hQ htab h128 hr hno
  conv=>arg 2;unfold sfCode;whnf
  (repeat (first|(with_reducible first|refine zA fun K hK=>?_|refine zB ?_|refine zC ?_)|((with_reducible first|refine zD rfl fun K hK=>?_|refine zE fun K hK=>?_);go_simp)|(with_reducible first|((repeat ((fail_if_success refine hK _ _ ?_);clear hK K));refine hK _ _ ?_;clear hK K)|refine zt ?_|refine zf ?_|refine zG ?_|refine zR ?_|refine zK ?_|refine zL ?_|refine zN ?_|refine zS ?_)|simp only [Exit.then,Exit.inBlock,Exit.noGoto,↓reduceIte,Nat.reduceEqDiff]|simp only [undef,reduceCtorEq,↓reduceIte]))
  refine hlk.out.mono ?_
  rintro e1 w1 ⟨rfl,hw1⟩
  subst hw1
  cases hx:Lib.lookupIdx Lib.caseA (r:Int) (Lib.caseA.size + 1) 0 Lib.caseA.size with
  | none=>
    rw [hx] at hrow
    have hrow':rowOf r=none:=hrow
    have HR0:=Lib.hid (show sfoldN r=r by rw [HSF.out,hrow'])
    clear hrow hrow' hx hlk
    go_simp
    (repeat (first|(with_reducible first|refine zA fun K hK=>?_|refine zB ?_|refine zC ?_)|((with_reducible first|refine zD rfl fun K hK=>?_|refine zE fun K hK=>?_);go_simp)|(with_reducible first|((repeat ((fail_if_success refine hK _ _ ?_);clear hK K));refine hK _ _ ?_;clear hK K)|refine zt ?_|refine zf ?_|refine zG ?_|refine zR ?_|refine zK ?_|refine zL ?_|refine zN ?_|refine zS ?_)|simp only [Exit.then,Exit.inBlock,Exit.noGoto,↓reduceIte,Nat.reduceEqDiff]|simp only [undef,reduceCtorEq,↓reduceIte]))
    refine Q_keep [2] (fun f=>?_);simp only [keep_cons,keep_nil,lk_cons,lk_nil,Nat.reduceEqDiff,↓reduceIte]
    have h9:=HQ.out f 0
    rw [HR0.out] at h9
    exact h9
  | some i=>
    rw [hx] at hrow
    obtain ⟨hi3,hro,hl1,hl2⟩:=hrow
    obtain ⟨x,hxx⟩:∃ x,x=Lib.caseA.getD i (0,0,0,0,0):=⟨_,rfl⟩
    have hfit:=Lib.caseA_row i (by rw [Lib.caseA_size];exact hi3)
    obtain ⟨d0,d1,d2,d3,d4⟩:=HTAB.out i (by rw [Lib.caseA_size];exact hi3)
    have hdel:=HTAB.out.delta i (by rw [Lib.caseA_size];exact hi3)
    rw [← hxx] at hro hl1 hl2 hfit d0 hdel
    have hH:=(Lib.caseA_ok2 i (by rw [Lib.caseA_size];exact hi3)).2
    rw [← hxx] at hH
    have e1:=conv_fits x hfit 1 (by omega) r hl1 hl2
    have e0:=conv_fits x hfit 0 (by omega) r hl1 hl2
    have hv1:=fun (w':World) (hw:∃ k,w'=w1.drewN k)=>Tryz.unicode_convertCase 1 (by omega) (r:Int) R2 (oR2 + i * 5) x w' (by omega) (by omega) hH (by obtain ⟨k,rfl⟩:=hw;exact d0) (by obtain ⟨k,rfl⟩:=hw;exact hdel 1 (by omega))
    have hv0:=fun (w':World) (hw:∃ k,w'=w1.drewN k)=>Tryz.unicode_convertCase 0 (by omega) (r:Int) R2 (oR2 + i * 5) x w' (by omega) (by omega) hH (by obtain ⟨k,rfl⟩:=hw;exact d0) (by obtain ⟨k,rfl⟩:=hw;exact hdel 0 (by omega))
    simp only [e1] at hv1
    simp only [e0] at hv0
    have HV1:=Lib.hid hv1
    have HV0:=Lib.hid hv0
    have HRX:=Lib.hid (show sfoldN r=sfoldX r x by rw [HSF.out,hro])
    clear hro hl1 hl2 hfit d0 d1 d2 d3 d4 hdel hH e1 e0 hx hlk hxx hv1 hv0
    have q1:=fun w=>ptrCrNe ⟨R2,oR2 + i * 5,none⟩ w
    go_simp
    (repeat (first|(with_reducible first|refine zA fun K hK=>?_|refine zB ?_|refine zC ?_)|((with_reducible first|refine zD rfl fun K hK=>?_|refine zE fun K hK=>?_);go_simp)|(with_reducible first|((repeat ((fail_if_success refine hK _ _ ?_);clear hK K));refine hK _ _ ?_;clear hK K)|refine zt ?_|refine zf ?_|refine zG ?_|refine zR ?_|refine zK ?_|refine zL ?_|refine zN ?_|refine zS ?_)|simp only [Exit.then,Exit.inBlock,Exit.noGoto,↓reduceIte,Nat.reduceEqDiff]|simp only [undef,reduceCtorEq,↓reduceIte]))
    refine (HV1.out w1 ⟨0,rfl⟩).mono ?_
    rintro e2 w2 ⟨rfl,k2,rfl⟩
    by_cases hb:convN 1 r x=r
    · have hbb:((convN 1 r x:Int) != (r:Int))=false:=by rw [hb];simp
      have HR0:=Lib.hid (show sfoldN r=convN 0 r x by rw [HRX.out];unfold sfoldX;rw [hb,show Nat.beq r r=true by simp];rfl)
      clear hb
      go_simp
      (repeat (first|(with_reducible first|refine zA fun K hK=>?_|refine zB ?_|refine zC ?_)|((with_reducible first|refine zD rfl fun K hK=>?_|refine zE fun K hK=>?_);go_simp)|(with_reducible first|((repeat ((fail_if_success refine hK _ _ ?_);clear hK K));refine hK _ _ ?_;clear hK K)|refine zt ?_|refine zf ?_|refine zG ?_|refine zR ?_|refine zK ?_|refine zL ?_|refine zN ?_|refine zS ?_)|simp only [Exit.then,Exit.inBlock,Exit.noGoto,↓reduceIte,Nat.reduceEqDiff]|simp only [undef,reduceCtorEq,↓reduceIte]))
      refine (HV0.out _ ⟨k2,rfl⟩).mono ?_
      rintro e3 w3 ⟨rfl,k3,rfl⟩
      go_simp
      (repeat (first|(with_reducible first|refine zA fun K hK=>?_|refine zB ?_|refine zC ?_)|((with_reducible first|refine zD rfl fun K hK=>?_|refine zE fun K hK=>?_);go_simp)|(with_reducible first|((repeat ((fail_if_success refine hK _ _ ?_);clear hK K));refine hK _ _ ?_;clear hK K)|refine zt ?_|refine zf ?_|refine zG ?_|refine zR ?_|refine zK ?_|refine zL ?_|refine zN ?_|refine zS ?_)|simp only [Exit.then,Exit.inBlock,Exit.noGoto,↓reduceIte,Nat.reduceEqDiff]|simp only [undef,reduceCtorEq,↓reduceIte]))
      refine Q_keep [2] (fun f=>?_);simp only [keep_cons,keep_nil,lk_cons,lk_nil,Nat.reduceEqDiff,↓reduceIte]
      have h9:=HQ.out f (k2 + k3)
      rw [HR0.out] at h9
      exact h9
    · have hbb:((convN 1 r x:Int) != (r:Int))=true:=by simp;omega
      have HR0:=Lib.hid (show sfoldN r=convN 1 r x by
        rw [HRX.out];unfold sfoldX
        rw [show Nat.beq (convN 1 r x) r=false by cases hh:Nat.beq (convN 1 r x) r with|false=>rfl|true=>exact absurd (Nat.eq_of_beq_eq_true hh) hb]
        rfl)
      clear hb
      go_simp
      (repeat (first|(with_reducible first|refine zA fun K hK=>?_|refine zB ?_|refine zC ?_)|((with_reducible first|refine zD rfl fun K hK=>?_|refine zE fun K hK=>?_);go_simp)|(with_reducible first|((repeat ((fail_if_success refine hK _ _ ?_);clear hK K));refine hK _ _ ?_;clear hK K)|refine zt ?_|refine zf ?_|refine zG ?_|refine zR ?_|refine zK ?_|refine zL ?_|refine zN ?_|refine zS ?_)|simp only [Exit.then,Exit.inBlock,Exit.noGoto,↓reduceIte,Nat.reduceEqDiff]|simp only [undef,reduceCtorEq,↓reduceIte]))
      refine Q_keep [2] (fun f=>?_);simp only [keep_cons,keep_nil,lk_cons,lk_nil,Nat.reduceEqDiff,↓reduceIte]
      have h9:=HQ.out f k2
      rw [HR0.out] at h9
      exact h9
def SfInv (r:Nat) (w0:World) (k:Nat) (a:Act) (w:World):Prop:=
  ∃ f lo hi,a=fr 80 f [(0,.int .i32 r),(3,.int .i64 (lo:Nat)),(4,.int .i64 (hi:Nat))]∧w=w0∧k=hi - lo∧lo ≤ hi∧hi ≤ 94 ∧
    (∀ (i:Nat) (a:Nat × Nat),i < lo → orbL[i]?=some a → a.1 < r)∧(∀ (i:Nat) (a:Nat × Nat),hi ≤ i → orbL[i]?=some a → r ≤ a.1)
theorem simpleFold_c (r:Nat) (hr:r ≤ 1114111) (w:World) (haf:AfTab w) (hob:OrbTab w) (hcv:Lib.CaseVar 5 Lib.caseA w) :
    Calls Tryz.prog 74 #[.int .i32 r] w fun e w'=>e=.returned (.int .i32 (sfoldN r:Nat))∧∃ k,w'=w.drewN k:=by
  by_cases h128:r < 128
  · have h1:sfoldN r=ascF r:=by
      unfold sfoldN
      rw [show Nat.ble 128 r=false by cases hh:Nat.ble 128 r with|false=>rfl|true=>exact absurd (Nat.le_of_ble_eq_true hh) (by omega)]
      rfl
    rw [h1]
    exact simpleFold_asc r h128 (ascF r) (asc_tab r h128) (asc_small r h128) w haf
  obtain ⟨R,oR,cap,hg,_,hrows⟩:=hob.ex
  obtain ⟨R2,oR2,cap2,hg2,htab⟩:=hcv
  have h1:¬ ((r:Int) < 128):=by omega
  have h2:¬ ((r:Int) < 0):=by omega
  have h3:¬ ((1114111:Int) < (r:Int)):=by omega
  have h4:IntKind.i64.wrap (r:Int)=(r:Int):=by rw [IntKind.wrap_i64];omega
  have HROWS:=Lib.hid hrows
  have HTAB:=Lib.hid htab
  have HR:=Lib.hid hr
  have H128:=Lib.hid h128
  clear hrows htab haf hob hr h128
  refine calls_fr (vs:=[_]) 80 Tryz.func74 rfl rfl (Nat.le_of_ble_eq_true rfl) fun f=>?_
  simp only [argSlots]
  (repeat (first|(with_reducible first|refine zA fun K hK=>?_|refine zB ?_|refine zC ?_)|((with_reducible first|refine zD rfl fun K hK=>?_|refine zE fun K hK=>?_);go_simp)|(with_reducible first|((repeat ((fail_if_success refine hK _ _ ?_);clear hK K));refine hK _ _ ?_;clear hK K)|refine zt ?_|refine zf ?_|refine zG ?_|refine zR ?_|refine zK ?_|refine zL ?_|refine zN ?_|refine zS ?_)|simp only [Exit.then,Exit.inBlock,Exit.noGoto,↓reduceIte,Nat.reduceEqDiff]|simp only [undef,reduceCtorEq,↓reduceIte]))
  (refine wp_keep [0,3,4] (fun f=>?_);simp only [keep_cons,keep_nil,lk_cons,lk_nil,Nat.reduceEqDiff,↓reduceIte])
  refine wp_loop_ghost_k (SfInv r w) 94 ⟨f,0,94,rfl,rfl,rfl,by omega,Nat.le_refl _,fun i a h=>by omega,fun i a h ha=>?_⟩ ?_
  · have:=(List.getElem?_eq_some_iff.1 ha).1
    rw [orbL_len] at this;omega
  rintro k _ w ⟨f,lo,hi,rfl,hww,hk,hlh,hh,hlow,hhigh⟩ J K2 hJ hK2
  subst hww
  have HJ:=Lib.hid hJ
  have HK2:=Lib.hid hK2
  have HK:=Lib.hid hk
  have HLOW:=Lib.hid hlow
  have HHIGH:=Lib.hid hhigh
  clear hJ hK2 hk hlow hhigh
  by_cases hlt:lo < hi
  · have t1:(lo:Int) < (hi:Int):=by omega
    obtain ⟨m,hm⟩:∃ m,m=(lo + hi) / 2:=⟨_,rfl⟩
    have hmr:lo ≤ m∧m < hi:=by omega
    have hmz:((lo:Int) + (hi:Int)) / 2=(m:Int):=by omega
    obtain ⟨a,ha⟩:=orbL_at (show m < 94 by omega)
    obtain ⟨c0,c1⟩:=HROWS.out m a ha
    obtain ⟨a1,a2⟩:=orb_le ha
    have t2:(0:Int) ≤ (m:Int):=by omega
    have t3:(m:Int) < 94:=by omega
    have w1:IntKind.i64.wrap ((lo:Int) + (hi:Int))=((lo:Int) + (hi:Int)):=by rw [IntKind.wrap_i64];omega
    have w2:IntKind.u64.wrap ((lo:Int) + (hi:Int))=((lo:Int) + (hi:Int)):=by rw [IntKind.wrap_u64];omega
    have w3:IntKind.i64.wrap (m:Int)=(m:Int):=by rw [IntKind.wrap_i64];omega
    have w4:IntKind.i32.wrap (a.1:Int)=(a.1:Int):=by rw [IntKind.wrap_i32];omega
    have w5:IntKind.i64.wrap ((m:Int) + 1)=((m + 1:Nat):Int):=by rw [IntKind.wrap_i64];omega
    have HHA:=Lib.hid ha
    have HMR:=Lib.hid hmr
    clear hm ha hmr
    by_cases hb:a.1 < r
    · have t4:(a.1:Int) < (r:Int):=by omega
      (repeat (first|(with_reducible first|refine zA fun K hK=>?_|refine zB ?_|refine zC ?_)|((with_reducible first|refine zD rfl fun K hK=>?_|refine zE fun K hK=>?_);go_simp)|(with_reducible first|((repeat ((fail_if_success refine hK _ _ ?_);clear hK K));refine hK _ _ ?_;clear hK K)|refine zt ?_|refine zf ?_|refine zG ?_|refine zR ?_|refine zK ?_|refine zL ?_|refine zN ?_|refine zS ?_)|simp only [Exit.then,Exit.inBlock,Exit.noGoto,↓reduceIte,Nat.reduceEqDiff]|simp only [undef,reduceCtorEq,↓reduceIte]))
      (refine K_keep [0,3,4] (fun f=>?_);simp only [keep_cons,keep_nil,lk_cons,lk_nil,Nat.reduceEqDiff,↓reduceIte])
      refine HK2.out _ _ ⟨hi - (m + 1),by rw [HK.out];have:=HMR.out;omega,HJ.out _ _ _ ⟨f,m + 1,hi,rfl,rfl,rfl,by have:=HMR.out;omega,hh,fun i b hi hbi=>?_,HHIGH.out⟩⟩
      rcases Nat.lt_or_ge i m with h9|h9
      · have:=pwOrb_get orbL pwOrb_orb i m b a h9 hbi HHA.out;omega
      · have:i=m:=by omega
        subst this
        have h8:=HHA.out
        rw [hbi] at h8;simp only [Option.some.injEq] at h8;subst h8;exact hb
    · have t4:¬ (a.1:Int) < (r:Int):=by omega
      (repeat (first|(with_reducible first|refine zA fun K hK=>?_|refine zB ?_|refine zC ?_)|((with_reducible first|refine zD rfl fun K hK=>?_|refine zE fun K hK=>?_);go_simp)|(with_reducible first|((repeat ((fail_if_success refine hK _ _ ?_);clear hK K));refine hK _ _ ?_;clear hK K)|refine zt ?_|refine zf ?_|refine zG ?_|refine zR ?_|refine zK ?_|refine zL ?_|refine zN ?_|refine zS ?_)|simp only [Exit.then,Exit.inBlock,Exit.noGoto,↓reduceIte,Nat.reduceEqDiff]|simp only [undef,reduceCtorEq,↓reduceIte]))
      (refine K_keep [0,3,4] (fun f=>?_);simp only [keep_cons,keep_nil,lk_cons,lk_nil,Nat.reduceEqDiff,↓reduceIte])
      refine HK2.out _ _ ⟨m - lo,by rw [HK.out];have:=HMR.out;omega,HJ.out _ _ _ ⟨f,lo,m,rfl,rfl,rfl,by have:=HMR.out;omega,by have:=HMR.out;omega,HLOW.out,fun i b hi hbi=>?_⟩⟩
      rcases Nat.lt_or_ge m i with h9|h9
      · have:=pwOrb_get orbL pwOrb_orb m i a b h9 HHA.out hbi;omega
      · have:i=m:=by omega
        subst this
        have h8:=HHA.out
        rw [hbi] at h8;simp only [Option.some.injEq] at h8;subst h8;omega
  · have hll:lo=hi:=by omega
    subst hll
    have t1:¬ ((lo:Int) < (lo:Int)):=by omega
    have HLA:=Lib.hid (show LowAt r lo from ⟨hh,HLOW.out,HHIGH.out⟩)
    have hs128:sfoldN r=match orbOf r with|some p=>p.2|none=>(match rowOf r with|some x=>sfoldX r x|none=>r):=by
      unfold sfoldN
      rw [show Nat.ble 128 r=true from Nat.ble_eq_true_of_le (by have:=H128.out;omega)]
      rfl
    have HSF:=Lib.hid hs128
    clear hs128
    have hcs:(∃ a,orbOf r=some a∧a.2 ≤ 65535∧(lo:Int) < 94∧((a.1:Int) == (r:Int))=true∧a.1 ≤ 65535∧w.cell? ⟨R,oR + lo * 2,none⟩=some (.int .u16 a.1)∧w.cell? ⟨R,oR + lo * 2 + 1,none⟩=some (.int .u16 a.2)) ∨
        (orbOf r=none∧∃ a:Nat × Nat,(lo:Int) < 94∧((a.1:Int) == (r:Int))=false∧a.1 ≤ 65535∧w.cell? ⟨R,oR + lo * 2,none⟩=some (.int .u16 a.1)) ∨ (orbOf r=none∧¬ (lo:Int) < 94):=by
      by_cases h94:lo < 94
      · obtain ⟨a,ha⟩:=orbL_at h94
        obtain ⟨c0,c1⟩:=HROWS.out lo a ha
        obtain ⟨a1,a2⟩:=orb_le ha
        by_cases he:a.1=r
        · exact Or.inl ⟨a,HLA.out.hit ha he,a2,by omega,by rw [he];simp,a1,c0,c1⟩
        · refine Or.inr (Or.inl ⟨HLA.out.miss fun b hb=>?_,a,by omega,by simp;omega,a1,c0⟩)
          rw [ha] at hb;simp only [Option.some.injEq] at hb;subst hb;exact he
      · refine Or.inr (Or.inr ⟨HLA.out.miss fun b hb=>?_,by omega⟩)
        have:=(List.getElem?_eq_some_iff.1 hb).1
        rw [orbL_len] at this;omega
    have t0:(0:Int) ≤ (lo:Int):=by omega
    rcases hcs with ⟨a,ho,a2,t1,t2,t3,c0,c1⟩|⟨ho,a,t1,t2,t3,c0⟩|⟨ho,t1⟩
    · have w1:IntKind.i32.wrap (a.1:Int)=(a.1:Int):=by rw [IntKind.wrap_i32];omega
      have w2:IntKind.i32.wrap (a.2:Int)=(a.2:Int):=by rw [IntKind.wrap_i32];omega
      have hsf:=HSF.out
      rw [ho] at hsf
      have HSF2:=Lib.hid (show sfoldN r=a.2 from hsf)
      clear ho hsf
      (repeat (first|(with_reducible first|refine zA fun K hK=>?_|refine zB ?_|refine zC ?_)|((with_reducible first|refine zD rfl fun K hK=>?_|refine zE fun K hK=>?_);go_simp)|(with_reducible first|((repeat ((fail_if_success refine hK _ _ ?_);clear hK K));refine hK _ _ ?_;clear hK K)|refine zt ?_|refine zf ?_|refine zG ?_|refine zR ?_|refine zK ?_|refine zL ?_|refine zN ?_|refine zS ?_)|simp only [Exit.then,Exit.inBlock,Exit.noGoto,↓reduceIte,Nat.reduceEqDiff]|simp only [undef,reduceCtorEq,↓reduceIte]))
      (refine fr_out1 rfl (by decide) (by simp only [lk_cons,lk_nil,Nat.reduceEqDiff,↓reduceIte];rfl) ?_)
      exact ⟨by rw [HSF2.out],0,rfl⟩
    · have w1:IntKind.i32.wrap (a.1:Int)=(a.1:Int):=by rw [IntKind.wrap_i32];omega
      have HO:=Lib.hid ho
      clear ho
      (repeat ((fail_if_success with_reducible refine wp_stop 14 ?_);(fail_if_success with_reducible refine wp_stop2 14 ?_);(first|(with_reducible first|refine zA fun K hK=>?_|refine zB ?_|refine zC ?_)|((with_reducible first|refine zD rfl fun K hK=>?_|refine zE fun K hK=>?_);go_simp)|(with_reducible first|((repeat ((fail_if_success refine hK _ _ ?_);clear hK K));refine hK _ _ ?_;clear hK K)|refine zt ?_|refine zf ?_|refine zG ?_|refine zR ?_|refine zK ?_|refine zL ?_|refine zN ?_|refine zS ?_)|simp only [Exit.then,Exit.inBlock,Exit.noGoto,↓reduceIte,Nat.reduceEqDiff]|simp only [undef,reduceCtorEq,↓reduceIte])))
      (refine wp_keep [0] (fun f=>?_);simp only [keep_cons,keep_nil,lk_cons,lk_nil,Nat.reduceEqDiff,↓reduceIte])
      refine wp_code (sfTail r HR.out w R2 oR2 cap2 hg2 HTAB.out (by have:=H128.out;omega) HO.out _ (fun f k=>?_) f) (by kernel_rfl)
      (refine fr_out1 rfl (by decide) (by simp only [lk_cons,lk_nil,Nat.reduceEqDiff,↓reduceIte];rfl) ?_)
      exact ⟨rfl,k,rfl⟩
    · have HO:=Lib.hid ho
      clear ho
      (repeat ((fail_if_success with_reducible refine wp_stop 14 ?_);(fail_if_success with_reducible refine wp_stop2 14 ?_);(first|(with_reducible first|refine zA fun K hK=>?_|refine zB ?_|refine zC ?_)|((with_reducible first|refine zD rfl fun K hK=>?_|refine zE fun K hK=>?_);go_simp)|(with_reducible first|((repeat ((fail_if_success refine hK _ _ ?_);clear hK K));refine hK _ _ ?_;clear hK K)|refine zt ?_|refine zf ?_|refine zG ?_|refine zR ?_|refine zK ?_|refine zL ?_|refine zN ?_|refine zS ?_)|simp only [Exit.then,Exit.inBlock,Exit.noGoto,↓reduceIte,Nat.reduceEqDiff]|simp only [undef,reduceCtorEq,↓reduceIte])))
      (refine wp_keep [0] (fun f=>?_);simp only [keep_cons,keep_nil,lk_cons,lk_nil,Nat.reduceEqDiff,↓reduceIte])
      refine wp_code (sfTail r HR.out w R2 oR2 cap2 hg2 HTAB.out (by have:=H128.out;omega) HO.out _ (fun f k=>?_) f) (by kernel_rfl)
      (refine fr_out1 rfl (by decide) (by simp only [lk_cons,lk_nil,Nat.reduceEqDiff,↓reduceIte];rfl) ?_)
      exact ⟨rfl,k,rfl⟩
end Go.Proofs.YtkjnockljapnbaaGreatDoor
namespace Go.Proofs.YtkjnockljapnbaaGreatDoor
open Go Go.RowKit
def foldLoop:Nat → Nat → Nat → Nat → Nat
  | 0,_,_,r=>r
  | k + 1,sr,tr,r=>if r ≠ sr∧r < tr then foldLoop k sr tr (sfoldN r) else r
def runeLt (lo hi:Nat):Bool:=if hi < 128 then decide (65 ≤ lo∧lo ≤ 90∧hi=lo + 32) else foldLoop 4 lo hi (sfoldN lo) == hi
def runeEq (sr tr:Nat):Bool:=if tr=sr then true else if tr < sr then runeLt tr sr else runeLt sr tr
def eqU (S:Bs):Nat → Nat → Bs → Bool
  | 0,_,_=>false
  | k + 1,p,T=>
    if p < S.length then
      if T=[] then false
      else if runeEq (Utf8.decode ⟨S.toArray⟩ p).1 (Lib.decodeGo ⟨T.toArray⟩).1 then eqU S k (p + (Utf8.decode ⟨S.toArray⟩ p).2) (T.drop (Lib.decodeGo ⟨T.toArray⟩).2) else false
    else decide (T.length=0)
def eqA (s t:Bs):Nat → Nat → Bool
  | 0,_=>decide (s.length=t.length)
  | k + 1,i=>
    if 128 ≤ (s.getD i 0).toNat ∨ 128 ≤ (t.getD i 0).toNat then eqU (s.drop i) ((s.drop i).length + 1) 0 (t.drop i)
    else if Lib.foldEq (s.getD i 0) (t.getD i 0) then eqA s t k (i + 1) else false
def eqFold (s t:Bs):Bool:=eqA s t (min s.length t.length) 0
theorem or_all' (c d:UInt8):decide ((128:Int) ≤ bits .or .u8 (c.toNat:Int) (d.toNat:Int))=(decide (128 ≤ c.toNat) || decide (128 ≤ d.toNat)):=by
  rw [u8_or_nat c.toNat d.toNat c.toNat_lt d.toNat_lt]
  by_cases h1:128 ≤ c.toNat
  · have h2:=Nat.left_le_or (n:=c.toNat) (m:=d.toNat)
    simp only [decide_eq_true h1,Bool.true_or,decide_eq_true_eq]
    omega
  · by_cases h3:128 ≤ d.toNat
    · have h2:=Nat.right_le_or (n:=c.toNat) (m:=d.toNat)
      simp only [decide_eq_true h3,Bool.or_true,decide_eq_true_eq]
      omega
    · have h2:=Nat.or_lt_two_pow (n:=7) (show c.toNat < 2 ^ 7 by omega) (show d.toNat < 2 ^ 7 by omega)
      rw [decide_eq_false h1,decide_eq_false h3]
      simp only [Bool.or_false,decide_eq_false_iff_not]
      omega
theorem CaseVar_mono {g:Nat} {T:Array Lib.CaseRow} {w w':World} (h:Lib.CaseVar g T w) (hb:Below w.heap.size w w'):Lib.CaseVar g T w':=by
  have k:∀ {a:Addr} {v:Value},w.cell? a=some v → w'.cell? a=some v:=fun {a v} hc=>(hb.cell (World.block_lt_of_cell? w a hc)).trans hc
  obtain ⟨R,oR,cap,h1,h2⟩:=h
  exact ⟨R,oR,cap,k h1,fun i hi=>⟨k (h2 i hi).1,k (h2 i hi).2.1,k (h2 i hi).2.2.1,k (h2 i hi).2.2.2.1,k (h2 i hi).2.2.2.2⟩⟩
structure FoldEnv (w:World):Prop where
  af:AfTab w
  ob:OrbTab w
  cv:Lib.CaseVar 5 Lib.caseA w
  u8:Lib.Utf8Tabs 6 7 w
theorem FoldEnv.below {w w':World} (h:FoldEnv w) (hb:Below w.heap.size w w'):FoldEnv w':=⟨h.af.below hb,h.ob.below hb,CaseVar_mono h.cv hb,Utf8Tabs_below h.u8 hb⟩
theorem rune_le (S:Bs) (p:Nat):(Utf8.decode ⟨S.toArray⟩ p).1 ≤ 1114111:=by
  rw [Lib.decode_at]
  refine Lib.decodeN_rune_le _ _ _ _ _ ?_
  exact UInt8.toNat_lt _
theorem decodeGo_rune (T:Bs):(Lib.decodeGo ⟨T.toArray⟩).1 ≤ 1114111:=by
  unfold Lib.decodeGo
  split
  · simp
  · exact rune_le T 0
theorem decodeGo_wid (T:Bs) (h:T ≠ []):(Lib.decodeGo ⟨T.toArray⟩).2 ≤ T.length:=by
  have h1:=decL_wid T h
  exact h1
theorem foldLoop_fuel (lo hi:Nat):∀ (n m r:Nat),n ≤ m → sfoldI n r=lo → foldLoop m lo hi r=foldLoop n lo hi r
  | 0,m,r,_,h=>by
    have hr:r=lo:=h
    subst hr
    cases m with
    | zero=>rfl
    | succ m=>unfold foldLoop;rw [if_neg (fun hh=>hh.1 rfl)]
  | n + 1,0,r,hm,_=>by omega
  | n + 1,m + 1,r,hm,h=>by
    unfold foldLoop
    by_cases hc:r ≠ lo∧r < hi
    · rw [if_pos hc,if_pos hc]
      exact foldLoop_fuel lo hi n m (sfoldN r) (by omega) h
    · rw [if_neg hc,if_neg hc]
theorem foldLoop_stop {lo hi r:Nat} (h:¬ (r ≠ lo∧r < hi)):∀ k,foldLoop k lo hi r=r
  | 0=>rfl
  | k + 1=>by unfold foldLoop;rw [if_neg h]
noncomputable def eqCode (n:Nat):Code:=((Tryz.f47.body).bind (Code.partAt n)).getD .skip
def EgInv (lo hi:Nat) (v0 v1 v67:Value) (w0:World) (k:Nat) (a:Act) (w:World):Prop:=
  ∃ f r,a=fr 123 f [(0,v0),(1,v1),(10,.int .i32 (lo:Nat)),(11,.int .i32 (hi:Nat)),(13,.int .i32 (r:Nat)),(67,v67)]∧Below w0.heap.size w0 w∧r ≤ 1114111∧sfoldI k r=lo∧k ≤ 4∧foldLoop 4 lo hi (sfoldN lo)=foldLoop k lo hi r
theorem eqGen (lo hi:Nat) (hlo:lo ≤ 1114111) (hlh:lo < hi) (hhi:hi ≤ 1114111) (w:World) (hE:FoldEnv w) (v0 v1 v67:Value) (Q:Exit → Act → World → Prop)
    (hT:foldLoop 4 lo hi (sfoldN lo)=hi → ∀ f w',Below w.heap.size w w' → Q (.exit 3) (fr 123 f [(0,v0),(1,v1),(67,v67)]) w')
    (hF:foldLoop 4 lo hi (sfoldN lo) ≠ hi → ∀ f w',Below w.heap.size w w' → Q .ret (fr 123 f [(4,.bool false)]) w') (f:Nat → Value) :
    (eqCode 29).wp Tryz.prog Q (fr 123 f [(0,v0),(1,v1),(10,.int .i32 (lo:Nat)),(11,.int .i32 (hi:Nat)),(67,v67)]) w:=by
  obtain ⟨n,hn,hback⟩:=back_ex lo hlo
  have hs:=Lib.hid (fun (w':World) (hb:Below w.heap.size w w') (r:Nat) (hr:r ≤ 1114111)=>simpleFold_c r hr w' (hE.below hb).af (hE.below hb).ob (hE.below hb).cv)
  have HT:=Lib.hid hT
  have HF:=Lib.hid hF
  have HLO:=Lib.hid hlo
  have HLH:=Lib.hid hlh
  have HHI:=Lib.hid hhi
  have HBK:=Lib.hid hback
  clear hE hT hF hback hlo hlh hhi
  unfold eqCode
  conv=>arg 2;whnf
  (repeat (first|(with_reducible first|refine zA fun K hK=>?_|refine zB ?_|refine zC ?_)|((with_reducible first|refine zD rfl fun K hK=>?_|refine zE fun K hK=>?_);go_simp)|(with_reducible first|((repeat ((fail_if_success refine hK _ _ ?_);clear hK K));refine hK _ _ ?_;clear hK K)|refine zt ?_|refine zf ?_|refine zG ?_|refine zR ?_|refine zK ?_|refine zL ?_|refine zN ?_|refine zS ?_)|simp only [Exit.then,Exit.inBlock,Exit.noGoto,↓reduceIte,Nat.reduceEqDiff]|simp only [undef,reduceCtorEq,↓reduceIte]))
  refine (hs.out w (Below.refl _ w) lo HLO.out).mono ?_
  rintro e1 w1 ⟨rfl,k1,rfl⟩
  go_simp
  (repeat (first|(with_reducible first|refine zA fun K hK=>?_|refine zB ?_|refine zC ?_)|((with_reducible first|refine zD rfl fun K hK=>?_|refine zE fun K hK=>?_);go_simp)|(with_reducible first|((repeat ((fail_if_success refine hK _ _ ?_);clear hK K));refine hK _ _ ?_;clear hK K)|refine zt ?_|refine zf ?_|refine zG ?_|refine zR ?_|refine zK ?_|refine zL ?_|refine zN ?_|refine zS ?_)|simp only [Exit.then,Exit.inBlock,Exit.noGoto,↓reduceIte,Nat.reduceEqDiff]|simp only [undef,reduceCtorEq,↓reduceIte]))
  (refine wp_keep [0,1,10,11,13,67] (fun f=>?_);simp only [keep_cons,keep_nil,lk_cons,lk_nil,Nat.reduceEqDiff,↓reduceIte])
  refine wp_loop_ghost_k (EgInv lo hi v0 v1 v67 w) n ⟨f,sfoldN lo,rfl,Below_drewN (Below.refl _ w) _,sfold_le lo HLO.out,HBK.out,by omega,foldLoop_fuel lo hi n 4 (sfoldN lo) (by omega) HBK.out⟩ ?_
  rintro k _ w2 ⟨f,r,rfl,hb,hr,hsi,hk4,hans⟩ J K2 hJ hK2
  have HJ:=Lib.hid hJ
  have HK2:=Lib.hid hK2
  have HB:=Lib.hid hb
  have HR:=Lib.hid hr
  have HSI:=Lib.hid hsi
  have HANS:=Lib.hid hans
  clear hJ hK2 hb hr hsi hans
  by_cases hc:r ≠ lo∧r < hi
  · obtain ⟨k',hk'⟩:∃ k',k=k' + 1:=by
      cases k with
      | zero=>exact absurd HSI.out hc.1
      | succ k=>exact ⟨k,rfl⟩
    subst hk'
    have t1:((r:Int) != (lo:Int))=true:=by have:=hc.1;simp;omega
    have t2:(r:Int) < (hi:Int):=by have:=hc.2;omega
    have HC:=Lib.hid hc
    clear hc
    (repeat (first|(with_reducible first|refine zA fun K hK=>?_|refine zB ?_|refine zC ?_)|((with_reducible first|refine zD rfl fun K hK=>?_|refine zE fun K hK=>?_);go_simp)|(with_reducible first|((repeat ((fail_if_success refine hK _ _ ?_);clear hK K));refine hK _ _ ?_;clear hK K)|refine zt ?_|refine zf ?_|refine zG ?_|refine zR ?_|refine zK ?_|refine zL ?_|refine zN ?_|refine zS ?_)|simp only [Exit.then,Exit.inBlock,Exit.noGoto,↓reduceIte,Nat.reduceEqDiff]|simp only [undef,reduceCtorEq,↓reduceIte]))
    refine (hs.out w2 HB.out r HR.out).mono ?_
    rintro e3 w3 ⟨rfl,k3,rfl⟩
    go_simp
    (repeat (first|(with_reducible first|refine zA fun K hK=>?_|refine zB ?_|refine zC ?_)|((with_reducible first|refine zD rfl fun K hK=>?_|refine zE fun K hK=>?_);go_simp)|(with_reducible first|((repeat ((fail_if_success refine hK _ _ ?_);clear hK K));refine hK _ _ ?_;clear hK K)|refine zt ?_|refine zf ?_|refine zG ?_|refine zR ?_|refine zK ?_|refine zL ?_|refine zN ?_|refine zS ?_)|simp only [Exit.then,Exit.inBlock,Exit.noGoto,↓reduceIte,Nat.reduceEqDiff]|simp only [undef,reduceCtorEq,↓reduceIte]))
    (refine K_keep [0,1,10,11,13,67] (fun f=>?_);simp only [keep_cons,keep_nil,lk_cons,lk_nil,Nat.reduceEqDiff,↓reduceIte])
    refine HK2.out _ _ ⟨k',by omega,HJ.out _ _ _ ⟨f,sfoldN r,rfl,Below_drewN HB.out _,sfold_le r HR.out,HSI.out,by omega,?_⟩⟩
    rw [HANS.out]
    conv=>lhs;unfold foldLoop
    rw [if_pos HC.out]
  · have hans2:=HANS.out
    rw [foldLoop_stop hc k] at hans2
    have HANS2:=Lib.hid hans2
    have hcs:((r:Int) != (lo:Int))=false ∨ (((r:Int) != (lo:Int))=true∧¬ (r:Int) < (hi:Int)):=by
      by_cases h:r=lo
      · left;subst h;simp
      · right;refine ⟨by simp;omega,fun h2=>hc ⟨h,by omega⟩⟩
    clear hans2 hc
    rcases hcs with t1|⟨t1,t2⟩
    all_goals
      by_cases hrh:r=hi
      · have t3:((r:Int) == (hi:Int))=true:=by rw [hrh];simp
        have HRH:=Lib.hid hrh
        clear hrh
        (repeat (first|(with_reducible first|refine zA fun K hK=>?_|refine zB ?_|refine zC ?_)|((with_reducible first|refine zD rfl fun K hK=>?_|refine zE fun K hK=>?_);go_simp)|(with_reducible first|((repeat ((fail_if_success refine hK _ _ ?_);clear hK K));refine hK _ _ ?_;clear hK K)|refine zt ?_|refine zf ?_|refine zG ?_|refine zR ?_|refine zK ?_|refine zL ?_|refine zN ?_|refine zS ?_)|simp only [Exit.then,Exit.inBlock,Exit.noGoto,↓reduceIte,Nat.reduceEqDiff]|simp only [undef,reduceCtorEq,↓reduceIte]))
        refine Q_keep [0,1,67] (fun f=>?_);simp only [keep_cons,keep_nil,lk_cons,lk_nil,Nat.reduceEqDiff,↓reduceIte]
        exact HT.out (HANS2.out.trans HRH.out) f w2 HB.out
      · have t3:((r:Int) == (hi:Int))=false:=by simp;omega
        have HRH:=Lib.hid hrh
        clear hrh
        (repeat (first|(with_reducible first|refine zA fun K hK=>?_|refine zB ?_|refine zC ?_)|((with_reducible first|refine zD rfl fun K hK=>?_|refine zE fun K hK=>?_);go_simp)|(with_reducible first|((repeat ((fail_if_success refine hK _ _ ?_);clear hK K));refine hK _ _ ?_;clear hK K)|refine zt ?_|refine zf ?_|refine zG ?_|refine zR ?_|refine zK ?_|refine zL ?_|refine zN ?_|refine zS ?_)|simp only [Exit.then,Exit.inBlock,Exit.noGoto,↓reduceIte,Nat.reduceEqDiff]|simp only [undef,reduceCtorEq,↓reduceIte]))
        refine Q_keep [4] (fun f=>?_);simp only [keep_cons,keep_nil,lk_cons,lk_nil,Nat.reduceEqDiff,↓reduceIte]
        exact HF.out (fun h=>HRH.out (HANS2.out.symm.trans h)) f w2 HB.out
end Go.Proofs.YtkjnockljapnbaaGreatDoor
