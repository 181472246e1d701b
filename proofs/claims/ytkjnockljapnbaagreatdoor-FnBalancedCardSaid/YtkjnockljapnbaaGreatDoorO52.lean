/- Part of the proof that laws.FnBalanced returns true for every argument (Bal2, Lf, Pa, Bal3). No condition of its own. -/
import Derived.Test.YtkjnockljapnbaaGreatDoorO51
import Derived.OpenShut
import Derived.SliceStrings
import Derived.Test.YtkjnockljapnbaaGreatDoorO26
import Derived.Test.YtkjnockljapnbaaGreatDoorCards
import Derived.Test.YtkjnockljapnbaaGreatDoorTie
import Derived.WalkKit
import Derived.ProofKit
import Derived.Lay
import Derived.LaidSub
import Derived.LaidHandle
import Derived.LaidLaws
import Derived.PinnedBridge
import Derived.Lib.LaidU8T
import Derived.Stop.LaidErr
import Derived.SevenTiedAt
import Derived.Test.YtkjnockljapnbaaGreatDoorO49
import Derived.Stop.LaidTwo
import Derived.Lib.LaidTab
import Derived.Lib.LaidCase
import Derived.ChangeSame
import Derived.Carry
set_option linter.all false
set_option maxHeartbeats 8000000
set_option maxRecDepth 100000
namespace Go.Proofs.YtkjnockljapnbaaGreatDoor
open Go Go.RowKit
structure AuR (w:World) (A:Option Addr) (C:Nat) (l:List Bs):Prop where
  c:l.length ≤ C
  at':0 < l.length → ∃ b o,A=some ⟨b,o,none⟩∧b < w.heap.size∧∀ j a,l[j]?=some a → w.cell? ⟨b,o + j,none⟩=some (strV a)
theorem AuR.fit {w:World} {A:Option Addr} {C:Nat} {l:List Bs} (h:AuR w A C l) (hf:fitsL l=true):AuL w A C l:=by
  unfold fitsL at hf
  rw [Bool.and_eq_true,decide_eq_true_iff] at hf
  refine ⟨by omega,h.c,fun hl=>?_⟩
  obtain ⟨b,o,h1,h2,h3⟩:=h.at' hl
  refine ⟨b,o,h1,h2,fun j a hj=>⟨h3 j a hj,?_⟩⟩
  have:=List.all_eq_true.1 hf.2 a (List.mem_of_getElem? hj)
  have h9:a.length ≤ 2147483647:=by simpa using this
  omega
theorem AuR.nil (w:World) (A:Option Addr) (C:Nat):AuR w A C []:=⟨by simp,fun h=>(by simp at h)⟩
theorem AuR.of {w:World} {a:Addr} {len cap:Nat} {ss:List ByteArray} (hle:len ≤ cap) (hl:ss.length=cap) (hcell:∀ i,i < ss.length → w.cell? (a.add i)=some (.string (ss.getD i ByteArray.empty))):∃ au:List Bs,len=au.length∧AuR w (some a) cap au:=by
  have hlen:((ss.take len).map fun s=>s.data.toList).length=len:=by rw [List.length_map,List.length_take];omega
  refine ⟨(ss.take len).map fun s=>s.data.toList,hlen.symm,⟨by rw [hlen];exact hle,fun h0=>?_⟩⟩
  rw [hlen] at h0
  obtain ⟨b,off,spot⟩:=a
  have hspot:spot=none:=by simpa [Addr.add] using World.cell?_spot (hcell 0 (by omega))
  subst hspot
  refine ⟨b,off,rfl,World.block_lt_of_cell? w _ (hcell 0 (by omega)),fun j x hj=>?_⟩
  rw [List.getElem?_map,Option.map_eq_some_iff] at hj
  obtain ⟨s,hs,rfl⟩:=hj
  have hjl:j < len:=by
    have h9:=(List.getElem?_eq_some_iff.1 hs).1
    rw [List.length_take] at h9;omega
  rw [List.getElem?_take,if_pos hjl] at hs
  have h9:=hcell j (by omega)
  rw [Go.WideShapes.add_plain] at h9
  rw [h9,List.getD_eq_getElem?_getD,hs]
  rfl
theorem AuR.fits {w:World} {A:Option Addr} {C:Nat} {l:List Bs} (h:AuR w A C l):Calls Tryz.prog 8 #[.slice A l.length C] w fun e w'=>e=.returned (.bool (fitsL l))∧w'=w:=
  fits3_c w A C l fun hl=>by obtain ⟨b,o,h1,_,h3⟩:=h.at' hl;exact ⟨b,o,h1,h3⟩
theorem balBig (T:Bs) (pcA:Option Addr) (pcN pcC:Nat) (loose:Bool) (A:Option Addr) (C:Nat) (au:List Bs) (w:World) (hau:AuR w A C au) (h:65536 < T.length ∨ 2147483647 < pcN ∨ fitsL au=false) :
    Calls Tryz.prog 3 #[strV T,.slice pcA pcN pcC,.bool loose,.slice A au.length C] w fun e w'=>e=.returned (.bool true)∧Below w.heap.size w w':=by
  have HF:=Lib.hid hau.fits
  clear hau
  by_cases h2:(2147483647:Int) < (T.length:Int)
  · refine calls_fr (vs:=[_,_,_,_]) 104 Tryz.func3 rfl rfl (Nat.le_of_ble_eq_true rfl) fun f=>?_
    simp only [argSlots]
    (repeat (first|(with_reducible first|refine zA fun K hK=>?_|refine zB ?_|refine zC ?_)|((with_reducible first|refine zD rfl fun K hK=>?_|refine zE fun K hK=>?_);go_simp)|(with_reducible first|((repeat ((fail_if_success refine hK _ _ ?_);clear hK K));refine hK _ _ ?_;clear hK K)|refine zt ?_|refine zf ?_|refine zG ?_|refine zR ?_|refine zK ?_|refine zL ?_|refine zN ?_|refine zS ?_)|simp only [Exit.then,Exit.inBlock,Exit.noGoto,↓reduceIte,Nat.reduceEqDiff]|simp only [undef,reduceCtorEq,↓reduceIte]))
    (refine fr_out1 rfl (by decide) (by simp only [lk_cons,lk_nil,Nat.reduceEqDiff,↓reduceIte];rfl) ?_)
    exact ⟨rfl,Below.refl _ w⟩
  by_cases h3:(2147483647:Int) < (pcN:Int)
  · refine calls_fr (vs:=[_,_,_,_]) 104 Tryz.func3 rfl rfl (Nat.le_of_ble_eq_true rfl) fun f=>?_
    simp only [argSlots]
    (repeat (first|(with_reducible first|refine zA fun K hK=>?_|refine zB ?_|refine zC ?_)|((with_reducible first|refine zD rfl fun K hK=>?_|refine zE fun K hK=>?_);go_simp)|(with_reducible first|((repeat ((fail_if_success refine hK _ _ ?_);clear hK K));refine hK _ _ ?_;clear hK K)|refine zt ?_|refine zf ?_|refine zG ?_|refine zR ?_|refine zK ?_|refine zL ?_|refine zN ?_|refine zS ?_)|simp only [Exit.then,Exit.inBlock,Exit.noGoto,↓reduceIte,Nat.reduceEqDiff]|simp only [undef,reduceCtorEq,↓reduceIte]))
    (refine fr_out1 rfl (by decide) (by simp only [lk_cons,lk_nil,Nat.reduceEqDiff,↓reduceIte];rfl) ?_)
    exact ⟨rfl,Below.refl _ w⟩
  cases hf:fitsL au with
  | false=>
    rw [hf] at HF
    refine calls_fr (vs:=[_,_,_,_]) 104 Tryz.func3 rfl rfl (Nat.le_of_ble_eq_true rfl) fun f=>?_
    simp only [argSlots]
    (repeat (first|(with_reducible first|refine zA fun K hK=>?_|refine zB ?_|refine zC ?_)|((with_reducible first|refine zD rfl fun K hK=>?_|refine zE fun K hK=>?_);go_simp)|(with_reducible first|((repeat ((fail_if_success refine hK _ _ ?_);clear hK K));refine hK _ _ ?_;clear hK K)|refine zt ?_|refine zf ?_|refine zG ?_|refine zR ?_|refine zK ?_|refine zL ?_|refine zN ?_|refine zS ?_)|simp only [Exit.then,Exit.inBlock,Exit.noGoto,↓reduceIte,Nat.reduceEqDiff]|simp only [undef,reduceCtorEq,↓reduceIte]))
    refine HF.out.mono ?_
    rintro e w' ⟨rfl,rfl⟩
    go_simp
    (repeat (first|(with_reducible first|refine zA fun K hK=>?_|refine zB ?_|refine zC ?_)|((with_reducible first|refine zD rfl fun K hK=>?_|refine zE fun K hK=>?_);go_simp)|(with_reducible first|((repeat ((fail_if_success refine hK _ _ ?_);clear hK K));refine hK _ _ ?_;clear hK K)|refine zt ?_|refine zf ?_|refine zG ?_|refine zR ?_|refine zK ?_|refine zL ?_|refine zN ?_|refine zS ?_)|simp only [Exit.then,Exit.inBlock,Exit.noGoto,↓reduceIte,Nat.reduceEqDiff]|simp only [undef,reduceCtorEq,↓reduceIte]))
    (refine fr_out1 rfl (by decide) (by simp only [lk_cons,lk_nil,Nat.reduceEqDiff,↓reduceIte];rfl) ?_)
    exact ⟨rfl,Below.refl _ _⟩
  | true=>
    rw [hf] at HF
    have h4:(65536:Int) < (T.length:Int):=by
      rcases h with h|h|h
      · omega
      · omega
      · rw [hf] at h;cases h
    refine calls_fr (vs:=[_,_,_,_]) 104 Tryz.func3 rfl rfl (Nat.le_of_ble_eq_true rfl) fun f=>?_
    simp only [argSlots]
    (repeat (first|(with_reducible first|refine zA fun K hK=>?_|refine zB ?_|refine zC ?_)|((with_reducible first|refine zD rfl fun K hK=>?_|refine zE fun K hK=>?_);go_simp)|(with_reducible first|((repeat ((fail_if_success refine hK _ _ ?_);clear hK K));refine hK _ _ ?_;clear hK K)|refine zt ?_|refine zf ?_|refine zG ?_|refine zR ?_|refine zK ?_|refine zL ?_|refine zN ?_|refine zS ?_)|simp only [Exit.then,Exit.inBlock,Exit.noGoto,↓reduceIte,Nat.reduceEqDiff]|simp only [undef,reduceCtorEq,↓reduceIte]))
    refine HF.out.mono ?_
    rintro e w' ⟨rfl,rfl⟩
    go_simp
    (repeat (first|(with_reducible first|refine zA fun K hK=>?_|refine zB ?_|refine zC ?_)|((with_reducible first|refine zD rfl fun K hK=>?_|refine zE fun K hK=>?_);go_simp)|(with_reducible first|((repeat ((fail_if_success refine hK _ _ ?_);clear hK K));refine hK _ _ ?_;clear hK K)|refine zt ?_|refine zf ?_|refine zG ?_|refine zR ?_|refine zK ?_|refine zL ?_|refine zN ?_|refine zS ?_)|simp only [Exit.then,Exit.inBlock,Exit.noGoto,↓reduceIte,Nat.reduceEqDiff]|simp only [undef,reduceCtorEq,↓reduceIte]))
    (refine fr_out1 rfl (by decide) (by simp only [lk_cons,lk_nil,Nat.reduceEqDiff,↓reduceIte];rfl) ?_)
    exact ⟨rfl,Below.refl _ _⟩
theorem balanced_c (T:Bs) (hT:T.length ≤ 65536) (pcA:Option Addr) (pcN pcC:Nat) (pcs:List Int) (hpn:pcN ≤ 2147483647) (loose:Bool) (A:Option Addr) (C:Nat) (au:List Bs) (hfit:fitsL au=true) (w:World) (hE:EnvA w) (hp:PcOk w pcA pcN pcC pcs) (hau:AuR w A C au) :
    Calls Tryz.prog 3 #[strV T,.slice pcA pcN pcC,.bool loose,.slice A au.length C] w fun e w'=>e=.returned (.bool true)∧Below w.heap.size w w':=by
  have h2:¬ (2147483647:Int) < (T.length:Int):=by omega
  have h3:¬ (2147483647:Int) < (pcN:Int):=by omega
  have h4:¬ (65536:Int) < (T.length:Int):=by omega
  obtain ⟨o,ho⟩:∃ o:Opt,o=⟨false,!loose,none,au,[],false⟩:=⟨_,rfl⟩
  have ht:=tokens_c T (by omega) o (by rw [ho]) A C pcA pcN pcC pcs w hE (by rw [ho];exact hau.fit hfit) hp
  have e1:optV o.raw (!o.strict) (.slice A o.auto.length C) o.space=.agg #[.bool false,.bool loose,.slice none 0 0,.slice A au.length C,.string ⟨#[]⟩]:=by rw [ho];simp
  have e2:o.fails=false:=by rw [ho]
  simp only [e1,e2] at ht
  have hz:=hau.fits
  rw [hfit] at hz
  have HZ:=Lib.hid hz
  have HT:=Lib.hid ht
  have HO:=Lib.hid ho
  have HE:=Lib.hid hE
  have HTL:=Lib.hid hT
  clear ht ho hE hT e1 e2 hp hpn hau hfit hz
  refine calls_fr (vs:=[_,_,_,_]) 104 Tryz.func3 rfl rfl (Nat.le_of_ble_eq_true rfl) fun f=>?_
  simp only [argSlots]
  (repeat (first|(with_reducible first|refine zA fun K hK=>?_|refine zB ?_|refine zC ?_)|((with_reducible first|refine zD rfl fun K hK=>?_|refine zE fun K hK=>?_);go_simp)|(with_reducible first|((repeat ((fail_if_success refine hK _ _ ?_);clear hK K));refine hK _ _ ?_;clear hK K)|refine zt ?_|refine zf ?_|refine zG ?_|refine zR ?_|refine zK ?_|refine zL ?_|refine zN ?_|refine zS ?_)|simp only [Exit.then,Exit.inBlock,Exit.noGoto,↓reduceIte,Nat.reduceEqDiff]|simp only [undef,reduceCtorEq,↓reduceIte]))
  refine HZ.out.mono ?_
  rintro e0 w0 ⟨rfl,hww⟩
  subst hww
  go_simp
  (repeat (first|(with_reducible first|refine zA fun K hK=>?_|refine zB ?_|refine zC ?_)|((with_reducible first|refine zD rfl fun K hK=>?_|refine zE fun K hK=>?_);go_simp)|(with_reducible first|((repeat ((fail_if_success refine hK _ _ ?_);clear hK K));refine hK _ _ ?_;clear hK K)|refine zt ?_|refine zf ?_|refine zG ?_|refine zR ?_|refine zK ?_|refine zL ?_|refine zN ?_|refine zS ?_)|simp only [Exit.then,Exit.inBlock,Exit.noGoto,↓reduceIte,Nat.reduceEqDiff]|simp only [undef,reduceCtorEq,↓reduceIte]))
  refine HT.out.mono ?_
  rintro e1 w1 ⟨l,e,tv,xs,rfl,htk,hb1,hrow,hrows,hll⟩
  obtain ⟨opf,hrun,hend⟩:=balanced_all (o:=o) (by rw [HO.out]) T htk
  rw [show o.strict=!loose by rw [HO.out]] at hrun
  have HRUN:=Lib.hid hrun
  have HEND:=Lib.hid hend
  have HB1:=Lib.hid hb1
  have HROWS:=Lib.hid hrows
  have HROW:=Lib.hid hrow
  have hrd:=Lib.hid (fun (w':World) (hb:Below w0.heap.size w0 w')=>reads_c w' (HE.out.below hb))
  have HL9:=Lib.hid (show l.length ≤ 1000000000 by have:=HTL.out;omega)
  obtain ⟨sa1,sl1,sc1,rfl⟩:=ownsRow_slice hrow
  have hq1:=row_len hrow
  subst hq1
  clear htk hb1 hrow hrows hll hrun hend HT HZ
  go_simp
  (repeat (first|(with_reducible first|refine zA fun K hK=>?_|refine zB ?_|refine zC ?_)|((with_reducible first|refine zD rfl fun K hK=>?_|refine zE fun K hK=>?_);go_simp)|(with_reducible first|((repeat ((fail_if_success refine hK _ _ ?_);clear hK K));refine hK _ _ ?_;clear hK K)|refine zt ?_|refine zf ?_|refine zG ?_|refine zR ?_|refine zK ?_|refine zL ?_|refine zN ?_|refine zS ?_)|simp only [Exit.then,Exit.inBlock,Exit.noGoto,↓reduceIte,Nat.reduceEqDiff]|simp only [undef,reduceCtorEq,↓reduceIte]))
  (refine wp_keep [2,10,11,40,41,42] (fun f=>?_);simp only [keep_cons,keep_nil,lk_cons,lk_nil,Nat.reduceEqDiff,↓reduceIte])
  have hcs:∃ g,(0 < l.length → g < w1.heap.size∧Value.slice sa1 l.length sc1=.slice (some ⟨g,0,none⟩) l.length sc1∧∀ k u,xs[k]?=some u → w1.cell? ⟨g,k,none⟩=some u):=by
    rcases Nat.eq_zero_or_pos l.length with h0|hpos
    · exact ⟨0,fun h=>by omega⟩
    · obtain ⟨g,cap,he,_,hg,_,_,hcell⟩:=row_cell HROW.out hpos
      simp only [Value.slice.injEq] at he
      obtain ⟨rfl,_,rfl⟩:=he
      exact ⟨g,fun _=>⟨hg,rfl,hcell⟩⟩
  obtain ⟨g,hcs⟩:=hcs
  refine balLoop T loose w1 l HL9.out _ g sc1 (fun h=>(hcs h).1) (fun i ts hi p hp=>bal_cells HROWS.out (hcs (Nat.lt_of_le_of_lt (Nat.zero_le _) (List.getElem?_eq_some_iff.1 hi).1)).2.2 hi hp) opf HRUN.out _ ?_ _ ?_ f _ (by kernel_rfl)
  · rcases Nat.eq_zero_or_pos l.length with h0|hpos
    · exact Or.inr (List.eq_nil_of_length_eq_zero h0)
    · exact Or.inl (hcs hpos).2.1
  · intro f w' ov hb' hop
    have HBX:=Lib.hid (HB1.out.trans (hb'.mono HB1.out.size))
    obtain ⟨xo,ho1,_⟩:=hop.ex
    obtain ⟨oa,on,oc,rfl⟩:=ownsRow_slice ho1
    have hq2:=row_len ho1
    subst hq2
    clear hb' hcs hop ho1
    have hc:e=.eof ∨ ((EK.code e:Nat):Int)=1 ∨ ((EK.code e:Nat):Int)=2 ∨ ((EK.code e:Nat):Int)=3:=by cases e <;> simp [EK.code]
    rcases hc with rfl|hc|hc|hc
    · rw [HEND.out rfl,show (((EK.eof).code:Nat):Int)=0 from rfl]
      (repeat (first|(with_reducible first|refine zA fun K hK=>?_|refine zB ?_|refine zC ?_)|((with_reducible first|refine zD rfl fun K hK=>?_|refine zE fun K hK=>?_);go_simp)|(with_reducible first|((repeat ((fail_if_success refine hK _ _ ?_);clear hK K));refine hK _ _ ?_;clear hK K)|refine zt ?_|refine zf ?_|refine zG ?_|refine zR ?_|refine zK ?_|refine zL ?_|refine zN ?_|refine zS ?_)|simp only [Exit.then,Exit.inBlock,Exit.noGoto,↓reduceIte,Nat.reduceEqDiff]|simp only [undef,reduceCtorEq,↓reduceIte]))
      refine (hrd.out w' HBX.out).mono ?_
      rintro e4 w4 ⟨rfl,hb4⟩
      have HB4:=Lib.hid hb4
      clear hb4
      go_simp
      (repeat (first|(with_reducible first|refine zA fun K hK=>?_|refine zB ?_|refine zC ?_)|((with_reducible first|refine zD rfl fun K hK=>?_|refine zE fun K hK=>?_);go_simp)|(with_reducible first|((repeat ((fail_if_success refine hK _ _ ?_);clear hK K));refine hK _ _ ?_;clear hK K)|refine zt ?_|refine zf ?_|refine zG ?_|refine zR ?_|refine zK ?_|refine zL ?_|refine zN ?_|refine zS ?_)|simp only [Exit.then,Exit.inBlock,Exit.noGoto,↓reduceIte,Nat.reduceEqDiff]|simp only [undef,reduceCtorEq,↓reduceIte]))
      (refine fr_out1 rfl (by decide) (by simp only [lk_cons,lk_nil,Nat.reduceEqDiff,↓reduceIte];rfl) ?_)
      exact ⟨rfl,HBX.out.trans (HB4.out.mono HBX.out.size)⟩
    all_goals
      rw [hc]
      clear hc
      (repeat (first|(with_reducible first|refine zA fun K hK=>?_|refine zB ?_|refine zC ?_)|((with_reducible first|refine zD rfl fun K hK=>?_|refine zE fun K hK=>?_);go_simp)|(with_reducible first|((repeat ((fail_if_success refine hK _ _ ?_);clear hK K));refine hK _ _ ?_;clear hK K)|refine zt ?_|refine zf ?_|refine zG ?_|refine zR ?_|refine zK ?_|refine zL ?_|refine zN ?_|refine zS ?_)|simp only [Exit.then,Exit.inBlock,Exit.noGoto,↓reduceIte,Nat.reduceEqDiff]|simp only [undef,reduceCtorEq,↓reduceIte]))
      refine (hrd.out w' HBX.out).mono ?_
      rintro e4 w4 ⟨rfl,hb4⟩
      have HB4:=Lib.hid hb4
      clear hb4
      go_simp
      (repeat (first|(with_reducible first|refine zA fun K hK=>?_|refine zB ?_|refine zC ?_)|((with_reducible first|refine zD rfl fun K hK=>?_|refine zE fun K hK=>?_);go_simp)|(with_reducible first|((repeat ((fail_if_success refine hK _ _ ?_);clear hK K));refine hK _ _ ?_;clear hK K)|refine zt ?_|refine zf ?_|refine zG ?_|refine zR ?_|refine zK ?_|refine zL ?_|refine zN ?_|refine zS ?_)|simp only [Exit.then,Exit.inBlock,Exit.noGoto,↓reduceIte,Nat.reduceEqDiff]|simp only [undef,reduceCtorEq,↓reduceIte]))
      (refine fr_out1 rfl (by decide) (by simp only [lk_cons,lk_nil,Nat.reduceEqDiff,↓reduceIte];rfl) ?_)
      exact ⟨rfl,HBX.out.trans (HB4.out.mono HBX.out.size)⟩
theorem bal_all (T:Bs) (pcA:Option Addr) (pcN pcC:Nat) (pcs:List Int) (loose:Bool) (A:Option Addr) (C:Nat) (au:List Bs) (w:World) (hE:EnvA w) (hp:PcOk w pcA pcN pcC pcs) (hau:AuR w A C au) :
    Calls Tryz.prog 3 #[strV T,.slice pcA pcN pcC,.bool loose,.slice A au.length C] w fun e w'=>e=.returned (.bool true)∧Below w.heap.size w w':=by
  by_cases h:65536 < T.length ∨ 2147483647 < pcN ∨ fitsL au=false
  · exact balBig T pcA pcN pcC loose A C au w hau h
  · exact balanced_c T (by omega) pcA pcN pcC pcs (by omega) loose A C au (by cases hf:fitsL au <;> simp_all) w hE hp hau
end Go.Proofs.YtkjnockljapnbaaGreatDoor
namespace Go.Proofs.YtkjnockljapnbaaGreatDoor
open Go Go.RowKit Go.ChangeShapes Go.WideShapes Go.ChangeAt Go.Shelf
abbrev theLaid:List (String × DataW Unit):=Rows.fnLooseReferencesRow.laid
def u8Ren:Ren:=⟨fun x=>x,fun n=>if n=5 then 5 else if n=119 then 234 else if n=138 then 236 else 237,fun n=>if n=3 then 6 else 7⟩
theorem u8Types:U8Types Tryz.prog u8Ren:=⟨by kernel_rfl,by kernel_rfl,by kernel_rfl,by kernel_rfl⟩
theorem u8Extra:U8Extra Tryz.prog u8Ren:=⟨by kernel_rfl,by kernel_rfl,by kernel_rfl,by kernel_rfl,by kernel_rfl,by kernel_rfl,by kernel_rfl⟩
theorem errRow (u:TypeId) (h:Tryz.prog.typeName? 3 u=some "*errors.errorString"):u=177:=
  typeName_ptr_named (nm := "errors.errorString") (by rw [show "*" ++ "errors.errorString" = "*errors.errorString" by decide];kernel_rfl) (by kernel_rfl) (by decide) u (by rw [show "*" ++ "errors.errorString" = "*errors.errorString" by decide];exact h)
theorem sentinel_of {w:World} {n:String} {text:List UInt8} {g:Nat} (h:laidMet Tryz.prog [(n,.iface "*errors.errorString" (.ptr (.agg [.lit (.string text)])))] w) (hg:Tryz.prog.globalNamed n=some g) (ht:(Tryz.prog.globals[g]?).map (·.type)=some 55) :
    (∃ a:Addr,w.cell? ⟨g,0,none⟩=some (errV a)∧a.block < w.heap.size)∧g < w.heap.size:=by
  obtain ⟨a,s,hv,hc,_,_⟩:=laid_sentinel h hg ht Tryz.underlying55 errRow Tryz.underlying177 Tryz.underlying179 rfl rfl Tryz.underlying9 (by kernel_rfl) (by kernel_rfl)
  have h1:w.cell? ⟨g,0,none⟩=some (errV a):=by simpa using World.var?_cell hg hv 0
  exact ⟨⟨a,h1,World.block_lt_of_cell? w a hc⟩,World.block_lt_of_cell? w _ h1⟩
theorem one_eof:((theLaid.filter fun x=>x.2.handleName?.isNone).filter fun x=>x.1 == "io.EOF")=[("io.EOF", Rows.laid_io_EOF)]:=by kernel_rfl
theorem one_syn:((theLaid.filter fun x=>x.2.handleName?.isNone).filter fun x=>x.1 == "strconv.ErrSyntax")=[("strconv.ErrSyntax", Rows.laid_strconv_ErrSyntax)]:=by kernel_rfl
theorem one_rng:((theLaid.filter fun x=>x.2.handleName?.isNone).filter fun x=>x.1 == "strconv.ErrRange")=[("strconv.ErrRange", Rows.laid_strconv_ErrRange)]:=by kernel_rfl
theorem one_fst:((theLaid.filter fun x=>x.2.handleName?.isNone).filter fun x=>x.1 == "unicode/utf8.first")=[("unicode/utf8.first", Rows.laid_unicode_utf8_first)]:=by kernel_rfl
theorem one_acc:((theLaid.filter fun x=>x.2.handleName?.isNone).filter fun x=>x.1 == "unicode/utf8.acceptRanges")=[("unicode/utf8.acceptRanges", Rows.laid_unicode_utf8_acceptRanges)]:=by kernel_rfl
theorem acc_eq:(Rows.laid_unicode_utf8_acceptRanges:DataW Unit)=Lib.acceptData:=by kernel_rfl
theorem fst_eq:Rows.laid_unicode_utf8_first=Lib.firstData:=Pinned.utf8First_eq
theorem env_of_laid {w:World} (h:laidMetH Tryz.prog theLaid w):Env w:=by
  have h':=(laidMetH_iff.1 h).1
  have e1:=h'.filter fun x=>x.1 == "io.EOF"
  have e2:=h'.filter fun x=>x.1 == "strconv.ErrSyntax"
  have e3:=h'.filter fun x=>x.1 == "strconv.ErrRange"
  have e4:=h'.filter fun x=>x.1 == "unicode/utf8.first"
  have e5:=h'.filter fun x=>x.1 == "unicode/utf8.acceptRanges"
  rw [one_eof] at e1
  rw [one_syn] at e2
  rw [one_rng] at e3
  rw [one_fst,fst_eq] at e4
  rw [one_acc,acc_eq] at e5
  obtain ⟨⟨a1,b1,c1⟩,d1⟩:=sentinel_of (g:=0) e1 (by kernel_rfl) (by kernel_rfl)
  obtain ⟨⟨a2,b2,c2⟩,d2⟩:=sentinel_of (g:=8) e2 (by kernel_rfl) (by kernel_rfl)
  obtain ⟨⟨a3,b3,c3⟩,d3⟩:=sentinel_of (g:=9) e3 (by kernel_rfl) (by kernel_rfl)
  have hu:Lib.Utf8Tabs (u8Ren.g 3) (u8Ren.g 4) w:=utf8Tabs_of_readsT u8Types u8Extra (Lib.laidMet.reads e4 (.head _)) (Lib.laidMet.reads e5 (.head _))
  exact ⟨⟨a1,b1,c1⟩,d1,hu,⟨⟨a2,b2⟩,⟨a3,b3⟩⟩,d2,d3⟩
theorem laidMet_lay' {P:Program} {w0:World} {laid:List (String × DataW Unit)} (hf:w0.layFits P laid []=true) (hi:w0.layIfaces P laid (w0.layVars P laid)=true):laidMet P laid (w0.layVars P laid):=by
  have e1:(laid.filter fun x=>(laid.map (·.1)).contains x.1)=laid:=List.filter_eq_self.2 fun x hx=>List.contains_iff_mem.2 (List.mem_map.2 ⟨x,hx,rfl⟩)
  have e2:(laid.filter fun x=>!(laid.map (·.1)).contains x.1)=[]:=List.filter_eq_nil_iff.2 fun x hx=>by rw [List.contains_iff_mem.2 (List.mem_map.2 ⟨x,hx,rfl⟩)];simp
  exact laidMet_layVars (w0:=w0) (laid.map (·.1)) [] (by rw [e1]) (by rw [e1];exact hf) (by rw [e1];exact hi) (by rw [e2];exact LaidIn.none)
abbrev plainLaid:List (String × DataW Unit):=theLaid.filter fun x=>x.2.handleName?.isNone
noncomputable def hdlU:Nat:=((Tryz.prog.cutTypes.find? (·.1 == "internal/reflectlite.rtype")).map (·.2)).getD 0
noncomputable def hdlT:Nat:=((List.range Tryz.prog.types.size).find? fun t=>Tryz.prog.rowNamed t [101,114,114,111,114]).getD 0
noncomputable def seedWorld (os:Os):World:=
  { World.holding Tryz.prog os ⟨#[],#[],[]⟩ with heap:=(World.holding Tryz.prog os ⟨#[],#[],[]⟩).heap.modify 1 fun
      | .cells _ t frozen=>.cells #[.iface hdlU (.agg #[typeHandle Tryz.prog hdlT])] t frozen
      | o=>o }
noncomputable def laidWorld (os:Os):World:=(seedWorld os).layVars Tryz.prog plainLaid
theorem laid_met (os:Os) (args:Array Value):laidMetH Tryz.prog theLaid ((laidWorld os).forCall (fun _ _=>0) ⟨#[],args,[]⟩).memory:=by
  refine laidMetH_of_parts ((laidMet_lay' (w0:=seedWorld os) (laid:=plainLaid) (by kernel_rfl) (by kernel_rfl)).of_heap (by simp [laidWorld,World.memory,World.forCall,Input.heap])) (by kernel_rfl)
theorem own:ownKnob Tryz.prog.godebug=none:=by kernel_rfl
end Go.Proofs.YtkjnockljapnbaaGreatDoor
namespace Go.Proofs.YtkjnockljapnbaaGreatDoor
open Go Go.RowKit Go.ChangeShapes Go.WideShapes Go.ChangeAt Go.Shelf
theorem one_asc:((theLaid.filter fun x=>x.2.handleName?.isNone).filter fun x=>x.1 == "unicode.asciiFold")=[("unicode.asciiFold", Rows.laid_unicode_asciiFold)]:=by kernel_rfl
theorem asc_eq:(Rows.laid_unicode_asciiFold:DataW Unit)=Lib.tabData .u16 afL:=by kernel_rfl
theorem two_err:((theLaid.filter fun x=>x.2.handleName?.isNone).filter fun x=>x.1 == "strconv.ErrSyntax" || x.1 == "io.EOF")=[("strconv.ErrSyntax", Rows.laid_strconv_ErrSyntax),("io.EOF", Rows.laid_io_EOF)]:=by kernel_rfl
theorem one_hdl:(theLaid.filter fun x=>x.2.handleName?.isSome)=[("errors.errorType", Rows.laid_errors_errorType)]:=by kernel_rfl
theorem only_error:((List.range Tryz.prog.types.size).all fun ty=>!(Tryz.prog.rowNamed ty [101,114,114,111,114]) || ty == 55)=true:=by kernel_rfl
theorem hdl_rt:(Tryz.prog.cutTypes.find? (·.1 == "internal/reflectlite.rtype")).map (·.2)=some 183:=by kernel_rfl
theorem hdl_name:(Rows.laid_errors_errorType:DataW Unit).handleName?=some [101,114,114,111,114]:=by kernel_rfl
theorem hdl_ptr:typeHandle Tryz.prog 55=.pointer (some ⟨16,55,none⟩):=by kernel_rfl
theorem one_orb:((theLaid.filter fun x=>x.2.handleName?.isNone).filter fun x=>x.1 == "unicode.caseOrbit")=[("unicode.caseOrbit", Rows.laid_unicode_caseOrbit)]:=by kernel_rfl
theorem one_cr:((theLaid.filter fun x=>x.2.handleName?.isNone).filter fun x=>x.1 == "unicode.CaseRanges")=[("unicode.CaseRanges", Rows.laid_unicode_CaseRanges)]:=by kernel_rfl
theorem cr_eq:(Rows.laid_unicode_CaseRanges:DataW Unit)=Lib.caseData:=Pinned.caseRanges_eq
def orbRow (p:Nat × Nat):DataW Unit:=.agg [.lit (.int .u16 (p.1:Nat)),.lit (.int .u16 (p.2:Nat))]
def orbData:DataW Unit:=.slice (orbL.map orbRow) []
theorem orb_eq:(Rows.laid_unicode_caseOrbit:DataW Unit)=orbData:=by kernel_rfl
def crRen:Ren:=⟨Tryz.lays274_ren.f,Tryz.lays274_ren.t,fun _=>5⟩
theorem crVar_of_reads {w:World} (h:Lib.VarReads Tryz.prog w "unicode.CaseRanges" Lib.caseData):Lib.CaseVar 5 Lib.caseA w:=
  caseVar_of_reads (ρ:=crRen) { Tryz.lays274 with } (by kernel_rfl) ⟨by kernel_rfl,by kernel_rfl,by kernel_rfl,by kernel_rfl,by kernel_rfl,by kernel_rfl⟩ h
theorem orbTab_of_reads {w:World} (h:Lib.VarReads Tryz.prog w "unicode.caseOrbit" orbData):OrbTab w:=by
  obtain ⟨g,t,cs,fuel,p,hg,hty,hvar,hd⟩:=h
  obtain rfl:=Option.some.inj ((show Tryz.prog.globalNamed "unicode.caseOrbit" = some 4 by kernel_rfl).symm.trans hg)
  obtain rfl:=Option.some.inj ((show (Tryz.prog.globals[4]?).map (·.type)=some 207 by kernel_rfl).symm.trans hty)
  rcases DataW.trod_slice Tryz.underlying207 hd with ⟨_,hx'⟩|⟨a',len,cap,el,rs,m,rfl,hc0,hx',_,hlc,_,hel,helem,hsp,_⟩
  · cases hx'
  have e0:=congrArg Prod.fst hx'
  simp only [orbData,DataW.slice.injEq] at e0
  obtain ⟨eE,eR⟩:=e0
  have hlen:len=orbL.length:=by
    have:=congrArg List.length eE
    simp at this
    omega
  have c2:Tryz.prog.cellsOf 209=2:=by kernel_rfl
  have c1:Tryz.prog.cellsOf 205=1:=by kernel_rfl
  have hrow:∀ i q,orbL[i]?=some q → ∀ j,j < 2 → w.cell? ((a'.add (i * 2)).add j)=([.int .u16 (q.1:Nat),.int .u16 (q.2:Nat)]:List Value)[j]?:=by
    intro i q hq j hj
    have hi:i < len:=by rw [hlen];exact (List.getElem?_eq_some_iff.1 hq).1
    have h1:=helem i hi
    rw [c2] at h1
    obtain ⟨b,hb⟩:∃ b,el[i]?=some b:=⟨el[i]'(by omega),List.getElem?_eq_getElem (by omega)⟩
    rw [hb] at h1
    obtain ⟨ce,hce,hte⟩:=Option.bind_eq_some_iff.1 h1
    have hb1:b.1=orbRow q:=by
      have:=congrArg (·[i]?) eE
      simp only [List.getElem?_map,hb,hq,Option.map_some,Option.some.injEq] at this
      exact this.symm
    obtain ⟨y0,y1,n,hx,hl,t0,t1⟩:=trod_struct2 Tryz.underlying209 hte
    rw [hx] at hb1
    simp only [orbRow,DataW.agg.injEq,List.cons.injEq,and_true] at hb1
    obtain ⟨e0,e1⟩:=hb1
    change DataW.trod _ _ _ _ _ _ _ 205 ((ce.drop 0).take (Tryz.prog.cellsOf 205))=some y0 at t0
    change DataW.trod _ _ _ _ _ _ _ 205 ((ce.drop 1).take (Tryz.prog.cellsOf 205))=some y1 at t1
    rw [c1] at t0 t1
    rw [c2] at hl
    have g0:ce[0]?=some (.int .u16 (q.1:Nat)):=by
      obtain ⟨z,hz,hx',_⟩:=DataW.trod_int Tryz.underlying205 t0
      rw [hx'] at e0
      cases e0
      exact at_of_take hz
    have g1:ce[1]?=some (.int .u16 (q.2:Nat)):=by
      obtain ⟨z,hz,hx',_⟩:=DataW.trod_int Tryz.underlying205 t1
      rw [hx'] at e1
      cases e1
      exact at_of_take hz
    have hcs:ce=[.int .u16 (q.1:Nat),.int .u16 (q.2:Nat)]:=by
      match ce,hl,g0,g1 with
      | [c0,c1],_,g0,g1=>
        simp at g0 g1
        subst g0 g1
        rfl
    obtain ⟨_,_,hcc⟩:=World.cells?_some hce
    rw [hcc j hj,hcs]
  obtain ⟨R,oR,sR⟩:=a'
  obtain rfl:sR=none:=by
    have h00:=hrow 0 (75,107) rfl 0 (by omega)
    have:(Addr.add (Addr.add ⟨R,oR,sR⟩ (0 * 2)) 0)=⟨R,oR,sR⟩:=by simp [Addr.add]
    rw [this] at h00
    exact cell_spot h00
  have hv:w.cell? ⟨4,0,none⟩=some (.slice (some ⟨R,oR,none⟩) 94 cap):=by
    rw [World.var?_cell hg hvar 0,← Array.getElem?_toList,hc0,hlen,orbL_len]
    rfl
  have h9:=fun i q hq=>hrow i q hq
  refine ⟨⟨R,oR,cap,hv,?_,fun i a ha=>?_⟩,World.block_lt_of_cell? w _ hv⟩
  · have h00:=hrow 0 (75,107) rfl 0 (by omega)
    rw [Addr.add_lit,Addr.add_lit] at h00
    exact World.block_lt_of_cell? w _ h00
  · have k0:=hrow i a ha 0 (by omega)
    have k1:=hrow i a ha 1 (by omega)
    rw [Addr.add_lit,Addr.add_lit] at k0 k1
    exact ⟨by simpa using k0,by simpa using k1⟩
theorem env_all {w:World} (h:laidMetH Tryz.prog theLaid w):EnvA w:=by
  have hE:=env_of_laid h
  obtain ⟨h',hh⟩:=laidMetH_iff.1 h
  have e1:=h'.filter fun x=>x.1 == "unicode.asciiFold"
  rw [one_asc,asc_eq] at e1
  have e2:=h'.filter fun x=>x.1 == "strconv.ErrSyntax" || x.1 == "io.EOF"
  rw [two_err] at e2
  have ht:=Lib.tabIs_of_head (g:=3) (t:=206) (e:=205) (n:=128) (by kernel_rfl) (by kernel_rfl) Tryz.underlying206 Tryz.underlying205 (by kernel_rfl) (by kernel_rfl) e1
  have hlen:afL.length=128:=by simp [afL]
  have hcell:=fun i (hi:i < afL.length)=>ht.cell (g:=3) (by kernel_rfl) i hi
  have hlt:3 < w.heap.size:=World.block_lt_of_cell? w _ (hcell 0 (by rw [hlen];omega))
  obtain ⟨a0,a1,s0,s1,c0,c1,t0,t1,v0,v1,_,_,_,_,_,_,_,b0,b1⟩:=laid_sentinels2 (g0:=8) (g1:=0) e2 (by kernel_rfl) (by kernel_rfl) (by kernel_rfl) (by kernel_rfl) Tryz.underlying55 errRow Tryz.underlying177 Tryz.underlying179 rfl rfl Tryz.underlying9 (by kernel_rfl) (by kernel_rfl)
  have hv:w.cell? ⟨0,0,none⟩=some (errV a1):=by simpa using World.var?_cell (g:=0) (by kernel_rfl) v1 0
  have het:w.cell? ⟨1,0,none⟩=some (rtI 55):=by
    have hx:=hh ("errors.errorType", Rows.laid_errors_errorType) (by rw [one_hdl];simp)
    have hx2:∃ name u ty,(Rows.laid_errors_errorType:DataW Unit).handleName?=some name∧(Tryz.prog.cutTypes.find? (·.1 == "internal/reflectlite.rtype")).map (·.2)=some u∧ty < Tryz.prog.types.size∧Tryz.prog.rowNamed ty name=true ∧
      w.var? Tryz.prog "errors.errorType" = some #[.iface u (.agg #[typeHandle Tryz.prog ty])]:=hx
    obtain ⟨name,u,ty,h1,h2,h3,h4,h5⟩:=hx2
    rw [hdl_name] at h1
    rw [hdl_rt] at h2
    simp only [Option.some.injEq] at h1 h2
    subst h1 h2
    have h6:=List.all_eq_true.1 only_error ty (List.mem_range.2 h3)
    rw [h4] at h6
    have h7:ty=55:=by simpa using h6
    subst h7
    rw [hdl_ptr] at h5
    simpa using World.var?_cell (g:=1) (by kernel_rfl) h5 0
  have e3:=h'.filter fun x=>x.1 == "unicode.caseOrbit"
  rw [one_orb,orb_eq] at e3
  have e4:=h'.filter fun x=>x.1 == "unicode.CaseRanges"
  rw [one_cr,cr_eq] at e4
  refine ⟨hE,⟨fun i hi=>hcell i (by rw [hlen];exact hi),hlt⟩,hlt,?_,?_,fun a ha=>?_,orbTab_of_reads (Lib.laidMet.reads e3 (.head _)),crVar_of_reads (Lib.laidMet.reads e4 (.head _))⟩
  · exact het
  · exact World.block_lt_of_cell? w _ het
  · rw [hv] at ha
    simp only [Option.some.injEq,Value.iface.injEq,Value.pointer.injEq,true_and] at ha
    subst ha
    exact ⟨c1,t1,b1⟩
end Go.Proofs.YtkjnockljapnbaaGreatDoor
namespace Go.Proofs.YtkjnockljapnbaaGreatDoor
open Go Go.RowKit Go.ChangeShapes Go.WideShapes Go.ChangeAt Go.Shelf
theorem balLifted (os:Os) (started:os.Started) (H:Type) (enc:TypeId × Value → H) :
    ReturnsInHanded {} Tryz.checked os 3 .any (fun w args=>(Rows.fnBalancedSpec.pre enc Tryz.prog Tryz.f3 [] false w args∧laidMetH Tryz.prog theLaid w)∧sizedMet enc Tryz.prog Tryz.f3 (OpenSpec.ofChange Rows.fnBalancedSpec) false w args)
      (Rows.fnBalancedSpec.post enc Tryz.prog Tryz.f3 false true false false):=by
  refine returnsInHanded_of_change_and (C:=Tryz.checked) (X:=fun w _=>laidMetH Tryz.prog theLaid w) (fun _ _ _ hh h=>h.of_heap hh) own started (by kernel_rfl) Tryz.func3
    (ChangeSpec.witness_shaped (enc:=enc) (C:=Tryz.checked) (os:=os) (X:=fun w _=>laidMetH Tryz.prog theLaid w) false (laidWorld os) #[.string ⟨#[]⟩,.slice none 0 0,.bool false,.slice none 0 0] 8 (World.layVars_os _ _ _)
      (World.shaped_of_ZipB (by kernel_rfl) (by kernel_rfl)) (by kernel_rfl) (by kernel_rfl) (by kernel_rfl)
      (laid_met os _)) ?_
  intro W base args ds gs before hval0 hW _ _ hL _
  have hval:∀ (j:Nat) t v,Tryz.f3.params[j]?=some t → args[j]?=some v → Value.okWide Tryz.prog W .any base t v:=hval0
  have hW':=hW
  obtain ⟨p,q,hA0,hV,rfl,_,_⟩:=hW
  have hA:DataW.TrodAll enc Tryz.prog W 0 (fun _=>true) true Tryz.f3.params.toList args.toList ds p:=hA0
  rw [Tryz.params3] at hA hval
  obtain ⟨v0,v1,v2,v3,d0,d1,d2,d3,p0,p1,p2,p3,rfl,rfl,rfl,h0,h1,h2,h3⟩:=trodAll_four hA
  obtain ⟨rfl,rfl⟩:=trodVars_none hV
  obtain ⟨x0,rfl,rfl,rfl,hx0⟩:=Go.ChangeMaps.open_string Tryz.underlying9 (hval 0 9 v0 rfl rfl) h0
  obtain ⟨pa,pl,pc,rfl⟩:=Go.WideShapes.okWide_slice Tryz.underlying22 (hval 1 22 _ rfl rfl)
  have h1k:=h1
  have hpc:∃ pcs,PcOk W pa pl pc pcs:=by
    obtain ⟨fuel,hf⟩:=h1
    rcases Go.ChangeShapes.open_ints Tryz.underlying22 Tryz.underlying3 (by kernel_rfl) hf with ⟨hcs,_⟩|⟨a,len,cap,zs,hcs,_,hle,hmax,hall,_,hcell,_⟩
    · simp [Value.cells] at hcs
      obtain ⟨rfl,rfl,rfl⟩:=hcs
      exact ⟨[],by omega,by omega,fun h=>by omega⟩
    · simp [Value.cells] at hcs
      obtain ⟨rfl,rfl,rfl⟩:=hcs
      have hzl:zs.length=pc:=by simpa using hall
      refine ⟨zs,by unfold maxLen at hmax;omega,hle,fun hp=>?_⟩
      obtain ⟨b,off,rfl,hc⟩:=ints_at hcell (by omega)
      exact ⟨b,off,rfl,World.block_lt_of_cell? W _ (hc 0 (by omega)),fun j hj=>hc j (by omega)⟩
  obtain ⟨pcs,hpc⟩:=hpc
  obtain ⟨b2,rfl,rfl,rfl⟩:=RowKit.open_bool Tryz.underlying4 (hval 2 4 v2 rfl rfl) h2
  obtain ⟨sa,sl,sc,rfl⟩:=Go.WideShapes.okWide_slice Tryz.underlying23 (hval 3 23 _ rfl rfl)
  have h3k:=h3
  have hau:∃ au,sl=au.length∧AuR W sa sc au:=by
    obtain ⟨fuel,hf⟩:=h3
    rcases open_strings Tryz.underlying23 Tryz.underlying9 (by kernel_rfl) hf with ⟨hcs,_⟩|⟨a,len,cap,ss,hcs,_,hle,hmax,hall,_,hcell,_⟩
    · simp [Value.cells] at hcs
      obtain ⟨rfl,rfl,rfl⟩:=hcs
      exact ⟨[],rfl,AuR.nil _ _ _⟩
    · simp [Value.cells] at hcs
      obtain ⟨rfl,rfl,rfl⟩:=hcs
      exact AuR.of hle (by simpa using hall) hcell
  obtain ⟨au,rfl,hau⟩:=hau
  simp only [List.append_nil,List.nil_append] at hW'
  refine (bal_all x0.data.toList pa pl pc pcs b2 sa sc au W (env_all hL) hpc hau).mono fun e W' ⟨he,hb⟩=>?_
  subst he
  have hlt:∀ y ∈ p1,y.block < W.heap.size:=fun y hy=>by simpa using hW'.lt y (by simp [hy])
  have hlt3:∀ y ∈ p3,y.block < W.heap.size:=fun y hy=>by simpa using hW'.lt y (by simp [hy])
  have hargs:=trodAll_mk4 (Go.ChangeMaps.shut_string Tryz.underlying9 hx0) (Below.trod (P:=Tryz.prog) (by kernel_rfl) (by kernel_rfl) (of_decide_eq_true (by kernel_rfl)) h1k hb hlt) (shut_bool Tryz.underlying4 b2) (Below.trod (P:=Tryz.prog) (by kernel_rfl) (by kernel_rfl) (of_decide_eq_true (by kernel_rfl)) h3k hb hlt3)
  exact ⟨_,rfl,_,_,_,[],_,[],hW',trodAll_mk1 (shut_bool Tryz.underlying4 _),hargs,rfl,hb.frame _,fun h=>by cases h⟩
end Go.Proofs.YtkjnockljapnbaaGreatDoor
