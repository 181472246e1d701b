/- Part of the proof that laws.FnBeginning, laws.FnPlaces returns true for every argument (Ba, Bb, Bc, Bd). No condition of its own. -/
import Derived.Test.YtkjnockljapnbaaGreatDoorK48
import Derived.Test.YtkjnockljapnbaaGreatDoorK50
import Derived.Test.YtkjnockljapnbaaGreatDoorK49
import Derived.OpenShut
import Derived.Carry
set_option linter.all false
set_option maxHeartbeats 8000000
set_option maxRecDepth 100000
namespace Go.Proofs.YtkjnockljapnbaaGreatDoor
open Go
theorem begin_plain {fold:Bs → Bs → Bool} {o:Opt} (ha:o.auto=[]) (hst:o.strict=true) (T:Bs) {l l':List (RTok × St)} {e e':EK} (hT:Toks fold o (St.init T) l e) (n:Nat) (p:RTok × St) (hp:l[n]?=some p)
    (hT':Toks fold o (St.init (T.take (p.2.at' T))) l' e'):∀ i,i ≤ n → ∃ q,(plains T l)[i]?=some q∧(plains (T.take (p.2.at' T)) l')[i]?=some q:=by
  intro i hi
  obtain ⟨a,b,h1,h2,h3,h4⟩:=begin_law ha hst T hT n p hp hT' i hi
  rw [hp] at h4
  simp only [Option.getD_some] at h4
  refine ⟨a.1.itok (T.take (a.2.at' T)),?_,?_⟩
  · unfold plains
    rw [List.getElem?_map,h1];rfl
  · unfold plains
    rw [List.getElem?_map,h2]
    have h5:((T.take (p.2.at' T)).take (b.2.at' (T.take (p.2.at' T))))=T.take (a.2.at' T):=by
      rw [List.take_take]
      have h6:b.2.at' (T.take (p.2.at' T)) ≤ (T.take (p.2.at' T)).length:=by unfold St.at';omega
      rw [List.length_take] at h6
      rw [h4] at h6 ⊢
      congr 1
      omega
    have h7:(T.take (p.2.at' T)).length - b.2.rest.length=b.2.at' (T.take (p.2.at' T)):=rfl
    simp only [Option.map_some,h7,h5,h3]
theorem plains_len (T:Bs) (l:List (RTok × St)):(plains T l).length=l.length:=by simp [plains]
end Go.Proofs.YtkjnockljapnbaaGreatDoor
namespace Go.Proofs.YtkjnockljapnbaaGreatDoor
open Go Go.RowKit
noncomputable def bgCode (n:Nat):Code:=((Tryz.f4.body).bind (Code.partAt n)).getD .skip
def BgInv (w3:World) (tv2 out:Value) (n:Nat) (k:Nat) (a:Act) (w:World):Prop:=
  ∃ f i,a=fr 85 f [(9,tv2),(57,out),(58,.int .i64 (n:Nat)),(59,.int .i64 (i:Nat))]∧Below w3.heap.size w3 w∧k=n - i∧i ≤ n
theorem bgLoop (w3:World) (L:List ITok) (hL:L.length ≤ 1000000000) (hat:∀ p ∈ L,p.attrs.length ≤ 1000000000) (out:Value) (ho:PlAt w3 L out) (g2 cap2:Nat) (hg2:g2 < w3.heap.size) (len2:Nat) (hcap:L.length ≤ cap2) (hcm:cap2 ≤ maxLen) (hsrc:∀ i p,L[i]?=some p → SrcTok w3 g2 (i * 8) p) (Q:Exit → Act → World → Prop)
    (hQ:∀ f w',Below w3.heap.size w3 w' → Q .normal (fr 85 f []) w') (f:Nat → Value) (c1:Code) (hc1:c1=.loop (bgCode 12)) :
    c1.wp Tryz.prog (Exit.inBlock 0 Q) (fr 85 f [(9,.slice (some ⟨g2,0,none⟩) len2 cap2),(57,out),(58,.int .i64 L.length),(59,.int .i64 0)]) w3:=by
  subst hc1
  have HQ:=Lib.hid hQ
  have HL:=Lib.hid hL
  have HAT:=Lib.hid hat
  have HO:=Lib.hid ho
  have HG2:=Lib.hid hg2
  have HSRC:=Lib.hid hsrc
  have HCAP:=Lib.hid hcap
  have HCM:=Lib.hid hcm
  refine wp_loop_ghost_k (BgInv w3 (.slice (some ⟨g2,0,none⟩) len2 cap2) out L.length) L.length ⟨f,0,rfl,Below.refl _ w3,by simp,Nat.zero_le _⟩ ?_
  clear hQ hL hat ho hg2 hsrc hcap hcm
  rintro k _ w ⟨f,i,rfl,hb,hk,hi⟩ J K2 hJ hK2
  have HJ:=Lib.hid hJ
  have HK2:=Lib.hid hK2
  have HB:=Lib.hid hb
  have HK:=Lib.hid hk
  clear hJ hK2 hb hk
  unfold bgCode
  conv=>arg 2;whnf
  by_cases hlt:i < L.length
  · have h1:(i:Int) < (L.length:Int):=by omega
    have h0:(0:Int) ≤ (i:Int):=by omega
    have hw1:IntKind.i64.wrap ((i:Int) + 1)=((i + 1:Nat):Int):=by rw [IntKind.wrap_i64];have:=HL.out;omega
    obtain ⟨p,hp⟩:∃ p,L[i]?=some p:=⟨L[i],by simp [hlt]⟩
    obtain ⟨go,capo,hov,_,sa,sl,sc,bb,hr,c0,c1,c2,c3,c4,c5⟩:=(HO.out.below HB.out).get hp
    subst hov
    have hs:=HSRC.out i p hp
    obtain ⟨wa,hwa⟩:∃ wa,wa=w.alloc (.cells #[.int .i64 p.kind,strV p.space,strV p.loc,.slice sa sl sc,strV p.text,.int .i64 p.at'] 40):=⟨_,rfl⟩
    have hbl:Below w.heap.size w wa:=by rw [hwa];exact (Below.refl _ w).alloc (Nat.le_refl _) _
    have hba:Blk wa w.heap.size #[.int .i64 p.kind,strV p.space,strV p.loc,.slice sa sl sc,strV p.text,.int .i64 p.at'] 40:=by rw [hwa];exact Blk.new w _ _
    have h5:(i:Int) ≤ (i:Int) + 1:=by omega
    have h6:(i:Int) + 1 ≤ (cap2:Int):=by have:=HCAP.out;omega
    have HBA:=Lib.hid hba
    have HBL:=Lib.hid hbl
    have HS:=Lib.hid hs
    have HR:=Lib.hid hr
    have HP:=Lib.hid hp
    clear hba hbl hs hr hp
    (repeat ((fail_if_success with_reducible refine wp_stop 14 ?_);(fail_if_success with_reducible refine wp_stop2 14 ?_);(first|(with_reducible first|refine zA fun K hK=>?_|refine zB ?_|refine zC ?_)|((with_reducible first|refine zD rfl fun K hK=>?_|refine zE fun K hK=>?_);go_simp)|(with_reducible first|((repeat ((fail_if_success refine hK _ _ ?_);clear hK K));refine hK _ _ ?_;clear hK K)|refine zT (by go_simp;first|done|omega) ?_|refine zF (by go_simp;first|done|omega) ?_|refine zG ?_|refine zR ?_|refine zK ?_|refine zL ?_|refine zN ?_|refine zS ?_)|simp only [Exit.then,Exit.inBlock,Exit.noGoto,↓reduceIte,Nat.reduceEqDiff]|simp only [undef,reduceCtorEq,↓reduceIte])))
    rw [show w.alloc (.cells #[.int .i64 p.kind,.string ⟨List.toArray p.space⟩,.string ⟨List.toArray p.loc⟩,.slice sa sl sc,.string ⟨List.toArray p.text⟩,.int .i64 p.at'] 40)=wa from hwa.symm]
    clear hwa c0 c1 c2 c3 c4 c5
    have hne:¬ cap2=i:=by have:=HCAP.out;omega
    have hb3a:Below w3.heap.size w3 wa:=HB.out.trans (HBL.out.mono HB.out.size)
    have HB3A:=Lib.hid hb3a
    have HPL:=Lib.hid (plain_c wa [p] (by simp) g2 (i * 8) (cap2 - i) (Nat.lt_of_lt_of_le HG2.out hb3a.size) (fun j q hq=>by
      cases j with
      | zero=>
        simp only [List.getElem?_cons_zero,Option.some.injEq] at hq
        subst hq
        have h9:=HS.out.below hb3a HG2.out
        simpa using h9
      | succ j=>simp at hq))
    clear hb3a
    (repeat (first|(with_reducible first|refine zA fun K hK=>?_|refine zB ?_|refine zC ?_)|((with_reducible first|refine zD rfl fun K hK=>?_|refine zE fun K hK=>?_);go_simp)|(with_reducible first|((repeat ((fail_if_success refine hK _ _ ?_);clear hK K));refine hK _ _ ?_;clear hK K)|refine zT (by go_simp;first|done|omega) ?_|refine zF (by go_simp;first|done|omega) ?_|refine zG ?_|refine zR ?_|refine zK ?_|refine zL ?_|refine zN ?_|refine zS ?_)|simp only [Exit.then,Exit.inBlock,Exit.noGoto,↓reduceIte,Nat.reduceEqDiff]|simp only [undef,reduceCtorEq,↓reduceIte]))
    refine HPL.out.mono ?_
    rintro e5 w5 ⟨out2,xs2,rfl,hb5,hrow5,hrows5⟩
    have hpa:PlAt w5 [p] out2:=⟨_,_,_,hrow5,hrows5⟩
    obtain ⟨g5,cap5,rfl,_,sa5,sl5,sc5,b5,hr5,d0,d1,d2,d3,d4,d5⟩:=hpa.get (i:=0) rfl
    simp only [Nat.zero_mul,Nat.zero_add] at d0 d1 d2 d3 d4 d5
    have hba5:Blk w5 w.heap.size _ _:=Blk.mod (S:=fun _=>False) HBA.out (mod_none hb5 _) id
    obtain ⟨w6,hw6⟩:∃ w6,w6=w5.alloc (.cells #[.int .i64 p.kind,strV p.space,strV p.loc,.slice sa5 sl5 sc5,strV p.text,.int .i64 p.at'] 40):=⟨_,rfl⟩
    have hbl6:Below w5.heap.size w5 w6:=by rw [hw6];exact (Below.refl _ w5).alloc (Nat.le_refl _) _
    have hbb6:Blk w6 w5.heap.size #[.int .i64 p.kind,strV p.space,strV p.loc,.slice sa5 sl5 sc5,strV p.text,.int .i64 p.at'] 40:=by rw [hw6];exact Blk.new w5 _ _
    have hba6:Blk w6 w.heap.size _ _:=Blk.mod (S:=fun _=>False) hba5 (mod_none hbl6 _) id
    have hbw6:Below wa.heap.size wa w6:=hb5.trans (hbl6.mono hb5.size)
    have hrA:w6.ownsRow bb 62 3 (.slice sa sl sc) p.attrs.length (atCells p.attrs):=ownsRow_mod (S:=fun _=>False) (ownsRow_mod (S:=fun _=>False) HR.out (mod_none HBL.out _) (fun _ _=>id)) (mod_none hbw6 _) (fun _ _=>id)
    have hrB:w6.ownsRow b5 62 3 (.slice sa5 sl5 sc5) p.attrs.length (atCells p.attrs):=ownsRow_mod (S:=fun _=>False) hr5 (mod_none hbl6 _) (fun _ _=>id)
    have HAL:=Lib.hid (alike_c w6 p (HAT.out p (List.mem_of_getElem? HP.out)) bb b5 sa sl sc sa5 sl5 sc5 hrA hrB)
    have HB6:=Lib.hid (HB3A.out.trans (hbw6.mono HB3A.out.size))
    have hc6:=hba6.cell
    have hd6:=hbb6.cell
    have HLA:=Lib.hid hba6.lt
    have HLB:=Lib.hid hbb6.lt
    clear hb5 hrow5 hrows5 hpa hr5 hba5 hbl6 hbb6 hba6 hbw6 hrA hrB HPL
    go_simp
    (repeat ((fail_if_success with_reducible refine wp_stop 15 ?_);(fail_if_success with_reducible refine wp_stop2 15 ?_);(first|(with_reducible first|refine zA fun K hK=>?_|refine zB ?_|refine zC ?_)|((with_reducible first|refine zD rfl fun K hK=>?_|refine zE fun K hK=>?_);go_simp)|(with_reducible first|((repeat ((fail_if_success refine hK _ _ ?_);clear hK K));refine hK _ _ ?_;clear hK K)|refine zT (by go_simp;first|done|omega) ?_|refine zF (by go_simp;first|done|omega) ?_|refine zG ?_|refine zR ?_|refine zK ?_|refine zL ?_|refine zN ?_|refine zS ?_)|simp only [Exit.then,Exit.inBlock,Exit.noGoto,↓reduceIte,Nat.reduceEqDiff]|simp only [undef,reduceCtorEq,↓reduceIte])))
    rw [show w5.alloc (.cells #[.int .i64 p.kind,.string ⟨List.toArray p.space⟩,.string ⟨List.toArray p.loc⟩,.slice sa5 sl5 sc5,.string ⟨List.toArray p.text⟩,.int .i64 p.at'] 40)=w6 from hw6.symm]
    clear hw6 d0 d1 d2 d3 d4 d5
    (repeat (first|(with_reducible first|refine zA fun K hK=>?_|refine zB ?_|refine zC ?_)|((with_reducible first|refine zD rfl fun K hK=>?_|refine zE fun K hK=>?_);go_simp)|(with_reducible first|((repeat ((fail_if_success refine hK _ _ ?_);clear hK K));refine hK _ _ ?_;clear hK K)|refine zT (by go_simp;first|done|omega) ?_|refine zF (by go_simp;first|done|omega) ?_|refine zG ?_|refine zR ?_|refine zK ?_|refine zL ?_|refine zN ?_|refine zS ?_)|simp only [Exit.then,Exit.inBlock,Exit.noGoto,↓reduceIte,Nat.reduceEqDiff]|simp only [undef,reduceCtorEq,↓reduceIte]))
    refine HAL.out.mono ?_
    rintro e7 w7 ⟨rfl,hb7⟩
    have HB7:=Lib.hid hb7
    have hc7:w7.cell? ⟨w.heap.size,5,none⟩=some (.int .i64 p.at'):=(hb7.cell (p:=⟨w.heap.size,5,none⟩) HLA.out).trans (hc6 5)
    have hd7:w7.cell? ⟨w5.heap.size,5,none⟩=some (.int .i64 p.at'):=(hb7.cell (p:=⟨w5.heap.size,5,none⟩) HLB.out).trans (hd6 5)
    clear hb7 hc6 hd6 HAL
    go_simp
    (repeat (first|(with_reducible first|refine zA fun K hK=>?_|refine zB ?_|refine zC ?_)|((with_reducible first|refine zD rfl fun K hK=>?_|refine zE fun K hK=>?_);go_simp)|(with_reducible first|((repeat ((fail_if_success refine hK _ _ ?_);clear hK K));refine hK _ _ ?_;clear hK K)|refine zT (by go_simp;first|done|omega) ?_|refine zF (by go_simp;first|done|omega) ?_|refine zG ?_|refine zR ?_|refine zK ?_|refine zL ?_|refine zN ?_|refine zS ?_)|simp only [Exit.then,Exit.inBlock,Exit.noGoto,↓reduceIte,Nat.reduceEqDiff]|simp only [undef,reduceCtorEq,↓reduceIte]))
    (refine K_keep [9,57,58,59] (fun f=>?_);simp only [keep_cons,keep_nil,lk_cons,lk_nil,Nat.reduceEqDiff,↓reduceIte])
    exact HK2.out _ _ ⟨L.length - (i + 1),by rw [HK.out];omega,HJ.out _ _ _ ⟨f,i + 1,rfl,HB6.out.trans (HB7.out.mono HB6.out.size),rfl,hlt⟩⟩
  · have hii:i=L.length:=by omega
    subst hii
    have h1:¬ ((L.length:Int) < (L.length:Int)):=by omega
    (repeat (first|(with_reducible first|refine zA fun K hK=>?_|refine zB ?_|refine zC ?_)|((with_reducible first|refine zD rfl fun K hK=>?_|refine zE fun K hK=>?_);go_simp)|(with_reducible first|((repeat ((fail_if_success refine hK _ _ ?_);clear hK K));refine hK _ _ ?_;clear hK K)|refine zT (by go_simp;first|done|omega) ?_|refine zF (by go_simp;first|done|omega) ?_|refine zG ?_|refine zR ?_|refine zK ?_|refine zL ?_|refine zN ?_|refine zS ?_)|simp only [Exit.then,Exit.inBlock,Exit.noGoto,↓reduceIte,Nat.reduceEqDiff]|simp only [undef,reduceCtorEq,↓reduceIte]))
    refine Q_keep [] (fun f=>?_);simp only [keep_cons,keep_nil,lk_cons,lk_nil,Nat.reduceEqDiff,↓reduceIte]
    exact HQ.out f w HB.out
end Go.Proofs.YtkjnockljapnbaaGreatDoor
namespace Go.Proofs.YtkjnockljapnbaaGreatDoor
open Go Go.RowKit
theorem plains_get {T:Bs} {l:List (RTok × St)} {i:Nat} {q:ITok} (h:(plains T l)[i]?=some q):∃ ts,l[i]?=some ts∧ts.1.itok (T.take (T.length - ts.2.rest.length))=q:=by
  unfold plains at h
  rw [List.getElem?_map] at h
  cases hli:l[i]? with
  | none=>rw [hli] at h;cases h
  | some ts=>rw [hli] at h;exact ⟨ts,rfl,by simpa using h⟩
theorem beginBig (T:Bs) (raw:Bool) (n:Int) (w:World) (h:65536 < T.length):Calls Tryz.prog 4 #[strV T,.bool raw,.int .i64 n] w fun e w'=>e=.returned (.bool true)∧Below w.heap.size w w':=by
  by_cases h2:(2147483647:Int) < (T.length:Int)
  · refine calls_fr (vs:=[_,_,_]) 85 Tryz.func4 rfl rfl (Nat.le_of_ble_eq_true rfl) fun f=>?_
    simp only [argSlots]
    (repeat (first|(with_reducible first|refine zA fun K hK=>?_|refine zB ?_|refine zC ?_)|((with_reducible first|refine zD rfl fun K hK=>?_|refine zE fun K hK=>?_);go_simp)|(with_reducible first|((repeat ((fail_if_success refine hK _ _ ?_);clear hK K));refine hK _ _ ?_;clear hK K)|refine zT (by go_simp;first|done|omega) ?_|refine zF (by go_simp;first|done|omega) ?_|refine zG ?_|refine zR ?_|refine zK ?_|refine zL ?_|refine zN ?_|refine zS ?_)|simp only [Exit.then,Exit.inBlock,Exit.noGoto,↓reduceIte,Nat.reduceEqDiff]|simp only [undef,reduceCtorEq,↓reduceIte]))
    (refine fr_out1 rfl (by decide) (by simp only [lk_cons,lk_nil,Nat.reduceEqDiff,↓reduceIte];rfl) ?_)
    exact ⟨rfl,Below.refl _ w⟩
  have h4:(65536:Int) < (T.length:Int):=by omega
  refine calls_fr (vs:=[_,_,_]) 85 Tryz.func4 rfl rfl (Nat.le_of_ble_eq_true rfl) fun f=>?_
  simp only [argSlots]
  (repeat (first|(with_reducible first|refine zA fun K hK=>?_|refine zB ?_|refine zC ?_)|((with_reducible first|refine zD rfl fun K hK=>?_|refine zE fun K hK=>?_);go_simp)|(with_reducible first|((repeat ((fail_if_success refine hK _ _ ?_);clear hK K));refine hK _ _ ?_;clear hK K)|refine zT (by go_simp;first|done|omega) ?_|refine zF (by go_simp;first|done|omega) ?_|refine zG ?_|refine zR ?_|refine zK ?_|refine zL ?_|refine zN ?_|refine zS ?_)|simp only [Exit.then,Exit.inBlock,Exit.noGoto,↓reduceIte,Nat.reduceEqDiff]|simp only [undef,reduceCtorEq,↓reduceIte]))
  (refine fr_out1 rfl (by decide) (by simp only [lk_cons,lk_nil,Nat.reduceEqDiff,↓reduceIte];rfl) ?_)
  exact ⟨rfl,Below.refl _ w⟩
theorem beginning_c (T:Bs) (hT:T.length ≤ 65536) (raw:Bool) (n:Int) (w:World) (hE:EnvA w) :
    Calls Tryz.prog 4 #[strV T,.bool raw,.int .i64 n] w fun e w'=>e=.returned (.bool true)∧Below w.heap.size w w':=by
  have h2:¬ (2147483647:Int) < (T.length:Int):=by omega
  have h4:¬ (65536:Int) < (T.length:Int):=by omega
  obtain ⟨o,ho⟩:∃ o:Opt,o=⟨raw,true,none,[],[],false⟩:=⟨_,rfl⟩
  have ht:=fun (T':Bs) (hT':T'.length ≤ 65536) (w':World) (hb:Below w.heap.size w w')=>tokens_c T' (by omega) o (by rw [ho]) (by rw [ho]) none 0 0 [] w' (hE.below hb) ⟨by omega,by omega,fun h=>by omega⟩
  have e1:optV o.raw (!o.strict) (.slice none 0 0) o.space=.agg #[.bool raw,.bool false,.slice none 0 0,.slice none 0 0,.string ⟨#[]⟩]:=by rw [ho];simp
  have e2:o.fails=false:=by rw [ho]
  simp only [e1,e2] at ht
  have HT:=Lib.hid ht
  have HO:=Lib.hid ho
  have HE:=Lib.hid hE
  have HTL:=Lib.hid hT
  clear ht ho hE hT e1 e2
  refine calls_fr (vs:=[_,_,_]) 85 Tryz.func4 rfl rfl (Nat.le_of_ble_eq_true rfl) fun f=>?_
  simp only [argSlots]
  (repeat (first|(with_reducible first|refine zA fun K hK=>?_|refine zB ?_|refine zC ?_)|((with_reducible first|refine zD rfl fun K hK=>?_|refine zE fun K hK=>?_);go_simp)|(with_reducible first|((repeat ((fail_if_success refine hK _ _ ?_);clear hK K));refine hK _ _ ?_;clear hK K)|refine zT (by go_simp;first|done|omega) ?_|refine zF (by go_simp;first|done|omega) ?_|refine zG ?_|refine zR ?_|refine zK ?_|refine zL ?_|refine zN ?_|refine zS ?_)|simp only [Exit.then,Exit.inBlock,Exit.noGoto,↓reduceIte,Nat.reduceEqDiff]|simp only [undef,reduceCtorEq,↓reduceIte]))
  refine (HT.out T HTL.out w (Below.refl _ w)).mono ?_
  rintro e1 w1 ⟨l,e,tv,xs,rfl,htk,hb1,hrow,hrows,hll⟩
  have HTK:=Lib.hid (htk (fun _ _=>false))
  have HB1:=Lib.hid hb1
  have HRA:=Lib.hid (show RunAt T w1 tv l xs from ⟨⟨_,hrow⟩,⟨_,hrows⟩⟩)
  have hrd:=Lib.hid (fun (w':World) (hb:Below w.heap.size w w')=>reads_c w' (HE.out.below hb))
  have hats:∀ p ∈ plains T l,p.attrs.length ≤ 1000000000:=fun p hp=>by
    unfold plains at hp
    obtain ⟨ts,h1,rfl⟩:=List.mem_map.1 hp
    have h9:=toks_ats (by rw [HO.out]) HTK.out rfl ts h1 (T.take (T.length - ts.2.rest.length))
    have h8:=HTL.out
    have h7:(St.init T).rest.length=T.length:=rfl
    omega
  have HATS:=Lib.hid hats
  have hl9:l.length ≤ 1000000000:=by have:=HTL.out;omega
  have HL9:=Lib.hid hl9
  obtain ⟨sa1,sl1,sc1,rfl⟩:=ownsRow_slice hrow
  have hq1:=row_len hrow
  subst hq1
  clear htk hb1 hrow hrows hats hl9 hll
  by_cases hn0:n < 0
  · go_simp
    (repeat (first|(with_reducible first|refine zA fun K hK=>?_|refine zB ?_|refine zC ?_)|((with_reducible first|refine zD rfl fun K hK=>?_|refine zE fun K hK=>?_);go_simp)|(with_reducible first|((repeat ((fail_if_success refine hK _ _ ?_);clear hK K));refine hK _ _ ?_;clear hK K)|refine zT (by go_simp;first|done|omega) ?_|refine zF (by go_simp;first|done|omega) ?_|refine zG ?_|refine zR ?_|refine zK ?_|refine zL ?_|refine zN ?_|refine zS ?_)|simp only [Exit.then,Exit.inBlock,Exit.noGoto,↓reduceIte,Nat.reduceEqDiff]|simp only [undef,reduceCtorEq,↓reduceIte]))
    refine (hrd.out w1 HB1.out).mono ?_
    rintro e4 w4 ⟨rfl,hb4⟩
    have HB4:=Lib.hid hb4
    clear hb4
    go_simp
    (repeat (first|(with_reducible first|refine zA fun K hK=>?_|refine zB ?_|refine zC ?_)|((with_reducible first|refine zD rfl fun K hK=>?_|refine zE fun K hK=>?_);go_simp)|(with_reducible first|((repeat ((fail_if_success refine hK _ _ ?_);clear hK K));refine hK _ _ ?_;clear hK K)|refine zT (by go_simp;first|done|omega) ?_|refine zF (by go_simp;first|done|omega) ?_|refine zG ?_|refine zR ?_|refine zK ?_|refine zL ?_|refine zN ?_|refine zS ?_)|simp only [Exit.then,Exit.inBlock,Exit.noGoto,↓reduceIte,Nat.reduceEqDiff]|simp only [undef,reduceCtorEq,↓reduceIte]))
    (refine fr_out1 rfl (by decide) (by simp only [lk_cons,lk_nil,Nat.reduceEqDiff,↓reduceIte];rfl) ?_)
    exact ⟨rfl,HB1.out.trans (HB4.out.mono HB1.out.size)⟩
  by_cases hnl:(l.length:Int) ≤ n
  · go_simp
    (repeat (first|(with_reducible first|refine zA fun K hK=>?_|refine zB ?_|refine zC ?_)|((with_reducible first|refine zD rfl fun K hK=>?_|refine zE fun K hK=>?_);go_simp)|(with_reducible first|((repeat ((fail_if_success refine hK _ _ ?_);clear hK K));refine hK _ _ ?_;clear hK K)|refine zT (by go_simp;first|done|omega) ?_|refine zF (by go_simp;first|done|omega) ?_|refine zG ?_|refine zR ?_|refine zK ?_|refine zL ?_|refine zN ?_|refine zS ?_)|simp only [Exit.then,Exit.inBlock,Exit.noGoto,↓reduceIte,Nat.reduceEqDiff]|simp only [undef,reduceCtorEq,↓reduceIte]))
    refine (hrd.out w1 HB1.out).mono ?_
    rintro e4 w4 ⟨rfl,hb4⟩
    have HB4:=Lib.hid hb4
    clear hb4
    go_simp
    (repeat (first|(with_reducible first|refine zA fun K hK=>?_|refine zB ?_|refine zC ?_)|((with_reducible first|refine zD rfl fun K hK=>?_|refine zE fun K hK=>?_);go_simp)|(with_reducible first|((repeat ((fail_if_success refine hK _ _ ?_);clear hK K));refine hK _ _ ?_;clear hK K)|refine zT (by go_simp;first|done|omega) ?_|refine zF (by go_simp;first|done|omega) ?_|refine zG ?_|refine zR ?_|refine zK ?_|refine zL ?_|refine zN ?_|refine zS ?_)|simp only [Exit.then,Exit.inBlock,Exit.noGoto,↓reduceIte,Nat.reduceEqDiff]|simp only [undef,reduceCtorEq,↓reduceIte]))
    (refine fr_out1 rfl (by decide) (by simp only [lk_cons,lk_nil,Nat.reduceEqDiff,↓reduceIte];rfl) ?_)
    exact ⟨rfl,HB1.out.trans (HB4.out.mono HB1.out.size)⟩
  obtain ⟨k,hk⟩:∃ k:Nat,n=(k:Int):=⟨n.toNat,by omega⟩
  subst hk
  have hkl:k < l.length:=by omega
  have hki:(k:Int) < (l.length:Int):=by omega
  have hk0:(0:Int) ≤ (k:Int):=by omega
  obtain ⟨p,hp⟩:∃ p,l[k]?=some p:=⟨l[k],by simp [hkl]⟩
  obtain ⟨b1,hr1⟩:=HRA.out.row
  obtain ⟨b2,hr2⟩:=HRA.out.rows
  obtain ⟨g,cap,he,_,hg,hcap,hcm,hcell⟩:=row_cell hr1 (by omega)
  simp only [Value.slice.injEq] at he
  obtain ⟨rfl,_,rfl⟩:=he
  obtain ⟨A,hA⟩:∃ A,A=p.2.at' T:=⟨_,rfl⟩
  have hAle:A ≤ T.length:=by rw [hA];unfold St.at';omega
  have hsrc:=tok_src hr2 hcell hp (HATS.out _ (by unfold plains;exact List.mem_map.2 ⟨p,List.mem_of_getElem? hp,rfl⟩))
  have hat:(p.1.itok (T.take (T.length - p.2.rest.length))).at'=A:=by
    have h9:(p.1.itok (T.take (T.length - p.2.rest.length))).at'=(T.take (T.length - p.2.rest.length)).length:=by cases p.1 <;> rfl
    rw [h9,hA,List.length_take];unfold St.at';omega
  have hc5:w1.cell? ⟨g,k * 8 + 5,none⟩=some (.int .i64 (A:Nat)):=by
    obtain ⟨⟨_,_,_,_,_,_,_,_,_,_,c5,_⟩,_⟩:=hsrc
    rw [← hat];exact c5
  have hA0:(0:Int) ≤ (A:Int):=by omega
  have hA1:(A:Int) ≤ (T.length:Int):=by omega
  have hex:(⟨T.toArray⟩:ByteArray).extract 0 A=⟨(T.take A).toArray⟩:=by
    apply ByteArray.ext
    simp [ByteArray.data_extract]
  have HP:=Lib.hid hp
  have HA:=Lib.hid hA
  have HR1:=Lib.hid hr1
  have HR2:=Lib.hid hr2
  clear hp hr1 hr2 hcell hsrc hat hA hcm
  go_simp
  (repeat (first|(with_reducible first|refine zA fun K hK=>?_|refine zB ?_|refine zC ?_)|((with_reducible first|refine zD rfl fun K hK=>?_|refine zE fun K hK=>?_);go_simp)|(with_reducible first|((repeat ((fail_if_success refine hK _ _ ?_);clear hK K));refine hK _ _ ?_;clear hK K)|refine zT (by go_simp;first|done|omega) ?_|refine zF (by go_simp;first|done|omega) ?_|refine zG ?_|refine zR ?_|refine zK ?_|refine zL ?_|refine zN ?_|refine zS ?_)|simp only [Exit.then,Exit.inBlock,Exit.noGoto,↓reduceIte,Nat.reduceEqDiff]|simp only [undef,reduceCtorEq,↓reduceIte]))
  clear hc5 hex
  refine (HT.out (T.take A) (by rw [List.length_take];have:=HTL.out;omega) w1 HB1.out).mono ?_
  rintro e2 w2 ⟨l2,e2',tv2,xs2,rfl,htk2,hb2,hrow2,hrows2,_⟩
  have hbp:=begin_plain (o:=o) (by rw [HO.out]) (by rw [HO.out]) T HTK.out k p HP.out (by rw [← HA.out];exact htk2 (fun _ _=>false))
  rw [← HA.out] at hbp
  have hk2:k < l2.length:=by
    obtain ⟨q,_,hq⟩:=hbp k (Nat.le_refl _)
    have:=(List.getElem?_eq_some_iff.1 hq).1
    rw [plains_len] at this;exact this
  have hk2i:¬ (l2.length:Int) ≤ (k:Int):=by omega
  have HK2:=Lib.hid hk2
  have HBP:=Lib.hid hbp
  have HB2:=Lib.hid (HB1.out.trans (hb2.mono HB1.out.size))
  have HRA2:=HRA.out.below hb2
  have HRB:=Lib.hid (show RunAt (T.take A) w2 tv2 l2 xs2 from ⟨⟨_,hrow2⟩,⟨_,hrows2⟩⟩)
  obtain ⟨sa2,sl2,sc2,rfl⟩:=ownsRow_slice hrow2
  have hq2:=row_len hrow2
  subst hq2
  obtain ⟨L,hL⟩:∃ L,L=(plains T l).take (k + 1):=⟨_,rfl⟩
  have hLL:L.length=k + 1:=by rw [hL,List.length_take,plains_len];omega
  have hLg:∀ i q,L[i]?=some q → i < k + 1∧(plains T l)[i]?=some q:=fun i q hq=>by
    have h9:=(List.getElem?_eq_some_iff.1 hq).1
    rw [hLL] at h9
    rw [hL,List.getElem?_take,if_pos h9] at hq
    exact ⟨h9,hq⟩
  obtain ⟨b3,hr3⟩:=HRA2.row
  obtain ⟨b4,hr4⟩:=HRA2.rows
  obtain ⟨g3,cap3,he3,_,hg3,hcap3,hcm3,hcell3⟩:=row_cell hr3 (by omega)
  simp only [Value.slice.injEq,Option.some.injEq,Addr.mk.injEq] at he3
  obtain ⟨⟨rfl,_⟩,_,rfl⟩:=he3
  have hpl:=plain_c w2 L (by rw [hLL];have:=HL9.out;omega) g 0 sc1 hg3 (fun i q hq=>by
    obtain ⟨h9,h8⟩:=hLg i q hq
    obtain ⟨ts,h1,h2⟩:=plains_get h8
    have h7:=HATS.out q (List.mem_of_getElem? h8)
    rw [← h2] at h7 ⊢
    rw [Nat.zero_add]
    exact tok_src hr4 hcell3 h1 h7)
  have hatL:∀ q ∈ L,q.attrs.length ≤ 1000000000:=fun q hq=>by
    rw [hL] at hq
    exact HATS.out q (List.mem_of_mem_take hq)
  have HATL:=Lib.hid hatL
  have HLG:=Lib.hid hLg
  have HLL:=Lib.hid hLL
  rw [hLL] at hpl
  have HPL:=Lib.hid hpl
  have hw1:IntKind.i64.wrap ((k:Int) + 1)=((k + 1:Nat):Int):=by rw [IntKind.wrap_i64];have:=HL9.out;omega
  have h6:(k:Int) + 1 ≤ (sc1:Int):=by omega
  have h60:(0:Int) ≤ (k:Int) + 1:=by omega
  have hne0:¬ sc1=0:=by omega
  clear htk2 hb2 hrow2 hrows2 hbp hk2 HRA2 hr3 hr4 hcell3 hpl hatL hLg hLL hL HT hcap3 hcap
  go_simp
  (repeat (first|(with_reducible first|refine zA fun K hK=>?_|refine zB ?_|refine zC ?_)|((with_reducible first|refine zD rfl fun K hK=>?_|refine zE fun K hK=>?_);go_simp)|(with_reducible first|((repeat ((fail_if_success refine hK _ _ ?_);clear hK K));refine hK _ _ ?_;clear hK K)|refine zT (by go_simp;first|done|omega) ?_|refine zF (by go_simp;first|done|omega) ?_|refine zG ?_|refine zR ?_|refine zK ?_|refine zL ?_|refine zN ?_|refine zS ?_)|simp only [Exit.then,Exit.inBlock,Exit.noGoto,↓reduceIte,Nat.reduceEqDiff]|simp only [undef,reduceCtorEq,↓reduceIte]))
  refine HPL.out.mono ?_
  rintro e3 w3 ⟨out,xs3,rfl,hb3,hrow3,hrows3⟩
  have hpa:PlAt w3 L out:=⟨_,_,_,by rw [HLL.out];exact hrow3,hrows3⟩
  obtain ⟨so,slo,sco,rfl⟩:=ownsRow_slice hrow3
  have hqo:=row_len hrow3
  subst hqo
  have HPA:=Lib.hid hpa
  have HB3:=Lib.hid (HB2.out.trans (hb3.mono HB2.out.size))
  have HRB3:=Lib.hid (HRB.out.below hb3)
  clear hpa hb3 hrow3 hrows3 HPL
  go_simp
  (repeat (first|(with_reducible first|refine zA fun K hK=>?_|refine zB ?_|refine zC ?_)|((with_reducible first|refine zD rfl fun K hK=>?_|refine zE fun K hK=>?_);go_simp)|(with_reducible first|((repeat ((fail_if_success refine hK _ _ ?_);clear hK K));refine hK _ _ ?_;clear hK K)|refine zT (by go_simp;first|done|omega) ?_|refine zF (by go_simp;first|done|omega) ?_|refine zG ?_|refine zR ?_|refine zK ?_|refine zL ?_|refine zN ?_|refine zS ?_)|simp only [Exit.then,Exit.inBlock,Exit.noGoto,↓reduceIte,Nat.reduceEqDiff]|simp only [undef,reduceCtorEq,↓reduceIte]))
  (refine wp_keep [9,57,58,59] (fun f=>?_);simp only [keep_cons,keep_nil,lk_cons,lk_nil,Nat.reduceEqDiff,↓reduceIte])
  obtain ⟨b5,hr5⟩:=HRB3.out.row
  obtain ⟨b6,hr6⟩:=HRB3.out.rows
  obtain ⟨g2,cap2,he2,_,hg2,hcap2,hcm2,hcell2⟩:=row_cell hr5 (by have:=HK2.out;omega)
  simp only [Value.slice.injEq] at he2
  obtain ⟨rfl,_,rfl⟩:=he2
  have hPL:=HPA.out
  rw [← HLL.out]
  rw [← HLL.out] at hPL
  rw [show ((k:Int) + 1)=(L.length:Int) by rw [HLL.out];rfl]
  refine bgLoop w3 L (by rw [HLL.out];have:=HL9.out;omega) HATL.out _ hPL g2 sc2 hg2 l2.length (by rw [HLL.out];have:=HK2.out;omega) hcm2 (fun i q hq=>?_) _ ?_ f _ (by kernel_rfl)
  · obtain ⟨h9,h8⟩:=HLG.out i q hq
    obtain ⟨q',h7,h6⟩:=HBP.out i (by omega)
    rw [h8] at h7
    simp only [Option.some.injEq] at h7
    subst h7
    obtain ⟨ts,h1,h2⟩:=plains_get h6
    have h5:=HATL.out q (List.mem_of_getElem? hq)
    rw [← h2] at h5 ⊢
    exact tok_src hr6 hcell2 h1 h5
  · intro f w' hb'
    have HBX:=Lib.hid (HB3.out.trans (hb'.mono HB3.out.size))
    clear hb' hcell2 hr5 hr6 hPL
    (repeat (first|(with_reducible first|refine zA fun K hK=>?_|refine zB ?_|refine zC ?_)|((with_reducible first|refine zD rfl fun K hK=>?_|refine zE fun K hK=>?_);go_simp)|(with_reducible first|((repeat ((fail_if_success refine hK _ _ ?_);clear hK K));refine hK _ _ ?_;clear hK K)|refine zT (by go_simp;first|done|omega) ?_|refine zF (by go_simp;first|done|omega) ?_|refine zG ?_|refine zR ?_|refine zK ?_|refine zL ?_|refine zN ?_|refine zS ?_)|simp only [Exit.then,Exit.inBlock,Exit.noGoto,↓reduceIte,Nat.reduceEqDiff]|simp only [undef,reduceCtorEq,↓reduceIte]))
    refine (hrd.out w' HBX.out).mono ?_
    rintro e4 w4 ⟨rfl,hb4⟩
    have HB4:=Lib.hid hb4
    clear hb4
    go_simp
    (repeat (first|(with_reducible first|refine zA fun K hK=>?_|refine zB ?_|refine zC ?_)|((with_reducible first|refine zD rfl fun K hK=>?_|refine zE fun K hK=>?_);go_simp)|(with_reducible first|((repeat ((fail_if_success refine hK _ _ ?_);clear hK K));refine hK _ _ ?_;clear hK K)|refine zT (by go_simp;first|done|omega) ?_|refine zF (by go_simp;first|done|omega) ?_|refine zG ?_|refine zR ?_|refine zK ?_|refine zL ?_|refine zN ?_|refine zS ?_)|simp only [Exit.then,Exit.inBlock,Exit.noGoto,↓reduceIte,Nat.reduceEqDiff]|simp only [undef,reduceCtorEq,↓reduceIte]))
    (refine fr_out1 rfl (by decide) (by simp only [lk_cons,lk_nil,Nat.reduceEqDiff,↓reduceIte];rfl) ?_)
    exact ⟨rfl,HBX.out.trans (HB4.out.mono HBX.out.size)⟩
end Go.Proofs.YtkjnockljapnbaaGreatDoor
namespace Go.Proofs.YtkjnockljapnbaaGreatDoor
open Go Go.RowKit Go.ChangeShapes Go.WideShapes Go.ChangeAt Go.Shelf
theorem begin_all (T:Bs) (raw:Bool) (n:Int) (w:World) (hE:EnvA w):Calls Tryz.prog 4 #[strV T,.bool raw,.int .i64 n] w fun e w'=>e=.returned (.bool true)∧Below w.heap.size w w':=by
  by_cases h:T.length ≤ 65536
  · exact beginning_c T h raw n w hE
  · exact beginBig T raw n w (by omega)
theorem beginLifted (os:Os) (started:os.Started) (H:Type) (enc:TypeId × Value → H) :
    ReturnsInHanded {} Tryz.checked os 4 .any (fun w args=>(Rows.fnBeginningSpec.pre enc Tryz.prog Tryz.f4 [] false w args∧laidMetH Tryz.prog theLaid w)∧sizedMet enc Tryz.prog Tryz.f4 (OpenSpec.ofChange Rows.fnBeginningSpec) false w args)
      (Rows.fnBeginningSpec.post enc Tryz.prog Tryz.f4 false true false false):=by
  refine returnsInHanded_of_change_and (C:=Tryz.checked) (X:=fun w _=>laidMetH Tryz.prog theLaid w) (fun _ _ _ hh h=>h.of_heap hh) own started (by kernel_rfl) Tryz.func4
    (ChangeSpec.witness_shaped (enc:=enc) (C:=Tryz.checked) (os:=os) (X:=fun w _=>laidMetH Tryz.prog theLaid w) false (laidWorld os) #[.string ⟨#[]⟩,.bool false,.int .i64 0] 8 (World.layVars_os _ _ _)
      (World.shaped_of_ZipB (by kernel_rfl) (by kernel_rfl)) (by kernel_rfl) (by kernel_rfl) (by kernel_rfl)
      (laid_met os _)) ?_
  intro W base args ds gs before hval0 hW _ _ hL _
  have hval:∀ (j:Nat) t v,Tryz.f4.params[j]?=some t → args[j]?=some v → Value.okWide Tryz.prog W .any base t v:=hval0
  have hW':=hW
  obtain ⟨p,q,hA0,hV,rfl,_,_⟩:=hW
  have hA:DataW.TrodAll enc Tryz.prog W 0 (fun _=>true) true Tryz.f4.params.toList args.toList ds p:=hA0
  rw [Tryz.params4] at hA hval
  obtain ⟨v0,v1,v2,d0,d1,d2,p0,p1,p2,rfl,rfl,rfl,h0,h1,h2⟩:=trodAll_three hA
  obtain ⟨rfl,rfl⟩:=trodVars_none hV
  obtain ⟨x0,rfl,rfl,rfl,hx0⟩:=Go.ChangeMaps.open_string Tryz.underlying9 (hval 0 9 v0 rfl rfl) h0
  obtain ⟨b1,rfl,rfl,rfl⟩:=RowKit.open_bool Tryz.underlying4 (hval 1 4 v1 rfl rfl) h1
  obtain ⟨n2,rfl,rfl,rfl,wn2⟩:=Go.ChangeShapes.open_int Tryz.underlying3 (hval 2 3 v2 rfl rfl) h2
  simp only [List.append_nil,List.nil_append] at hW'
  refine (begin_all x0.data.toList b1 n2 W (env_all hL)).mono fun e W' ⟨he,hb⟩=>?_
  subst he
  exact ⟨_,rfl,_,_,_,[],_,[],hW',trodAll_mk1 (shut_bool Tryz.underlying4 _),trodAll_mk3 (Go.ChangeMaps.shut_string Tryz.underlying9 hx0) (shut_bool Tryz.underlying4 b1) (Go.ChangeShapes.shut_int Tryz.underlying3 wn2),rfl,hb.frame _,fun h=>by cases h⟩
end Go.Proofs.YtkjnockljapnbaaGreatDoor
