/- Part of the proof that laws.FnBalanced returns true for every argument (Ac). No condition of its own. -/
import Derived.Test.YtkjnockljapnbaaGreatDoorO37
import Derived.Test.YtkjnockljapnbaaGreatDoorO41
set_option linter.all false
set_option maxHeartbeats 8000000
set_option maxRecDepth 100000
namespace Go.Proofs.YtkjnockljapnbaaGreatDoor
open Go Go.RowKit
theorem taCmS (v:Value) (w:World):(Instr.typeAssert (cmV v) 53 94 true).run Tryz.prog w=.ok (.tuple #[.agg #[zStr,zStr,.slice none 0 0],.bool false]) w:=by kernel_rfl
theorem taCmE (v:Value) (w:World):(Instr.typeAssert (cmV v) 53 103 true).run Tryz.prog w=.ok (.tuple #[.agg #[zStr,zStr],.bool false]) w:=by kernel_rfl
theorem taDvS (v:Value) (w:World):(Instr.typeAssert (dvV v) 53 94 true).run Tryz.prog w=.ok (.tuple #[.agg #[zStr,zStr,.slice none 0 0],.bool false]) w:=by kernel_rfl
theorem taDvE (v:Value) (w:World):(Instr.typeAssert (dvV v) 53 103 true).run Tryz.prog w=.ok (.tuple #[.agg #[zStr,zStr],.bool false]) w:=by kernel_rfl
theorem taPvS (tg:Bs) (v:Value) (w:World):(Instr.typeAssert (pvV tg v) 53 94 true).run Tryz.prog w=.ok (.tuple #[.agg #[zStr,zStr,.slice none 0 0],.bool false]) w:=by kernel_rfl
theorem taPvE (tg:Bs) (v:Value) (w:World):(Instr.typeAssert (pvV tg v) 53 103 true).run Tryz.prog w=.ok (.tuple #[.agg #[zStr,zStr],.bool false]) w:=by kernel_rfl
theorem taEnS (a b:Value) (w:World):(Instr.typeAssert (.iface 103 (.agg #[a,b])) 53 94 true).run Tryz.prog w=.ok (.tuple #[.agg #[zStr,zStr,.slice none 0 0],.bool false]) w:=by kernel_rfl
theorem taEnE (a b:Value) (w:World):(Instr.typeAssert (.iface 103 (.agg #[a,b])) 53 103 true).run Tryz.prog w=.ok (.tuple #[.agg #[a,b],.bool true]) w:=by kernel_rfl
theorem taStS (a b s:Value) (w:World):(Instr.typeAssert (.iface 94 (.agg #[a,b,s])) 53 94 true).run Tryz.prog w=.ok (.tuple #[.agg #[a,b,s],.bool true]) w:=by kernel_rfl
theorem taStE (a b s:Value) (w:World):(Instr.typeAssert (.iface 94 (.agg #[a,b,s])) 53 103 true).run Tryz.prog w=.ok (.tuple #[.agg #[zStr,zStr],.bool false]) w:=by kernel_rfl
theorem TokAt.iface {w:World} {bv:Value} {B:Nat} {tv:Value} {tk:RTok} (h:TokAt w bv B tv tk):∃ ty u,tv=.iface ty u:=by
  cases tk with
  | start nm ats=>obtain ⟨sv,rfl,_⟩:=h;exact ⟨_,_,rfl⟩
  | fin nm=>exact ⟨_,_,h⟩
  | text d=>obtain ⟨sv,rfl,_⟩:=h;exact ⟨_,_,rfl⟩
  | comment d=>obtain ⟨sv,rfl,_⟩:=h;exact ⟨_,_,rfl⟩
  | dir d=>obtain ⟨sv,rfl,_⟩:=h;exact ⟨_,_,rfl⟩
  | proc tg d=>obtain ⟨sv,rfl,_⟩:=h;exact ⟨_,_,rfl⟩
theorem TokAt.assertE {w:World} {bv:Value} {B:Nat} {tv:Value} {tk:RTok} (h:TokAt w bv B tv tk) :
    (∃ nm,tk=.fin nm∧∀ w,(Instr.typeAssert tv 53 103 true).run Tryz.prog w=.ok (.tuple #[.agg #[strV nm.1,strV nm.2],.bool true]) w) ∨
    ((∀ nm,tk ≠ .fin nm)∧∀ w,(Instr.typeAssert tv 53 103 true).run Tryz.prog w=.ok (.tuple #[.agg #[zStr,zStr],.bool false]) w):=by
  cases tk with
  | start nm ats=>obtain ⟨sv,rfl,_⟩:=h;exact Or.inr ⟨fun _ hh=>(by cases hh),fun w=>taStE _ _ _ w⟩
  | fin nm=>rw [show tv=enV nm from h];exact Or.inl ⟨nm,rfl,fun w=>taEnE _ _ w⟩
  | text d=>obtain ⟨sv,rfl,_⟩:=h;exact Or.inr ⟨fun _ hh=>(by cases hh),fun w=>taChE _ w⟩
  | comment d=>obtain ⟨sv,rfl,_⟩:=h;exact Or.inr ⟨fun _ hh=>(by cases hh),fun w=>taCmE _ w⟩
  | dir d=>obtain ⟨sv,rfl,_⟩:=h;exact Or.inr ⟨fun _ hh=>(by cases hh),fun w=>taDvE _ w⟩
  | proc tg d=>obtain ⟨sv,rfl,_⟩:=h;exact Or.inr ⟨fun _ hh=>(by cases hh),fun w=>taPvE _ _ w⟩
def autoRes (loc:Bs) (top:Bs × Bs):RTok → Option (Bs × Bs)
  | .fin nm=>if eqFold nm.2 loc then none else some top
  | _=>some top
theorem autoL_top {o:Opt} {tk:RTok} {s:St} {e:Ent} {l':List Ent} (hs:s.stk=e :: l') (hk:e.kind=0) (hany:o.auto.any (fun a=>eqFold a e.loc)=true):autoL eqFold o tk s=autoRes e.loc (e.space,e.loc) tk:=by
  unfold autoL autoRes
  rw [hs]
  simp only
  rw [if_neg (by rw [hk];simp),if_pos hany]
  cases tk <;> rfl
def autoV (r:Option (Bs × Bs)):Value:=
  match r with
  | none=>.tuple #[.nilIface,.bool false]
  | some nm=>.tuple #[enV nm,.bool true]
def AcInv (x:Cx) (tv au:Value) (loc:Bs) (w0:World) (k:Nat) (a:Act) (w:World):Prop:=
  ∃ f i,a=fr 76 f [(0,decP x),(1,tv),(4,.nilIface),(5,.bool false),(28,au),(29,.int .i64 x.o.auto.length),(30,.int .i64 (i:Nat))]∧Below w0.heap.size w0 w∧k=x.o.auto.length - i∧i ≤ x.o.auto.length∧(x.o.auto.take i).any (fun a=>eqFold a loc)=false
theorem auto_c (x:Cx) (hx:x.Ok) (hfe:FoldEnv x.W0) (c:DC) (hau:AutoAt x c.auto) (w:World) (hb:Below x.B x.W0 w) (v:DV) (h:DecAt w x.d c v) (s:St) {sb:List Nat} (hs:StkAt w c.stk s.stk sb) (hok:StkOk s.stk) (bv:Value) (B:Nat) (tv:Value) (tk:RTok) (ht:TokAt w bv B tv tk) (hle:∀ nm,tk=.fin nm → nm.2.length ≤ 1000000000000) :
    Calls Tryz.prog 25 #[decP x,tv] w fun en w'=>en=.returned (autoV (autoL eqFold x.o tk s))∧Below w.heap.size w w':=by
  have hc:=h.cell
  have hf:=h.frozen
  have q1:=fun w=>ptrNilE w
  rcases hs.head hok with ⟨h1,h2⟩|⟨q,e,l',nx,ok,h1,h2,hk,hq,_⟩
  · have HR:=Lib.hid (show autoL eqFold x.o tk s=none by unfold autoL;rw [h2])
    clear h hs hok hau hfe hb ht hle
    refine calls_fr (vs:=[_,_]) 76 Tryz.func25 rfl rfl (Nat.le_of_ble_eq_true rfl) fun f=>?_
    simp only [argSlots]
    (repeat (first|(with_reducible first|refine zA fun K hK=>?_|refine zB ?_|refine zC ?_)|((with_reducible first|refine zD rfl fun K hK=>?_|refine zE fun K hK=>?_);go_simp)|(with_reducible first|((repeat ((fail_if_success refine hK _ _ ?_);clear hK K));refine hK _ _ ?_;clear hK K)|refine zt ?_|refine zf ?_|refine zG ?_|refine zR ?_|refine zK ?_|refine zL ?_|refine zN ?_|refine zS ?_)|simp only [Exit.then,Exit.inBlock,Exit.noGoto,↓reduceIte,Nat.reduceEqDiff]|simp only [undef,reduceCtorEq,↓reduceIte]))
    (refine fr_out2 rfl (by decide) (by decide) (by simp only [lk_cons,lk_nil,Nat.reduceEqDiff,↓reduceIte];rfl) (by simp only [lk_cons,lk_nil,Nat.reduceEqDiff,↓reduceIte];rfl) ?_)
    exact ⟨by rw [HR.out];rfl,Below.refl _ _⟩
  have hcq:=hq.cell
  have hfq:=hq.frozen
  obtain ⟨_,hl1,hl2⟩:=hok e (by rw [h2];simp)
  obtain ⟨ek,esp,eloc,eok⟩:=e
  simp only at hk hcq hl1 hl2
  rcases hk with rfl|rfl
  ·
    obtain ⟨A,N,C,hae,rfl,hN,hNC,hcells⟩:=hau
    have hae':c.auto=.slice A x.o.auto.length C:=hae
    have HH:=Lib.hid h
    have HQ:=Lib.hid hq
    have HB:=Lib.hid hb
    have HFE:=Lib.hid hfe
    have HC:=Lib.hid hcells
    have HL:=Lib.hid hl2
    have HN:=Lib.hid hN
    have HS:=Lib.hid h2
    have HAS:=Lib.hid ht.assertE
    have HLE:=Lib.hid hle
    have h0:¬ (9223372036854775807:Int) < 0:=by omega
    clear h hs hok hfe hb ht hle hq hcells hl1 hl2 h2 hae
    refine calls_fr (vs:=[_,_]) 76 Tryz.func25 rfl rfl (Nat.le_of_ble_eq_true rfl) fun f=>?_
    simp only [argSlots]
    (repeat (first|(with_reducible first|refine zA fun K hK=>?_|refine zB ?_|refine zC ?_)|((with_reducible first|refine zD rfl fun K hK=>?_|refine zE fun K hK=>?_);go_simp)|(with_reducible first|((repeat ((fail_if_success refine hK _ _ ?_);clear hK K));refine hK _ _ ?_;clear hK K)|refine zt ?_|refine zf ?_|refine zG ?_|refine zR ?_|refine zK ?_|refine zL ?_|refine zN ?_|refine zS ?_)|simp only [Exit.then,Exit.inBlock,Exit.noGoto,↓reduceIte,Nat.reduceEqDiff]|simp only [undef,reduceCtorEq,↓reduceIte]))
    (refine wp_keep [0,1,4,5,28,29,30] (fun f=>?_);simp only [keep_cons,keep_nil,lk_cons,lk_nil,Nat.reduceEqDiff,↓reduceIte])
    refine wp_loop_ghost_k (AcInv x tv (.slice A x.o.auto.length C) eloc w) x.o.auto.length ⟨f,0,rfl,Below.refl _ w,by simp,Nat.zero_le _,rfl⟩ ?_
    rintro k _ w2 ⟨f,i,rfl,hbw,hki,hi,hany⟩ J K2 hJ hK2
    have HJ:=Lib.hid hJ
    have HK2:=Lib.hid hK2
    have HBW:=Lib.hid hbw
    have HK:=Lib.hid hki
    have HANY:=Lib.hid hany
    clear hJ hK2 hki hany
    have hd2:DecAt w2 x.d c v:=Blk.mod (S:=fun _=>False) HH.out (mod_none hbw _) id
    have hq2:=Blk.mod (S:=fun _=>False) HQ.out (mod_none hbw _) id
    clear hc hf hcq hfq hbw
    have hc:=hd2.cell
    have hf:=hd2.frozen
    have hcq:=hq2.cell
    have hfq:=hq2.frozen
    clear hd2 hq2
    by_cases hlt:i < x.o.auto.length
    · have t1:(i:Int) < (x.o.auto.length:Int):=by omega
      have t0:(0:Int) ≤ (i:Int):=by omega
      have w1:IntKind.i64.wrap ((i:Int) + 1)=((i + 1:Nat):Int):=by rw [IntKind.wrap_i64];have:=HN.out;omega
      obtain ⟨b,o,rfl,hbB,hcl⟩:=HC.out (by omega)
      obtain ⟨a,ha⟩:∃ a,x.o.auto[i]?=some a:=⟨x.o.auto[i],by simp [hlt]⟩
      obtain ⟨hca,hal⟩:=hcl i a ha
      have hbw2:Below x.B x.W0 w2:=HB.out.trans (HBW.out.mono HB.out.size)
      have hca2:w2.cell? ⟨b,o + i,none⟩=some (strV a):=by rw [hbw2.cell (p:=⟨b,o + i,none⟩) hbB];exact hca
      have HFE2:=Lib.hid (HFE.out.below hbw2)
      have hef:=Lib.hid (eqFold_c a eloc hal (by have:=HL.out;omega) w2 HFE2.out)
      have htk:x.o.auto.take (i + 1)=x.o.auto.take i ++ [a]:=by rw [List.take_succ,ha];rfl
      have HTK:=Lib.hid htk
      have HA:=Lib.hid ha
      clear hca hbB hcl hbw2 ha htk hal
      (repeat (first|(with_reducible first|refine zA fun K hK=>?_|refine zB ?_|refine zC ?_)|((with_reducible first|refine zD rfl fun K hK=>?_|refine zE fun K hK=>?_);go_simp)|(with_reducible first|((repeat ((fail_if_success refine hK _ _ ?_);clear hK K));refine hK _ _ ?_;clear hK K)|refine zt ?_|refine zf ?_|refine zG ?_|refine zR ?_|refine zK ?_|refine zL ?_|refine zN ?_|refine zS ?_)|simp only [Exit.then,Exit.inBlock,Exit.noGoto,↓reduceIte,Nat.reduceEqDiff]|simp only [undef,reduceCtorEq,↓reduceIte]))
      refine hef.out.mono ?_
      rintro e3 w3 ⟨rfl,hb3⟩
      have HB3:=Lib.hid (HBW.out.trans (hb3.mono HBW.out.size))
      have hd3:DecAt w3 x.d c v:=Blk.mod (S:=fun _=>False) HH.out (mod_none HB3.out _) id
      have hq3:=Blk.mod (S:=fun _=>False) HQ.out (mod_none HB3.out _) id
      have HFE3:=Lib.hid (HFE2.out.below hb3)
      clear hc hf hcq hfq hb3 hef
      have hc:=hd3.cell
      have hf:=hd3.frozen
      have hcq:=hq3.cell
      have hfq:=hq3.frozen
      clear hd3 hq3
      cases hfd:eqFold a eloc with
      | false=>
        have HANY2:=Lib.hid (show (x.o.auto.take (i + 1)).any (fun a=>eqFold a eloc)=false by rw [HTK.out,List.any_append,HANY.out];simp [hfd])
        clear hfd
        go_simp
        (repeat (first|(with_reducible first|refine zA fun K hK=>?_|refine zB ?_|refine zC ?_)|((with_reducible first|refine zD rfl fun K hK=>?_|refine zE fun K hK=>?_);go_simp)|(with_reducible first|((repeat ((fail_if_success refine hK _ _ ?_);clear hK K));refine hK _ _ ?_;clear hK K)|refine zt ?_|refine zf ?_|refine zG ?_|refine zR ?_|refine zK ?_|refine zL ?_|refine zN ?_|refine zS ?_)|simp only [Exit.then,Exit.inBlock,Exit.noGoto,↓reduceIte,Nat.reduceEqDiff]|simp only [undef,reduceCtorEq,↓reduceIte]))
        (refine K_keep [0,1,4,5,28,29,30] (fun f=>?_);simp only [keep_cons,keep_nil,lk_cons,lk_nil,Nat.reduceEqDiff,↓reduceIte])
        exact HK2.out _ _ ⟨x.o.auto.length - (i + 1),by rw [HK.out];omega,HJ.out _ _ _ ⟨f,i + 1,rfl,HB3.out,rfl,hlt,HANY2.out⟩⟩
      | true=>
        have hall:x.o.auto.any (fun a=>eqFold a eloc)=true:=List.any_eq_true.2 ⟨a,List.mem_of_getElem? HA.out,hfd⟩
        have HR:=Lib.hid (autoL_top (o:=x.o) (tk:=tk) HS.out rfl hall)
        clear hfd hall
        rcases HAS.out with ⟨nm,rfl,has⟩|⟨hnf,has⟩
        · have hr:autoL eqFold x.o (.fin nm) s=if eqFold nm.2 eloc then none else some (esp,eloc):=HR.out
          have HR2:=Lib.hid hr
          have hnl:=HLE.out nm rfl
          clear hr
          obtain ⟨wt,hwt⟩:∃ wt,wt=w3.alloc (.cells #[strV nm.1,strV nm.2] 103):=⟨_,rfl⟩
          have hbt:Below w3.heap.size w3 wt:=by rw [hwt];exact (Below.refl _ w3).alloc (Nat.le_refl _) _
          have hbk:Blk wt w3.heap.size #[strV nm.1,strV nm.2] 103:=by rw [hwt];exact Blk.new w3 _ _
          have hct:=hbk.cell
          have hft:=hbk.frozen
          have HBT:=Lib.hid (HB3.out.trans (hbt.mono HB3.out.size))
          have HFT:=Lib.hid (HFE3.out.below hbt)
          have hdt:DecAt wt x.d c v:=Blk.mod (S:=fun _=>False) HH.out (mod_none HBT.out _) id
          have hqt:=Blk.mod (S:=fun _=>False) HQ.out (mod_none HBT.out _) id
          have hef2:=Lib.hid (fun kk=>eqFold_c nm.2 eloc hnl (by have:=HL.out;omega) (wt.drewN kk) (HFT.out.below ⟨rfl,rfl,rfl,Nat.le_refl _,fun _ _=>rfl⟩))
          clear hbt hbk
          go_simp
          (repeat (first|(with_reducible first|refine zA fun K hK=>?_|refine zB ?_|refine zC ?_)|((with_reducible first|refine zD rfl fun K hK=>?_|refine zE fun K hK=>?_);go_simp)|(with_reducible first|((repeat ((fail_if_success refine hK _ _ ?_);clear hK K));refine hK _ _ ?_;clear hK K)|refine zt ?_|refine zf ?_|refine zG ?_|refine zR ?_|refine zK ?_|refine zL ?_|refine zN ?_|refine zS ?_)|simp only [Exit.then,Exit.inBlock,Exit.noGoto,↓reduceIte,Nat.reduceEqDiff]|simp only [undef,reduceCtorEq,↓reduceIte]))
          rw [show w3.alloc (.cells #[.string ⟨List.toArray nm.1⟩,.string ⟨List.toArray nm.2⟩] 103)=wt from hwt.symm]
          clear hwt hc hf hcq hfq
          have hc:=hdt.cell
          have hf:=hdt.frozen
          have hcq:=hqt.cell
          have hfq:=hqt.frozen
          clear hdt hqt
          (refine wp_keep [0,1,8,9] (fun f=>?_);simp only [keep_cons,keep_nil,lk_cons,lk_nil,Nat.reduceEqDiff,↓reduceIte])
          (refine wp_region_pi [0,0,0,0,0,1,0,0,0,1,0,0,0,1,2,0,0] [0,1,2,3,4,5,6,7,8,9,10,11,12,13,14,15,16] (by kernel_rfl) (by kernel_rfl) ?_;repeat (first|(with_reducible refine wpPi_nil (fun nq=>?_))|((with_reducible refine wpPi_free rfl rfl (fun K hK=>?_));go_simp;refine hK _ ?_;clear hK K)|((with_reducible refine wpPi_quiet rfl rfl (fun K hK=>?_));go_simp;refine hK _ ?_;clear hK K)|((with_reducible refine wpPi_eff rfl rfl (fun nq K hK=>?_));go_simp;refine hK.out _ _ ?_;clear hK K)))
          (refine wpPi_eff rfl rfl (fun nq K hK=>?_);go_simp)
          refine (hef2.out _).mono ?_
          rintro e5 w5 ⟨rfl,hb5⟩
          have HB5:=Lib.hid (HBT.out.trans ((show Below wt.heap.size wt (wt.drewN nq) from ⟨rfl,rfl,rfl,Nat.le_refl _,fun _ _=>rfl⟩).trans hb5 |>.mono HBT.out.size))
          have hd5:DecAt w5 x.d c v:=Blk.mod (S:=fun _=>False) HH.out (mod_none HB5.out _) id
          have hq5:=Blk.mod (S:=fun _=>False) HQ.out (mod_none HB5.out _) id
          clear hc hf hcq hfq hct hft hb5 hef2
          (go_simp;refine hK.out _ _ ?_;clear hK K)
          (repeat (first|(with_reducible refine wpPi_nil (fun nq=>?_))|((with_reducible refine wpPi_free rfl rfl (fun K hK=>?_));go_simp;refine hK _ ?_;clear hK K)|((with_reducible refine wpPi_quiet rfl rfl (fun K hK=>?_));go_simp;refine hK _ ?_;clear hK K)|((with_reducible refine wpPi_eff rfl rfl (fun nq K hK=>?_));go_simp;refine hK.out _ _ ?_;clear hK K)))
          have hc:=(show DecAt (w5.drewN nq) x.d c v from hd5).cell
          have hf:=(show DecAt (w5.drewN nq) x.d c v from hd5).frozen
          have hcq:=(show Blk (w5.drewN nq) q _ _ from hq5).cell
          have hfq:=(show Blk (w5.drewN nq) q _ _ from hq5).frozen
          clear hd5 hq5
          cases hfe2:eqFold nm.2 eloc with
          | true=>
            have HR3:=Lib.hid (show autoL eqFold x.o (.fin nm) s=none by rw [HR2.out,hfe2];rfl)
            clear hfe2
            (repeat (first|(with_reducible first|refine zA fun K hK=>?_|refine zB ?_|refine zC ?_)|((with_reducible first|refine zD rfl fun K hK=>?_|refine zE fun K hK=>?_);go_simp)|(with_reducible first|((repeat ((fail_if_success refine hK _ _ ?_);clear hK K));refine hK _ _ ?_;clear hK K)|refine zt ?_|refine zf ?_|refine zG ?_|refine zR ?_|refine zK ?_|refine zL ?_|refine zN ?_|refine zS ?_)|simp only [Exit.then,Exit.inBlock,Exit.noGoto,↓reduceIte,Nat.reduceEqDiff]|simp only [undef,reduceCtorEq,↓reduceIte]))
            (refine fr_out2 rfl (by decide) (by decide) (by simp only [lk_cons,lk_nil,Nat.reduceEqDiff,↓reduceIte];rfl) (by simp only [lk_cons,lk_nil,Nat.reduceEqDiff,↓reduceIte];rfl) ?_)
            exact ⟨by rw [HR3.out];rfl,Below_drewN HB5.out _⟩
          | false=>
            have HR3:=Lib.hid (show autoL eqFold x.o (.fin nm) s=some (esp,eloc) by rw [HR2.out,hfe2];rfl)
            clear hfe2
            (repeat (first|(with_reducible first|refine zA fun K hK=>?_|refine zB ?_|refine zC ?_)|((with_reducible first|refine zD rfl fun K hK=>?_|refine zE fun K hK=>?_);go_simp)|(with_reducible first|((repeat ((fail_if_success refine hK _ _ ?_);clear hK K));refine hK _ _ ?_;clear hK K)|refine zt ?_|refine zf ?_|refine zG ?_|refine zR ?_|refine zK ?_|refine zL ?_|refine zN ?_|refine zS ?_)|simp only [Exit.then,Exit.inBlock,Exit.noGoto,↓reduceIte,Nat.reduceEqDiff]|simp only [undef,reduceCtorEq,↓reduceIte]))
            (refine fr_out2 rfl (by decide) (by decide) (by simp only [lk_cons,lk_nil,Nat.reduceEqDiff,↓reduceIte];rfl) (by simp only [lk_cons,lk_nil,Nat.reduceEqDiff,↓reduceIte];rfl) ?_)
            exact ⟨by rw [HR3.out];rfl,Below_drewN HB5.out _⟩
        · have hr:autoL eqFold x.o tk s=some (esp,eloc):=by
            rw [HR.out]
            cases tk with
            | fin nm=>exact absurd rfl (hnf nm)
            | _=>rfl
          have HR2:=Lib.hid hr
          clear hr
          obtain ⟨wt,hwt⟩:∃ wt,wt=w3.alloc (.cells #[zStr,zStr] 103):=⟨_,rfl⟩
          have hbt:Below w3.heap.size w3 wt:=by rw [hwt];exact (Below.refl _ w3).alloc (Nat.le_refl _) _
          have HBT:=Lib.hid (HB3.out.trans (hbt.mono HB3.out.size))
          have hdt:DecAt wt x.d c v:=Blk.mod (S:=fun _=>False) HH.out (mod_none HBT.out _) id
          have hqt:=Blk.mod (S:=fun _=>False) HQ.out (mod_none HBT.out _) id
          clear hbt
          go_simp
          (repeat (first|(with_reducible first|refine zA fun K hK=>?_|refine zB ?_|refine zC ?_)|((with_reducible first|refine zD rfl fun K hK=>?_|refine zE fun K hK=>?_);go_simp)|(with_reducible first|((repeat ((fail_if_success refine hK _ _ ?_);clear hK K));refine hK _ _ ?_;clear hK K)|refine zt ?_|refine zf ?_|refine zG ?_|refine zR ?_|refine zK ?_|refine zL ?_|refine zN ?_|refine zS ?_)|simp only [Exit.then,Exit.inBlock,Exit.noGoto,↓reduceIte,Nat.reduceEqDiff]|simp only [undef,reduceCtorEq,↓reduceIte]))
          rw [show w3.alloc (.cells #[.string ⟨#[]⟩,.string ⟨#[]⟩] 103)=wt from hwt.symm]
          clear hwt hc hf hcq hfq
          have hc:=hdt.cell
          have hf:=hdt.frozen
          have hcq:=hqt.cell
          have hfq:=hqt.frozen
          (refine wp_keep [0,1,8,9] (fun f=>?_);simp only [keep_cons,keep_nil,lk_cons,lk_nil,Nat.reduceEqDiff,↓reduceIte])
          (refine wp_region_pi [0,0,0,0,0,1,0,0,0,1,0,0,0,1,2,0,0] [0,1,2,3,4,5,6,7,8,9,10,11,12,13,14,15,16] (by kernel_rfl) (by kernel_rfl) ?_;repeat (first|(with_reducible refine wpPi_nil (fun nq=>?_))|((with_reducible refine wpPi_free rfl rfl (fun K hK=>?_));go_simp;refine hK _ ?_;clear hK K)|((with_reducible refine wpPi_quiet rfl rfl (fun K hK=>?_));go_simp;refine hK _ ?_;clear hK K)|((with_reducible refine wpPi_eff rfl rfl (fun nq K hK=>?_));go_simp;refine hK.out _ _ ?_;clear hK K)))
          have hc:=(show DecAt (wt.drewN nq) x.d c v from hdt).cell
          have hf:=(show DecAt (wt.drewN nq) x.d c v from hdt).frozen
          have hcq:=(show Blk (wt.drewN nq) q _ _ from hqt).cell
          have hfq:=(show Blk (wt.drewN nq) q _ _ from hqt).frozen
          (repeat (first|(with_reducible first|refine zA fun K hK=>?_|refine zB ?_|refine zC ?_)|((with_reducible first|refine zD rfl fun K hK=>?_|refine zE fun K hK=>?_);go_simp)|(with_reducible first|((repeat ((fail_if_success refine hK _ _ ?_);clear hK K));refine hK _ _ ?_;clear hK K)|refine zt ?_|refine zf ?_|refine zG ?_|refine zR ?_|refine zK ?_|refine zL ?_|refine zN ?_|refine zS ?_)|simp only [Exit.then,Exit.inBlock,Exit.noGoto,↓reduceIte,Nat.reduceEqDiff]|simp only [undef,reduceCtorEq,↓reduceIte]))
          (refine fr_out2 rfl (by decide) (by decide) (by simp only [lk_cons,lk_nil,Nat.reduceEqDiff,↓reduceIte];rfl) (by simp only [lk_cons,lk_nil,Nat.reduceEqDiff,↓reduceIte];rfl) ?_)
          exact ⟨by rw [HR2.out];rfl,Below_drewN HBT.out _⟩
    · have hii:i=x.o.auto.length:=by omega
      subst hii
      have t1:¬ ((x.o.auto.length:Int) < (x.o.auto.length:Int)):=by omega
      have HR:=Lib.hid (show autoL eqFold x.o tk s=none by
        have h9:=HANY.out
        rw [List.take_length] at h9
        unfold autoL
        rw [HS.out]
        simp only
        rw [if_neg (by simp),if_neg (by rw [h9];simp)])
      (repeat (first|(with_reducible first|refine zA fun K hK=>?_|refine zB ?_|refine zC ?_)|((with_reducible first|refine zD rfl fun K hK=>?_|refine zE fun K hK=>?_);go_simp)|(with_reducible first|((repeat ((fail_if_success refine hK _ _ ?_);clear hK K));refine hK _ _ ?_;clear hK K)|refine zt ?_|refine zf ?_|refine zG ?_|refine zR ?_|refine zK ?_|refine zL ?_|refine zN ?_|refine zS ?_)|simp only [Exit.then,Exit.inBlock,Exit.noGoto,↓reduceIte,Nat.reduceEqDiff]|simp only [undef,reduceCtorEq,↓reduceIte]))
      (refine fr_out2 rfl (by decide) (by decide) (by simp only [lk_cons,lk_nil,Nat.reduceEqDiff,↓reduceIte];rfl) (by simp only [lk_cons,lk_nil,Nat.reduceEqDiff,↓reduceIte];rfl) ?_)
      exact ⟨by rw [HR.out];rfl,HBW.out⟩
  · have HR:=Lib.hid (show autoL eqFold x.o tk s=none by
      unfold autoL;rw [h2];simp)
    clear h hs hok hau hfe hb ht hle hq
    refine calls_fr (vs:=[_,_]) 76 Tryz.func25 rfl rfl (Nat.le_of_ble_eq_true rfl) fun f=>?_
    simp only [argSlots]
    (repeat (first|(with_reducible first|refine zA fun K hK=>?_|refine zB ?_|refine zC ?_)|((with_reducible first|refine zD rfl fun K hK=>?_|refine zE fun K hK=>?_);go_simp)|(with_reducible first|((repeat ((fail_if_success refine hK _ _ ?_);clear hK K));refine hK _ _ ?_;clear hK K)|refine zt ?_|refine zf ?_|refine zG ?_|refine zR ?_|refine zK ?_|refine zL ?_|refine zN ?_|refine zS ?_)|simp only [Exit.then,Exit.inBlock,Exit.noGoto,↓reduceIte,Nat.reduceEqDiff]|simp only [undef,reduceCtorEq,↓reduceIte]))
    (refine fr_out2 rfl (by decide) (by decide) (by simp only [lk_cons,lk_nil,Nat.reduceEqDiff,↓reduceIte];rfl) (by simp only [lk_cons,lk_nil,Nat.reduceEqDiff,↓reduceIte];rfl) ?_)
    exact ⟨by rw [HR.out];rfl,Below.refl _ _⟩
end Go.Proofs.YtkjnockljapnbaaGreatDoor
