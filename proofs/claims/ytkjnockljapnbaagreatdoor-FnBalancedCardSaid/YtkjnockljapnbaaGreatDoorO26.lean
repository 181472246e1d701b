/- Part of the proof that laws.FnBalanced returns true for every argument (Wo, Vd, Ve, Vf). No condition of its own. -/
import Derived.Test.YtkjnockljapnbaaGreatDoorO25
import Derived.Test.YtkjnockljapnbaaGreatDoorO17
import Derived.Stop.Asserts
set_option linter.all false
set_option maxHeartbeats 8000000
set_option maxRecDepth 100000
namespace Go.Proofs.YtkjnockljapnbaaGreatDoor
open Go Go.RowKit
def PiInv (x:Cx) (c:DC) (w0:World) (v0:DV) (l0:Bs) (tg:Bs) (k:Nat) (a:Act) (w:World):Prop:=
  ∃ f v rest b0 buf e,a=fr 731 f [(0,decP x),(8,strV tg),(9,.int .u8 (UInt8.toNat b0))]∧RdS x c w v rest e buf∧Stp x w0 v0 w v∧k=rest.length ∧
    procL x.o.fails l0 0 []=procL x.o.fails rest b0 buf∧(b0=63 → 1 ≤ buf.length)∧buf.length + rest.length=l0.length
theorem piL_name {o:Opt} {rest tg r:Bs} (h:nameL o.fails rest=.ok (tg,r)):piL o rest=match procL o.fails (skipWs r) 0 [] with
  | .error e=>.error e
  | .ok (inst,r2)=>piEnd o tg inst r2:=by
  unfold piL
  rw [h]
  rfl
theorem rawPi (x:Cx) (hx:x.All) (haf:AfTab x.W0) (hafB:3 < x.B) (c:DC) (hdc:DcOk x c) (w:World) (v:DV) (rest:Bs) (e:Option EK) (buf:Bs) (h:RdS x c w v rest e buf) (Q:Exit → Act → World → Prop)
    (hQ:∀ f w' t e,RawPostO x c w v (piL x.o rest) t e w' → Q .ret (fr 731 f [(2,t),(3,e)]) w') (f:Nat → Value) :
    (rwCode 37).wp Tryz.prog Q (fr 731 f [(0,decP x)]) w:=by
  have hnm:=Lib.hid (name_c x hx.toFit c hdc w v rest e buf h)
  have HX:=Lib.hid hx
  have HAF:=Lib.hid haf
  have HAFB:=Lib.hid hafB
  have HD:=Lib.hid hdc
  have HQ:=Lib.hid hQ
  have HRL:=Lib.hid (show rest.length ≤ 1000000000 from Nat.le_trans (h.suf.length_le) hx.len)
  clear h hx haf hafB hdc hQ
  unfold rwCode
  conv=>arg 2;whnf
  (repeat (first|(with_reducible first|refine zA fun K hK=>?_|refine zB ?_|refine zC ?_)|((with_reducible first|refine zD rfl fun K hK=>?_|refine zE fun K hK=>?_);go_simp)|(with_reducible first|((repeat ((fail_if_success refine hK _ _ ?_);clear hK K));refine hK _ _ ?_;clear hK K)|refine zt ?_|refine zf ?_|refine zG ?_|refine zR ?_|refine zK ?_|refine zL ?_|refine zN ?_|refine zS ?_)|simp only [Exit.then,Exit.inBlock,Exit.noGoto,↓reduceIte,Nat.reduceEqDiff]|simp only [undef,reduceCtorEq,↓reduceIte]))
  refine hnm.out.mono ?_
  rintro e2 w2 ⟨v2,hs2,hp2⟩
  have HS2:=Lib.hid hs2
  clear hs2 hnm
  cases hn:nameL x.o.fails rest with
  | error k=>
    rw [hn] at hp2
    obtain ⟨rfl,hno⟩:=hp2
    have HRES:=Lib.hid (show piL x.o rest=.error k by unfold piL;rw [hn])
    have HNN:=Lib.hid (show NoO (.error k:Except EK (RTok × Bs)) from err_no (nameL_no _ _) hn)
    rcases hno with hE|⟨rfl,r,b,hR⟩
    · obtain ⟨t1,u1,hu1⟩:=hE.err.iface
      have HE:=Lib.hid hE
      have hc:=hE.dec.cell
      have hf:=hE.dec.frozen
      have HU:=Lib.hid hu1
      clear hE hn
      go_simp
      (repeat (first|(with_reducible first|refine zA fun K hK=>?_|refine zB ?_|refine zC ?_)|((with_reducible first|refine zD rfl fun K hK=>?_|refine zE fun K hK=>?_);go_simp)|(with_reducible first|((repeat ((fail_if_success refine hK _ _ ?_);clear hK K));refine hK _ _ ?_;clear hK K)|refine zt ?_|refine zf ?_|refine zG ?_|refine zR ?_|refine zK ?_|refine zL ?_|refine zN ?_|refine zS ?_)|simp only [Exit.then,Exit.inBlock,Exit.noGoto,↓reduceIte,Nat.reduceEqDiff]|simp only [undef,reduceCtorEq,↓reduceIte]))
      ((refine wp_keep [0] (fun f=>?_);simp only [keep_cons,keep_nil,lk_cons,lk_nil,Nat.reduceEqDiff,↓reduceIte]);go_quiet (fail);(repeat (first|(with_reducible first|refine zA fun K hK=>?_|refine zB ?_|refine zC ?_)|((with_reducible first|refine zD rfl fun K hK=>?_|refine zE fun K hK=>?_);go_simp)|(with_reducible first|((repeat ((fail_if_success refine hK _ _ ?_);clear hK K));refine hK _ _ ?_;clear hK K)|refine zt ?_|refine zf ?_|refine zG ?_|refine zR ?_|refine zK ?_|refine zL ?_|refine zN ?_|refine zS ?_)|simp only [Exit.then,Exit.inBlock,Exit.noGoto,↓reduceIte,Nat.reduceEqDiff]|simp only [undef,reduceCtorEq,↓reduceIte]));refine Q_keep [2,3] (fun f=>?_);simp only [keep_cons,keep_nil,lk_cons,lk_nil,Nat.reduceEqDiff,↓reduceIte])
      exact HQ.out f _ _ _ (RawPost.o ⟨v2,HS2.out.drawn _,by rw [HRES.out];exact ⟨rfl,HU.out.symm,HE.out.drewN _⟩⟩ (by rw [HRES.out];exact HNN.out))
    · have he:v2.err=.nilIface:=hR.err
      have hc:=hR.dec.cell
      have hf:=hR.dec.frozen
      have HSY:=Lib.hid (fun msg=>synErr_g HX.out.toOk hR msg)
      clear hR hn
      go_simp
      (repeat (first|(with_reducible first|refine zA fun K hK=>?_|refine zB ?_|refine zC ?_)|((with_reducible first|refine zD rfl fun K hK=>?_|refine zE fun K hK=>?_);go_simp)|(with_reducible first|((repeat ((fail_if_success refine hK _ _ ?_);clear hK K));refine hK _ _ ?_;clear hK K)|refine zt ?_|refine zf ?_|refine zG ?_|refine zR ?_|refine zK ?_|refine zL ?_|refine zN ?_|refine zS ?_)|simp only [Exit.then,Exit.inBlock,Exit.noGoto,↓reduceIte,Nat.reduceEqDiff]|simp only [undef,reduceCtorEq,↓reduceIte]))
      refine (HSY.out _).mono ?_
      rintro e3 w3 ⟨a9,rfl,hS⟩
      have hc2:=hS.dec.cell
      have hf2:=hS.dec.frozen
      have HS:=Lib.hid hS
      clear hS hc hf he
      go_simp
      (repeat (first|(with_reducible first|refine zA fun K hK=>?_|refine zB ?_|refine zC ?_)|((with_reducible first|refine zD rfl fun K hK=>?_|refine zE fun K hK=>?_);go_simp)|(with_reducible first|((repeat ((fail_if_success refine hK _ _ ?_);clear hK K));refine hK _ _ ?_;clear hK K)|refine zt ?_|refine zf ?_|refine zG ?_|refine zR ?_|refine zK ?_|refine zL ?_|refine zN ?_|refine zS ?_)|simp only [Exit.then,Exit.inBlock,Exit.noGoto,↓reduceIte,Nat.reduceEqDiff]|simp only [undef,reduceCtorEq,↓reduceIte]))
      ((refine wp_keep [0] (fun f=>?_);simp only [keep_cons,keep_nil,lk_cons,lk_nil,Nat.reduceEqDiff,↓reduceIte]);go_quiet (fail);(repeat (first|(with_reducible first|refine zA fun K hK=>?_|refine zB ?_|refine zC ?_)|((with_reducible first|refine zD rfl fun K hK=>?_|refine zE fun K hK=>?_);go_simp)|(with_reducible first|((repeat ((fail_if_success refine hK _ _ ?_);clear hK K));refine hK _ _ ?_;clear hK K)|refine zt ?_|refine zf ?_|refine zG ?_|refine zR ?_|refine zK ?_|refine zL ?_|refine zN ?_|refine zS ?_)|simp only [Exit.then,Exit.inBlock,Exit.noGoto,↓reduceIte,Nat.reduceEqDiff]|simp only [undef,reduceCtorEq,↓reduceIte]));refine Q_keep [2,3] (fun f=>?_);simp only [keep_cons,keep_nil,lk_cons,lk_nil,Nat.reduceEqDiff,↓reduceIte])
      exact HQ.out f _ _ _ (RawPost.o ⟨_,(HS2.out.trans HS.out.stp).drawn _,by rw [HRES.out];exact ⟨rfl,rfl,HS.out.err.drewN _⟩⟩ (by rw [HRES.out];exact HNN.out))
  | ok p=>
    obtain ⟨tg,r⟩:=p
    rw [hn] at hp2
    obtain ⟨rfl,hR⟩:=hp2
    have HRES:=Lib.hid (piL_name (o:=x.o) hn)
    have hsp:=Lib.hid (space_c x HX.out.toOk c HD.out w2 v2 r none tg hR)
    have HRLEN:=Lib.hid (show r.length ≤ 1000000000 from by have:=(nameL_suf hn).2;have:=HRL.out;omega)
    clear hR hn
    go_simp
    (repeat (first|(with_reducible first|refine zA fun K hK=>?_|refine zB ?_|refine zC ?_)|((with_reducible first|refine zD rfl fun K hK=>?_|refine zE fun K hK=>?_);go_simp)|(with_reducible first|((repeat ((fail_if_success refine hK _ _ ?_);clear hK K));refine hK _ _ ?_;clear hK K)|refine zt ?_|refine zf ?_|refine zG ?_|refine zR ?_|refine zK ?_|refine zL ?_|refine zN ?_|refine zS ?_)|simp only [Exit.then,Exit.inBlock,Exit.noGoto,↓reduceIte,Nat.reduceEqDiff]|simp only [undef,reduceCtorEq,↓reduceIte]))
    refine hsp.out.mono ?_
    rintro e3 w3 ⟨rfl,v3,e3',hP⟩
    have HS3:=Lib.hid (HS2.out.s0 hP.mod hP.bufv)
    have hrs:=Lib.hid (reset_c x HX.out.toOk c w3 v3 (skipWs r) e3' tg hP.rd)
    have HSKL:=Lib.hid (show (skipWs r).length ≤ 1000000000 from by have:=(skipWs_suf r).length_le;have:=HRLEN.out;omega)
    clear hP hsp
    go_simp
    (repeat (first|(with_reducible first|refine zA fun K hK=>?_|refine zB ?_|refine zC ?_)|((with_reducible first|refine zD rfl fun K hK=>?_|refine zE fun K hK=>?_);go_simp)|(with_reducible first|((repeat ((fail_if_success refine hK _ _ ?_);clear hK K));refine hK _ _ ?_;clear hK K)|refine zt ?_|refine zf ?_|refine zG ?_|refine zR ?_|refine zK ?_|refine zL ?_|refine zN ?_|refine zS ?_)|simp only [Exit.then,Exit.inBlock,Exit.noGoto,↓reduceIte,Nat.reduceEqDiff]|simp only [undef,reduceCtorEq,↓reduceIte]))
    refine hrs.out.mono ?_
    rintro e5 w5 ⟨rfl,v5,hR5,hn5,hb5,hm5,hz5⟩
    have HS5:=Lib.hid (HS3.out.trans (Stp.ofS0 hm5 hb5))
    have HR5:=Lib.hid hR5
    clear hR5 hn5 hb5 hm5 hz5 hrs
    obtain ⟨l0,hl0⟩:∃ l0,l0=skipWs r:=⟨_,rfl⟩
    rw [← hl0] at HR5 HSKL HRES
    clear hl0
    go_simp
    (repeat (first|(with_reducible first|refine zA fun K hK=>?_|refine zB ?_|refine zC ?_)|((with_reducible first|refine zD rfl fun K hK=>?_|refine zE fun K hK=>?_);go_simp)|(with_reducible first|((repeat ((fail_if_success refine hK _ _ ?_);clear hK K));refine hK _ _ ?_;clear hK K)|refine zt ?_|refine zf ?_|refine zG ?_|refine zR ?_|refine zK ?_|refine zL ?_|refine zN ?_|refine zS ?_)|simp only [Exit.then,Exit.inBlock,Exit.noGoto,↓reduceIte,Nat.reduceEqDiff]|simp only [undef,reduceCtorEq,↓reduceIte]))
    (refine wp_keep [0,8,9] (fun f=>?_);simp only [keep_cons,keep_nil,lk_cons,lk_nil,Nat.reduceEqDiff,↓reduceIte])
    refine wp_loop_ghost_k (PiInv x c w v l0 tg) l0.length ⟨f,v5,l0,0,[],e3',rfl,HR5.out,HS5.out,rfl,rfl,fun h=>absurd h (by decide),by simp⟩ ?_
    rintro k _ w6 ⟨f,v6,rest6,b0,bf,e6,rfl,h6,hs6,hk,hco,hbl0,hlen⟩ J K2 hJ hK2
    have HJ:=Lib.hid hJ
    have HK2:=Lib.hid hK2
    have HS6:=Lib.hid hs6
    have HK:=Lib.hid hk
    have HCO:=Lib.hid hco
    have HB0:=Lib.hid hbl0
    have HLEN:=Lib.hid hlen
    clear hJ hK2 hs6 hk hco hbl0 hlen
    cases rest6 with
    | nil=>
      have hmg:=Lib.hid (mustgetc_none x HX.out.toOk c HD.out w6 v6 e6 bf h6)
      have HRES2:=Lib.hid (show piL x.o rest=.error (mustE x.o.fails) by rw [HRES.out,HCO.out];rfl)
      clear h6
      (repeat (first|(with_reducible first|refine zA fun K hK=>?_|refine zB ?_|refine zC ?_)|((with_reducible first|refine zD rfl fun K hK=>?_|refine zE fun K hK=>?_);go_simp)|(with_reducible first|((repeat ((fail_if_success refine hK _ _ ?_);clear hK K));refine hK _ _ ?_;clear hK K)|refine zt ?_|refine zf ?_|refine zG ?_|refine zR ?_|refine zK ?_|refine zL ?_|refine zN ?_|refine zS ?_)|simp only [Exit.then,Exit.inBlock,Exit.noGoto,↓reduceIte,Nat.reduceEqDiff]|simp only [undef,reduceCtorEq,↓reduceIte]))
      refine hmg.out.mono ?_
      rintro e7 w7 ⟨rfl,v7,hE,hb7,hm7⟩
      have HS7:=Lib.hid (HS6.out.s0 hm7 hb7)
      obtain ⟨t1,u1,hu1⟩:=hE.err.iface
      have HE:=Lib.hid hE
      have hc:=hE.dec.cell
      have hf:=hE.dec.frozen
      have HU:=Lib.hid hu1
      clear hE hm7 hb7 hmg
      go_simp
      (repeat (first|(with_reducible first|refine zA fun K hK=>?_|refine zB ?_|refine zC ?_)|((with_reducible first|refine zD rfl fun K hK=>?_|refine zE fun K hK=>?_);go_simp)|(with_reducible first|((repeat ((fail_if_success refine hK _ _ ?_);clear hK K));refine hK _ _ ?_;clear hK K)|refine zt ?_|refine zf ?_|refine zG ?_|refine zR ?_|refine zK ?_|refine zL ?_|refine zN ?_|refine zS ?_)|simp only [Exit.then,Exit.inBlock,Exit.noGoto,↓reduceIte,Nat.reduceEqDiff]|simp only [undef,reduceCtorEq,↓reduceIte]))
      ((refine wp_keep [0] (fun f=>?_);simp only [keep_cons,keep_nil,lk_cons,lk_nil,Nat.reduceEqDiff,↓reduceIte]);go_quiet (fail);(repeat (first|(with_reducible first|refine zA fun K hK=>?_|refine zB ?_|refine zC ?_)|((with_reducible first|refine zD rfl fun K hK=>?_|refine zE fun K hK=>?_);go_simp)|(with_reducible first|((repeat ((fail_if_success refine hK _ _ ?_);clear hK K));refine hK _ _ ?_;clear hK K)|refine zt ?_|refine zf ?_|refine zG ?_|refine zR ?_|refine zK ?_|refine zL ?_|refine zN ?_|refine zS ?_)|simp only [Exit.then,Exit.inBlock,Exit.noGoto,↓reduceIte,Nat.reduceEqDiff]|simp only [undef,reduceCtorEq,↓reduceIte]));refine Q_keep [2,3] (fun f=>?_);simp only [keep_cons,keep_nil,lk_cons,lk_nil,Nat.reduceEqDiff,↓reduceIte])
      exact HQ.out f _ _ _ (RawPost.o ⟨v7,HS7.out.drawn _,by rw [HRES2.out];exact ⟨rfl,HU.out.symm,HE.out.drewN _⟩⟩ (by rw [HRES2.out];exact noO_must _))
    | cons b r6=>
      have hmg:=Lib.hid (mustgetc_some x HX.out.toOk c HD.out w6 v6 b r6 e6 bf h6)
      clear h6
      (repeat (first|(with_reducible first|refine zA fun K hK=>?_|refine zB ?_|refine zC ?_)|((with_reducible first|refine zD rfl fun K hK=>?_|refine zE fun K hK=>?_);go_simp)|(with_reducible first|((repeat ((fail_if_success refine hK _ _ ?_);clear hK K));refine hK _ _ ?_;clear hK K)|refine zt ?_|refine zf ?_|refine zG ?_|refine zR ?_|refine zK ?_|refine zL ?_|refine zN ?_|refine zS ?_)|simp only [Exit.then,Exit.inBlock,Exit.noGoto,↓reduceIte,Nat.reduceEqDiff]|simp only [undef,reduceCtorEq,↓reduceIte]))
      refine hmg.out.mono ?_
      rintro e7 w7 ⟨rfl,v7,h7,hn7,hb7,hm7,hz7⟩
      have HS7:=Lib.hid (HS6.out.s0 hm7 hb7)
      have hlim:bf.length ≤ 50000000000000:=by have:=HLEN.out;have:=HSKL.out;simp at *;omega
      have hwb:=Lib.hid (writeByte_k x HX.out.toOk c w7 v7 r6 none bf h7 b hlim)
      have HN7:=Lib.hid hn7
      clear h7 hn7 hb7 hm7 hz7 hmg hlim
      go_simp
      (repeat (first|(with_reducible first|refine zA fun K hK=>?_|refine zB ?_|refine zC ?_)|((with_reducible first|refine zD rfl fun K hK=>?_|refine zE fun K hK=>?_);go_simp)|(with_reducible first|((repeat ((fail_if_success refine hK _ _ ?_);clear hK K));refine hK _ _ ?_;clear hK K)|refine zt ?_|refine zf ?_|refine zG ?_|refine zR ?_|refine zK ?_|refine zL ?_|refine zN ?_|refine zS ?_)|simp only [Exit.then,Exit.inBlock,Exit.noGoto,↓reduceIte,Nat.reduceEqDiff]|simp only [undef,reduceCtorEq,↓reduceIte]))
      refine hwb.out.mono ?_
      rintro e8 w8 ⟨rfl,v8,⟨h8,hn8,hs8⟩,_⟩
      have HS8:=Lib.hid (HS7.out.trans hs8)
      have HR8:=Lib.hid h8
      have HN8:=Lib.hid (hn8.trans HN7.out)
      clear h8 hn8 hs8 hwb
      have hcs:(((b0.toNat:Int) == 63)=false∧b0 ≠ 63) ∨ (((b0.toNat:Int) == 63)=true∧b0=63∧((b.toNat:Int) == 62)=false∧b ≠ 62) ∨ (((b0.toNat:Int) == 63)=true∧b0=63∧((b.toNat:Int) == 62)=true∧b=62):=by
        by_cases h0:b0=63
        · subst h0
          by_cases h1:b=62
          · subst h1;exact Or.inr (Or.inr ⟨rfl,rfl,rfl,rfl⟩)
          · exact Or.inr (Or.inl ⟨rfl,rfl,u8ne h1 rfl,h1⟩)
        · exact Or.inl ⟨u8ne h0 rfl,h0⟩
      rcases hcs with ⟨c0,c0'⟩|⟨c0,c0',c1,c1'⟩|⟨c0,c0',c1,c1'⟩
      case inr.inr=>
        have hb2:1 ≤ bf.length:=HB0.out c0'
        subst c1'
        have hne:bf ++ [62] ≠ []:=by simp
        obtain ⟨g,cap,hv,hby,hlc,hcm,_,_,_⟩:=HR8.out.bf.bytes hne
        have hbd:=Lib.hid (bytes_c x c w8 v8 r6 none _ HR8.out)
        have hll:(bf ++ [(62:UInt8)]).length=bf.length + 1:=by simp
        obtain ⟨d,hd⟩:∃ d,d=bf.take (bf.length - 1):=⟨_,rfl⟩
        have hdl:d.length=bf.length - 1:=by rw [hd,List.length_take];omega
        have hbyd:BytesAt w8 g 0 d:=by
          intro j hj
          rw [hby j (by rw [hll];omega),hd]
          simp only [List.getD_eq_getElem?_getD,List.getElem?_take]
          rw [if_pos (by omega),List.getElem?_append_left (by omega)]
        have HRES2:=Lib.hid (show piL x.o rest=piEnd x.o tg d r6 by
          rw [HRES.out,HCO.out];unfold procL;rw [if_pos ⟨c0',rfl⟩,hd])
        rw [hv,hll] at hbd
        rw [hll] at hlc
        have HV:=Lib.hid hv
        have HBY:=Lib.hid hbyd
        have hL:bf.length=d.length + 1:=by omega
        have hdlim:=Lib.hid (show d.length ≤ 1000000000 by have:=HLEN.out;have:=HSKL.out;simp only [List.length_cons] at *;omega)
        rw [hL] at hbd hlc
        have hsub:IntKind.i64.wrap ((d.length:Int) + 1 + 1 - 2)=(d.length:Int):=by rw [IntKind.wrap_i64];have:=hdlim.out;omega
        have hsub2:IntKind.i64.wrap (d.length:Int)=(d.length:Int):=by rw [IntKind.wrap_i64];have:=hdlim.out;omega
        have l0':(0:Int) ≤ (d.length:Int):=by omega
        have l1:(d.length:Int) ≤ (cap:Int):=by omega
        have l2:d.length ≤ cap:=by omega
        have HL2:=Lib.hid l2
        have HCM:=Lib.hid hcm
        clear hne hv hby hbyd hll hd hdl hL hb2 c0'
        go_simp
        (repeat (first|(with_reducible first|refine zA fun K hK=>?_|refine zB ?_|refine zC ?_)|((with_reducible first|refine zD rfl fun K hK=>?_|refine zE fun K hK=>?_);go_simp)|(with_reducible first|((repeat ((fail_if_success refine hK _ _ ?_);clear hK K));refine hK _ _ ?_;clear hK K)|refine zt ?_|refine zf ?_|refine zG ?_|refine zR ?_|refine zK ?_|refine zL ?_|refine zN ?_|refine zS ?_)|simp only [Exit.then,Exit.inBlock,Exit.noGoto,↓reduceIte,Nat.reduceEqDiff]|simp only [undef,reduceCtorEq,↓reduceIte]))
        refine hbd.out.mono ?_
        rintro e9 w9 ⟨rfl,kk,rfl⟩
        go_simp
        (repeat ((fail_if_success with_reducible refine wp_stop 54 ?_);(fail_if_success with_reducible refine wp_stop2 54 ?_);(first|(with_reducible first|refine zA fun K hK=>?_|refine zB ?_|refine zC ?_)|((with_reducible first|refine zD rfl fun K hK=>?_|refine zE fun K hK=>?_);go_simp)|(with_reducible first|((repeat ((fail_if_success refine hK _ _ ?_);clear hK K));refine hK _ _ ?_;clear hK K)|refine zt ?_|refine zf ?_|refine zG ?_|refine zR ?_|refine zK ?_|refine zL ?_|refine zN ?_|refine zS ?_)|simp only [Exit.then,Exit.inBlock,Exit.noGoto,↓reduceIte,Nat.reduceEqDiff]|simp only [undef,reduceCtorEq,↓reduceIte])))
        (refine wp_keep [0,8,10] (fun f=>?_);simp only [keep_cons,keep_nil,lk_cons,lk_nil,Nat.reduceEqDiff,↓reduceIte])
        refine wp_code (piDecl x HX.out HAF.out HAFB.out c (w8.drewN kk) v8 r6 _ (HR8.out.drewN HX.out.toOk kk) HN8.out tg d g cap HBY.out hdlim.out HL2.out HCM.out _ HV.out _ ?_ f) (by kernel_rfl)
        intro f w' t e hP
        obtain ⟨⟨v',hS',hP'⟩,hO'⟩:=hP
        refine HQ.out f w' t e ⟨⟨v',(HS8.out.drawn kk).trans hS',?_⟩,fun k hk=>hO' k (by rw [← HRES2.out];exact hk)⟩
        rw [HRES2.out]
        have HSZ:=(HS8.out.drawn kk).mod.size
        cases hr:piEnd x.o tg d r6 with
        | error k=>rw [hr] at hP';exact hP'
        | ok q=>
          obtain ⟨tk,r9⟩:=q
          rw [hr] at hP'
          obtain ⟨q1,e',b',q2,q3,q4⟩:=hP'
          refine ⟨q1,e',b',q2,?_,q4⟩
          unfold piEnd at hr
          split at hr
          · cases hr
          · simp only [Except.ok.injEq,Prod.mk.injEq] at hr
            obtain ⟨rfl,rfl⟩:=hr
            exact q3
      all_goals
        have HCN:=Lib.hid (show ¬ (b0=63∧b=62) by first|exact fun hh=>c0' hh.1|exact fun hh=>c1' hh.2)
        go_simp
        (repeat (first|(with_reducible first|refine zA fun K hK=>?_|refine zB ?_|refine zC ?_)|((with_reducible first|refine zD rfl fun K hK=>?_|refine zE fun K hK=>?_);go_simp)|(with_reducible first|((repeat ((fail_if_success refine hK _ _ ?_);clear hK K));refine hK _ _ ?_;clear hK K)|refine zt ?_|refine zf ?_|refine zG ?_|refine zR ?_|refine zK ?_|refine zL ?_|refine zN ?_|refine zS ?_)|simp only [Exit.then,Exit.inBlock,Exit.noGoto,↓reduceIte,Nat.reduceEqDiff]|simp only [undef,reduceCtorEq,↓reduceIte]))
        (refine K_keep [0,8,9] (fun f=>?_);simp only [keep_cons,keep_nil,lk_cons,lk_nil,Nat.reduceEqDiff,↓reduceIte])
        refine HK2.out _ _ ⟨r6.length,by rw [HK.out];simp,HJ.out _ _ _ ⟨f,v8,r6,b,bf ++ [b],none,rfl,HR8.out,HS8.out,rfl,?_,fun _=>by simp,?_⟩⟩
        · rw [HCO.out];conv=>lhs;unfold procL
          rw [if_neg HCN.out]
        · have:=HLEN.out;simp at this ⊢;omega
end Go.Proofs.YtkjnockljapnbaaGreatDoor
namespace Go.Proofs.YtkjnockljapnbaaGreatDoor
open Go Go.RowKit
abbrev rdI (x:Cx):Value:=.iface 50 (.pointer (some ⟨x.rd,0,none⟩))
theorem taRB (a:Addr) (w:World):(Instr.typeAssert (.iface 50 (.pointer (some a))) 66 71 true).run Tryz.prog w=.ok (.tuple #[.nilIface,.bool false]) w:=
  run_typeAssert_lacksB Tryz.underlying71 (by kernel_rfl) (by kernel_rfl) _ _ w
theorem taBR (a:Addr) (w:World):(Instr.typeAssert (.iface 50 (.pointer (some a))) 66 155 true).run Tryz.prog w=.ok (.tuple #[.pointer none,.bool false]) w:=by kernel_rfl
theorem mk4096 (w:World):∃ arr:Array Value,arr.size=4096∧(Instr.makeSlice 74 (.int .i64 4096) (.int .i64 4096)).run Tryz.prog w=.ok (.slice (some ⟨w.heap.size,0,none⟩) 4096 4096) (w.alloc (.cells arr 5)):=by
  obtain ⟨i,hi,hz,h1,h2⟩:=info_parts u8all
  have:=run_make w 74 5 i (.int .u8 0) Tryz.underlying74 hi hz .i64 .i64 4096 4096 (by omega) (by omega) (by rw [h2];omega) (by omega)
  rw [h1] at this
  exact ⟨madeCells #[.int .u8 0] 4096,by simp [size_madeCells],by simpa [Value.cells] using this⟩
def c0 (x:Cx) (mb:Nat):DC:=⟨true,.slice none 0 0,.map none,⟨#[]⟩,.iface 155 (.pointer (some ⟨x.br,0,none⟩)),.pointer none,0,.pointer none,false,⟨#[]⟩,⟨#[]⟩,.nilIface,.map (some mb)⟩
def v0:DV:=⟨.slice none 0 0,0,-1,.nilIface,1,0,0⟩
structure NewDec (x:Cx) (w w':World):Prop where
  below:Below w.heap.size w w'
  dec:DecAt w' x.d (c0 x w.heap.size) v0
  br:Blk w' x.br (bioC x 0 0 .nilIface (-1)) 216
  rb:∃ arr:Array Value,arr.size=4096∧Blk w' x.rb arr 5
  map:w'.heap[w.heap.size]?=some (.map #[] 0)
  size:w'.heap.size=w.heap.size + 4
theorem newReader_c (x:Cx) (w:World) (h1:x.br=w.heap.size) (h2:x.rb=w.heap.size + 1) :
    Calls Tryz.prog 59 #[rdI x] w fun e w'=>e=.returned (.pointer (some ⟨x.br,0,none⟩))∧Below w.heap.size w w'∧Blk w' x.br (bioC x 0 0 .nilIface (-1)) 216∧(∃ arr:Array Value,arr.size=4096∧Blk w' x.rb arr 5)∧w'.heap.size=w.heap.size + 2:=by
  have q1:=fun a w=>taBR a w
  obtain ⟨arr,harr,hmk⟩:=mk4096 (w.alloc (.cells #[.slice none 0 0,.nilIface,.int .i64 0,.int .i64 0,.nilIface,.int .i64 0,.int .i64 0] 216))
  have HA:=Lib.hid harr
  have H1:=Lib.hid h1
  have H2:=Lib.hid h2
  clear harr h1 h2
  have hmx:(max 4096 16:Int)=4096:=by decide
  go_enter Tryz.func59,Tryz.ntmps59
  go_wp2
  go_end0
  go_wp2
  go_ret
  have hx1:=H1.out
  have hx2:=H2.out
  refine ⟨?_,((Below.refl _ w).alloc (Nat.le_refl _) _).alloc (by simp) _,?_,⟨arr,HA.out,?_⟩,by simp⟩
  · show Ending.returned (.pointer (some ⟨w.heap.size,0,none⟩))=_
    rw [hx1]
  · rw [hx1]
    have hb:=(Blk.new w #[.slice (some ⟨w.heap.size + 1,0,none⟩) 4096 4096,rdI x,.int .i64 0,.int .i64 0,.nilIface,.int .i64 (-1),.int .i64 (-1)] 216).alloc (.cells arr 5)
    unfold bioC
    rw [hx2]
    exact hb
  · rw [hx2]
    have hb:=Blk.new (w.alloc (.cells #[.slice (some ⟨w.heap.size + 1,0,none⟩) 4096 4096,rdI x,.int .i64 0,.int .i64 0,.nilIface,.int .i64 (-1),.int .i64 (-1)] 216)) arr 5
    simpa using hb
theorem newDecoder_c (x:Cx) (w:World) (h0:x.d=w.heap.size + 1) (h1:x.br=w.heap.size + 2) (h2:x.rb=w.heap.size + 3) :
    Calls Tryz.prog 22 #[rdI x] w fun e w'=>e=.returned (decP x)∧NewDec x w w':=by
  have q1:=fun a w=>taRB a w
  have hm:=@run_makeMap Tryz.prog
  have HR:=Lib.hid (fun (w':World) (hb:Below w.heap.size w w') (hs:w'.heap.size=w.heap.size + 2)=>newReader_c x w' (by omega) (by omega))
  have H0:=Lib.hid h0
  have H1:=Lib.hid h1
  have H2:=Lib.hid h2
  clear h0 h1 h2
  go_enter Tryz.func22,Tryz.ntmps22
  go_wp2_with (first|(go_at_call 34;go_in)|fail)
  have hD0:Blk ((w.alloc (.map #[] 0)).alloc (.cells (dcells { c0 x w.heap.size with r:=.nilIface } v0) 84)) (w.heap.size + 1) (dcells { c0 x w.heap.size with r:=.nilIface } v0) 84:=by
    have:=Blk.new (w.alloc (.map #[] 0)) (dcells { c0 x w.heap.size with r:=.nilIface } v0) 84
    simpa using this
  have hM0:((w.alloc (.map #[] 0)).alloc (.cells (dcells { c0 x w.heap.size with r:=.nilIface } v0) 84)).heap[w.heap.size]?=some (.map #[] 0):=heap_alloc2_old w _ _
  have hB0:Below w.heap.size w ((w.alloc (.map #[] 0)).alloc (.cells (dcells { c0 x w.heap.size with r:=.nilIface } v0) 84)):=((Below.refl _ w).alloc (Nat.le_refl _) _).alloc (by simp) _
  have hS0:((w.alloc (.map #[] 0)).alloc (.cells (dcells { c0 x w.heap.size with r:=.nilIface } v0) 84)).heap.size=w.heap.size + 2:=by simp
  refine (HR.out _ hB0 hS0).mono ?_
  rintro e1 w1 ⟨rfl,hb1,hbr,hrb,hsz⟩
  have hD1:Blk w1 (w.heap.size + 1) _ _:=Blk.mod (S:=fun _=>False) hD0 (mod_none hb1 _) id
  have HM1:=Lib.hid (show w1.heap[w.heap.size]?=some (.map #[] 0) from (hb1.block w.heap.size (by rw [hS0];omega)).trans hM0)
  have HB1:=Lib.hid (hB0.trans (hb1.mono (by rw [hS0];omega)))
  have HSZ:=Lib.hid (show w1.heap.size=w.heap.size + 4 by rw [hsz,hS0])
  have hc:=hD1.cell
  have hf:=hD1.frozen
  have HD1:=Lib.hid hD1
  have HBR:=Lib.hid hbr
  have HRB:=Lib.hid hrb
  clear hD0 hM0 hB0 hS0 hb1 hbr hrb hsz hD1
  go_wp2
  go_end0
  go_wp2
  go_ret
  have hx0:=H0.out
  refine ⟨?_,?_⟩
  · show _=Ending.returned (.pointer (some ⟨x.d,0,none⟩))
    rw [hx0]
    rfl
  · refine ⟨HB1.out.setCell (by show w.heap.size ≤ w.heap.size + 1;omega) _,?_,?_,?_,?_,?_⟩
    · rw [hx0]
      exact (HD1.out.set 5 (.iface 155 (.pointer (some ⟨x.br,0,none⟩))))
    · exact HBR.out.set_ne (a:=⟨w.heap.size + 1,5,none⟩) (by have:=H1.out;show x.br ≠ w.heap.size + 1;omega) _
    · obtain ⟨arr,ha,hb⟩:=HRB.out
      exact ⟨arr,ha,hb.set_ne (a:=⟨w.heap.size + 1,5,none⟩) (by have:=H2.out;show x.rb ≠ w.heap.size + 1;omega) _⟩
    · rw [heap_setCell_ne _ _ _ _ (by show w.heap.size ≠ w.heap.size + 1;omega)];exact HM1.out
    · have:=HSZ.out
      simpa [World.setCell] using this
end Go.Proofs.YtkjnockljapnbaaGreatDoor
namespace Go.Proofs.YtkjnockljapnbaaGreatDoor
open Go Go.RowKit
abbrev optV (raw loose:Bool) (auto:Value) (space:Bs):Value:=.agg #[.bool raw,.bool loose,.slice none 0 0,auto,strV space]
theorem decoder_c (x:Cx) (w:World) (raw loose:Bool) (a:Option Addr) (al ac:Nat) (space:Bs) (h0:x.d=w.heap.size + 2) (h1:x.br=w.heap.size + 3) (h2:x.rb=w.heap.size + 4) :
    Calls Tryz.prog 15 #[rdI x,optV raw loose (.slice a al ac) space] w fun e w'=>e=.returned (decP x)∧Below w.heap.size w w'∧DecAt w' x.d { c0 x (w.heap.size + 1) with strict:=!loose,auto:=.slice a al ac,space:=⟨space.toArray⟩ } v0∧Blk w' x.br (bioC x 0 0 .nilIface (-1)) 216∧(∃ arr:Array Value,arr.size=4096∧Blk w' x.rb arr 5)∧w'.heap[w.heap.size + 1]?=some (.map #[] 0):=by
  have hw0:(w.alloc (.cells #[.bool raw,.bool loose,.slice none 0 0,.slice a al ac,strV space] 30)).heap.size=w.heap.size + 1:=by simp
  have hnd:=Lib.hid (newDecoder_c x (w.alloc (.cells #[.bool raw,.bool loose,.slice none 0 0,.slice a al ac,strV space] 30)) (by rw [hw0];omega) (by rw [hw0];omega) (by rw [hw0];omega))
  have HB:=Lib.hid (Blk.new w #[.bool raw,.bool loose,.slice none 0 0,.slice a al ac,strV space] 30)
  have HW0:=Lib.hid hw0
  have H0:=Lib.hid h0
  have H1:=Lib.hid h1
  have H2:=Lib.hid h2
  clear h0 h1 h2 hw0
  refine calls_fr (vs:=[_,_]) 51 Tryz.func15 rfl rfl (Nat.le_of_ble_eq_true rfl) fun f=>?_
  simp only [argSlots]
  (repeat (first|(with_reducible first|refine zA fun K hK=>?_|refine zB ?_|refine zC ?_)|((with_reducible first|refine zD rfl fun K hK=>?_|refine zE fun K hK=>?_);go_simp)|(with_reducible first|((repeat ((fail_if_success refine hK _ _ ?_);clear hK K));refine hK _ _ ?_;clear hK K)|refine zt ?_|refine zf ?_|refine zG ?_|refine zR ?_|refine zK ?_|refine zL ?_|refine zN ?_|refine zS ?_)|simp only [Exit.then,Exit.inBlock,Exit.noGoto,↓reduceIte,Nat.reduceEqDiff]|simp only [undef,reduceCtorEq,↓reduceIte]))
  refine hnd.out.mono ?_
  rintro e1 w1 ⟨rfl,hN⟩
  have hbk:Blk w1 w.heap.size _ _:=Blk.mod (S:=fun _=>False) HB.out (mod_none hN.below _) id
  have hc1:=hN.dec.cell
  have hf1:=hN.dec.frozen
  have hc2:=hbk.cell
  have hf2:=hbk.frozen
  have HN:=Lib.hid hN
  have HBK:=Lib.hid hbk
  have hne:x.d ≠ w.heap.size:=by have:=H0.out;omega
  clear hN hbk hnd
  go_simp
  (repeat (first|(with_reducible first|refine zA fun K hK=>?_|refine zB ?_|refine zC ?_)|((with_reducible first|refine zD rfl fun K hK=>?_|refine zE fun K hK=>?_);go_simp)|(with_reducible first|((repeat ((fail_if_success refine hK _ _ ?_);clear hK K));refine hK _ _ ?_;clear hK K)|refine zt ?_|refine zf ?_|refine zG ?_|refine zR ?_|refine zK ?_|refine zL ?_|refine zN ?_|refine zS ?_)|simp only [Exit.then,Exit.inBlock,Exit.noGoto,↓reduceIte,Nat.reduceEqDiff]|simp only [undef,reduceCtorEq,↓reduceIte]))
  (refine wp_keep [3,5] (fun f=>?_);simp only [keep_cons,keep_nil,lk_cons,lk_nil,Nat.reduceEqDiff,↓reduceIte])
  go_region_held3 (fun w'=>w'.cell? ⟨w.heap.size,1,none⟩=some (.bool loose)∧w'.cell? ⟨w.heap.size,3,none⟩=some (.slice a al ac)∧w'.cell? ⟨w.heap.size,4,none⟩=some (strV space)) (go_keep) (fail)
  clear hc1 hf1 hc2 hf2
  have hne':w.heap.size ≠ x.d:=fun e=>hne e.symm
  obtain ⟨w3,hw3⟩:∃ w3,w3=(((w1.setCell ⟨x.d,0,none⟩ (.bool !loose)).setCell ⟨x.d,1,none⟩ (.slice a al ac)).setCell ⟨x.d,4,none⟩ (.string ⟨space.toArray⟩)).drew:=⟨_,rfl⟩
  have hb3:Blk w3 w.heap.size #[.bool raw,.bool loose,.slice none 0 0,.slice a al ac,strV space] 30:=by
    rw [hw3]
    exact ((((show Blk w1 w.heap.size _ _ from HBK.out).set_ne (a:=⟨x.d,0,none⟩) hne' (.bool !loose)).set_ne (a:=⟨x.d,1,none⟩) hne' (.slice a al ac)).set_ne (a:=⟨x.d,4,none⟩) hne' (.string ⟨space.toArray⟩)).drew
  have hd3:DecAt w3 x.d { c0 x (w.heap.size + 1) with strict:=!loose,auto:=.slice a al ac,space:=⟨space.toArray⟩ } v0:=by
    rw [hw3]
    have h9:=((((show Blk w1 x.d _ _ from HN.out.dec).set 0 (.bool !loose)).set 1 (.slice a al ac)).set 4 (.string ⟨space.toArray⟩))
    rw [HW0.out] at h9
    exact h9.drew
  have hbe:Below w.heap.size w w3:=by
    rw [hw3]
    have hd:=H0.out
    refine Below.drew ?_
    refine Below.setCell ?_ (by show w.heap.size ≤ x.d;omega) _
    refine Below.setCell ?_ (by show w.heap.size ≤ x.d;omega) _
    refine Below.setCell ?_ (by show w.heap.size ≤ x.d;omega) _
    exact ((Below.refl _ w).alloc (Nat.le_refl _) _).trans (HN.out.below.mono (by simp))
  have hbr3:Blk w3 x.br (bioC x 0 0 .nilIface (-1)) 216:=by
    rw [hw3]
    have hn:x.br ≠ x.d:=by have:=H0.out;have:=H1.out;omega
    exact (((HN.out.br.set_ne (a:=⟨x.d,0,none⟩) hn (.bool !loose)).set_ne (a:=⟨x.d,1,none⟩) hn (.slice a al ac)).set_ne (a:=⟨x.d,4,none⟩) hn (.string ⟨space.toArray⟩)).drew
  have hrb3:∃ arr:Array Value,arr.size=4096∧Blk w3 x.rb arr 5:=by
    rw [hw3]
    obtain ⟨arr,ha,hb⟩:=HN.out.rb
    have hn:x.rb ≠ x.d:=by have:=H0.out;have:=H2.out;omega
    exact ⟨arr,ha,(((hb.set_ne (a:=⟨x.d,0,none⟩) hn (.bool !loose)).set_ne (a:=⟨x.d,1,none⟩) hn (.slice a al ac)).set_ne (a:=⟨x.d,4,none⟩) hn (.string ⟨space.toArray⟩)).drew⟩
  have hm3:w3.heap[w.heap.size + 1]?=some (.map #[] 0):=by
    rw [hw3]
    have hm:=HN.out.map
    rw [HW0.out] at hm
    have hn:w.heap.size + 1 ≠ x.d:=by have:=H0.out;omega
    show (((w1.setCell ⟨x.d,0,none⟩ (.bool !loose)).setCell ⟨x.d,1,none⟩ (.slice a al ac)).setCell ⟨x.d,4,none⟩ (.string ⟨space.toArray⟩)).heap[w.heap.size + 1]?=_
    rw [heap_setCell_ne _ _ _ _ hn,heap_setCell_ne _ _ _ _ hn,heap_setCell_ne _ _ _ _ hn]
    exact hm
  rw [← hw3]
  clear hw3
  have hc3:=hb3.cell
  have hf3:=hb3.frozen
  have HD3:=Lib.hid hd3
  have HE3:=Lib.hid hbe
  have HBR:=Lib.hid hbr3
  have HRB:=Lib.hid hrb3
  have HM:=Lib.hid hm3
  clear hb3 hd3 hbe hbr3 hrb3 hm3
  (repeat (first|(with_reducible first|refine zA fun K hK=>?_|refine zB ?_|refine zC ?_)|((with_reducible first|refine zD rfl fun K hK=>?_|refine zE fun K hK=>?_);go_simp)|(with_reducible first|((repeat ((fail_if_success refine hK _ _ ?_);clear hK K));refine hK _ _ ?_;clear hK K)|refine zt ?_|refine zf ?_|refine zG ?_|refine zR ?_|refine zK ?_|refine zL ?_|refine zN ?_|refine zS ?_)|simp only [Exit.then,Exit.inBlock,Exit.noGoto,↓reduceIte,Nat.reduceEqDiff]|simp only [undef,reduceCtorEq,↓reduceIte]))
  refine wp_loop_once ?_
  (repeat (first|(with_reducible first|refine zA fun K hK=>?_|refine zB ?_|refine zC ?_)|((with_reducible first|refine zD rfl fun K hK=>?_|refine zE fun K hK=>?_);go_simp)|(with_reducible first|((repeat ((fail_if_success refine hK _ _ ?_);clear hK K));refine hK _ _ ?_;clear hK K)|refine zt ?_|refine zf ?_|refine zG ?_|refine zR ?_|refine zK ?_|refine zL ?_|refine zN ?_|refine zS ?_)|simp only [Exit.then,Exit.inBlock,Exit.noGoto,↓reduceIte,Nat.reduceEqDiff]|simp only [undef,reduceCtorEq,↓reduceIte]))
  (refine fr_out1 rfl (by decide) (by simp only [lk_cons,lk_nil,Nat.reduceEqDiff,↓reduceIte];rfl) ?_)
  exact ⟨rfl,HE3.out,HD3.out,HBR.out,HRB.out,HM.out⟩
end Go.Proofs.YtkjnockljapnbaaGreatDoor
namespace Go.Proofs.YtkjnockljapnbaaGreatDoor
open Go Go.RowKit
structure Env (w:World):Prop where
  eof:∃ a:Addr,w.cell? ⟨0,0,none⟩=some (errV a)∧a.block < w.heap.size
  gB:0 < w.heap.size
  u8:Lib.Utf8Tabs 6 7 w
  num:NumErrs w
  numS:8 < w.heap.size
  numR:9 < w.heap.size
theorem Env.below {w w':World} (h:Env w) (hb:Below w.heap.size w w'):Env w':=by
  obtain ⟨a,ha,hl⟩:=h.eof
  exact ⟨⟨a,by rw [hb.cell (p:=⟨_,0,none⟩) h.gB];exact ha,Nat.lt_of_lt_of_le hl hb.size⟩,Nat.lt_of_lt_of_le h.gB hb.size,Utf8Tabs_below h.u8 hb,h.num.below h.numS h.numR hb,Nat.lt_of_lt_of_le h.numS hb.size,Nat.lt_of_lt_of_le h.numR hb.size⟩
structure PcOk (w:World) (pcA:Option Addr) (pcN pcC:Nat) (pcs:List Int):Prop where
  n:pcN ≤ 9223372036854775807
  l:pcN ≤ pcC
  at':0 < pcN → ∃ pb po:Nat,pcA=some ⟨pb,po,none⟩∧pb < w.heap.size∧∀ j,j < pcN → w.cell? ⟨pb,po + j,none⟩=some (.int .i64 (pcs.getD j 0))
def mkCx (w:World) (T:Bs) (o:Opt) (eofA:Addr) (pcA:Option Addr) (pcN pcC:Nat) (pcs:List Int):Cx:=⟨w,T,o,w.heap.size + 4,w.heap.size + 5,w.heap.size + 6,w.heap.size + 1,eofA,pcA,pcN,pcC,pcs⟩
theorem mkCx_all {w:World} (hE:Env w) {T:Bs} (hT:T.length ≤ 1000000000) (o:Opt) {eofA:Addr} (he:w.cell? ⟨0,0,none⟩=some (errV eofA)) (hl:eofA.block < w.heap.size) {pcA:Option Addr} {pcN pcC:Nat} {pcs:List Int} (hp:PcOk w pcA pcN pcC pcs):(mkCx w T o eofA pcA pcN pcC pcs).All:=by
  refine ⟨⟨⟨hT,?_,?_,?_,?_,?_,?_,?_,?_,?_,?_,he,hl,hE.gB,hp.n,hp.l,hp.at'⟩,hE.u8⟩,hE.num,hE.numS,hE.numR⟩
  all_goals (simp only [mkCx,Cx.B];omega)
theorem rdS0 {w w1:World} {T:Bs} (hT:T.length ≤ 1000000000) {o:Opt} {eofA:Addr} {pcA:Option Addr} {pcN pcC:Nat} {pcs:List Int} {c:DC} (x:Cx) (hx:x=mkCx w T o eofA pcA pcN pcC pcs) (hb:Below w.heap.size w w1) (hd:DecAt w1 x.d c v0)
    (hbr:Blk w1 x.br (bioC x 0 0 .nilIface (-1)) 216) (hrb:∃ arr:Array Value,arr.size=4096∧Blk w1 x.rb arr 5) (hrd:Blk w1 x.rd (rdC x ⟨T.toArray⟩ 0) 52):RdS x c w1 v0 T none []:=by
  obtain ⟨arr,ha,hr⟩:=hrb
  have hs:(⟨T.toArray⟩:ByteArray).size=T.length:=rfl
  refine ⟨by rw [hx];exact hb,hd,⟨T,⟨0,0,0,-1,arr,⟨T.toArray⟩,[],hbr,hr,ha,hrd,Nat.le_refl _,by omega,rfl,fun j hj=>absurd hj (by simp),by simp,by rw [hs];omega⟩,Or.inl ⟨rfl,rfl⟩⟩,⟨[],by rw [hx];rfl,rfl,rfl,fun _=>rfl,fun hh=>absurd hh (by decide)⟩,rfl,Or.inl rfl,Or.inl ⟨rfl,rfl⟩⟩
end Go.Proofs.YtkjnockljapnbaaGreatDoor
