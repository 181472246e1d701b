/- Part of the proof that laws.FnBalanced returns true for every argument (Wd). No condition of its own. -/
import Derived.Test.YtkjnockljapnbaaGreatDoorO19
set_option linter.all false
set_option maxHeartbeats 8000000
set_option maxRecDepth 100000
namespace Go.Proofs.YtkjnockljapnbaaGreatDoor
open Go Go.RowKit
def comL (o:Opt):Bs → Except EK (RTok × Bs)
  | []=>.error (mustE o.fails)
  | c :: r2=>if c=45 then (match commentL o.fails r2 0 0 [] with
    | .error e=>.error e
    | .ok (d,r3)=>.ok (.comment d,r3)) else .error .syn
theorem RdS.chop {x:Cx} {c:DC} {w:World} {v:DV} {r:Bs} {e:Option EK} {b:Bs} (h:RdS x c w v r e b) (hb:b ≠ []) (n:Nat) :
    ∃ g cap,v.bufv=.slice (some ⟨g,0,none⟩) b.length cap∧b.length ≤ cap∧cap ≤ 9223372036854775807∧∀ w',Below w.heap.size w w' → DataAt w' v.bufv (.slice (some ⟨g,0,none⟩) (b.take (b.length - n)).length cap) (b.take (b.length - n)):=by
  obtain ⟨g,cap,hv,hby,hl,hcm,_,_,_⟩:=h.bf.bytes hb
  refine ⟨g,cap,hv,hl,hcm,fun w' hw=>⟨g,cap,b.length,rfl,hv,?_,by rw [List.length_take];omega,hcm⟩⟩
  intro j hj
  rw [List.length_take] at hj
  rw [(hby.below hw) j (by omega)]
  simp only [List.getD_eq_getElem?_getD,List.getElem?_take]
  rw [if_pos (by omega)]
def CoInv (x:Cx) (c:DC) (w0:World) (v0:DV) (l0:Bs) (k:Nat) (a:Act) (w:World):Prop:=
  ∃ f v rest b0 b1 buf e,a=fr 731 f [(0,decP x),(16,.int .u8 (UInt8.toNat b0)),(17,.int .u8 (UInt8.toNat b1))]∧RdS x c w v rest e buf∧Stp x w0 v0 w v∧k=rest.length ∧
    commentL x.o.fails l0 0 0 []=commentL x.o.fails rest b0 b1 buf∧(b0=45 → 2 ≤ buf.length)∧(b1=45 → 1 ≤ buf.length)∧buf.length + rest.length=l0.length
theorem rawCom (x:Cx) (hx:x.All) (c:DC) (hdc:DcOk x c) (w:World) (v:DV) (rest:Bs) (e:Option EK) (buf:Bs) (h:RdS x c w v rest e buf) (Q:Exit → Act → World → Prop)
    (hQ:∀ f w' t e,RawPost x c w v (comL x.o rest) t e w' → Q .ret (fr 731 f [(2,t),(3,e)]) w') (f:Nat → Value) :
    (rwCode 79).wp Tryz.prog Q (fr 731 f [(0,decP x)]) w:=by
  have HX:=Lib.hid hx
  have HD:=Lib.hid hdc
  have HQ:=Lib.hid hQ
  have HRL:=Lib.hid (show rest.length ≤ 1000000000 from Nat.le_trans (h.suf.length_le) hx.len)
  cases rest with
  | nil=>
    have hmg:=Lib.hid (mustgetc_none x hx.toOk c hdc w v e buf h)
    clear h hx hdc hQ
    unfold rwCode
    conv=>arg 2;whnf
    (repeat (first|(with_reducible first|refine zA fun K hK=>?_|refine zB ?_|refine zC ?_)|((with_reducible first|refine zD rfl fun K hK=>?_|refine zE fun K hK=>?_);go_simp)|(with_reducible first|((repeat ((fail_if_success refine hK _ _ ?_);clear hK K));refine hK _ _ ?_;clear hK K)|refine zt ?_|refine zf ?_|refine zG ?_|refine zR ?_|refine zK ?_|refine zL ?_|refine zN ?_|refine zS ?_)|simp only [Exit.then,Exit.inBlock,Exit.noGoto,↓reduceIte,Nat.reduceEqDiff]|simp only [undef,reduceCtorEq,↓reduceIte]))
    refine hmg.out.mono ?_
    rintro e4 w4 ⟨rfl,v4,hE,hb4,hm4⟩
    have HS5:=Lib.hid ((Stp.refl x w v).s0 hm4 hb4)
    obtain ⟨t1,u1,hu1⟩:=hE.err.iface
    have HE:=Lib.hid hE
    have hc:=hE.dec.cell
    have hf:=hE.dec.frozen
    have HU:=Lib.hid hu1
    clear hE hm4 hb4 hmg
    go_simp
    (repeat (first|(with_reducible first|refine zA fun K hK=>?_|refine zB ?_|refine zC ?_)|((with_reducible first|refine zD rfl fun K hK=>?_|refine zE fun K hK=>?_);go_simp)|(with_reducible first|((repeat ((fail_if_success refine hK _ _ ?_);clear hK K));refine hK _ _ ?_;clear hK K)|refine zt ?_|refine zf ?_|refine zG ?_|refine zR ?_|refine zK ?_|refine zL ?_|refine zN ?_|refine zS ?_)|simp only [Exit.then,Exit.inBlock,Exit.noGoto,↓reduceIte,Nat.reduceEqDiff]|simp only [undef,reduceCtorEq,↓reduceIte]))
    ((refine wp_keep [0] (fun f=>?_);simp only [keep_cons,keep_nil,lk_cons,lk_nil,Nat.reduceEqDiff,↓reduceIte]);go_quiet (fail);(repeat (first|(with_reducible first|refine zA fun K hK=>?_|refine zB ?_|refine zC ?_)|((with_reducible first|refine zD rfl fun K hK=>?_|refine zE fun K hK=>?_);go_simp)|(with_reducible first|((repeat ((fail_if_success refine hK _ _ ?_);clear hK K));refine hK _ _ ?_;clear hK K)|refine zt ?_|refine zf ?_|refine zG ?_|refine zR ?_|refine zK ?_|refine zL ?_|refine zN ?_|refine zS ?_)|simp only [Exit.then,Exit.inBlock,Exit.noGoto,↓reduceIte,Nat.reduceEqDiff]|simp only [undef,reduceCtorEq,↓reduceIte]));refine Q_keep [2,3] (fun f=>?_);simp only [keep_cons,keep_nil,lk_cons,lk_nil,Nat.reduceEqDiff,↓reduceIte])
    exact HQ.out f _ _ _ ⟨v4,HS5.out.drawn _,⟨rfl,HU.out.symm,HE.out.drewN _⟩⟩
  | cons b1 r2=>
    have hmg:=Lib.hid (mustgetc_some x hx.toOk c hdc w v b1 r2 e buf h)
    clear h hx hdc hQ
    unfold rwCode
    conv=>arg 2;whnf
    (repeat (first|(with_reducible first|refine zA fun K hK=>?_|refine zB ?_|refine zC ?_)|((with_reducible first|refine zD rfl fun K hK=>?_|refine zE fun K hK=>?_);go_simp)|(with_reducible first|((repeat ((fail_if_success refine hK _ _ ?_);clear hK K));refine hK _ _ ?_;clear hK K)|refine zt ?_|refine zf ?_|refine zG ?_|refine zR ?_|refine zK ?_|refine zL ?_|refine zN ?_|refine zS ?_)|simp only [Exit.then,Exit.inBlock,Exit.noGoto,↓reduceIte,Nat.reduceEqDiff]|simp only [undef,reduceCtorEq,↓reduceIte]))
    refine hmg.out.mono ?_
    rintro e4 w4 ⟨rfl,v4,hR4,hn4,hb4,hm4,hz4⟩
    have HS4:=Lib.hid ((Stp.refl x w v).s0 hm4 hb4)
    have HR4:=Lib.hid hR4
    clear hR4 hn4 hm4 hb4 hz4 hmg
    by_cases hb:b1=45
    · subst hb
      have HRES:=Lib.hid (show comL x.o (45 :: r2)=(match commentL x.o.fails r2 0 0 [] with|.error e=>.error e|.ok (d,r3)=>.ok (.comment d,r3)) from rfl)
      have hrs:=Lib.hid (reset_c x HX.out.toOk c w4 v4 r2 none buf HR4.out)
      go_simp
      (repeat (first|(with_reducible first|refine zA fun K hK=>?_|refine zB ?_|refine zC ?_)|((with_reducible first|refine zD rfl fun K hK=>?_|refine zE fun K hK=>?_);go_simp)|(with_reducible first|((repeat ((fail_if_success refine hK _ _ ?_);clear hK K));refine hK _ _ ?_;clear hK K)|refine zt ?_|refine zf ?_|refine zG ?_|refine zR ?_|refine zK ?_|refine zL ?_|refine zN ?_|refine zS ?_)|simp only [Exit.then,Exit.inBlock,Exit.noGoto,↓reduceIte,Nat.reduceEqDiff]|simp only [undef,reduceCtorEq,↓reduceIte]))
      refine hrs.out.mono ?_
      rintro e5 w5 ⟨rfl,v5,hR5,hn5,hb5,hm5,hz5⟩
      have HS5:=Lib.hid (HS4.out.trans (Stp.ofS0 hm5 hb5))
      have HR5:=Lib.hid hR5
      clear hR5 hn5 hb5 hm5 hz5 hrs
      go_simp
      (repeat (first|(with_reducible first|refine zA fun K hK=>?_|refine zB ?_|refine zC ?_)|((with_reducible first|refine zD rfl fun K hK=>?_|refine zE fun K hK=>?_);go_simp)|(with_reducible first|((repeat ((fail_if_success refine hK _ _ ?_);clear hK K));refine hK _ _ ?_;clear hK K)|refine zt ?_|refine zf ?_|refine zG ?_|refine zR ?_|refine zK ?_|refine zL ?_|refine zN ?_|refine zS ?_)|simp only [Exit.then,Exit.inBlock,Exit.noGoto,↓reduceIte,Nat.reduceEqDiff]|simp only [undef,reduceCtorEq,↓reduceIte]))
      (refine wp_keep [0,16,17] (fun f=>?_);simp only [keep_cons,keep_nil,lk_cons,lk_nil,Nat.reduceEqDiff,↓reduceIte])
      refine wp_loop_ghost_k (CoInv x c w v r2) r2.length ⟨f,v5,r2,0,0,[],none,rfl,HR5.out,HS5.out,rfl,rfl,fun h=>absurd h (by decide),fun h=>absurd h (by decide),by simp⟩ ?_
      rintro k _ w6 ⟨f,v6,rest,b0,b1,bf,e6,rfl,h6,hs6,hk,hco,hbl0,hbl1,hlen⟩ J K2 hJ hK2
      have HJ:=Lib.hid hJ
      have HK2:=Lib.hid hK2
      have HS6:=Lib.hid hs6
      have HK:=Lib.hid hk
      have HCO:=Lib.hid hco
      have HB0:=Lib.hid hbl0
      have HB1:=Lib.hid hbl1
      have HLEN:=Lib.hid hlen
      clear hJ hK2 hs6 hk hco hbl0 hbl1 hlen
      cases rest with
      | nil=>
        have hmg:=Lib.hid (mustgetc_none x HX.out.toOk c HD.out w6 v6 e6 bf h6)
        have HRES2:=Lib.hid (show comL x.o (45 :: r2)=.error (mustE x.o.fails) by rw [HRES.out,HCO.out];rfl)
        clear h6
        (repeat (first|(with_reducible first|refine zA fun K hK=>?_|refine zB ?_|refine zC ?_)|((with_reducible first|refine zD rfl fun K hK=>?_|refine zE fun K hK=>?_);go_simp)|(with_reducible first|((repeat ((fail_if_success refine hK _ _ ?_);clear hK K));refine hK _ _ ?_;clear hK K)|refine zt ?_|refine zf ?_|refine zG ?_|refine zR ?_|refine zK ?_|refine zL ?_|refine zN ?_|refine zS ?_)|simp only [Exit.then,Exit.inBlock,Exit.noGoto,↓reduceIte,Nat.reduceEqDiff]|simp only [undef,reduceCtorEq,↓reduceIte]))
        refine hmg.out.mono ?_
        rintro e7 w7 ⟨rfl,v7,hE,hb7,hm7⟩
        have HS7:=Lib.hid (HS6.out.s0 hm7 hb7)
        obtain ⟨t1,u1,hu1⟩:=hE.err.iface
        have HE:=Lib.hid hE
        have hc:=hE.dec.cell
        have hf:=hE.dec.frozen
        have HU:=Lib.hid hu1
        clear hE hm7 hb7 hmg
        go_simp
        (repeat (first|(with_reducible first|refine zA fun K hK=>?_|refine zB ?_|refine zC ?_)|((with_reducible first|refine zD rfl fun K hK=>?_|refine zE fun K hK=>?_);go_simp)|(with_reducible first|((repeat ((fail_if_success refine hK _ _ ?_);clear hK K));refine hK _ _ ?_;clear hK K)|refine zt ?_|refine zf ?_|refine zG ?_|refine zR ?_|refine zK ?_|refine zL ?_|refine zN ?_|refine zS ?_)|simp only [Exit.then,Exit.inBlock,Exit.noGoto,↓reduceIte,Nat.reduceEqDiff]|simp only [undef,reduceCtorEq,↓reduceIte]))
        ((refine wp_keep [0] (fun f=>?_);simp only [keep_cons,keep_nil,lk_cons,lk_nil,Nat.reduceEqDiff,↓reduceIte]);go_quiet (fail);(repeat (first|(with_reducible first|refine zA fun K hK=>?_|refine zB ?_|refine zC ?_)|((with_reducible first|refine zD rfl fun K hK=>?_|refine zE fun K hK=>?_);go_simp)|(with_reducible first|((repeat ((fail_if_success refine hK _ _ ?_);clear hK K));refine hK _ _ ?_;clear hK K)|refine zt ?_|refine zf ?_|refine zG ?_|refine zR ?_|refine zK ?_|refine zL ?_|refine zN ?_|refine zS ?_)|simp only [Exit.then,Exit.inBlock,Exit.noGoto,↓reduceIte,Nat.reduceEqDiff]|simp only [undef,reduceCtorEq,↓reduceIte]));refine Q_keep [2,3] (fun f=>?_);simp only [keep_cons,keep_nil,lk_cons,lk_nil,Nat.reduceEqDiff,↓reduceIte])
        exact HQ.out f _ _ _ ⟨v7,HS7.out.drawn _,by rw [HRES2.out];exact ⟨rfl,HU.out.symm,HE.out.drewN _⟩⟩
      | cons b r=>
        have hmg:=Lib.hid (mustgetc_some x HX.out.toOk c HD.out w6 v6 b r e6 bf h6)
        clear h6
        (repeat (first|(with_reducible first|refine zA fun K hK=>?_|refine zB ?_|refine zC ?_)|((with_reducible first|refine zD rfl fun K hK=>?_|refine zE fun K hK=>?_);go_simp)|(with_reducible first|((repeat ((fail_if_success refine hK _ _ ?_);clear hK K));refine hK _ _ ?_;clear hK K)|refine zt ?_|refine zf ?_|refine zG ?_|refine zR ?_|refine zK ?_|refine zL ?_|refine zN ?_|refine zS ?_)|simp only [Exit.then,Exit.inBlock,Exit.noGoto,↓reduceIte,Nat.reduceEqDiff]|simp only [undef,reduceCtorEq,↓reduceIte]))
        refine hmg.out.mono ?_
        rintro e7 w7 ⟨rfl,v7,h7,hn7,hb7,hm7,hz7⟩
        have HS7:=Lib.hid (HS6.out.s0 hm7 hb7)
        have HR7:=Lib.hid h7
        have HN7:=Lib.hid hn7
        have hlim:bf.length ≤ 50000000000000:=by have:=HLEN.out;have:=HRL.out;simp at *;omega
        have hwb:=Lib.hid (writeByte_k x HX.out.toOk c w7 v7 r none bf h7 b hlim)
        clear h7 hn7 hb7 hm7 hz7 hmg hlim
        go_simp
        (repeat (first|(with_reducible first|refine zA fun K hK=>?_|refine zB ?_|refine zC ?_)|((with_reducible first|refine zD rfl fun K hK=>?_|refine zE fun K hK=>?_);go_simp)|(with_reducible first|((repeat ((fail_if_success refine hK _ _ ?_);clear hK K));refine hK _ _ ?_;clear hK K)|refine zt ?_|refine zf ?_|refine zG ?_|refine zR ?_|refine zK ?_|refine zL ?_|refine zN ?_|refine zS ?_)|simp only [Exit.then,Exit.inBlock,Exit.noGoto,↓reduceIte,Nat.reduceEqDiff]|simp only [undef,reduceCtorEq,↓reduceIte]))
        refine hwb.out.mono ?_
        rintro e8 w8 ⟨rfl,v8,⟨h8,hn8,hs8⟩,_⟩
        have HS8:=Lib.hid (HS7.out.trans hs8)
        have HR8:=Lib.hid h8
        have HN8:=Lib.hid (hn8.trans HN7.out)
        clear h8 hn8 hs8 hwb
        have hcs:(((b0.toNat:Int) == 45)=false∧b0 ≠ 45) ∨ (((b0.toNat:Int) == 45)=true∧b0=45∧((b1.toNat:Int) == 45)=false∧b1 ≠ 45) ∨ (((b0.toNat:Int) == 45)=true∧b0=45∧((b1.toNat:Int) == 45)=true∧b1=45):=by
          by_cases h0:b0=45
          · subst h0
            by_cases h1:b1=45
            · subst h1;exact Or.inr (Or.inr ⟨rfl,rfl,rfl,rfl⟩)
            · exact Or.inr (Or.inl ⟨rfl,rfl,u8ne h1 rfl,h1⟩)
          · exact Or.inl ⟨u8ne h0 rfl,h0⟩
        rcases hcs with ⟨c0,c0'⟩|⟨c0,c0',c1,c1'⟩|⟨c0,c0',c1,c1'⟩
        case inr.inr=>
          have hb2:2 ≤ bf.length:=HB0.out c0'
          by_cases hb:b=62
          · subst hb
            have hne:bf ++ [62] ≠ []:=by simp
            obtain ⟨g,cap,hv,hlc,hcm,hdat⟩:=HR8.out.chop hne 3
            have hbd:=Lib.hid (bytes_c x c w8 v8 r none _ HR8.out)
            have hdl:((bf ++ [62]).take ((bf ++ [(62:UInt8)]).length - 3)).length=bf.length - 2:=by rw [List.length_take,List.length_append];simp only [List.length_cons,List.length_nil];omega
            have hde:(bf ++ [62]).take ((bf ++ [(62:UInt8)]).length - 3)=bf.take (bf.length - 2):=by
              have:(bf ++ [(62:UInt8)]).length - 3=bf.length - 2:=by rw [List.length_append];simp only [List.length_cons,List.length_nil];omega
              rw [this,List.take_append_of_le_length (by omega)]
            have HDAT:=Lib.hid hdat
            have HRES2:=Lib.hid (show comL x.o (45 :: r2)=.ok (.comment (bf.take (bf.length - 2)),r) by
              rw [HRES.out,HCO.out];unfold commentL;rw [if_pos ⟨c0',c1'⟩,if_pos rfl])
            rw [hv] at hbd
            have hll:(bf ++ [(62:UInt8)]).length=bf.length + 1:=by simp
            rw [hll] at hbd hlc
            have HV:=Lib.hid hv
            have HDE:=Lib.hid hde
            have HDL:=Lib.hid hdl
            obtain ⟨L,hL⟩:∃ L,bf.length=L + 2:=⟨bf.length - 2,by omega⟩
            rw [hL] at hbd hlc
            have HL:=Lib.hid hL
            have hsub:IntKind.i64.wrap ((L:Int) + 2 + 1 - 3)=(L:Int):=by rw [IntKind.wrap_i64];omega
            have l0:(0:Int) ≤ (L:Int):=by omega
            have l1:(L:Int) ≤ (cap:Int):=by omega
            have l2:L ≤ cap:=by omega
            clear hne hv hdat hde hdl hll hL hb2
            go_simp
            (repeat (first|(with_reducible first|refine zA fun K hK=>?_|refine zB ?_|refine zC ?_)|((with_reducible first|refine zD rfl fun K hK=>?_|refine zE fun K hK=>?_);go_simp)|(with_reducible first|((repeat ((fail_if_success refine hK _ _ ?_);clear hK K));refine hK _ _ ?_;clear hK K)|refine zt ?_|refine zf ?_|refine zG ?_|refine zR ?_|refine zK ?_|refine zL ?_|refine zN ?_|refine zS ?_)|simp only [Exit.then,Exit.inBlock,Exit.noGoto,↓reduceIte,Nat.reduceEqDiff]|simp only [undef,reduceCtorEq,↓reduceIte]))
            refine hbd.out.mono ?_
            rintro e9 w9 ⟨rfl,kk,rfl⟩
            go_simp
            (repeat (first|(with_reducible first|refine zA fun K hK=>?_|refine zB ?_|refine zC ?_)|((with_reducible first|refine zD rfl fun K hK=>?_|refine zE fun K hK=>?_);go_simp)|(with_reducible first|((repeat ((fail_if_success refine hK _ _ ?_);clear hK K));refine hK _ _ ?_;clear hK K)|refine zt ?_|refine zf ?_|refine zG ?_|refine zR ?_|refine zK ?_|refine zL ?_|refine zN ?_|refine zS ?_)|simp only [Exit.then,Exit.inBlock,Exit.noGoto,↓reduceIte,Nat.reduceEqDiff]|simp only [undef,reduceCtorEq,↓reduceIte]))
            refine Q_keep [2,3] (fun f=>?_);simp only [keep_cons,keep_nil,lk_cons,lk_nil,Nat.reduceEqDiff,↓reduceIte]
            refine HQ.out f _ _ _ ⟨v8,HS8.out.drawn _,?_⟩
            rw [HRES2.out]
            have hd:=HDAT.out (w8.drewN kk) ⟨rfl,rfl,rfl,Nat.le_refl _,fun _ _=>rfl⟩
            rw [HDL.out,HDE.out] at hd
            refine ⟨rfl,none,_,HR8.out.drewN HX.out.toOk _,⟨_,rfl,?_⟩,Or.inl rfl,HN8.out⟩
            have:bf.length - 2=L:=by have:=HL.out;omega
            rw [this] at hd ⊢
            exact hd
          · have hbb:=u8ne (n:=62) hb rfl
            have hbb2:=u8bne (n:=62) hb rfl
            have HRES2:=Lib.hid (show comL x.o (45 :: r2)=.error .syn by
              rw [HRES.out,HCO.out];unfold commentL;rw [if_pos ⟨c0',c1'⟩,if_neg hb])
            have HSY:=Lib.hid (fun msg=>synErr_g HX.out.toOk HR8.out msg)
            clear hb hb2
            go_simp
            (repeat (first|(with_reducible first|refine zA fun K hK=>?_|refine zB ?_|refine zC ?_)|((with_reducible first|refine zD rfl fun K hK=>?_|refine zE fun K hK=>?_);go_simp)|(with_reducible first|((repeat ((fail_if_success refine hK _ _ ?_);clear hK K));refine hK _ _ ?_;clear hK K)|refine zt ?_|refine zf ?_|refine zG ?_|refine zR ?_|refine zK ?_|refine zL ?_|refine zN ?_|refine zS ?_)|simp only [Exit.then,Exit.inBlock,Exit.noGoto,↓reduceIte,Nat.reduceEqDiff]|simp only [undef,reduceCtorEq,↓reduceIte]))
            refine (HSY.out _).mono ?_
            rintro e5 w9 ⟨a9,rfl,hS⟩
            have hc2:=hS.dec.cell
            have hf2:=hS.dec.frozen
            have HS:=Lib.hid hS
            clear hS
            go_simp
            (repeat (first|(with_reducible first|refine zA fun K hK=>?_|refine zB ?_|refine zC ?_)|((with_reducible first|refine zD rfl fun K hK=>?_|refine zE fun K hK=>?_);go_simp)|(with_reducible first|((repeat ((fail_if_success refine hK _ _ ?_);clear hK K));refine hK _ _ ?_;clear hK K)|refine zt ?_|refine zf ?_|refine zG ?_|refine zR ?_|refine zK ?_|refine zL ?_|refine zN ?_|refine zS ?_)|simp only [Exit.then,Exit.inBlock,Exit.noGoto,↓reduceIte,Nat.reduceEqDiff]|simp only [undef,reduceCtorEq,↓reduceIte]))
            ((refine wp_keep [0] (fun f=>?_);simp only [keep_cons,keep_nil,lk_cons,lk_nil,Nat.reduceEqDiff,↓reduceIte]);go_quiet (fail);(repeat (first|(with_reducible first|refine zA fun K hK=>?_|refine zB ?_|refine zC ?_)|((with_reducible first|refine zD rfl fun K hK=>?_|refine zE fun K hK=>?_);go_simp)|(with_reducible first|((repeat ((fail_if_success refine hK _ _ ?_);clear hK K));refine hK _ _ ?_;clear hK K)|refine zt ?_|refine zf ?_|refine zG ?_|refine zR ?_|refine zK ?_|refine zL ?_|refine zN ?_|refine zS ?_)|simp only [Exit.then,Exit.inBlock,Exit.noGoto,↓reduceIte,Nat.reduceEqDiff]|simp only [undef,reduceCtorEq,↓reduceIte]));refine Q_keep [2,3] (fun f=>?_);simp only [keep_cons,keep_nil,lk_cons,lk_nil,Nat.reduceEqDiff,↓reduceIte])
            exact HQ.out f _ _ _ ⟨_,(HS8.out.trans HS.out.stp).drawn _,by rw [HRES2.out];exact ⟨rfl,rfl,HS.out.err.drewN _⟩⟩
        all_goals
          have HCN:=Lib.hid (show ¬ (b0=45∧b1=45) by first|exact fun hh=>c0' hh.1|exact fun hh=>c1' hh.2)
          go_simp
          (repeat (first|(with_reducible first|refine zA fun K hK=>?_|refine zB ?_|refine zC ?_)|((with_reducible first|refine zD rfl fun K hK=>?_|refine zE fun K hK=>?_);go_simp)|(with_reducible first|((repeat ((fail_if_success refine hK _ _ ?_);clear hK K));refine hK _ _ ?_;clear hK K)|refine zt ?_|refine zf ?_|refine zG ?_|refine zR ?_|refine zK ?_|refine zL ?_|refine zN ?_|refine zS ?_)|simp only [Exit.then,Exit.inBlock,Exit.noGoto,↓reduceIte,Nat.reduceEqDiff]|simp only [undef,reduceCtorEq,↓reduceIte]))
          (refine K_keep [0,16,17] (fun f=>?_);simp only [keep_cons,keep_nil,lk_cons,lk_nil,Nat.reduceEqDiff,↓reduceIte])
          refine HK2.out _ _ ⟨r.length,by rw [HK.out];simp,HJ.out _ _ _ ⟨f,v8,r,b1,b,bf ++ [b],none,rfl,HR8.out,HS8.out,rfl,?_,fun h=>?_,fun _=>by simp,?_⟩⟩
          · rw [HCO.out];conv=>lhs;unfold commentL
            rw [if_neg HCN.out]
          · have:=HB1.out h;simp;omega
          · have:=HLEN.out;simp at this ⊢;omega
    · have hbb:=u8ne (n:=45) hb rfl
      have hbb2:=u8bne (n:=45) hb rfl
      have HRES2:=Lib.hid (show comL x.o (b1 :: r2)=.error .syn by simp only [comL,if_neg hb])
      have HSY:=Lib.hid (fun msg=>synErr_g HX.out.toOk HR4.out msg)
      clear hb
      go_simp
      (repeat (first|(with_reducible first|refine zA fun K hK=>?_|refine zB ?_|refine zC ?_)|((with_reducible first|refine zD rfl fun K hK=>?_|refine zE fun K hK=>?_);go_simp)|(with_reducible first|((repeat ((fail_if_success refine hK _ _ ?_);clear hK K));refine hK _ _ ?_;clear hK K)|refine zt ?_|refine zf ?_|refine zG ?_|refine zR ?_|refine zK ?_|refine zL ?_|refine zN ?_|refine zS ?_)|simp only [Exit.then,Exit.inBlock,Exit.noGoto,↓reduceIte,Nat.reduceEqDiff]|simp only [undef,reduceCtorEq,↓reduceIte]))
      refine (HSY.out _).mono ?_
      rintro e5 w9 ⟨a9,rfl,hS⟩
      have hc2:=hS.dec.cell
      have hf2:=hS.dec.frozen
      have HS:=Lib.hid hS
      clear hS
      go_simp
      (repeat (first|(with_reducible first|refine zA fun K hK=>?_|refine zB ?_|refine zC ?_)|((with_reducible first|refine zD rfl fun K hK=>?_|refine zE fun K hK=>?_);go_simp)|(with_reducible first|((repeat ((fail_if_success refine hK _ _ ?_);clear hK K));refine hK _ _ ?_;clear hK K)|refine zt ?_|refine zf ?_|refine zG ?_|refine zR ?_|refine zK ?_|refine zL ?_|refine zN ?_|refine zS ?_)|simp only [Exit.then,Exit.inBlock,Exit.noGoto,↓reduceIte,Nat.reduceEqDiff]|simp only [undef,reduceCtorEq,↓reduceIte]))
      ((refine wp_keep [0] (fun f=>?_);simp only [keep_cons,keep_nil,lk_cons,lk_nil,Nat.reduceEqDiff,↓reduceIte]);go_quiet (fail);(repeat (first|(with_reducible first|refine zA fun K hK=>?_|refine zB ?_|refine zC ?_)|((with_reducible first|refine zD rfl fun K hK=>?_|refine zE fun K hK=>?_);go_simp)|(with_reducible first|((repeat ((fail_if_success refine hK _ _ ?_);clear hK K));refine hK _ _ ?_;clear hK K)|refine zt ?_|refine zf ?_|refine zG ?_|refine zR ?_|refine zK ?_|refine zL ?_|refine zN ?_|refine zS ?_)|simp only [Exit.then,Exit.inBlock,Exit.noGoto,↓reduceIte,Nat.reduceEqDiff]|simp only [undef,reduceCtorEq,↓reduceIte]));refine Q_keep [2,3] (fun f=>?_);simp only [keep_cons,keep_nil,lk_cons,lk_nil,Nat.reduceEqDiff,↓reduceIte])
      exact HQ.out f _ _ _ ⟨_,(HS4.out.trans HS.out.stp).drawn _,by rw [HRES2.out];exact ⟨rfl,rfl,HS.out.err.drewN _⟩⟩
end Go.Proofs.YtkjnockljapnbaaGreatDoor
