/- Part of the proof that laws.FnBalanced returns true for every argument (Tv, Tw, Tp). No condition of its own. -/
import Derived.Test.YtkjnockljapnbaaGreatDoorO12
import Derived.Test.YtkjnockljapnbaaGreatDoorO01
set_option linter.all false
set_option maxHeartbeats 8000000
set_option maxRecDepth 100000
namespace Go.Proofs.YtkjnockljapnbaaGreatDoor
open Go Go.RowKit
theorem isName_nil (p:Option Addr) (cap:Nat) (w:World):Calls Tryz.prog 62 #[.slice p 0 cap] w fun e w'=>e=.returned (.bool false)∧w'=w:=by
  go_enter Tryz.func62,Tryz.ntmps62
  go_wp2
  go_ret
  exact ⟨rfl,rfl⟩
theorem ErrV.iface {x:Cx} {v:Value} {k:EK} (h:ErrV x v (some k)):∃ t u,v=.iface t u:=by
  cases k with
  | eof=>exact ⟨_,_,h⟩
  | own=>exact ⟨_,_,h⟩
  | syn=>obtain ⟨a,h⟩:=h;exact ⟨_,_,h⟩
  | other=>obtain ⟨a,h,_⟩:=h;exact ⟨_,_,h⟩
theorem numHead (x:Cx) (hx:x.All) (c:DC) (hdc:DcOk x c) (w:World) (v:DV) (r buf0:Bs) (h:RdS x c w v r none (buf0 ++ [38])) (hsuf:(35 :: r) <:+ x.T) (hl:buf0.length ≤ 20000000000000)
    (qv cv:Value) (Q:Exit → Act → World → Prop) (ents:Option (Bs → Option Bs)) (hQ:RefOut x c w v qv cv buf0 Q (refL x.o.fails ents (35 :: r))) (f:Nat → Value) :
    (txCode 31).wp Tryz.prog Q (fr 381 f [(0,decP x),(1,qv),(2,cv),(9,.int .i64 0),(10,.int .u8 35),(12,.int .i64 buf0.length),(14,strV []),(15,.bool false)]) w:=by
  have hwb:=Lib.hid (writeByte_c x hx.toOk c w v r none _ h 35 (by simp;omega))
  have HX:=Lib.hid hx
  have HD:=Lib.hid hdc
  have HQ:=Lib.hid hQ
  have HSUF:=Lib.hid hsuf
  have HL:=Lib.hid hl
  clear hQ h hsuf hx hdc
  unfold txCode
  conv=>arg 2;whnf
  (repeat (first|(with_reducible first|refine zA fun K hK=>?_|refine zB ?_|refine zC ?_)|((with_reducible first|refine zD rfl fun K hK=>?_|refine zE fun K hK=>?_);go_simp)|(with_reducible first|((repeat ((fail_if_success refine hK _ _ ?_);clear hK K));refine hK _ _ ?_;clear hK K)|refine zt ?_|refine zf ?_|refine zG ?_|refine zR ?_|refine zK ?_|refine zL ?_|refine zN ?_|refine zS ?_)|simp only [Exit.then,Exit.inBlock,Exit.noGoto,↓reduceIte,Nat.reduceEqDiff]|simp only [undef,reduceCtorEq,↓reduceIte]))
  refine hwb.out.mono ?_
  rintro e1 w1 ⟨rfl,v1,h1,_,hs1⟩
  have H1:=Lib.hid h1
  have HS1:=Lib.hid hs1
  clear h1 hs1 hwb
  go_simp
  (repeat (first|(with_reducible first|refine zA fun K hK=>?_|refine zB ?_|refine zC ?_)|((with_reducible first|refine zD rfl fun K hK=>?_|refine zE fun K hK=>?_);go_simp)|(with_reducible first|((repeat ((fail_if_success refine hK _ _ ?_);clear hK K));refine hK _ _ ?_;clear hK K)|refine zt ?_|refine zf ?_|refine zG ?_|refine zR ?_|refine zK ?_|refine zL ?_|refine zN ?_|refine zS ?_)|simp only [Exit.then,Exit.inBlock,Exit.noGoto,↓reduceIte,Nat.reduceEqDiff]|simp only [undef,reduceCtorEq,↓reduceIte]))
  cases r with
  | nil=>
    have hmg:=Lib.hid (mustgetc_none x HX.out.toOk c HD.out w1 v1 none _ H1.out)
    refine hmg.out.mono ?_
    rintro e3 w3 ⟨rfl,v6,h6,hb6,hm6⟩
    have HS6:=Lib.hid (HS1.out.s0 hm6 hb6)
    have H6:=Lib.hid h6
    clear h6 hb6 hm6 hmg
    go_simp
    (repeat (first|(with_reducible first|refine zA fun K hK=>?_|refine zB ?_|refine zC ?_)|((with_reducible first|refine zD rfl fun K hK=>?_|refine zE fun K hK=>?_);go_simp)|(with_reducible first|((repeat ((fail_if_success refine hK _ _ ?_);clear hK K));refine hK _ _ ?_;clear hK K)|refine zt ?_|refine zf ?_|refine zG ?_|refine zR ?_|refine zK ?_|refine zL ?_|refine zN ?_|refine zS ?_)|simp only [Exit.then,Exit.inBlock,Exit.noGoto,↓reduceIte,Nat.reduceEqDiff]|simp only [undef,reduceCtorEq,↓reduceIte]))
    refine Q_keep [6] (fun f=>?_);simp only [keep_cons,keep_nil,lk_cons,lk_nil,Nat.reduceEqDiff,↓reduceIte]
    exact HQ.out.bad _ rfl f w3 v6 H6.out HS6.out
  | cons d r2=>
    have hmg:=Lib.hid (mustgetc_some x HX.out.toOk c HD.out w1 v1 d r2 none _ H1.out)
    refine hmg.out.mono ?_
    rintro e3 w3 ⟨rfl,v6,h6,hn6,hb6,hm6,_⟩
    have HS6:=Lib.hid (HS1.out.s0 hm6 hb6)
    have H6:=Lib.hid h6
    have HN6:=Lib.hid hn6
    clear h6 hb6 hm6 hmg hn6
    by_cases hd:d=120
    · subst hd
      have hwb2:=Lib.hid (writeByte_c x HX.out.toOk c w3 v6 r2 none _ H6.out 120 (by have:=HL.out;simp;omega))
      go_simp
      (repeat (first|(with_reducible first|refine zA fun K hK=>?_|refine zB ?_|refine zC ?_)|((with_reducible first|refine zD rfl fun K hK=>?_|refine zE fun K hK=>?_);go_simp)|(with_reducible first|((repeat ((fail_if_success refine hK _ _ ?_);clear hK K));refine hK _ _ ?_;clear hK K)|refine zt ?_|refine zf ?_|refine zG ?_|refine zR ?_|refine zK ?_|refine zL ?_|refine zN ?_|refine zS ?_)|simp only [Exit.then,Exit.inBlock,Exit.noGoto,↓reduceIte,Nat.reduceEqDiff]|simp only [undef,reduceCtorEq,↓reduceIte]))
      refine hwb2.out.mono ?_
      rintro e4 w4 ⟨rfl,v7,h7,_,hs7⟩
      have H7:=Lib.hid h7
      have HS7:=Lib.hid (HS6.out.trans hs7)
      clear h7 hs7 hwb2
      go_simp
      (repeat (first|(with_reducible first|refine zA fun K hK=>?_|refine zB ?_|refine zC ?_)|((with_reducible first|refine zD rfl fun K hK=>?_|refine zE fun K hK=>?_);go_simp)|(with_reducible first|((repeat ((fail_if_success refine hK _ _ ?_);clear hK K));refine hK _ _ ?_;clear hK K)|refine zt ?_|refine zf ?_|refine zG ?_|refine zR ?_|refine zK ?_|refine zL ?_|refine zN ?_|refine zS ?_)|simp only [Exit.then,Exit.inBlock,Exit.noGoto,↓reduceIte,Nat.reduceEqDiff]|simp only [undef,reduceCtorEq,↓reduceIte]))
      cases r2 with
      | nil=>
        have hmg:=Lib.hid (mustgetc_none x HX.out.toOk c HD.out w4 v7 none _ H7.out)
        refine hmg.out.mono ?_
        rintro e5 w5 ⟨rfl,v8,h8,hb8,hm8⟩
        have HS8:=Lib.hid (HS7.out.s0 hm8 hb8)
        have H8:=Lib.hid h8
        clear h8 hb8 hm8 hmg
        go_simp
        (repeat (first|(with_reducible first|refine zA fun K hK=>?_|refine zB ?_|refine zC ?_)|((with_reducible first|refine zD rfl fun K hK=>?_|refine zE fun K hK=>?_);go_simp)|(with_reducible first|((repeat ((fail_if_success refine hK _ _ ?_);clear hK K));refine hK _ _ ?_;clear hK K)|refine zt ?_|refine zf ?_|refine zG ?_|refine zR ?_|refine zK ?_|refine zL ?_|refine zN ?_|refine zS ?_)|simp only [Exit.then,Exit.inBlock,Exit.noGoto,↓reduceIte,Nat.reduceEqDiff]|simp only [undef,reduceCtorEq,↓reduceIte]))
        refine Q_keep [6] (fun f=>?_);simp only [keep_cons,keep_nil,lk_cons,lk_nil,Nat.reduceEqDiff,↓reduceIte]
        exact HQ.out.bad _ rfl f w5 v8 H8.out HS8.out
      | cons e3 r3=>
        have hmg:=Lib.hid (mustgetc_some x HX.out.toOk c HD.out w4 v7 e3 r3 none _ H7.out)
        refine hmg.out.mono ?_
        rintro e5 w5 ⟨rfl,v8,h8,hn8,hb8,hm8,_⟩
        have HS8:=Lib.hid (HS7.out.s0 hm8 hb8)
        have H8:=Lib.hid h8
        have HN8:=Lib.hid hn8
        clear h8 hb8 hm8 hmg hn8
        have HR:=Lib.hid (show refL x.o.fails ents (35 :: 120 :: e3 :: r3)=numRef x.o.fails true [38,35,120] (e3 :: r3) by simp [refL])
        go_simp
        (repeat ((fail_if_success with_reducible refine wp_stop 42 ?_);(fail_if_success with_reducible refine wp_stop2 42 ?_);(first|(with_reducible first|refine zA fun K hK=>?_|refine zB ?_|refine zC ?_)|((with_reducible first|refine zD rfl fun K hK=>?_|refine zE fun K hK=>?_);go_simp)|(with_reducible first|((repeat ((fail_if_success refine hK _ _ ?_);clear hK K));refine hK _ _ ?_;clear hK K)|refine zt ?_|refine zf ?_|refine zG ?_|refine zR ?_|refine zK ?_|refine zL ?_|refine zN ?_|refine zS ?_)|simp only [Exit.then,Exit.inBlock,Exit.noGoto,↓reduceIte,Nat.reduceEqDiff]|simp only [undef,reduceCtorEq,↓reduceIte])))
        (refine wp_keep [0,1,2,9,10,12,14,15,16] (fun f=>?_);simp only [keep_cons,keep_nil,lk_cons,lk_nil,Nat.reduceEqDiff,↓reduceIte])
        refine wp_code (numTail x HX.out c HD.out true [38,35,120] (by simp) (by simp) w5 v8 e3 r3 buf0 (by have h9:=H8.out;rw [List.append_assoc,List.append_assoc] at h9;exact h9) HN8.out ((List.suffix_cons _ _).trans ((List.suffix_cons _ _).trans HSUF.out)) HL.out qv cv Q ⟨?_,?_⟩ f) (by kernel_rfl)
        · intro raw t r hres f w' v' hr hs hnn
          exact HQ.out.ok raw t r (HR.out.trans hres) f w' v' hr (HS8.out.trans hs) hnn
        · intro k hres f w' v' hr hs
          exact HQ.out.bad k (HR.out.trans hres) f w' v' hr (HS8.out.trans hs)
    · have hd1:=u8ne hd (n:=120) rfl
      have HR:=Lib.hid (show refL x.o.fails ents (35 :: d :: r2)=numRef x.o.fails false [38,35] (d :: r2) by simp [refL,hd])
      clear hd
      go_simp
      (repeat ((fail_if_success with_reducible refine wp_stop 42 ?_);(fail_if_success with_reducible refine wp_stop2 42 ?_);(first|(with_reducible first|refine zA fun K hK=>?_|refine zB ?_|refine zC ?_)|((with_reducible first|refine zD rfl fun K hK=>?_|refine zE fun K hK=>?_);go_simp)|(with_reducible first|((repeat ((fail_if_success refine hK _ _ ?_);clear hK K));refine hK _ _ ?_;clear hK K)|refine zt ?_|refine zf ?_|refine zG ?_|refine zR ?_|refine zK ?_|refine zL ?_|refine zN ?_|refine zS ?_)|simp only [Exit.then,Exit.inBlock,Exit.noGoto,↓reduceIte,Nat.reduceEqDiff]|simp only [undef,reduceCtorEq,↓reduceIte])))
      (refine wp_keep [0,1,2,9,10,12,14,15,16] (fun f=>?_);simp only [keep_cons,keep_nil,lk_cons,lk_nil,Nat.reduceEqDiff,↓reduceIte])
      refine wp_code (numTail x HX.out c HD.out false [38,35] (by simp) (by simp) w3 v6 d r2 buf0 (by have h9:=H6.out;rw [List.append_assoc] at h9;exact h9) HN6.out ((List.suffix_cons _ _).trans HSUF.out) HL.out qv cv Q ⟨?_,?_⟩ f) (by kernel_rfl)
      · intro raw t r hres f w' v' hr hs hnn
        exact HQ.out.ok raw t r (HR.out.trans hres) f w' v' hr (HS6.out.trans hs) hnn
      · intro k hres f w' v' hr hs
        exact HQ.out.bad k (HR.out.trans hres) f w' v' hr (HS6.out.trans hs)
end Go.Proofs.YtkjnockljapnbaaGreatDoor
namespace Go.Proofs.YtkjnockljapnbaaGreatDoor
open Go Go.RowKit
theorem entR_cases (s:Bs):entR s=0 ∨ entR s=60 ∨ entR s=62 ∨ entR s=38 ∨ entR s=39 ∨ entR s=34:=by
  unfold entR
  repeat' split
  all_goals simp
theorem mapNil (w:World):(binOp .neq 68 (.map none) (.map none)).run Tryz.prog w=.ok (.bool false) w:=by kernel_rfl
theorem refL_name {fails : Bool} {ents : Option (Bs → Option Bs)} {c : UInt8} {r : Bs} (h : c ≠ 35) : refL fails ents (c :: r) = (match (spanName (c :: r)).2 with
      | []=>.error (mustE fails)
      | b :: after=>
        if b=59 then .ok (38 :: (spanName (c :: r)).1 ++ [59],(if isNameL (spanName (c :: r)).1 then entL ents (spanName (c :: r)).1 else none),after)
        else .ok (38 :: (spanName (c :: r)).1,none,b :: after)):=by
  unfold refL
  simp only [h,if_false]
  rfl
theorem part_cv (l:Bs) (w:World) (g off cap:Nat) (hc:off + l.length ≤ cap) (h:BytesAt w g off l):(convert 74 9 (.slice (if cap=off then some ⟨g,0,none⟩ else some ⟨g,off,none⟩) l.length (cap - off))).run Tryz.prog w=.ok (strV l) w:=by
  by_cases hca:cap=off
  · have hd0:l=[]:=List.length_eq_zero_iff.1 (by omega)
    subst hd0
    rw [if_pos hca]
    exact conv_str [] w g 0 _ (fun j hj=>absurd hj (by simp))
  · rw [if_neg hca]
    exact conv_str l w g _ _ h
theorem part_isName (l:Bs) (w:World) (g off cap:Nat) (hc:off + l.length ≤ cap) (hcm:cap ≤ 9223372036854775807) (hl:l.length ≤ 1000000000) (h:BytesAt w g off l) (hT:Lib.Utf8Tabs 6 7 w) :
    Calls Tryz.prog 62 #[.slice (if cap=off then some ⟨g,0,none⟩ else some ⟨g,off,none⟩) l.length (cap - off)] w fun e w'=>e=.returned (.bool (isNameL l))∧Below w.heap.size w w':=by
  by_cases hd0:l=[]
  · subst hd0
    exact (isName_nil _ _ w).mono fun e w' ⟨h1,h2⟩=>⟨h1,by rw [h2];exact Below.refl _ _⟩
  · have:0 < l.length:=List.length_pos_iff.2 hd0
    rw [if_neg (by omega)]
    exact isName_c l g off (cap - off) w hd0 hT h (by omega) (by omega) (by omega)
theorem nameTail (x:Cx) (hx:x.All) (c:DC) (hdc:DcOk x c) (hent:c.ent=.map none) (w:World) (v:DV) (b1:UInt8) (after buf0 nm:Bs) (h:RdS x c w v (b1 :: after) none (buf0 ++ 38 :: nm)) (hl:buf0.length ≤ 20000000000000) (hnl:nm.length ≤ 1000000000)
    (qv cv:Value) (Q:Exit → Act → World → Prop)
    (hQ:RefOut x c w v qv cv buf0 Q (if b1=59 then .ok (38 :: nm ++ [59],(if isNameL nm then entL none nm else none),after) else .ok (38 :: nm,none,b1 :: after))) (f:Nat → Value) :
    (txCode 60).wp Tryz.prog Q (fr 381 f [(0,decP x),(1,qv),(2,cv),(9,.int .i64 0),(12,.int .i64 buf0.length),(14,strV []),(15,.bool false)]) w:=by
  have hmg:=Lib.hid (mustgetc_some x hx.toOk c hdc w v b1 after none _ h)
  have HSUF:=Lib.hid h.suf
  have HX:=Lib.hid hx
  have HD:=Lib.hid hdc
  have HQ:=Lib.hid hQ
  have HENT:=Lib.hid hent
  clear hQ h hx hdc hent
  unfold txCode
  conv=>arg 2;whnf
  (repeat (first|(with_reducible first|refine zA fun K hK=>?_|refine zB ?_|refine zC ?_)|((with_reducible first|refine zD rfl fun K hK=>?_|refine zE fun K hK=>?_);go_simp)|(with_reducible first|((repeat ((fail_if_success refine hK _ _ ?_);clear hK K));refine hK _ _ ?_;clear hK K)|refine zt ?_|refine zf ?_|refine zG ?_|refine zR ?_|refine zK ?_|refine zL ?_|refine zN ?_|refine zS ?_)|simp only [Exit.then,Exit.inBlock,Exit.noGoto,↓reduceIte,Nat.reduceEqDiff]|simp only [undef,reduceCtorEq,↓reduceIte]))
  refine hmg.out.mono ?_
  rintro e1 w1 ⟨rfl,v1,h1,hn1,hb1,hm1,_⟩
  have H1:=Lib.hid h1
  have HN1:=Lib.hid hn1
  have HS1:=Lib.hid (hm1.stp hb1)
  clear h1 hn1 hb1 hm1 hmg
  by_cases hb:b1=59
  · subst hb
    rw [show (UInt8.toNat 59)=59 from rfl]
    simp only [if_true] at HQ
    obtain ⟨g,cap,hv,hby,hlc,hcm,_,_,_⟩:=H1.out.bf.bytes (by simp)
    have hbd:=Lib.hid (bytes_c x c w1 v1 after none _ H1.out)
    have hpart:=hby.drop (buf0.length + 1)
    have hdr:(buf0 ++ 38 :: nm).drop (buf0.length + 1)=nm:=by
      rw [show buf0 ++ 38 :: nm=(buf0 ++ [38]) ++ nm by simp,List.drop_left' (by simp)]
    rw [Nat.zero_add,hdr] at hpart
    have hlen:(buf0 ++ 38 :: nm).length=buf0.length + 1 + nm.length:=by simp;omega
    have HWB:=Lib.hid (fun (k:Nat)=>writeByte_k x HX.out.toOk c (w1.drewN k) v1 after none _ (H1.out.drewN HX.out.toOk k) 59 (by rw [hlen];omega))
    have HV:=Lib.hid hv
    have HBY:=Lib.hid hby
    rw [hlen] at hv hlc
    rw [hv] at hbd
    have HPART:=Lib.hid hpart
    have HLEN:=Lib.hid hlen
    clear hby hpart hv hlen hdr
    obtain ⟨D,hD⟩:∃ D,D=nm.length:=⟨_,rfl⟩
    rw [← hD] at hbd hlc hnl
    obtain ⟨A,hA⟩:∃ A,A=buf0.length:=⟨_,rfl⟩
    rw [← hA] at hbd hlc hl ⊢
    have hsum:IntKind.i64.wrap ((A:Int) + 1)=((A + 1:Nat):Int):=by rw [IntKind.wrap_i64];omega
    have a0:(0:Int) ≤ (A:Int) + 1:=by omega
    have a1:(A:Int) + 1 ≤ (A:Int) + 1 + (D:Int):=by omega
    have a2:(A:Int) + 1 + (D:Int) ≤ (cap:Int):=by omega
    have HD':=Lib.hid hD
    have HA':=Lib.hid hA
    clear hD hA
    go_simp
    (repeat (first|(with_reducible first|refine zA fun K hK=>?_|refine zB ?_|refine zC ?_)|((with_reducible first|refine zD rfl fun K hK=>?_|refine zE fun K hK=>?_);go_simp)|(with_reducible first|((repeat ((fail_if_success refine hK _ _ ?_);clear hK K));refine hK _ _ ?_;clear hK K)|refine zt ?_|refine zf ?_|refine zG ?_|refine zR ?_|refine zK ?_|refine zL ?_|refine zN ?_|refine zS ?_)|simp only [Exit.then,Exit.inBlock,Exit.noGoto,↓reduceIte,Nat.reduceEqDiff]|simp only [undef,reduceCtorEq,↓reduceIte]))
    refine hbd.out.mono ?_
    rintro e2 w2 ⟨rfl,k2,rfl⟩
    go_simp
    (repeat (first|(with_reducible first|refine zA fun K hK=>?_|refine zB ?_|refine zC ?_)|((with_reducible first|refine zD rfl fun K hK=>?_|refine zE fun K hK=>?_);go_simp)|(with_reducible first|((repeat ((fail_if_success refine hK _ _ ?_);clear hK K));refine hK _ _ ?_;clear hK K)|refine zt ?_|refine zf ?_|refine zG ?_|refine zR ?_|refine zK ?_|refine zL ?_|refine zN ?_|refine zS ?_)|simp only [Exit.then,Exit.inBlock,Exit.noGoto,↓reduceIte,Nat.reduceEqDiff]|simp only [undef,reduceCtorEq,↓reduceIte]))
    refine (HWB.out k2).mono ?_
    rintro e3 w3 ⟨rfl,v3,⟨h3,_,hs3⟩,hold⟩
    have hp3:BytesAt w3 g (A + 1) nm:=by
      intro j hj
      have h1:=HPART.out j hj
      have h2:=hold g _ _ HV.out (A + 1 + j) (by rw [HLEN.out,HA'.out];omega)
      rw [← HA'.out] at h1
      exact h2.trans h1
    have H3:=Lib.hid h3
    have HS3:=Lib.hid ((HS1.out.trans (Stp.drewN k2)).trans hs3)
    have hT3:=HX.out.tabs h3.base
    have hin:=Lib.hid (part_isName nm w3 g (A + 1) cap (by rw [← HD'.out];omega) hcm (by rw [← HD'.out];exact hnl) hp3 hT3)
    rw [← HD'.out] at hin
    have HP3:=Lib.hid hp3
    clear h3 hs3 hold hT3 HWB hp3
    go_simp
    (repeat (first|(with_reducible first|refine zA fun K hK=>?_|refine zB ?_|refine zC ?_)|((with_reducible first|refine zD rfl fun K hK=>?_|refine zE fun K hK=>?_);go_simp)|(with_reducible first|((repeat ((fail_if_success refine hK _ _ ?_);clear hK K));refine hK _ _ ?_;clear hK K)|refine zt ?_|refine zf ?_|refine zG ?_|refine zR ?_|refine zK ?_|refine zL ?_|refine zN ?_|refine zS ?_)|simp only [Exit.then,Exit.inBlock,Exit.noGoto,↓reduceIte,Nat.reduceEqDiff]|simp only [undef,reduceCtorEq,↓reduceIte]))
    refine hin.out.mono ?_
    rintro e4 w4 ⟨rfl,hw4⟩
    have hcv:=part_cv nm w4 g (A + 1) cap (by rw [← HD'.out];omega) (HP3.out.below hw4)
    rw [← HD'.out] at hcv
    have H4:=Lib.hid (H3.out.below HX.out.toOk hw4)
    have HS4:=Lib.hid (HS3.out.s0 (mod_none hw4 _) rfl)
    have HNN:=Lib.hid (H3.out.nonnil (by simp))
    clear hw4 hin
    by_cases hnm:isNameL nm=true
    · rw [hnm]
      have HNM:=Lib.hid hnm
      clear hnm
      have hen:=Lib.hid (fun w=>entity_c nm w)
      go_simp
      (repeat (first|(with_reducible first|refine zA fun K hK=>?_|refine zB ?_|refine zC ?_)|((with_reducible first|refine zD rfl fun K hK=>?_|refine zE fun K hK=>?_);go_simp)|(with_reducible first|((repeat ((fail_if_success refine hK _ _ ?_);clear hK K));refine hK _ _ ?_;clear hK K)|refine zt ?_|refine zf ?_|refine zG ?_|refine zR ?_|refine zK ?_|refine zL ?_|refine zN ?_|refine zS ?_)|simp only [Exit.then,Exit.inBlock,Exit.noGoto,↓reduceIte,Nat.reduceEqDiff]|simp only [undef,reduceCtorEq,↓reduceIte]))
      refine (hen.out _).mono ?_
      rintro e5 w5 ⟨rfl,rfl⟩
      by_cases her:entR nm=0
      · have HRES:=Lib.hid (show (entL none nm)=none by unfold entL;rw [stdEnt_r,if_pos her])
        have hc:=H4.out.dec.cell
        have hf:=H4.out.dec.frozen
        have hent:=HENT.out
        have hmn:=fun w=>mapNil w
        have hd:decide (entR nm ≠ 0)=false:=by simp [her]
        rw [hd]
        clear hd her
        go_simp
        (repeat (first|(with_reducible first|refine zA fun K hK=>?_|refine zB ?_|refine zC ?_)|((with_reducible first|refine zD rfl fun K hK=>?_|refine zE fun K hK=>?_);go_simp)|(with_reducible first|((repeat ((fail_if_success refine hK _ _ ?_);clear hK K));refine hK _ _ ?_;clear hK K)|refine zt ?_|refine zf ?_|refine zG ?_|refine zR ?_|refine zK ?_|refine zL ?_|refine zN ?_|refine zS ?_)|simp only [Exit.then,Exit.inBlock,Exit.noGoto,↓reduceIte,Nat.reduceEqDiff]|simp only [undef,reduceCtorEq,↓reduceIte]))
        rw [HA'.out]
        refine Q_keep [0,1,2,9,12,14,15] (fun f=>?_);simp only [keep_cons,keep_nil,lk_cons,lk_nil,Nat.reduceEqDiff,↓reduceIte]
        exact HQ.out.ok _ none after (by rw [HNM.out,if_pos rfl,HRES.out]) f _ v3 (by have h9:=H4.out;rw [List.append_assoc] at h9;exact h9) HS4.out HNN.out
      · have HRES:=Lib.hid (show (entL none nm)=some [UInt8.ofNat (entR nm)] by unfold entL;rw [stdEnt_r,if_neg her])
        have hrune:=Lib.hid (show Value.string (Utf8.encode (entR nm:Int))=strV [UInt8.ofNat (entR nm)] by
          rcases entR_cases nm with h|h|h|h|h|h
          · exact absurd h her
          all_goals (rw [h];rfl))
        have hrc:=fun w=>runeCv (entR nm:Int) w
        have hd:decide (entR nm ≠ 0)=true:=by simp [her]
        rw [hd]
        clear hd her
        go_simp
        (repeat (first|(with_reducible first|refine zA fun K hK=>?_|refine zB ?_|refine zC ?_)|((with_reducible first|refine zD rfl fun K hK=>?_|refine zE fun K hK=>?_);go_simp)|(with_reducible first|((repeat ((fail_if_success refine hK _ _ ?_);clear hK K));refine hK _ _ ?_;clear hK K)|refine zt ?_|refine zf ?_|refine zG ?_|refine zR ?_|refine zK ?_|refine zL ?_|refine zN ?_|refine zS ?_)|simp only [Exit.then,Exit.inBlock,Exit.noGoto,↓reduceIte,Nat.reduceEqDiff]|simp only [undef,reduceCtorEq,↓reduceIte]))
        rw [HA'.out]
        refine Q_keep [0,1,2,9,12,14,15] (fun f=>?_);simp only [keep_cons,keep_nil,lk_cons,lk_nil,Nat.reduceEqDiff,↓reduceIte]
        rw [hrune.out]
        exact HQ.out.ok _ (some [UInt8.ofNat (entR nm)]) after (by rw [HNM.out,if_pos rfl,HRES.out]) f _ v3 (by have h9:=H4.out;rw [List.append_assoc] at h9;exact h9) HS4.out HNN.out
    · have hnm':isNameL nm=false:=by simpa using hnm
      rw [hnm']
      have HNM:=Lib.hid hnm'
      clear hnm hnm'
      go_simp
      (repeat (first|(with_reducible first|refine zA fun K hK=>?_|refine zB ?_|refine zC ?_)|((with_reducible first|refine zD rfl fun K hK=>?_|refine zE fun K hK=>?_);go_simp)|(with_reducible first|((repeat ((fail_if_success refine hK _ _ ?_);clear hK K));refine hK _ _ ?_;clear hK K)|refine zt ?_|refine zf ?_|refine zG ?_|refine zR ?_|refine zK ?_|refine zL ?_|refine zN ?_|refine zS ?_)|simp only [Exit.then,Exit.inBlock,Exit.noGoto,↓reduceIte,Nat.reduceEqDiff]|simp only [undef,reduceCtorEq,↓reduceIte]))
      rw [HA'.out]
      refine Q_keep [0,1,2,9,12,14,15] (fun f=>?_);simp only [keep_cons,keep_nil,lk_cons,lk_nil,Nat.reduceEqDiff,↓reduceIte]
      exact HQ.out.ok _ none after (by rw [HNM.out];rfl) f _ v3 (by have h9:=H4.out;rw [List.append_assoc] at h9;exact h9) HS4.out HNN.out
  · have hb59:=u8ne hb (n:=59) rfl
    have hb59':((b1.toNat:Int) != 59)=true:=by simpa using hb59
    have hun:=Lib.hid (ungetc_c x HX.out.toOk c w1 v1 b1 after _ H1.out HN1.out HSUF.out)
    have HB:=Lib.hid hb
    clear hb
    go_simp
    (repeat (first|(with_reducible first|refine zA fun K hK=>?_|refine zB ?_|refine zC ?_)|((with_reducible first|refine zD rfl fun K hK=>?_|refine zE fun K hK=>?_);go_simp)|(with_reducible first|((repeat ((fail_if_success refine hK _ _ ?_);clear hK K));refine hK _ _ ?_;clear hK K)|refine zt ?_|refine zf ?_|refine zG ?_|refine zR ?_|refine zK ?_|refine zL ?_|refine zN ?_|refine zS ?_)|simp only [Exit.then,Exit.inBlock,Exit.noGoto,↓reduceIte,Nat.reduceEqDiff]|simp only [undef,reduceCtorEq,↓reduceIte]))
    refine hun.out.mono ?_
    rintro e2 w2 ⟨rfl,v5,h5,_,hb5,hm5,_⟩
    have H5:=Lib.hid h5
    have HS5:=Lib.hid (HS1.out.s0 hm5 hb5)
    have HNN:=Lib.hid (h5.nonnil (by simp))
    clear h5 hm5 hb5 hun
    go_simp
    (repeat (first|(with_reducible first|refine zA fun K hK=>?_|refine zB ?_|refine zC ?_)|((with_reducible first|refine zD rfl fun K hK=>?_|refine zE fun K hK=>?_);go_simp)|(with_reducible first|((repeat ((fail_if_success refine hK _ _ ?_);clear hK K));refine hK _ _ ?_;clear hK K)|refine zt ?_|refine zf ?_|refine zG ?_|refine zR ?_|refine zK ?_|refine zL ?_|refine zN ?_|refine zS ?_)|simp only [Exit.then,Exit.inBlock,Exit.noGoto,↓reduceIte,Nat.reduceEqDiff]|simp only [undef,reduceCtorEq,↓reduceIte]))
    refine Q_keep [0,1,2,9,12,14,15] (fun f=>?_);simp only [keep_cons,keep_nil,lk_cons,lk_nil,Nat.reduceEqDiff,↓reduceIte]
    exact HQ.out.ok (38 :: nm) none (b1 :: after) (by rw [if_neg HB.out]) f _ v5 H5.out HS5.out HNN.out
theorem nameHead (x:Cx) (hx:x.All) (c:DC) (hdc:DcOk x c) (hent:c.ent=.map none) (w:World) (v:DV) (b:UInt8) (hb:b ≠ 35) (r buf0:Bs) (h:RdS x c w v r none (buf0 ++ [38])) (hn:v.nb=-1) (hsuf:(b :: r) <:+ x.T) (hl:buf0.length ≤ 10000000000000 - 1)
    (qv cv:Value) (Q:Exit → Act → World → Prop) (hQ:RefOut x c w v qv cv buf0 Q (refL x.o.fails none (b :: r))) (f:Nat → Value) :
    (txCode 56).wp Tryz.prog Q (fr 381 f [(0,decP x),(1,qv),(2,cv),(9,.int .i64 0),(10,.int .u8 b.toNat),(12,.int .i64 buf0.length),(14,strV []),(15,.bool false)]) w:=by
  have hun:=Lib.hid (ungetc_c x hx.toOk c w v b r _ h hn hsuf)
  have HX:=Lib.hid hx
  have HD:=Lib.hid hdc
  have HQ:=Lib.hid hQ
  have HENT:=Lib.hid hent
  have HRL:=Lib.hid (show r.length + 1 ≤ 1000000000 by have h1:=hsuf.length_le;have h2:=hx.len;simp at h1;omega)
  have HREF:=Lib.hid (refL_name (fails:=x.o.fails) (ents:=none) (r:=r) hb)
  have HL:=Lib.hid hl
  have HSUF:=Lib.hid hsuf
  have HSUM:=Lib.hid (spanName_sum (b :: r))
  clear hQ h hn hx hdc hent hb hl hsuf
  unfold txCode
  conv=>arg 2;whnf
  (repeat (first|(with_reducible first|refine zA fun K hK=>?_|refine zB ?_|refine zC ?_)|((with_reducible first|refine zD rfl fun K hK=>?_|refine zE fun K hK=>?_);go_simp)|(with_reducible first|((repeat ((fail_if_success refine hK _ _ ?_);clear hK K));refine hK _ _ ?_;clear hK K)|refine zt ?_|refine zf ?_|refine zG ?_|refine zR ?_|refine zK ?_|refine zL ?_|refine zN ?_|refine zS ?_)|simp only [Exit.then,Exit.inBlock,Exit.noGoto,↓reduceIte,Nat.reduceEqDiff]|simp only [undef,reduceCtorEq,↓reduceIte]))
  refine hun.out.mono ?_
  rintro e1 w1 ⟨rfl,v1,h1,_,hb1,hm1,_⟩
  have hrn:=Lib.hid (readName_c x HX.out.toOk c HD.out w1 v1 (b :: r) none _ h1 (by have:=HL.out;simp;omega))
  have HS1:=Lib.hid (hm1.stp hb1)
  clear h1 hm1 hb1 hun
  go_simp
  (repeat (first|(with_reducible first|refine zA fun K hK=>?_|refine zB ?_|refine zC ?_)|((with_reducible first|refine zD rfl fun K hK=>?_|refine zE fun K hK=>?_);go_simp)|(with_reducible first|((repeat ((fail_if_success refine hK _ _ ?_);clear hK K));refine hK _ _ ?_;clear hK K)|refine zt ?_|refine zf ?_|refine zG ?_|refine zR ?_|refine zK ?_|refine zL ?_|refine zN ?_|refine zS ?_)|simp only [Exit.then,Exit.inBlock,Exit.noGoto,↓reduceIte,Nat.reduceEqDiff]|simp only [undef,reduceCtorEq,↓reduceIte]))
  refine hrn.out.mono ?_
  rintro e2 w2 ⟨v2,hs2,hq⟩
  have HS2:=Lib.hid (HS1.out.trans hs2)
  clear hs2 hrn
  rcases hq with ⟨hsp,rfl,he⟩|⟨hsp,hsp1,rfl,hr⟩|⟨hsp,hsp1,rfl,hr⟩
  · obtain ⟨t,u,hu⟩:=he.err.iface
    have hc:=he.dec.cell
    have hf:=he.dec.frozen
    have HE:=Lib.hid he
    have HSP:=Lib.hid hsp
    clear he hsp
    go_simp
    (repeat (first|(with_reducible first|refine zA fun K hK=>?_|refine zB ?_|refine zC ?_)|((with_reducible first|refine zD rfl fun K hK=>?_|refine zE fun K hK=>?_);go_simp)|(with_reducible first|((repeat ((fail_if_success refine hK _ _ ?_);clear hK K));refine hK _ _ ?_;clear hK K)|refine zt ?_|refine zf ?_|refine zG ?_|refine zR ?_|refine zK ?_|refine zL ?_|refine zN ?_|refine zS ?_)|simp only [Exit.then,Exit.inBlock,Exit.noGoto,↓reduceIte,Nat.reduceEqDiff]|simp only [undef,reduceCtorEq,↓reduceIte]))
    refine Q_keep [6] (fun f=>?_);simp only [keep_cons,keep_nil,lk_cons,lk_nil,Nat.reduceEqDiff,↓reduceIte]
    exact HQ.out.bad _ (by rw [HREF.out,HSP.out]) f w2 v2 HE.out HS2.out
  · have hc:=hr.dec.cell
    have hf:=hr.dec.frozen
    have he:v2.err=.nilIface:=hr.err
    have HR:=Lib.hid hr
    have HSP:=Lib.hid hsp
    have HSP1:=Lib.hid hsp1
    obtain ⟨b1,after,hba⟩:∃ b1 after,(spanName (b :: r)).2=b1 :: after:=by
      cases hh:(spanName (b :: r)).2 with
      | nil=>exact absurd hh hsp
      | cons b1 after=>exact ⟨b1,after,rfl⟩
    have HBA:=Lib.hid hba
    clear hr hsp hsp1 hba
    have H3:=Lib.hid (show RdS x c w2 v2 (b1 :: after) none (buf0 ++ 38 :: []) by
      have h3:=HR.out
      have h4:=HSUM.out
      rw [HSP1.out,HBA.out] at h4
      have h5:b :: r=b1 :: after:=by
        have h6:=HBA.out
        have h7:(spanName (b :: r)).1=[]:=HSP1.out
        unfold spanName at h6 h7
        split at h6 <;> rename_i hh
        · rw [if_pos hh] at h7;cases h7
        · exact h6
      rw [← h5];exact h3)
    go_simp
    (repeat ((fail_if_success with_reducible refine wp_stop 60 ?_);(fail_if_success with_reducible refine wp_stop2 60 ?_);(first|(with_reducible first|refine zA fun K hK=>?_|refine zB ?_|refine zC ?_)|((with_reducible first|refine zD rfl fun K hK=>?_|refine zE fun K hK=>?_);go_simp)|(with_reducible first|((repeat ((fail_if_success refine hK _ _ ?_);clear hK K));refine hK _ _ ?_;clear hK K)|refine zt ?_|refine zf ?_|refine zG ?_|refine zR ?_|refine zK ?_|refine zL ?_|refine zN ?_|refine zS ?_)|simp only [Exit.then,Exit.inBlock,Exit.noGoto,↓reduceIte,Nat.reduceEqDiff]|simp only [undef,reduceCtorEq,↓reduceIte])))
    (refine wp_keep [0,1,2,9,12,14,15] (fun f=>?_);simp only [keep_cons,keep_nil,lk_cons,lk_nil,Nat.reduceEqDiff,↓reduceIte])
    refine wp_code (nameTail x HX.out c HD.out HENT.out w2 v2 b1 after buf0 [] H3.out (by have:=HL.out;omega) (by simp) qv cv Q ⟨?_,?_⟩ f) (by kernel_rfl)
    · intro raw t r hres f w' v' hr hs hnn
      exact HQ.out.ok raw t r (by rw [HREF.out,HBA.out,HSP1.out];exact hres) f w' v' hr (HS2.out.trans hs) hnn
    · intro k hres f w' v' hr hs
      exact HQ.out.bad k (by rw [HREF.out,HBA.out,HSP1.out];exact hres) f w' v' hr (HS2.out.trans hs)
  · obtain ⟨b1,after,hba⟩:∃ b1 after,(spanName (b :: r)).2=b1 :: after:=by
      cases hh:(spanName (b :: r)).2 with
      | nil=>exact absurd hh hsp
      | cons b1 after=>exact ⟨b1,after,rfl⟩
    obtain ⟨nm,hnm⟩:∃ nm,(spanName (b :: r)).1=nm:=⟨_,rfl⟩
    rw [hba,hnm] at hr
    have HR:=Lib.hid (show RdS x c w2 v2 (b1 :: after) none (buf0 ++ 38 :: nm) by rw [List.append_assoc] at hr;exact hr)
    have HBA:=Lib.hid hba
    have HNM:=Lib.hid hnm
    have hnl:nm.length ≤ 1000000000:=by
      have h4:=HSUM.out
      rw [hnm,hba] at h4
      simp at h4
      have:=HRL.out
      omega
    clear hr hsp hsp1 hba hnm
    go_simp
    (repeat ((fail_if_success with_reducible refine wp_stop 60 ?_);(fail_if_success with_reducible refine wp_stop2 60 ?_);(first|(with_reducible first|refine zA fun K hK=>?_|refine zB ?_|refine zC ?_)|((with_reducible first|refine zD rfl fun K hK=>?_|refine zE fun K hK=>?_);go_simp)|(with_reducible first|((repeat ((fail_if_success refine hK _ _ ?_);clear hK K));refine hK _ _ ?_;clear hK K)|refine zt ?_|refine zf ?_|refine zG ?_|refine zR ?_|refine zK ?_|refine zL ?_|refine zN ?_|refine zS ?_)|simp only [Exit.then,Exit.inBlock,Exit.noGoto,↓reduceIte,Nat.reduceEqDiff]|simp only [undef,reduceCtorEq,↓reduceIte])))
    (refine wp_keep [0,1,2,9,12,14,15] (fun f=>?_);simp only [keep_cons,keep_nil,lk_cons,lk_nil,Nat.reduceEqDiff,↓reduceIte])
    refine wp_code (nameTail x HX.out c HD.out HENT.out w2 v2 b1 after buf0 nm HR.out (by have:=HL.out;omega) hnl qv cv Q ⟨?_,?_⟩ f) (by kernel_rfl)
    · intro raw t r hres f w' v' hr hs hnn
      exact HQ.out.ok raw t r (by rw [HREF.out,HBA.out,HNM.out];exact hres) f w' v' hr (HS2.out.trans hs) hnn
    · intro k hres f w' v' hr hs
      exact HQ.out.bad k (by rw [HREF.out,HBA.out,HNM.out];exact hres) f w' v' hr (HS2.out.trans hs)
end Go.Proofs.YtkjnockljapnbaaGreatDoor
namespace Go.Proofs.YtkjnockljapnbaaGreatDoor
open Go
theorem textL_nil (o:Opt) (q:Option UInt8) (cd:Bool) (b0 b1:UInt8) (buf:Bs) :
    textL o q cd [] b0 b1 buf=if cd then .error (mustE o.fails) else if charsL buf then .ok (buf,[]) else .error .syn:=by
  rw [textL]
theorem textL_brk (o:Opt) (cd:Bool) (r:Bs) (buf:Bs) :
    textL o none cd (62 :: r) 93 93 buf=if cd then (if charsL (buf.take (buf.length - 2)) then .ok (buf.take (buf.length - 2),r) else .error .syn) else .error .syn:=by
  rw [textL];simp
theorem textL_lt (o:Opt) (q:Option UInt8) (r:Bs) (b0 b1:UInt8) (buf:Bs) :
    textL o q false (60 :: r) b0 b1 buf=if q=none then (if charsL buf then .ok (buf,60 :: r) else .error .syn) else .error .syn:=by
  rw [textL];simp
theorem textL_quote (o:Opt) (cd:Bool) (b:UInt8) (r:Bs) (b0 b1:UInt8) (buf:Bs) (h:¬ (b=60∧cd=false)) :
    textL o (some b) cd (b :: r) b0 b1 buf=if charsL buf then .ok (buf,r) else .error .syn:=by
  rw [textL,if_neg (by simp),if_neg h,if_pos rfl]
def txStep (b b1:UInt8) (buf:Bs):Bs:=if b=13 then buf ++ [10] else if b1=13∧b=10 then buf else buf ++ [b]
theorem textL_plain (o:Opt) (q:Option UInt8) (cd:Bool) (b:UInt8) (r:Bs) (b0 b1:UInt8) (buf:Bs) (h1:¬ (q=none∧b0=93∧b1=93∧b=62)) (h2:¬ (b=60∧cd=false)) (h3:q ≠ some b) (h4:¬ (b=38∧cd=false)) :
    textL o q cd (b :: r) b0 b1 buf=textL o q cd r b1 b (txStep b b1 buf):=by
  rw [textL,if_neg h1,if_neg h2,if_neg h3,if_neg h4];rfl
theorem textL_ref (o:Opt) (q:Option UInt8) (r:Bs) (b0 b1:UInt8) (buf:Bs) (h:q ≠ some 38) :
    textL o q false (38 :: r) b0 b1 buf=match refL o.fails o.ents r with
      | .error e=>.error e
      | .ok (_,some t,r')=>textL o q false r' 0 0 (buf ++ t)
      | .ok (raw,none,r')=>if o.strict then .error .syn else textL o q false r' 0 0 (buf ++ raw):=by
  rw [textL,if_neg (by simp),if_neg (by simp),if_neg h,if_pos (by simp)]
  split <;> rename_i hh <;> rw [hh]
end Go.Proofs.YtkjnockljapnbaaGreatDoor
