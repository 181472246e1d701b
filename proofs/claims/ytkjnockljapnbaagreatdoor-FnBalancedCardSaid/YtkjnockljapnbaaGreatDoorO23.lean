/- Part of the proof that laws.FnBalanced returns true for every argument (Wi). No condition of its own. -/
import Derived.Test.YtkjnockljapnbaaGreatDoorO22
set_option linter.all false
set_option maxHeartbeats 8000000
set_option maxRecDepth 100000
namespace Go.Proofs.YtkjnockljapnbaaGreatDoor
open Go Go.RowKit
theorem exists_least {p:Nat → Prop} (h:∃ k,p k):∃ k,p k∧∀ j,p j → k ≤ j:=by
  obtain ⟨k,hk⟩:=h
  induction k using Nat.strongRecOn with
  | _ k ih=>
    by_cases hh:∃ j,j < k∧p j
    · obtain ⟨j,hj,hp⟩:=hh
      exact ih j hj hp
    · exact ⟨k,hk,fun j hj=>Nat.le_of_not_lt fun hlt=>hh ⟨j,hlt,hj⟩⟩
theorem wp_scope_jumps_k {P:Program} {a:Act} {w:World} {Q:Exit → Act → World → Prop} {c rest:Code} (l:Nat) (J:Nat → Act → World → Prop) (hf:findLabel c l=some rest)
    (first:c.wp P (Exit.jump l (fun a w=>∃ k,J k a w) Q) a w)
    (pass:∀ k a w,J k a w → rest.wp P (Exit.jump l (fun a' w'=>∃ k',k' < k∧J k' a' w') Q) a w):(Code.scope c).wp P Q a w:=by
  classical
  refine wp_scope_jumps l (fun a w=>∃ k,J k a w) (fun a w=>if h:∃ k,J k a w then Classical.choose (exists_least h) else 0) hf first ?_
  intro a w h
  have h1:=Classical.choose_spec (exists_least h)
  refine Code.wp_mono ?_ (pass _ a w h1.1)
  intro e a' w' hq
  cases e with
  | goto l'=>
    obtain ⟨hl,k',hk,hj⟩:=hq
    refine ⟨hl,⟨k',hj⟩,?_⟩
    rw [dif_pos (show ∃ k,J k a' w' from ⟨k',hj⟩),dif_pos h]
    exact Nat.lt_of_le_of_lt ((Classical.choose_spec (exists_least (show ∃ k,J k a' w' from ⟨k',hj⟩))).2 k' hj) hk
  | _=>exact hq
def dirAll (o:Opt) (b:UInt8) (r:Bs):Except EK (RTok × Bs):=
  match dirL o.fails r 0 0 [b] with
  | .error e=>.error e
  | .ok (d,r2)=>.ok (.dir d,r2)
def DiInv (x:Cx) (c:DC) (w0:World) (v0:DV) (R:Except EK (Bs × Bs)) (k:Nat) (a:Act) (w:World):Prop:=
  ∃ f v rest inq dp buf,a=fr 731 f [(0,decP x),(21,.int .u8 (UInt8.toNat inq)),(22,.int .i64 dp)]∧RdS x c w v rest none buf∧Stp x w0 v0 w v∧k=rest.length ∧
    R=dirL x.o.fails rest inq dp buf∧1 ≤ buf.length∧buf.length + rest.length ≤ 1100000000∧dp.natAbs + rest.length ≤ 1100000000
def DjInv (x:Cx) (c:DC) (w0:World) (v0:DV) (R:Except EK (Bs × Bs)) (m:Nat) (k:Nat) (a:Act) (w:World):Prop:=
  ∃ f v b rest inq dp buf,a=fr 731 f [(0,decP x),(4,.int .u8 (UInt8.toNat b)),(21,.int .u8 (UInt8.toNat inq)),(22,.int .i64 dp)]∧RdS x c w v rest none buf∧Stp x w0 v0 w v∧k=rest.length∧rest.length < m ∧
    R=dirB x.o.fails b rest inq dp buf∧buf.length + 1 + rest.length ≤ 1100000000∧dp.natAbs + 1 + rest.length ≤ 1100000000
theorem rawDir (x:Cx) (hx:x.All) (c:DC) (hdc:DcOk x c) (w:World) (v:DV) (b:UInt8) (rest:Bs) (buf:Bs) (h:RdS x c w v rest none buf) (Q:Exit → Act → World → Prop)
    (hQ:∀ f w' t e,RawPost x c w v (dirAll x.o b rest) t e w' → Q .ret (fr 731 f [(2,t),(3,e)]) w') (f:Nat → Value) :
    (rwCode 113).wp Tryz.prog Q (fr 731 f [(0,decP x),(4,.int .u8 b.toNat)]) w:=by
  have hrs:=Lib.hid (reset_c x hx.toOk c w v rest none buf h)
  have HX:=Lib.hid hx
  have HD:=Lib.hid hdc
  have HQ:=Lib.hid hQ
  have HRL:=Lib.hid (show rest.length ≤ 1000000000 from Nat.le_trans (h.suf.length_le) hx.len)
  clear hx hdc hQ h
  unfold rwCode
  conv=>arg 2;whnf
  (repeat (first|(with_reducible first|refine zA fun K hK=>?_|refine zB ?_|refine zC ?_)|((with_reducible first|refine zD rfl fun K hK=>?_|refine zE fun K hK=>?_);go_simp)|(with_reducible first|((repeat ((fail_if_success refine hK _ _ ?_);clear hK K));refine hK _ _ ?_;clear hK K)|refine zt ?_|refine zf ?_|refine zG ?_|refine zR ?_|refine zK ?_|refine zL ?_|refine zN ?_|refine zS ?_)|simp only [Exit.then,Exit.inBlock,Exit.noGoto,↓reduceIte,Nat.reduceEqDiff]|simp only [undef,reduceCtorEq,↓reduceIte]))
  refine hrs.out.mono ?_
  rintro e1 w1 ⟨rfl,v1,h1,hn1,hb1,hm1,hz1⟩
  have HS1:=Lib.hid (Stp.ofS0 hm1 hb1)
  have hwb:=Lib.hid (writeByte_k x HX.out.toOk c w1 v1 rest none [] h1 b (by simp))
  clear h1 hn1 hb1 hm1 hz1 hrs
  go_simp
  (repeat (first|(with_reducible first|refine zA fun K hK=>?_|refine zB ?_|refine zC ?_)|((with_reducible first|refine zD rfl fun K hK=>?_|refine zE fun K hK=>?_);go_simp)|(with_reducible first|((repeat ((fail_if_success refine hK _ _ ?_);clear hK K));refine hK _ _ ?_;clear hK K)|refine zt ?_|refine zf ?_|refine zG ?_|refine zR ?_|refine zK ?_|refine zL ?_|refine zN ?_|refine zS ?_)|simp only [Exit.then,Exit.inBlock,Exit.noGoto,↓reduceIte,Nat.reduceEqDiff]|simp only [undef,reduceCtorEq,↓reduceIte]))
  refine hwb.out.mono ?_
  rintro e2 w2 ⟨rfl,v2,⟨h2,hn2,hs2⟩,_⟩
  have HS2:=Lib.hid (HS1.out.trans hs2)
  have HR2:=Lib.hid (show RdS x c w2 v2 rest none [b] from h2)
  clear h2 hn2 hs2 hwb HS1
  go_simp
  (repeat (first|(with_reducible first|refine zA fun K hK=>?_|refine zB ?_|refine zC ?_)|((with_reducible first|refine zD rfl fun K hK=>?_|refine zE fun K hK=>?_);go_simp)|(with_reducible first|((repeat ((fail_if_success refine hK _ _ ?_);clear hK K));refine hK _ _ ?_;clear hK K)|refine zt ?_|refine zf ?_|refine zG ?_|refine zR ?_|refine zK ?_|refine zL ?_|refine zN ?_|refine zS ?_)|simp only [Exit.then,Exit.inBlock,Exit.noGoto,↓reduceIte,Nat.reduceEqDiff]|simp only [undef,reduceCtorEq,↓reduceIte]))
  (refine wp_keep [0,21,22] (fun f=>?_);simp only [keep_cons,keep_nil,lk_cons,lk_nil,Nat.reduceEqDiff,↓reduceIte])
  refine wp_loop_ghost_k (DiInv x c w v (dirL x.o.fails rest 0 0 [b])) rest.length ⟨f,v2,rest,0,0,[b],rfl,HR2.out,HS2.out,rfl,rfl,by simp,by have:=HRL.out;simp;omega,by have:=HRL.out;simp;omega⟩ ?_
  rintro k _ w6 ⟨f,v6,rest6,inq,dp,bf,rfl,h6,hs6,hk,hR,hbl,hb,hd⟩ J K2 hJ hK2
  have HJ:=Lib.hid hJ
  have HK2:=Lib.hid hK2
  have HS6:=Lib.hid hs6
  have HK:=Lib.hid hk
  have H6:=Lib.hid h6
  have HR:=Lib.hid hR
  have HBL:=Lib.hid hbl
  have HNB:=Lib.hid hb
  have HND:=Lib.hid hd
  clear hJ hK2 hs6 hk h6 hR hbl hb hd
  refine wp_block ?_
  refine wp_scope_jumps_k (rest:=.seq .skip (rwCode 121)) 0 (DjInv x c w v (dirL x.o.fails rest 0 0 [b]) rest6.length) (by kernel_rfl) ?_ ?_
  · cases rest6 with
    | nil=>
      have hmg:=Lib.hid (mustgetc_none x HX.out.toOk c HD.out w6 v6 _ _ H6.out)
      have HRK:=Lib.hid (show dirAll x.o b rest=.error (mustE x.o.fails) by unfold dirAll;rw [HR.out];unfold dirL;rfl)
      (repeat (first|(with_reducible first|refine zA fun K hK=>?_|refine zB ?_|refine zC ?_)|((with_reducible first|refine zD rfl fun K hK=>?_|refine zE fun K hK=>?_);go_simp)|(with_reducible first|((repeat ((fail_if_success refine hK _ _ ?_);clear hK K));refine hK _ _ ?_;clear hK K)|refine zt ?_|refine zf ?_|refine zG ?_|refine zR ?_|refine zK ?_|refine zL ?_|refine zN ?_|refine zS ?_)|simp only [Exit.then,Exit.inBlock,Exit.noGoto,↓reduceIte,Nat.reduceEqDiff]|simp only [undef,reduceCtorEq,↓reduceIte]))
      refine hmg.out.mono ?_
      rintro e7 w7 ⟨rfl,v7,hE,hb7,hm7⟩
      have HS7:=Lib.hid (HS6.out.s0 hm7 hb7)
      obtain ⟨t1,u1,hu1⟩:=hE.err.iface
      have HE:=Lib.hid hE
      have hc:=hE.dec.cell
      have hf:=hE.dec.frozen
      have HU:=Lib.hid hu1
      clear hE hm7 hb7 hmg
      go_simp
      (repeat (first|(with_reducible first|refine zA fun K hK=>?_|refine zB ?_|refine zC ?_)|((with_reducible first|refine zD rfl fun K hK=>?_|refine zE fun K hK=>?_);go_simp)|(with_reducible first|((repeat ((fail_if_success refine hK _ _ ?_);clear hK K));refine hK _ _ ?_;clear hK K)|refine zt ?_|refine zf ?_|refine zG ?_|refine zR ?_|refine zK ?_|refine zL ?_|refine zN ?_|refine zS ?_)|simp only [Exit.then,Exit.inBlock,Exit.noGoto,↓reduceIte,Nat.reduceEqDiff]|simp only [undef,reduceCtorEq,↓reduceIte]))
      (refine wp_keep [0] (fun f=>?_);simp only [keep_cons,keep_nil,lk_cons,lk_nil,Nat.reduceEqDiff,↓reduceIte])
      go_quiet (fail)
      (repeat (first|(with_reducible first|refine zA fun K hK=>?_|refine zB ?_|refine zC ?_)|((with_reducible first|refine zD rfl fun K hK=>?_|refine zE fun K hK=>?_);go_simp)|(with_reducible first|((repeat ((fail_if_success refine hK _ _ ?_);clear hK K));refine hK _ _ ?_;clear hK K)|refine zt ?_|refine zf ?_|refine zG ?_|refine zR ?_|refine zK ?_|refine zL ?_|refine zN ?_|refine zS ?_)|simp only [Exit.then,Exit.inBlock,Exit.noGoto,↓reduceIte,Nat.reduceEqDiff]|simp only [undef,reduceCtorEq,↓reduceIte]))
      simp only [Exit.jump]
      (repeat (first|(with_reducible first|refine zA fun K hK=>?_|refine zB ?_|refine zC ?_)|((with_reducible first|refine zD rfl fun K hK=>?_|refine zE fun K hK=>?_);go_simp)|(with_reducible first|((repeat ((fail_if_success refine hK _ _ ?_);clear hK K));refine hK _ _ ?_;clear hK K)|refine zt ?_|refine zf ?_|refine zG ?_|refine zR ?_|refine zK ?_|refine zL ?_|refine zN ?_|refine zS ?_)|simp only [Exit.then,Exit.inBlock,Exit.noGoto,↓reduceIte,Nat.reduceEqDiff]|simp only [undef,reduceCtorEq,↓reduceIte]))
      refine Q_keep [2,3] (fun f=>?_);simp only [keep_cons,keep_nil,lk_cons,lk_nil,Nat.reduceEqDiff,↓reduceIte]
      exact HQ.out f _ _ _ ⟨v7,HS7.out.drawn _,by rw [HRK.out];exact ⟨rfl,HU.out.symm,HE.out.drewN _⟩⟩
    | cons d r=>
      have hmg:=Lib.hid (mustgetc_some x HX.out.toOk c HD.out w6 v6 d r _ _ H6.out)
      (repeat (first|(with_reducible first|refine zA fun K hK=>?_|refine zB ?_|refine zC ?_)|((with_reducible first|refine zD rfl fun K hK=>?_|refine zE fun K hK=>?_);go_simp)|(with_reducible first|((repeat ((fail_if_success refine hK _ _ ?_);clear hK K));refine hK _ _ ?_;clear hK K)|refine zt ?_|refine zf ?_|refine zG ?_|refine zR ?_|refine zK ?_|refine zL ?_|refine zN ?_|refine zS ?_)|simp only [Exit.then,Exit.inBlock,Exit.noGoto,↓reduceIte,Nat.reduceEqDiff]|simp only [undef,reduceCtorEq,↓reduceIte]))
      refine hmg.out.mono ?_
      rintro e7 w7 ⟨rfl,v7,h7,hn7,hb7,hm7,hz7⟩
      have HS7:=Lib.hid (HS6.out.s0 hm7 hb7)
      have HR7:=Lib.hid h7
      have HN7:=Lib.hid hn7
      clear h7 hn7 hb7 hm7 hz7 hmg
      by_cases hend:inq=0∧d=62∧dp=0
      · obtain ⟨rfl,rfl,rfl⟩:=hend
        have HRES:=Lib.hid (show dirAll x.o b rest=.ok (.dir bf,r) by unfold dirAll;rw [HR.out];unfold dirL;rw [if_pos ⟨rfl,rfl,rfl⟩])
        have hne:bf ≠ []:=by have:=HBL.out;intro hh;rw [hh] at this;simp at this
        obtain ⟨g,cap,hv,hlc,hcm,hdat⟩:=HR7.out.chop hne 0
        have hbd:=Lib.hid (bytes_c x c w7 v7 r none _ HR7.out)
        rw [hv] at hbd
        have HDAT:=Lib.hid hdat
        clear hne hv hdat
        go_simp
        (repeat (first|(with_reducible first|refine zA fun K hK=>?_|refine zB ?_|refine zC ?_)|((with_reducible first|refine zD rfl fun K hK=>?_|refine zE fun K hK=>?_);go_simp)|(with_reducible first|((repeat ((fail_if_success refine hK _ _ ?_);clear hK K));refine hK _ _ ?_;clear hK K)|refine zt ?_|refine zf ?_|refine zG ?_|refine zR ?_|refine zK ?_|refine zL ?_|refine zN ?_|refine zS ?_)|simp only [Exit.then,Exit.inBlock,Exit.noGoto,↓reduceIte,Nat.reduceEqDiff]|simp only [undef,reduceCtorEq,↓reduceIte]))
        simp only [Exit.jump]
        (repeat (first|(with_reducible first|refine zA fun K hK=>?_|refine zB ?_|refine zC ?_)|((with_reducible first|refine zD rfl fun K hK=>?_|refine zE fun K hK=>?_);go_simp)|(with_reducible first|((repeat ((fail_if_success refine hK _ _ ?_);clear hK K));refine hK _ _ ?_;clear hK K)|refine zt ?_|refine zf ?_|refine zG ?_|refine zR ?_|refine zK ?_|refine zL ?_|refine zN ?_|refine zS ?_)|simp only [Exit.then,Exit.inBlock,Exit.noGoto,↓reduceIte,Nat.reduceEqDiff]|simp only [undef,reduceCtorEq,↓reduceIte]))
        refine hbd.out.mono ?_
        rintro e9 w9 ⟨rfl,kk,rfl⟩
        go_simp
        (repeat (first|(with_reducible first|refine zA fun K hK=>?_|refine zB ?_|refine zC ?_)|((with_reducible first|refine zD rfl fun K hK=>?_|refine zE fun K hK=>?_);go_simp)|(with_reducible first|((repeat ((fail_if_success refine hK _ _ ?_);clear hK K));refine hK _ _ ?_;clear hK K)|refine zt ?_|refine zf ?_|refine zG ?_|refine zR ?_|refine zK ?_|refine zL ?_|refine zN ?_|refine zS ?_)|simp only [Exit.then,Exit.inBlock,Exit.noGoto,↓reduceIte,Nat.reduceEqDiff]|simp only [undef,reduceCtorEq,↓reduceIte]))
        refine Q_keep [2,3] (fun f=>?_);simp only [keep_cons,keep_nil,lk_cons,lk_nil,Nat.reduceEqDiff,↓reduceIte]
        refine HQ.out f _ _ _ ⟨v7,HS7.out.drawn _,?_⟩
        rw [HRES.out]
        have hd:=HDAT.out (w7.drewN kk) ⟨rfl,rfl,rfl,Nat.le_refl _,fun _ _=>rfl⟩
        rw [Nat.sub_zero,List.take_length] at hd
        exact ⟨rfl,none,_,HR7.out.drewN HX.out.toOk _,⟨_,rfl,hd⟩,Or.inl rfl,HN7.out⟩
      · have HR2:=Lib.hid (show dirL x.o.fails rest 0 0 [b]=dirB x.o.fails d r inq dp bf by rw [HR.out,dirL.eq_def];exact if_neg hend)
        have hps:=Lib.hid (fun Q hq f=>dirPass x HX.out c HD.out w7 v7 d r inq dp bf 1100000000 (by omega) HR7.out (by have:=HNB.out;simp only [List.length_cons] at this;omega) (by have:=HND.out;simp only [List.length_cons] at this;omega) Q hq f)
        have hcs:(((inq.toNat:Int) == 0)=false∧((inq.toNat:Int) != 0)=true) ∨ (((inq.toNat:Int) == 0)=true∧((d.toNat:Int) == 62)=false) ∨ (((inq.toNat:Int) == 0)=true∧((d.toNat:Int) == 62)=true∧(dp == 0)=false):=by
          by_cases h0:inq=0
          · by_cases h1:d=62
            · refine Or.inr (Or.inr ⟨by subst h0;rfl,by subst h1;rfl,?_⟩)
              have h2:dp ≠ 0:=fun h2=>hend ⟨h0,h1,h2⟩
              simpa using h2
            · exact Or.inr (Or.inl ⟨by subst h0;rfl,u8ne h1 rfl⟩)
          · exact Or.inl ⟨u8ne (c:=0) h0 rfl,u8bne (c:=0) h0 rfl⟩
        have HOUT:Hid (∀ Q',(∀ f w' v' rest' inq' dp' buf',RdS x c w' v' rest' none buf' → Stp x w v w' v' → dirL x.o.fails rest 0 0 [b]=dirL x.o.fails rest' inq' dp' buf' → rest'.length < (d :: r).length → 1 ≤ buf'.length → buf'.length + rest'.length ≤ 1100000000 → dp'.natAbs + rest'.length ≤ 1100000000 → Q' .normal (fr 731 f [(0,decP x),(21,.int .u8 (UInt8.toNat inq')),(22,.int .i64 dp')]) w') →
            (∀ f w' v' b' rest' inq' dp' buf',RdS x c w' v' rest' none buf' → Stp x w v w' v' → dirL x.o.fails rest 0 0 [b]=dirB x.o.fails b' rest' inq' dp' buf' → rest'.length < (d :: r).length → buf'.length + 1 + rest'.length ≤ 1100000000 → dp'.natAbs + 1 + rest'.length ≤ 1100000000 → Q' (.goto 0) (fr 731 f [(0,decP x),(4,.int .u8 (UInt8.toNat b')),(21,.int .u8 (UInt8.toNat inq')),(22,.int .i64 dp')]) w') →
            (∀ f w' t e,RawPost x c w v (dirAll x.o b rest) t e w' → Q' .ret (fr 731 f [(2,t),(3,e)]) w') → DirOut x c w7 v7 (dirB x.o.fails d r inq dp bf) 1100000000 (r.length + 1) Q'):=by
          intro Q' q1 q2 q3
          refine ⟨?_,?_,?_⟩
          · intro f w' v' rest' inq' dp' buf' hr hs hR hlt hbl hb hd
            exact q1 f w' v' rest' inq' dp' buf' hr (HS7.out.trans hs) (by rw [HR2.out,hR]) (by simp;omega) hbl hb hd
          · intro f w' v' b' rest' inq' dp' buf' hr hs hR hlt hb hd
            exact q2 f w' v' b' rest' inq' dp' buf' hr (HS7.out.trans hs) (by rw [HR2.out,hR]) (by simp;omega) hb hd
          · intro k hk f w' v' hE hs
            exact q3 f w' _ _ ⟨v',HS7.out.trans hs,by unfold dirAll;rw [HR2.out,hk];exact ⟨rfl,rfl,hE⟩⟩
        clear hend
        rcases hcs with ⟨t1,t2⟩|⟨t1,t2⟩|⟨t1,t2,t3⟩
        all_goals
          go_simp
          (repeat ((fail_if_success with_reducible refine wp_stop 121 ?_);(fail_if_success with_reducible refine wp_stop2 121 ?_);(first|(with_reducible first|refine zA fun K hK=>?_|refine zB ?_|refine zC ?_)|((with_reducible first|refine zD rfl fun K hK=>?_|refine zE fun K hK=>?_);go_simp)|(with_reducible first|((repeat ((fail_if_success refine hK _ _ ?_);clear hK K));refine hK _ _ ?_;clear hK K)|refine zt ?_|refine zf ?_|refine zG ?_|refine zR ?_|refine zK ?_|refine zL ?_|refine zN ?_|refine zS ?_)|simp only [Exit.then,Exit.inBlock,Exit.noGoto,↓reduceIte,Nat.reduceEqDiff]|simp only [undef,reduceCtorEq,↓reduceIte])))
          (refine wp_keep [0,4,21,22] (fun f=>?_);simp only [keep_cons,keep_nil,lk_cons,lk_nil,Nat.reduceEqDiff,↓reduceIte])
          have HRT:=Lib.hid (show (UInt8.toNat 62:Int)=62 from rfl)
          refine wp_code (hps.out _ (HOUT.out _ ?_ ?_ ?_) f) (by kernel_rfl)
          · intro f w' v' rest' inq' dp' buf' hr hs hR hlt hbl hb hd
            simp only [Exit.jump,Exit.inBlock,Exit.then]
            exact HK2.out _ _ ⟨rest'.length,by rw [HK.out];exact hlt,HJ.out _ _ _ ⟨f,v',rest',inq',dp',buf',rfl,hr,hs,rfl,hR,hbl,hb,hd⟩⟩
          · intro f w' v' b' rest' inq' dp' buf' hr hs hR hlt hb hd
            exact ⟨rfl,rest'.length,f,v',b',rest',inq',dp',buf',rfl,hr,hs,rfl,hlt,hR,hb,hd⟩
          · intro f w' t e hP
            simp only [Exit.jump,Exit.inBlock,Exit.then]
            exact HQ.out f w' t e hP
  · rintro k2 _ w7 ⟨f,v7,d,r,inq',dp',bf',rfl,h7,hs7,hk7,hlt7,hR7,hb7,hd7⟩
    have HS7:=Lib.hid hs7
    have HR7:=Lib.hid hR7
    have HLT7:=Lib.hid hlt7
    have HK7:=Lib.hid hk7
    have hps:=Lib.hid (fun Q hq f=>dirPass x HX.out c HD.out w7 v7 d r inq' dp' bf' 1100000000 (by omega) h7 hb7 hd7 Q hq f)
    clear h7 hs7 hk7 hlt7 hR7 hb7 hd7
    refine wp_seq_k (fun K hK=>?_)
    refine wp_skip ?_
    refine hK _ _ ?_
    clear hK K
    refine hps.out _ ?_ f
    refine ⟨?_,?_,?_⟩
    · intro f w' v' rest' inq' dp' buf' hr hs hR hlt hbl hb hd
      simp only [Exit.jump,Exit.inBlock,Exit.then]
      exact HK2.out _ _ ⟨rest'.length,by rw [HK.out];have:=HLT7.out;omega,HJ.out _ _ _ ⟨f,v',rest',inq',dp',buf',rfl,hr,HS7.out.trans hs,rfl,by rw [HR7.out,hR],hbl,hb,hd⟩⟩
    · intro f w' v' b' rest' inq' dp' buf' hr hs hR hlt hb hd
      exact ⟨rfl,rest'.length,by rw [HK7.out];omega,f,v',b',rest',inq',dp',buf',rfl,hr,HS7.out.trans hs,rfl,by have:=HLT7.out;omega,by rw [HR7.out,hR],hb,hd⟩
    · intro k hk f w' v' hE hs
      simp only [Exit.jump,Exit.inBlock,Exit.then]
      exact HQ.out f w' _ _ ⟨v',HS7.out.trans hs,by unfold dirAll;rw [HR7.out,hk];exact ⟨rfl,rfl,hE⟩⟩
end Go.Proofs.YtkjnockljapnbaaGreatDoor
