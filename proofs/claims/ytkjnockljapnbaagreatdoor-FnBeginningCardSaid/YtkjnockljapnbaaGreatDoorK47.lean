/- Part of the proof that laws.FnBeginning, laws.FnPlaces returns true for every argument (Ka, Kb). No condition of its own. -/
import Derived.Test.YtkjnockljapnbaaGreatDoorK46
set_option linter.all false
set_option maxHeartbeats 8000000
set_option maxRecDepth 100000
namespace Go.Proofs.YtkjnockljapnbaaGreatDoor
open Go Go.RowKit
theorem tokens_c (T:Bs) (hT:T.length ≤ 100000000) (o:Opt) (ho:o.auto=[]) (hno:o.ents=none) (pcA:Option Addr) (pcN pcC:Nat) (pcs:List Int) (w:World) (hE:EnvA w) (hp:PcOk w pcA pcN pcC pcs) :
    Calls Tryz.prog 9 #[strV T,.slice pcA pcN pcC,.bool o.fails,optV o.raw (!o.strict) (.slice none 0 0) o.space] w (TokensOut T o w):=by
  obtain ⟨eofA,he,hl⟩:=hE.eof
  obtain ⟨x,hx⟩:∃ x,x=mkCx w T o eofA pcA pcN pcC pcs:=⟨_,rfl⟩
  have HALL:=Lib.hid (show x.All by rw [hx];exact mkCx_all hE.toEnv (by omega) o he hl hp)
  have HEB:=Lib.hid (show ∃ cs t,Blk x.W0 x.eofA.block cs t by rw [hx];exact hE.eofB eofA he)
  have HET:=Lib.hid (show x.W0.cell? ⟨1,0,none⟩=some (rtI 55) by rw [hx];exact hE.et)
  have HETB:=Lib.hid (show 1 < x.B by rw [hx];exact hE.etB)
  have HAF:=Lib.hid (show AfTab x.W0 by rw [hx];exact hE.af)
  have HAFB:=Lib.hid (show 3 < x.B by rw [hx];exact hE.afB)
  have hxo:x.o=o:=by rw [hx];rfl
  have hxT:x.T=T:=by rw [hx];rfl
  have hxW:x.W0=w:=by rw [hx];rfl
  have hxB:x.B=w.heap.size:=by rw [hx];rfl
  have hrdx:x.rd=w.heap.size + 1:=by rw [hx];rfl
  have hdx:x.d=w.heap.size + 4:=by rw [hx];rfl
  have hbx:x.br=w.heap.size + 5:=by rw [hx];rfl
  have hrbx:x.rb=w.heap.size + 6:=by rw [hx];rfl
  have HX:=Lib.hid hx
  have HXO:=Lib.hid hxo
  have HXT:=Lib.hid hxT
  have HXW:=Lib.hid hxW
  have HXB:=Lib.hid hxB
  have HTL:=Lib.hid hT
  have HO:=Lib.hid ho
  have HNO:=Lib.hid hno
  have HDX:=Lib.hid hdx
  have HRDX:=Lib.hid hrdx
  have HBX:=Lib.hid hbx
  have HRBX:=Lib.hid hrbx
  clear hx hT hE he hl hp ho hno hxo hxT hxW hxB
  have hdec:=Lib.hid (fun (w':World) (hs:w'.heap.size=w.heap.size + 2)=>decoder_c x w' o.raw (!o.strict) none 0 0 o.space (by omega) (by omega) (by omega))
  clear hdx hbx hrbx hrdx
  refine calls_fr (vs:=[_,_,_,_]) 45 Tryz.func9 rfl rfl (Nat.le_of_ble_eq_true rfl) fun f=>?_
  simp only [argSlots]
  (repeat (first|(with_reducible first|refine zA fun K hK=>?_|refine zB ?_|refine zC ?_)|((with_reducible first|refine zD rfl fun K hK=>?_|refine zE fun K hK=>?_);go_simp)|(with_reducible first|((repeat ((fail_if_success refine hK _ _ ?_);clear hK K));refine hK _ _ ?_;clear hK K)|refine zT (by go_simp;first|done|omega) ?_|refine zF (by go_simp;first|done|omega) ?_|refine zG ?_|refine zR ?_|refine zK ?_|refine zL ?_|refine zN ?_|refine zS ?_)|simp only [Exit.then,Exit.inBlock,Exit.noGoto,↓reduceIte,Nat.reduceEqDiff]|simp only [undef,reduceCtorEq,↓reduceIte]))
  rw [show (w.heap.size + 1)=x.rd from HRDX.out.symm]
  have hrd0:Blk ((w.alloc (.cells #[.bool o.raw,.bool (!o.strict),.slice none 0 0,.slice none 0 0,strV o.space] 30)).alloc (.cells #[strV T,.slice pcA pcN pcC,.int .i64 0,.bool o.fails] 52)) x.rd #[strV T,.slice pcA pcN pcC,.int .i64 0,.bool o.fails] 52:=by
    have:=Blk.new (w.alloc (.cells #[.bool o.raw,.bool (!o.strict),.slice none 0 0,.slice none 0 0,strV o.space] 30)) #[strV T,.slice pcA pcN pcC,.int .i64 0,.bool o.fails] 52
    rw [HRDX.out];simpa using this
  have hop0:Blk ((w.alloc (.cells #[.bool o.raw,.bool (!o.strict),.slice none 0 0,.slice none 0 0,strV o.space] 30)).alloc (.cells #[strV T,.slice pcA pcN pcC,.int .i64 0,.bool o.fails] 52)) w.heap.size (optCells o) 30:=(Blk.new w _ _).alloc _
  have hbl0:Below w.heap.size w ((w.alloc (.cells #[.bool o.raw,.bool (!o.strict),.slice none 0 0,.slice none 0 0,strV o.space] 30)).alloc (.cells #[strV T,.slice pcA pcN pcC,.int .i64 0,.bool o.fails] 52)):=((Below.refl _ w).alloc (Nat.le_refl _) _).alloc (by simp) _
  have hsz0:((w.alloc (.cells #[.bool o.raw,.bool (!o.strict),.slice none 0 0,.slice none 0 0,strV o.space] 30)).alloc (.cells #[strV T,.slice pcA pcN pcC,.int .i64 0,.bool o.fails] 52)).heap.size=w.heap.size + 2:=by simp
  refine (hdec.out _ (by simp)).mono ?_
  rintro e1 w1 ⟨rfl,hb1,hd1,hbr,hrb,hmp⟩
  rw [hsz0] at hmp
  have HB1:=Lib.hid (hbl0.trans (hb1.mono (by simp;omega)))
  obtain ⟨c,hc⟩:∃ c:DC,c={ c0 x (w.heap.size + 2 + 1) with strict:=o.strict,auto:=.slice none 0 0,space:=⟨o.space.toArray⟩ }:=⟨_,rfl⟩
  have hdc:DecAt w1 x.d c v0:=by
    rw [hc]
    have h9:=hd1
    rw [hsz0] at h9
    simpa using h9
  have hrd1:Blk w1 x.rd _ _:=Blk.mod (S:=fun _=>False) hrd0 (mod_none hb1 _) id
  have hop1:Blk w1 w.heap.size (optCells o) 30:=Blk.mod (S:=fun _=>False) hop0 (mod_none hb1 _) id
  have hR:RdS x c w1 v0 T none []:=rdS0 (c:=c) (by have:=HTL.out;omega) x HX.out HB1.out hdc hbr hrb (by rw [HX.out] at hrd1 ⊢;exact hrd1)
  have hns:NsAt w1 (w.heap.size + 2 + 1) 0 (fun _=>none):=NsAt.of hmp
  have hS1:∀ k,x.S1 v0 k → k=w.heap.size + 4 ∨ k=w.heap.size + 5 ∨ k=w.heap.size + 6 ∨ k=w.heap.size + 1:=by
    have h1:=HDX.out
    have h2:=HRDX.out
    have h3:=HBX.out
    have h4:=HRBX.out
    rintro k ((h|h|h|h)|h)
    · omega
    · omega
    · omega
    · omega
    · exact h.elim
  have hts:TS x c w1 v0 (St.init T) (w.heap.size + 2 + 1) [] [] 0:=by
    refine ⟨⟨⟨by rw [hc];rfl,by rw [hc,HXO.out]⟩,⟨by rw [hc];rfl,by rw [HXO.out];exact HNO.out⟩,by rw [hc,HXO.out],by rw [hc],by rw [hc];rfl⟩,
      ⟨⟨none,[],hR,fun h=>(by cases h),fun h=>absurd rfl h⟩,by rw [hc];rfl,fun nm h=>(by cases h),(show (-1:Int) ≠ 10 by decide)⟩,
      ⟨by rw [hc];exact rfl,⟨[],by rw [hc];exact rfl⟩,by rw [hc];rfl,hns,by simp,fun b hb=>?_,fun b hb hs=>?_⟩,fun e he=>(by cases he),fun k u h=>(by cases h),fun nm h=>(by cases h),?_⟩
    · simp only [List.append_nil,List.mem_cons,List.not_mem_nil,or_false] at hb
      rw [hb,HXB.out];omega
    · simp only [List.append_nil,List.mem_cons,List.not_mem_nil,or_false] at hb
      have:=hS1 b hs
      omega
    · rw [HXT.out];simp [St.init]
  have hst:TkSt x c w1 v0 (St.init T) (w.heap.size + 2 + 1) [] [] 0 w.heap.size [] [] (.slice none 0 0):=by
    refine ⟨hts,by rw [HXO.out];exact hop1,⟨hop1.lt,fun hs=>by have:=hS1 _ hs;omega,fun hh=>?_⟩,by simp [Value.ownBlock],⟨rfl,Or.inl ⟨rfl,rfl⟩⟩,fun k hk=>(by cases hk),.nil,fun fold l' e ht=>(by rw [HXT.out];simpa using ht),rfl,by rw [HXT.out];simp⟩
    simp only [List.append_nil,List.mem_cons,List.not_mem_nil,or_false] at hh
    omega
  have HST:=Lib.hid hst
  clear hb1 hd1 hbr hrb hmp hdc hc hrd1 hrd0 hop0 hbl0 hdec hop1 hR hns hS1 hts hst hsz0
  go_simp
  (repeat (first|(with_reducible first|refine zA fun K hK=>?_|refine zB ?_|refine zC ?_)|((with_reducible first|refine zD rfl fun K hK=>?_|refine zE fun K hK=>?_);go_simp)|(with_reducible first|((repeat ((fail_if_success refine hK _ _ ?_);clear hK K));refine hK _ _ ?_;clear hK K)|refine zT (by go_simp;first|done|omega) ?_|refine zF (by go_simp;first|done|omega) ?_|refine zG ?_|refine zR ?_|refine zK ?_|refine zL ?_|refine zN ?_|refine zS ?_)|simp only [Exit.then,Exit.inBlock,Exit.noGoto,↓reduceIte,Nat.reduceEqDiff]|simp only [undef,reduceCtorEq,↓reduceIte]))
  (refine wp_keep [7,10,11] (fun f=>?_);simp only [keep_cons,keep_nil,lk_cons,lk_nil,Nat.reduceEqDiff,↓reduceIte])
  obtain ⟨m,hm⟩:∃ m,m=w.heap.size + 2 + 1:=⟨_,rfl⟩
  rw [← hm] at HST
  clear hm
  refine wp_loop_ghost_k (TkInv x m w.heap.size) (St.init T).mu ⟨f,c,v0,St.init T,[],[],0,[],[],.slice none 0 0,rfl,HST.out,rfl⟩ ?_
  clear HST
  rintro k _ w2 ⟨f,c,v,s,sb,fb,n,l,xs,tv,rfl,hst,hk⟩ J K2 hJ hK2
  have HJ:=Lib.hid hJ
  have HK2:=Lib.hid hK2
  have HST:=Lib.hid hst
  have HK:=Lib.hid hk
  have hco:∀ j,w2.cell? ⟨w.heap.size,j,none⟩=(optCells o)[j]?:=by have h:=hst.opt.cell;rw [HXO.out] at h;exact h
  have hfo:=hst.opt.frozen
  have hmuT:s.mu ≤ 8 * T.length:=by
    have h1:=hst.mu
    have h2:(St.init x.T).mu=8 * T.length:=by rw [HXT.out];unfold St.mu St.init;simp
    omega
  have HMU:=Lib.hid hmuT
  clear hJ hK2 hst hk hmuT
  have hcase:o.raw=true ∨ o.raw=false:=by cases o.raw <;> simp
  rcases hcase with hraw|hraw
  · have hsl:step0 x.o s=rawL x.o s:=by unfold step0;rw [HXO.out,hraw];rfl
    have HSL:=Lib.hid hsl
    have HTK:=Lib.hid (rawToken_c x HALL.out HAF.out HAFB.out c w2 v s m sb fb n HST.out.ts)
    clear hsl
    (repeat (first|(with_reducible first|refine zA fun K hK=>?_|refine zB ?_|refine zC ?_)|((with_reducible first|refine zD rfl fun K hK=>?_|refine zE fun K hK=>?_);go_simp)|(with_reducible first|((repeat ((fail_if_success refine hK _ _ ?_);clear hK K));refine hK _ _ ?_;clear hK K)|refine zT (by go_simp;first|done|omega) ?_|refine zF (by go_simp;first|done|omega) ?_|refine zG ?_|refine zR ?_|refine zK ?_|refine zL ?_|refine zN ?_|refine zS ?_)|simp only [Exit.then,Exit.inBlock,Exit.noGoto,↓reduceIte,Nat.reduceEqDiff]|simp only [undef,reduceCtorEq,↓reduceIte]))
    refine HTK.out.mono ?_
    rintro e1 w3 ⟨t,e,rfl,hp⟩
    rw [← HSL.out] at hp
    have HP:=Lib.hid hp
    clear hp HTK hco hfo
    go_simp
    (repeat ((fail_if_success with_reducible refine wp_stop 8 ?_);(fail_if_success with_reducible refine wp_stop2 8 ?_);(first|(with_reducible first|refine zA fun K hK=>?_|refine zB ?_|refine zC ?_)|((with_reducible first|refine zD rfl fun K hK=>?_|refine zE fun K hK=>?_);go_simp)|(with_reducible first|((repeat ((fail_if_success refine hK _ _ ?_);clear hK K));refine hK _ _ ?_;clear hK K)|refine zT (by go_simp;first|done|omega) ?_|refine zF (by go_simp;first|done|omega) ?_|refine zG ?_|refine zR ?_|refine zK ?_|refine zL ?_|refine zN ?_|refine zS ?_)|simp only [Exit.then,Exit.inBlock,Exit.noGoto,↓reduceIte,Nat.reduceEqDiff]|simp only [undef,reduceCtorEq,↓reduceIte])))
    (refine wp_keep [7,10,11,12,13] (fun f=>?_);simp only [keep_cons,keep_nil,lk_cons,lk_nil,Nat.reduceEqDiff,↓reduceIte])
    have hp:=HP.out
    unfold TkPost at hp
    cases hres:step0 x.o s with
    | error kk=>
      rw [hres] at hp
      obtain ⟨_,p2,p3,p4,p5⟩:=hp
      have hfar:∀ k,Far x v m sb fb w2 k → ¬ (x.S1 v k ∨ k ∈ m :: (sb ++ fb)):=fun k hf hh=>by
        rcases hh with hh|hh
        · exact hf.s1 hh
        · exact hf.own hh
      refine wp_code (tksErr x HALL.out HEB.out HET.out HETB.out m w.heap.size s l xs tv kk (fun fold=>?_) w3 (ownsRow_mod HST.out.row p5 (fun k hk=>hfar k (HST.out.tvf k hk))) (HST.out.rows.mono (fun a ys hr=>hr.mod p5 (fun k hk _=>⟨hfar k hk.1,trivial⟩))) t e p2 p3 p4 _ ⟨fun f c' w' v' s' sb' fb' n' l' xs' tv' hst' hlt=>?_,fun f w' tv' kk' hr' hb' hrow' hrows'=>?_⟩ f) (by kernel_rfl)
      · have h9:=HST.out.run fold [] kk (.stop (by rw [stepL_nil (by rw [HXO.out];exact HO.out) HST.out.next];exact hres))
        simpa using h9
      · refine HK2.out _ _ ⟨s'.mu,by rw [HK.out];exact hlt,HJ.out _ _ _ ⟨f,c',v',s',sb',fb',n',l',xs',tv',rfl,hst',rfl⟩⟩
      · (refine fr_out2 rfl (by decide) (by decide) (by simp only [lk_cons,lk_nil,Nat.reduceEqDiff,↓reduceIte];rfl) (by simp only [lk_cons,lk_nil,Nat.reduceEqDiff,↓reduceIte];rfl) ?_)
        rw [HXB.out,HXW.out] at hb'
        rw [HXT.out] at hrows'
        refine ⟨l,kk',tv',xs,rfl,fun fold=>?_,hb',hrow',hrows',?_⟩
        · have h9:=hr' fold
          rw [HXO.out,HXT.out] at h9
          exact h9
        · have h1:=HST.out.mu
          have h2:(St.init x.T).mu=8 * T.length:=by rw [HXT.out];unfold St.mu St.init;simp
          omega
    | ok pr=>
      obtain ⟨tk,s2⟩:=pr
      rw [hres] at hp
      obtain ⟨rfl,c3,v3,sb3,fb3,n3,g1,g2,g3,g4,g5,g6⟩:=hp
      refine wp_code (tksOk x HALL.out (by rw [HXO.out];exact HO.out) (by rw [HXO.out];exact HNO.out) (by rw [HXT.out];exact HTL.out) m w.heap.size (by rw [HXB.out];exact Nat.le_refl _) c w2 v s sb fb n l xs tv HST.out tk s2 hres c3 w3 v3 sb3 fb3 n3 g1 t g2 g3 g4 g5 (fun nm ats ht=>?_) _ ⟨fun f c' w' v' s' sb' fb' n' l' xs' tv' hst' hlt=>?_,fun f w' tv' kk' hr' hb' hrow' hrows'=>?_⟩ f) (by kernel_rfl)
      · subst ht
        have h9:=step0_ats hres
        obtain ⟨e9,b9,hR9,_,_⟩:=HST.out.ts.rd.rd
        have h8:=hR9.suf.length_le
        have h7:=HALL.out.toOk.len
        omega
      · refine HK2.out _ _ ⟨s'.mu,by rw [HK.out];exact hlt,HJ.out _ _ _ ⟨f,c',v',s',sb',fb',n',l',xs',tv',rfl,hst',rfl⟩⟩
      · (refine fr_out2 rfl (by decide) (by decide) (by simp only [lk_cons,lk_nil,Nat.reduceEqDiff,↓reduceIte];rfl) (by simp only [lk_cons,lk_nil,Nat.reduceEqDiff,↓reduceIte];rfl) ?_)
        rw [HXB.out,HXW.out] at hb'
        rw [HXT.out] at hrows'
        refine ⟨l,kk',tv',xs,rfl,fun fold=>?_,hb',hrow',hrows',?_⟩
        · have h9:=hr' fold
          rw [HXO.out,HXT.out] at h9
          exact h9
        · have h1:=HST.out.mu
          have h2:(St.init x.T).mu=8 * T.length:=by rw [HXT.out];unfold St.mu St.init;simp
          omega
  · have hsl:step0 x.o s=tok0 x.o s:=by unfold step0;rw [HXO.out,hraw];rfl
    have HSL:=Lib.hid hsl
    have HTK:=Lib.hid (token_c x HALL.out HAF.out HAFB.out HEB.out c w2 v s m sb fb n HST.out.ts)
    clear hsl
    (repeat (first|(with_reducible first|refine zA fun K hK=>?_|refine zB ?_|refine zC ?_)|((with_reducible first|refine zD rfl fun K hK=>?_|refine zE fun K hK=>?_);go_simp)|(with_reducible first|((repeat ((fail_if_success refine hK _ _ ?_);clear hK K));refine hK _ _ ?_;clear hK K)|refine zT (by go_simp;first|done|omega) ?_|refine zF (by go_simp;first|done|omega) ?_|refine zG ?_|refine zR ?_|refine zK ?_|refine zL ?_|refine zN ?_|refine zS ?_)|simp only [Exit.then,Exit.inBlock,Exit.noGoto,↓reduceIte,Nat.reduceEqDiff]|simp only [undef,reduceCtorEq,↓reduceIte]))
    refine HTK.out.mono ?_
    rintro e1 w3 ⟨t,e,rfl,hp⟩
    rw [← HSL.out] at hp
    have HP:=Lib.hid hp
    clear hp HTK hco hfo
    go_simp
    (repeat ((fail_if_success with_reducible refine wp_stop 8 ?_);(fail_if_success with_reducible refine wp_stop2 8 ?_);(first|(with_reducible first|refine zA fun K hK=>?_|refine zB ?_|refine zC ?_)|((with_reducible first|refine zD rfl fun K hK=>?_|refine zE fun K hK=>?_);go_simp)|(with_reducible first|((repeat ((fail_if_success refine hK _ _ ?_);clear hK K));refine hK _ _ ?_;clear hK K)|refine zT (by go_simp;first|done|omega) ?_|refine zF (by go_simp;first|done|omega) ?_|refine zG ?_|refine zR ?_|refine zK ?_|refine zL ?_|refine zN ?_|refine zS ?_)|simp only [Exit.then,Exit.inBlock,Exit.noGoto,↓reduceIte,Nat.reduceEqDiff]|simp only [undef,reduceCtorEq,↓reduceIte])))
    (refine wp_keep [7,10,11,12,13] (fun f=>?_);simp only [keep_cons,keep_nil,lk_cons,lk_nil,Nat.reduceEqDiff,↓reduceIte])
    have hp:=HP.out
    unfold TkPost at hp
    cases hres:step0 x.o s with
    | error kk=>
      rw [hres] at hp
      obtain ⟨_,p2,p3,p4,p5⟩:=hp
      have hfar:∀ k,Far x v m sb fb w2 k → ¬ (x.S1 v k ∨ k ∈ m :: (sb ++ fb)):=fun k hf hh=>by
        rcases hh with hh|hh
        · exact hf.s1 hh
        · exact hf.own hh
      refine wp_code (tksErr x HALL.out HEB.out HET.out HETB.out m w.heap.size s l xs tv kk (fun fold=>?_) w3 (ownsRow_mod HST.out.row p5 (fun k hk=>hfar k (HST.out.tvf k hk))) (HST.out.rows.mono (fun a ys hr=>hr.mod p5 (fun k hk _=>⟨hfar k hk.1,trivial⟩))) t e p2 p3 p4 _ ⟨fun f c' w' v' s' sb' fb' n' l' xs' tv' hst' hlt=>?_,fun f w' tv' kk' hr' hb' hrow' hrows'=>?_⟩ f) (by kernel_rfl)
      · have h9:=HST.out.run fold [] kk (.stop (by rw [stepL_nil (by rw [HXO.out];exact HO.out) HST.out.next];exact hres))
        simpa using h9
      · refine HK2.out _ _ ⟨s'.mu,by rw [HK.out];exact hlt,HJ.out _ _ _ ⟨f,c',v',s',sb',fb',n',l',xs',tv',rfl,hst',rfl⟩⟩
      · (refine fr_out2 rfl (by decide) (by decide) (by simp only [lk_cons,lk_nil,Nat.reduceEqDiff,↓reduceIte];rfl) (by simp only [lk_cons,lk_nil,Nat.reduceEqDiff,↓reduceIte];rfl) ?_)
        rw [HXB.out,HXW.out] at hb'
        rw [HXT.out] at hrows'
        refine ⟨l,kk',tv',xs,rfl,fun fold=>?_,hb',hrow',hrows',?_⟩
        · have h9:=hr' fold
          rw [HXO.out,HXT.out] at h9
          exact h9
        · have h1:=HST.out.mu
          have h2:(St.init x.T).mu=8 * T.length:=by rw [HXT.out];unfold St.mu St.init;simp
          omega
    | ok pr=>
      obtain ⟨tk,s2⟩:=pr
      rw [hres] at hp
      obtain ⟨rfl,c3,v3,sb3,fb3,n3,g1,g2,g3,g4,g5,g6⟩:=hp
      refine wp_code (tksOk x HALL.out (by rw [HXO.out];exact HO.out) (by rw [HXO.out];exact HNO.out) (by rw [HXT.out];exact HTL.out) m w.heap.size (by rw [HXB.out];exact Nat.le_refl _) c w2 v s sb fb n l xs tv HST.out tk s2 hres c3 w3 v3 sb3 fb3 n3 g1 t g2 g3 g4 g5 (fun nm ats ht=>?_) _ ⟨fun f c' w' v' s' sb' fb' n' l' xs' tv' hst' hlt=>?_,fun f w' tv' kk' hr' hb' hrow' hrows'=>?_⟩ f) (by kernel_rfl)
      · subst ht
        have h9:=step0_ats hres
        obtain ⟨e9,b9,hR9,_,_⟩:=HST.out.ts.rd.rd
        have h8:=hR9.suf.length_le
        have h7:=HALL.out.toOk.len
        omega
      · refine HK2.out _ _ ⟨s'.mu,by rw [HK.out];exact hlt,HJ.out _ _ _ ⟨f,c',v',s',sb',fb',n',l',xs',tv',rfl,hst',rfl⟩⟩
      · (refine fr_out2 rfl (by decide) (by decide) (by simp only [lk_cons,lk_nil,Nat.reduceEqDiff,↓reduceIte];rfl) (by simp only [lk_cons,lk_nil,Nat.reduceEqDiff,↓reduceIte];rfl) ?_)
        rw [HXB.out,HXW.out] at hb'
        rw [HXT.out] at hrows'
        refine ⟨l,kk',tv',xs,rfl,fun fold=>?_,hb',hrow',hrows',?_⟩
        · have h9:=hr' fold
          rw [HXO.out,HXT.out] at h9
          exact h9
        · have h1:=HST.out.mu
          have h2:(St.init x.T).mu=8 * T.length:=by rw [HXT.out];unfold St.mu St.init;simp
          omega
end Go.Proofs.YtkjnockljapnbaaGreatDoor
namespace Go.Proofs.YtkjnockljapnbaaGreatDoor
open Go Go.RowKit
noncomputable def plCode (n:Nat):Code:=((Tryz.f11.body).bind (Code.partAt n)).getD .skip
theorem spaInfo:(Tryz.prog.info? 62).map (fun i=>(i.zero,i.size,i.bytes))=some (some (.agg #[.string ⟨#[]⟩,.string ⟨#[]⟩,.string ⟨#[]⟩]),3,48):=by kernel_rfl
theorem spa_append (w3:World) (base:Nat) (hb:base ≤ w3.heap.size) (v:Value) (acc:List At3) (hn:acc.length ≤ 1000000000) (h:w3.ownsRow base 62 3 v acc.length (atCells acc)) (a:At3) :
    ∃ v' w4,(Builtin.append_ #[38,38] 38 #[v,.slice (some ⟨w3.heap.size,0,none⟩) 1 1]).run Tryz.prog (w3.alloc (.cells #[strV a.1,strV a.2.1,strV a.2.2] 62))=.ok v' w4 ∧
      w4.ownsRow base 62 3 v' (acc ++ [a]).length (atCells (acc ++ [a]))∧(w3.alloc (.cells #[strV a.1,strV a.2.1,strV a.2.2] 62)).grownBy w4 v.ownBlock∧(v'.ownBlock=v.ownBlock ∨ v'.ownBlock=some (w3.heap.size + 1)):=by
  obtain ⟨i,hi,hz,h1,h2⟩:=info_parts spaInfo
  obtain ⟨v',w4,hr,ho,hg,hnil,hown⟩:=run_append_own_at (P:=Tryz.prog) (w3.alloc (.cells #[strV a.1,strV a.2.1,strV a.2.2] 62)) base 38 38 62 i _ 3 48 Tryz.underlying38 hi hz h1 h2 rfl (by omega) v acc.length (atCells acc) (h.alloc _) ⟨w3.heap.size,0,none⟩ 1 1 [strV a.1,strV a.2.1,strV a.2.2] rfl
    (by
      intro j u hj
      have hb:=Blk.new w3 #[strV a.1,strV a.2.1,strV a.2.2] 62
      rw [show ((⟨w3.heap.size,0,none⟩:Addr).add j)=⟨w3.heap.size,j,none⟩ by cases j <;> simp [Addr.add],hb.cell]
      simpa using hj)
    (by
      intro u hu
      simp only [List.mem_cons,List.not_mem_nil,or_false] at hu
      rcases hu with rfl|rfl|rfl <;> rfl)
    (by unfold maxLen;omega) (by omega) (by simp;omega)
  refine ⟨v',w4,hr,?_,hg,by simpa using hown⟩
  have e1:atCells (acc ++ [a])=atCells acc ++ [strV a.1,strV a.2.1,strV a.2.2]:=by simp [atCells]
  rw [e1,List.length_append]
  exact ho
def PlInv (w1:World) (o3 p5 v9 v10 v11:Value) (sv:Value) (ats:List At3) (k:Nat) (a:Act) (w:World):Prop:=
  ∃ f j av,a=fr 50 f [(3,o3),(5,p5),(6,av),(9,v9),(10,v10),(11,v11),(16,sv),(17,.int .i64 ats.length),(18,.int .i64 (j:Nat))]∧Below w1.heap.size w1 w∧w.ownsRow w1.heap.size 62 3 av (ats.take j).length (atCells (ats.take j))∧k=ats.length - j∧j ≤ ats.length
theorem plIn (w1:World) (o3 p5 v9 v10 v11:Value) (sa:Option Addr) (sl sc:Nat) (ats:List At3) (hlen:ats.length ≤ 1000000000) (hsrc:w1.ownsRow 0 61 3 (.slice sa sl sc) ats.length (atCells ats)) (Q:Exit → Act → World → Prop)
    (hQ:∀ f w' av,Below w1.heap.size w1 w' → w'.ownsRow w1.heap.size 62 3 av ats.length (atCells ats) → Q .normal (fr 50 f [(3,o3),(5,p5),(6,av),(9,v9),(10,v10),(11,v11)]) w') (f:Nat → Value) (c1:Code) (hc1:c1=.loop (plCode 7)) :
    c1.wp Tryz.prog (Exit.inBlock 2 Q) (fr 50 f [(3,o3),(5,p5),(6,.slice none 0 0),(9,v9),(10,v10),(11,v11),(16,.slice sa sl sc),(17,.int .i64 ats.length),(18,.int .i64 0)]) w1:=by
  subst hc1
  have HQ:=Lib.hid hQ
  have HLEN:=Lib.hid hlen
  have HSRC:=Lib.hid hsrc
  refine wp_loop_ghost_k (PlInv w1 o3 p5 v9 v10 v11 (.slice sa sl sc) ats) ats.length ⟨f,0,.slice none 0 0,rfl,Below.refl _ w1,⟨rfl,Or.inl ⟨rfl,rfl⟩⟩,by simp,Nat.zero_le _⟩ ?_
  clear hQ hlen hsrc
  rintro k _ w ⟨f,j,av,rfl,hb,hrow,hk,hj⟩ J K2 hJ hK2
  have HJ:=Lib.hid hJ
  have HK2:=Lib.hid hK2
  have HB:=Lib.hid hb
  have HROW:=Lib.hid hrow
  have HK:=Lib.hid hk
  clear hJ hK2 hb hrow hk
  unfold plCode
  conv=>arg 2;whnf
  by_cases hlt:j < ats.length
  · have h1:(j:Int) < (ats.length:Int):=by omega
    have h0:(0:Int) ≤ (j:Int):=by omega
    have hw1:IntKind.i64.wrap ((j:Int) + 1)=((j + 1:Nat):Int):=by rw [IntKind.wrap_i64];have:=HLEN.out;omega
    obtain ⟨a,ha⟩:∃ a,ats[j]?=some a:=⟨ats[j],by simp [hlt]⟩
    obtain ⟨g,cap,cur,hse,hgc,hcur⟩:∃ g cap cur,Value.slice sa sl sc=.slice (some ⟨g,0,none⟩) ats.length cap∧Blk w1 g cur 61∧cur.toList.take (ats.length * 3)=atCells ats:=by
      rcases HSRC.out.2 with ⟨_,h9⟩|⟨g,cap,cur,h3,_,h4,_,_,_,h5⟩
      · omega
      · exact ⟨g,cap,cur,h3,h4,h5⟩
    simp only [Value.slice.injEq] at hse
    obtain ⟨rfl,rfl,rfl⟩:=hse
    have hgw:Blk w g cur 61:=Blk.mod (S:=fun _=>False) hgc (mod_none HB.out _) id
    obtain ⟨k1,k2,k3⟩:=at_cell hcur ha
    have hcg0:w.cell? ⟨g,j * 3,none⟩=some (strV a.1):=(hgw.cell _).trans k1
    have hcg1:w.cell? ⟨g,j * 3 + 1,none⟩=some (strV a.2.1):=(hgw.cell _).trans k2
    have hcg2:w.cell? ⟨g,j * 3 + 2,none⟩=some (strV a.2.2):=(hgw.cell _).trans k3
    have htake:ats.take (j + 1)=ats.take j ++ [a]:=by rw [List.take_succ,ha];rfl
    have hti:(ats.take j).length=j:=by simp;omega
    obtain ⟨wa,hwa⟩:∃ wa,wa=w.alloc (.cells #[strV a.1,strV a.2.1,strV a.2.2] 61):=⟨_,rfl⟩
    have hbl:Below w.heap.size w wa:=by rw [hwa];exact (Below.refl _ w).alloc (Nat.le_refl _) _
    have hba:Blk wa w.heap.size #[strV a.1,strV a.2.1,strV a.2.2] 61:=by rw [hwa];exact Blk.new w _ _
    have hz1:=HB.out.size
    obtain ⟨av',w4,hrun,hown,hgr,hob⟩:=spa_append wa w1.heap.size (Nat.le_trans hz1 hbl.size) av (ats.take j) (by have:=HLEN.out;omega) (ownsRow_mod (S:=fun _=>False) HROW.out (mod_none hbl _) (fun _ _=>id)) a
    have hca:=hba.cell
    have hfa:=hba.frozen
    have HG:=Lib.hid hgr
    have HO:=Lib.hid hown
    have HAL:=Lib.hid hbl
    have HTK:=Lib.hid htake
    clear k1 k2 k3 ha hgr hown hob hbl hba htake hti hz1 hgw hgc hcur
    (repeat ((fail_if_success with_reducible refine wp_stop0 9 ?_);(first|(with_reducible first|refine zA fun K hK=>?_|refine zB ?_|refine zC ?_)|((with_reducible first|refine zD rfl fun K hK=>?_|refine zE fun K hK=>?_);go_simp)|(with_reducible first|((repeat ((fail_if_success refine hK _ _ ?_);clear hK K));refine hK _ _ ?_;clear hK K)|refine zT (by go_simp;first|done|omega) ?_|refine zF (by go_simp;first|done|omega) ?_|refine zG ?_|refine zR ?_|refine zK ?_|refine zL ?_|refine zN ?_|refine zS ?_)|simp only [Exit.then,Exit.inBlock,Exit.noGoto,↓reduceIte,Nat.reduceEqDiff]|simp only [undef,reduceCtorEq,↓reduceIte])))
    rw [show w.alloc (.cells #[.string ⟨List.toArray a.1⟩,.string ⟨List.toArray a.2.1⟩,.string ⟨List.toArray a.2.2⟩] 61)=wa from hwa.symm]
    clear hwa hcg0 hcg1 hcg2
    (repeat ((fail_if_success at_builtin);(first|(with_reducible first|refine zA fun K hK=>?_|refine zB ?_|refine zC ?_)|((with_reducible first|refine zD rfl fun K hK=>?_|refine zE fun K hK=>?_);go_simp)|(with_reducible first|((repeat ((fail_if_success refine hK _ _ ?_);clear hK K));refine hK _ _ ?_;clear hK K)|refine zT (by go_simp;first|done|omega) ?_|refine zF (by go_simp;first|done|omega) ?_|refine zG ?_|refine zR ?_|refine zK ?_|refine zL ?_|refine zN ?_|refine zS ?_)|simp only [Exit.then,Exit.inBlock,Exit.noGoto,↓reduceIte,Nat.reduceEqDiff]|simp only [undef,reduceCtorEq,↓reduceIte])))
    refine wpList_app rfl (.tmp 22) (.tmp 30) _ _ rfl _ _ _ (by rw [fr_eval (by decide)];(try simp only [keep_cons,keep_nil,lk_cons,lk_nil,Nat.reduceEqDiff,↓reduceIte]);(try rfl)) (by rw [fr_eval (by decide)];(try simp only [keep_cons,keep_nil,lk_cons,lk_nil,Nat.reduceEqDiff,↓reduceIte]);(try rfl)) hrun ?_
    clear hrun
    rw [fr_put (by decide)]
    (repeat (first|(with_reducible first|refine zA fun K hK=>?_|refine zB ?_|refine zC ?_)|((with_reducible first|refine zD rfl fun K hK=>?_|refine zE fun K hK=>?_);go_simp)|(with_reducible first|((repeat ((fail_if_success refine hK _ _ ?_);clear hK K));refine hK _ _ ?_;clear hK K)|refine zT (by go_simp;first|done|omega) ?_|refine zF (by go_simp;first|done|omega) ?_|refine zG ?_|refine zR ?_|refine zK ?_|refine zL ?_|refine zN ?_|refine zS ?_)|simp only [Exit.then,Exit.inBlock,Exit.noGoto,↓reduceIte,Nat.reduceEqDiff]|simp only [undef,reduceCtorEq,↓reduceIte]))
    (refine K_keep [3,5,6,9,10,11,16,17,18] (fun f=>?_);simp only [keep_cons,keep_nil,lk_cons,lk_nil,Nat.reduceEqDiff,↓reduceIte])
    have hm4:Mod (fun k=>av.ownBlock=some k) wa w4:=(mod_none ((Below.refl _ wa).alloc (Nat.le_refl _) _) _).trans (S':=fun k=>av.ownBlock=some k) ⟨HG.out.os,HG.out.tape,HG.out.output,HG.out.size,fun k hk hn=>HG.out.block k hk (fun he=>hn he.symm)⟩ (fun i _ hi=>hi)
    have hbg:∀ k,av.ownBlock=some k → w1.heap.size ≤ k:=fun k hk=>(ownsRow_lt HROW.out hk).2
    have hba2:Below w1.heap.size w1 wa:=HB.out.trans (HAL.out.mono HB.out.size)
    refine HK2.out _ _ ⟨ats.length - (j + 1),by rw [HK.out];omega,HJ.out _ _ _ ⟨f,j + 1,av',rfl,Mod.below hba2 hba2.size hm4 hbg,?_,rfl,hlt⟩⟩
    rw [HTK.out];exact HO.out
  · have hjj:j=ats.length:=by omega
    subst hjj
    have h1:¬ ((ats.length:Int) < (ats.length:Int)):=by omega
    (repeat (first|(with_reducible first|refine zA fun K hK=>?_|refine zB ?_|refine zC ?_)|((with_reducible first|refine zD rfl fun K hK=>?_|refine zE fun K hK=>?_);go_simp)|(with_reducible first|((repeat ((fail_if_success refine hK _ _ ?_);clear hK K));refine hK _ _ ?_;clear hK K)|refine zT (by go_simp;first|done|omega) ?_|refine zF (by go_simp;first|done|omega) ?_|refine zG ?_|refine zR ?_|refine zK ?_|refine zL ?_|refine zN ?_|refine zS ?_)|simp only [Exit.then,Exit.inBlock,Exit.noGoto,↓reduceIte,Nat.reduceEqDiff]|simp only [undef,reduceCtorEq,↓reduceIte]))
    refine Q_keep [3,5,6,9,10,11] (fun f=>?_);simp only [keep_cons,keep_nil,lk_cons,lk_nil,Nat.reduceEqDiff,↓reduceIte]
    have h2:=HROW.out
    rw [List.take_length] at h2
    exact HQ.out f w av HB.out h2
end Go.Proofs.YtkjnockljapnbaaGreatDoor
