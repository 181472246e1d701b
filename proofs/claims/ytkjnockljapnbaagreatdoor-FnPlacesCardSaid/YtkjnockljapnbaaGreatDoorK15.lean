/- Part of the proof that laws.FnBeginning, laws.FnPlaces returns true for every argument (Tu, Tv). No condition of its own. -/
import Derived.Test.YtkjnockljapnbaaGreatDoorK14
import Derived.Laws.Runes
set_option linter.all false
set_option maxHeartbeats 8000000
set_option maxRecDepth 100000
namespace Go.Proofs.YtkjnockljapnbaaGreatDoor
open Go Go.RowKit
structure RefOut (x:Cx) (c:DC) (w:World) (v:DV) (qv cv:Value) (buf0:Bs) (Q:Exit → Act → World → Prop) (res:Except EK (Bs × Option Bs × Bs)):Prop where
  ok:∀ raw t r,res=.ok (raw,t,r) → ∀ f w' v',RdS x c w' v' r none (buf0 ++ raw) → Stp x w v w' v' → NonNil v' → Q .normal (fr 381 f [(0,decP x),(1,qv),(2,cv),(9,.int .i64 0),(12,.int .i64 buf0.length),(14,strV (t.getD [])),(15,.bool t.isSome)]) w'
  bad:∀ k,res=.error k → ∀ f w' v',ErrS x c w' v' k → Stp x w v w' v' → Q .ret (fr 381 f [(6,.slice none 0 0)]) w'
theorem strV_data (y:ByteArray):strV y.data.toList=.string y:=by cases y;simp
theorem runeV (n:Nat):strV (runeBs n)=.string (Utf8.encode n):=by rw [runeBs,strV_data]
theorem runeCv (n:Int) (w:World):(convert 21 9 (.int .i32 n)).run Tryz.prog w=.ok (.string (Utf8.encode n)) w:=run_convert_int_string w 21 9 .i32 n (by rw [Tryz.underlying21];rfl) Tryz.underlying9
def NtInv (x:Cx) (c:DC) (w:World) (v:DV) (qv cv:Value) (hex:Bool) (buf0 pre:Bs) (b:UInt8) (r:Bs) (k:Nat) (a:Act) (w':World):Prop:=
  ∃ f v4 b4 r4 ds,a=fr 381 f [(0,decP x),(1,qv),(2,cv),(9,.int .i64 0),(10,.int .u8 b4.toNat),(12,.int .i64 buf0.length),(14,strV []),(15,.bool false),(16,.int .i64 (if hex then 16 else 10)),(17,.int .i64 ((buf0.length:Int) + (pre.length:Int)))] ∧
    RdS x c w' v4 r4 none (buf0 ++ pre ++ ds)∧v4.nb=-1∧Stp x w v w' v4∧(b4 :: r4) <:+ x.T∧k=r4.length∧(spanDig hex (b :: r)).1=ds ++ (spanDig hex (b4 :: r4)).1∧(spanDig hex (b :: r)).2=(spanDig hex (b4 :: r4)).2 ∧
    (∀ d ∈ ds,isDig hex d=true)∧ds.length + r4.length ≤ r.length
theorem numTail (x:Cx) (hx:x.All) (c:DC) (hdc:DcOk x c) (hex:Bool) (pre:Bs) (hpre:pre ≠ []) (hpl:pre.length ≤ 3) (w:World) (v:DV) (b:UInt8) (r buf0:Bs) (h:RdS x c w v r none (buf0 ++ pre)) (hn:v.nb=-1) (hsuf:(b :: r) <:+ x.T) (hl:buf0.length ≤ 20000000000000)
    (qv cv:Value) (Q:Exit → Act → World → Prop) (hQ:RefOut x c w v qv cv buf0 Q (numRef x.o.fails hex pre (b :: r))) (f:Nat → Value) :
    (txCode 42).wp Tryz.prog Q (fr 381 f [(0,decP x),(1,qv),(2,cv),(9,.int .i64 0),(10,.int .u8 b.toNat),(12,.int .i64 buf0.length),(14,strV []),(15,.bool false),(16,.int .i64 (if hex then 16 else 10))]) w:=by
  have hlen:=Lib.hid (len_c x c w v r none _ h)
  have HX:=Lib.hid hx
  have HD:=Lib.hid hdc
  have HQ:=Lib.hid hQ
  have H:=Lib.hid h
  have HN:=Lib.hid hn
  have HSUF:=Lib.hid hsuf
  have hrl:r.length ≤ 1000000000:=by have h1:=hsuf.length_le;have h2:=hx.len;simp at h1;omega
  clear hQ h hn hsuf hx hdc
  unfold txCode
  conv=>arg 2;whnf
  (repeat (first|(with_reducible first|refine zA fun K hK=>?_|refine zB ?_|refine zC ?_)|((with_reducible first|refine zD rfl fun K hK=>?_|refine zE fun K hK=>?_);go_simp)|(with_reducible first|((repeat ((fail_if_success refine hK _ _ ?_);clear hK K));refine hK _ _ ?_;clear hK K)|refine zT (by go_simp;first|done|omega) ?_|refine zF (by go_simp;first|done|omega) ?_|refine zG ?_|refine zR ?_|refine zK ?_|refine zL ?_|refine zN ?_|refine zS ?_)|simp only [Exit.then,Exit.inBlock,Exit.noGoto,↓reduceIte,Nat.reduceEqDiff]|simp only [undef,reduceCtorEq,↓reduceIte]))
  refine hlen.out.mono ?_
  rintro e1 w1 ⟨rfl,k1,rfl⟩
  go_simp
  (repeat (first|(with_reducible first|refine zA fun K hK=>?_|refine zB ?_|refine zC ?_)|((with_reducible first|refine zD rfl fun K hK=>?_|refine zE fun K hK=>?_);go_simp)|(with_reducible first|((repeat ((fail_if_success refine hK _ _ ?_);clear hK K));refine hK _ _ ?_;clear hK K)|refine zT (by go_simp;first|done|omega) ?_|refine zF (by go_simp;first|done|omega) ?_|refine zG ?_|refine zR ?_|refine zK ?_|refine zL ?_|refine zN ?_|refine zS ?_)|simp only [Exit.then,Exit.inBlock,Exit.noGoto,↓reduceIte,Nat.reduceEqDiff]|simp only [undef,reduceCtorEq,↓reduceIte]))
  (refine wp_keep [0,1,2,9,10,12,14,15,16,17] (fun f=>?_);simp only [keep_cons,keep_nil,lk_cons,lk_nil,Nat.reduceEqDiff,↓reduceIte])
  refine wp_loop_ghost_k (NtInv x c w v qv cv hex buf0 pre b r) r.length ⟨f,v,b,r,[],rfl,by rw [List.append_nil];exact H.out.drewN HX.out.toOk k1,HN.out,Stp.drewN k1,HSUF.out,rfl,rfl,rfl,by simp,by simp⟩ ?_
  rintro k _ w1 ⟨f,v4,b4,r4,ds,rfl,h4,hn4,hs4,hsuf4,hk,hsp1,hsp2,hds,hdl⟩ J K2 hJ hK2
  have HJ:=Lib.hid hJ
  have HK2:=Lib.hid hK2
  have HSP1:=Lib.hid hsp1
  have HSP2:=Lib.hid hsp2
  have HDS:=Lib.hid hds
  have HDL:=Lib.hid hdl
  have HK4:=Lib.hid hk
  have HS4:=Lib.hid hs4
  have HSUF4:=Lib.hid hsuf4
  have HN4:=Lib.hid hn4
  have H4:=Lib.hid h4
  have hbl:(buf0 ++ pre ++ ds).length ≤ 30000000000000:=by
    rw [List.length_append,List.length_append];omega
  clear hJ hK2 hsp1 hsp2 hds hk hs4 hsuf4 hn4 h4 hdl
  refine wp_seq_k (fun K hK=>?_)
  refine wp_seq_k (fun K0 hK0=>?_)
  refine wp_code (digTest hex b4 _ _ _ _ _ _ _ _ _ w1 f ?_) (by kernel_rfl)
  intro f
  simp only [Exit.then]
  refine hK0 _ _ ?_
  clear hK0 K0
  by_cases hdg:isDig hex b4=true
  · rw [hdg]
    have HDG:=Lib.hid hdg
    have HE1:=Lib.hid (show (spanDig hex (b4 :: r4)).1=b4 :: (spanDig hex r4).1 by simp [spanDig,hdg])
    have HE2:=Lib.hid (show (spanDig hex (b4 :: r4)).2=(spanDig hex r4).2 by simp [spanDig,hdg])
    have hwb:=Lib.hid (writeByte_c x HX.out.toOk c w1 v4 r4 none _ H4.out b4 (by omega))
    clear hdg
    (repeat (first|(with_reducible first|refine zA fun K hK=>?_|refine zB ?_|refine zC ?_)|((with_reducible first|refine zD rfl fun K hK=>?_|refine zE fun K hK=>?_);go_simp)|(with_reducible first|((repeat ((fail_if_success refine hK _ _ ?_);clear hK K));refine hK _ _ ?_;clear hK K)|refine zT (by go_simp;first|done|omega) ?_|refine zF (by go_simp;first|done|omega) ?_|refine zG ?_|refine zR ?_|refine zK ?_|refine zL ?_|refine zN ?_|refine zS ?_)|simp only [Exit.then,Exit.inBlock,Exit.noGoto,↓reduceIte,Nat.reduceEqDiff]|simp only [undef,reduceCtorEq,↓reduceIte]))
    refine hwb.out.mono ?_
    rintro e2 w2 ⟨rfl,v5,h5,hn5,hs5⟩
    have H5:=Lib.hid h5
    have HS5:=Lib.hid (HS4.out.trans hs5)
    clear h5 hs5 hwb hn5
    go_simp
    (repeat (first|(with_reducible first|refine zA fun K hK=>?_|refine zB ?_|refine zC ?_)|((with_reducible first|refine zD rfl fun K hK=>?_|refine zE fun K hK=>?_);go_simp)|(with_reducible first|((repeat ((fail_if_success refine hK _ _ ?_);clear hK K));refine hK _ _ ?_;clear hK K)|refine zT (by go_simp;first|done|omega) ?_|refine zF (by go_simp;first|done|omega) ?_|refine zG ?_|refine zR ?_|refine zK ?_|refine zL ?_|refine zN ?_|refine zS ?_)|simp only [Exit.then,Exit.inBlock,Exit.noGoto,↓reduceIte,Nat.reduceEqDiff]|simp only [undef,reduceCtorEq,↓reduceIte]))
    cases r4 with
    | nil=>
      have hmg:=Lib.hid (mustgetc_none x HX.out.toOk c HD.out w2 v5 none _ H5.out)
      refine hmg.out.mono ?_
      rintro e3 w3 ⟨rfl,v6,h6,hb6,hm6⟩
      have HS6:=Lib.hid (HS5.out.s0 hm6 hb6)
      have H6:=Lib.hid h6
      clear h6 hb6 hm6 hmg
      go_simp
      (repeat (first|(with_reducible first|refine zA fun K hK=>?_|refine zB ?_|refine zC ?_)|((with_reducible first|refine zD rfl fun K hK=>?_|refine zE fun K hK=>?_);go_simp)|(with_reducible first|((repeat ((fail_if_success refine hK _ _ ?_);clear hK K));refine hK _ _ ?_;clear hK K)|refine zT (by go_simp;first|done|omega) ?_|refine zF (by go_simp;first|done|omega) ?_|refine zG ?_|refine zR ?_|refine zK ?_|refine zL ?_|refine zN ?_|refine zS ?_)|simp only [Exit.then,Exit.inBlock,Exit.noGoto,↓reduceIte,Nat.reduceEqDiff]|simp only [undef,reduceCtorEq,↓reduceIte]))
      refine Q_keep [6] (fun f=>?_);simp only [keep_cons,keep_nil,lk_cons,lk_nil,Nat.reduceEqDiff,↓reduceIte]
      refine HQ.out.bad _ ?_ f w3 v6 H6.out HS6.out
      unfold numRef
      rw [HSP2.out,HE2.out]
      rfl
    | cons b5 r5=>
      have hmg:=Lib.hid (mustgetc_some x HX.out.toOk c HD.out w2 v5 b5 r5 none _ H5.out)
      refine hmg.out.mono ?_
      rintro e3 w3 ⟨rfl,v6,h6,hn6,hb6,hm6,_⟩
      have HS6:=Lib.hid (HS5.out.s0 hm6 hb6)
      have H6:=Lib.hid h6
      have HN6:=Lib.hid hn6
      clear h6 hb6 hm6 hmg hn6
      go_simp
      (repeat (first|(with_reducible first|refine zA fun K hK=>?_|refine zB ?_|refine zC ?_)|((with_reducible first|refine zD rfl fun K hK=>?_|refine zE fun K hK=>?_);go_simp)|(with_reducible first|((repeat ((fail_if_success refine hK _ _ ?_);clear hK K));refine hK _ _ ?_;clear hK K)|refine zT (by go_simp;first|done|omega) ?_|refine zF (by go_simp;first|done|omega) ?_|refine zG ?_|refine zR ?_|refine zK ?_|refine zL ?_|refine zN ?_|refine zS ?_)|simp only [Exit.then,Exit.inBlock,Exit.noGoto,↓reduceIte,Nat.reduceEqDiff]|simp only [undef,reduceCtorEq,↓reduceIte]))
      (refine K_keep [0,1,2,9,10,12,14,15,16,17] (fun f=>?_);simp only [keep_cons,keep_nil,lk_cons,lk_nil,Nat.reduceEqDiff,↓reduceIte])
      refine HK2.out _ _ ⟨r5.length,by have:=HK4.out;simp at this;omega,HJ.out _ _ _ ⟨f,v6,b5,r5,ds ++ [b4],rfl,?_,HN6.out,HS6.out,?_,rfl,?_,?_,?_,?_⟩⟩
      · rw [← List.append_assoc];exact H6.out
      · exact (List.suffix_cons _ _).trans HSUF4.out
      · rw [HSP1.out,HE1.out,List.append_assoc];rfl
      · rw [HSP2.out,HE2.out]
      · intro d hd
        rcases List.mem_append.1 hd with hd|hd
        · exact HDS.out d hd
        · rw [List.mem_singleton.1 hd];exact HDG.out
      · have:=HDL.out;simp at this ⊢;omega
  · have hdg':isDig hex b4=false:=by simpa using hdg
    rw [hdg']
    have HE:=Lib.hid (show spanDig hex (b4 :: r4)=([],b4 :: r4) by simp [spanDig,hdg'])
    clear hdg hdg'
    by_cases hb:b4=59
    · subst hb
      rw [show (UInt8.toNat 59)=59 from rfl]
      obtain ⟨g,cap,hv,hby,hlc,hcm,_,_,_⟩:=H4.out.bf.bytes (by simp [hpre])
      have hbd:=Lib.hid (bytes_c x c w1 v4 r4 none _ H4.out)
      have hpart:=hby.drop (buf0 ++ pre).length
      rw [Nat.zero_add,List.drop_left] at hpart
      have hlen:(buf0 ++ pre ++ ds).length=buf0.length + pre.length + ds.length:=by rw [List.length_append,List.length_append]
      have hlen2:(buf0 ++ pre).length=buf0.length + pre.length:=List.length_append
      rw [hlen2] at hpart
      rw [hlen] at hv hlc hbl
      rw [hv] at hbd
      have hcv:∀ k,(convert 74 9 (.slice (if cap=buf0.length + pre.length then some ⟨g,0,none⟩ else some ⟨g,buf0.length + pre.length,none⟩) ds.length (cap - (buf0.length + pre.length)))).run Tryz.prog (w1.drewN k)=.ok (strV ds) (w1.drewN k):=by
        intro k
        by_cases hca:cap=buf0.length + pre.length
        · have hd0:ds=[]:=List.length_eq_zero_iff.1 (by omega)
          subst hd0
          rw [if_pos hca]
          exact conv_str [] (w1.drewN k) g 0 _ (fun j hj=>absurd hj (by simp))
        · rw [if_neg hca]
          exact conv_str ds (w1.drewN k) g _ _ (fun j hj=>hpart j hj)
      have HNUM:=Lib.hid (show numRef x.o.fails hex pre (b :: r)=.ok (pre ++ ds ++ [59],(if ds=[] ∨ 0x10FFFF < numVal hex ds then none else some (runeBs (numVal hex ds))),r4) by
        unfold numRef
        rw [HSP2.out,HSP1.out,HE.out]
        simp only [List.append_nil,if_true])
      have hdsl:ds.length ≤ 1000000000:=by have:=HDL.out;omega
      have HWB:=Lib.hid (fun (k:Nat)=>writeByte_c x HX.out.toOk c (w1.drewN k) v4 r4 none _ (H4.out.drewN HX.out.toOk k) 59 (by rw [hlen];omega))
      clear hby hpart hv hlen hlen2
      obtain ⟨S,hS⟩:∃ S,S=buf0.length + pre.length:=⟨_,rfl⟩
      rw [← hS] at hbd hcv hlc hbl
      rw [show ((buf0.length:Int) + (pre.length:Int))=(S:Int) by omega]
      obtain ⟨D,hD⟩:∃ D,D=ds.length:=⟨_,rfl⟩
      rw [← hD] at hbd hcv hlc hbl
      have a0:(0:Int) ≤ (S:Int):=by omega
      have a1:(S:Int) ≤ (S:Int) + (D:Int):=by omega
      have a2:(S:Int) + (D:Int) ≤ (cap:Int):=by omega
      clear hS hD
      (repeat (first|(with_reducible first|refine zA fun K hK=>?_|refine zB ?_|refine zC ?_)|((with_reducible first|refine zD rfl fun K hK=>?_|refine zE fun K hK=>?_);go_simp)|(with_reducible first|((repeat ((fail_if_success refine hK _ _ ?_);clear hK K));refine hK _ _ ?_;clear hK K)|refine zT (by go_simp;first|done|omega) ?_|refine zF (by go_simp;first|done|omega) ?_|refine zG ?_|refine zR ?_|refine zK ?_|refine zL ?_|refine zN ?_|refine zS ?_)|simp only [Exit.then,Exit.inBlock,Exit.noGoto,↓reduceIte,Nat.reduceEqDiff]|simp only [undef,reduceCtorEq,↓reduceIte]))
      refine hbd.out.mono ?_
      rintro e2 w2 ⟨rfl,k2,rfl⟩
      go_simp
      (repeat (first|(with_reducible first|refine zA fun K hK=>?_|refine zB ?_|refine zC ?_)|((with_reducible first|refine zD rfl fun K hK=>?_|refine zE fun K hK=>?_);go_simp)|(with_reducible first|((repeat ((fail_if_success refine hK _ _ ?_);clear hK K));refine hK _ _ ?_;clear hK K)|refine zT (by go_simp;first|done|omega) ?_|refine zF (by go_simp;first|done|omega) ?_|refine zG ?_|refine zR ?_|refine zK ?_|refine zL ?_|refine zN ?_|refine zS ?_)|simp only [Exit.then,Exit.inBlock,Exit.noGoto,↓reduceIte,Nat.reduceEqDiff]|simp only [undef,reduceCtorEq,↓reduceIte]))
      refine (HWB.out k2).mono ?_
      rintro e3 w3 ⟨rfl,v5,h5,_,hs5⟩
      obtain ⟨hnm,hg1,hg2⟩:=HX.out.nums h5.base
      have hpu:=Lib.hid (parseUint_c hex ds HDS.out hdsl w3 hnm hg1 hg2)
      have H5:=Lib.hid h5
      have HS5:=Lib.hid ((HS4.out.trans (Stp.drewN k2)).trans hs5)
      clear h5 hs5 HWB hnm hg1 hg2 hcv hbd
      go_simp
      (repeat (first|(with_reducible first|refine zA fun K hK=>?_|refine zB ?_|refine zC ?_)|((with_reducible first|refine zD rfl fun K hK=>?_|refine zE fun K hK=>?_);go_simp)|(with_reducible first|((repeat ((fail_if_success refine hK _ _ ?_);clear hK K));refine hK _ _ ?_;clear hK K)|refine zT (by go_simp;first|done|omega) ?_|refine zF (by go_simp;first|done|omega) ?_|refine zG ?_|refine zR ?_|refine zK ?_|refine zL ?_|refine zN ?_|refine zS ?_)|simp only [Exit.then,Exit.inBlock,Exit.noGoto,↓reduceIte,Nat.reduceEqDiff]|simp only [undef,reduceCtorEq,↓reduceIte]))
      refine hpu.out.mono ?_
      rintro e4 w4 ⟨hp,hw4⟩
      have H6:=Lib.hid (H5.out.below HX.out.toOk hw4)
      have HS6:=Lib.hid (HS5.out.s0 (mod_none hw4 _) rfl)
      have HNN:=Lib.hid (H6.out.nonnil (by simp [hpre]))
      clear hw4 hpu
      unfold PuFin at hp
      by_cases hc:ds=[] ∨ 18446744073709551616 ≤ numVal hex ds
      · rw [if_pos hc] at hp
        obtain ⟨n,t,u,rfl⟩:=hp
        have hc':ds=[] ∨ 0x10FFFF < numVal hex ds:=by
          rcases hc with h|h
          · exact Or.inl h
          · exact Or.inr (by omega)
        have HNUM2:=Lib.hid (HNUM.out.trans (by rw [if_pos hc']))
        clear hc hc'
        go_simp
        (repeat (first|(with_reducible first|refine zA fun K hK=>?_|refine zB ?_|refine zC ?_)|((with_reducible first|refine zD rfl fun K hK=>?_|refine zE fun K hK=>?_);go_simp)|(with_reducible first|((repeat ((fail_if_success refine hK _ _ ?_);clear hK K));refine hK _ _ ?_;clear hK K)|refine zT (by go_simp;first|done|omega) ?_|refine zF (by go_simp;first|done|omega) ?_|refine zG ?_|refine zR ?_|refine zK ?_|refine zL ?_|refine zN ?_|refine zS ?_)|simp only [Exit.then,Exit.inBlock,Exit.noGoto,↓reduceIte,Nat.reduceEqDiff]|simp only [undef,reduceCtorEq,↓reduceIte]))
        refine Q_keep [0,1,2,9,12,14,15] (fun f=>?_);simp only [keep_cons,keep_nil,lk_cons,lk_nil,Nat.reduceEqDiff,↓reduceIte]
        exact HQ.out.ok _ none r4 HNUM2.out f _ v5 (by rw [← List.append_assoc,← List.append_assoc];exact H6.out) HS6.out HNN.out
      · rw [if_neg hc] at hp
        subst hp
        obtain ⟨N,hN⟩:∃ N,N=numVal hex ds:=⟨_,rfl⟩
        rw [← hN] at HNUM hc ⊢
        have hne:¬ ds=[]:=fun h=>hc (Or.inl h)
        by_cases hr:(N:Int) ≤ 1114111
        · have hc':¬ (ds=[] ∨ 0x10FFFF < N):=by rintro (h|h);exact hne h;omega
          have HNUM2:=Lib.hid (HNUM.out.trans (by rw [if_neg hc']))
          have hwr:IntKind.i32.wrap (N:Int)=(N:Int):=by rw [IntKind.wrap_i32];omega
          have hrc:=fun w=>runeCv (N:Int) w
          clear hc hc' hN hne
          go_simp
          (repeat (first|(with_reducible first|refine zA fun K hK=>?_|refine zB ?_|refine zC ?_)|((with_reducible first|refine zD rfl fun K hK=>?_|refine zE fun K hK=>?_);go_simp)|(with_reducible first|((repeat ((fail_if_success refine hK _ _ ?_);clear hK K));refine hK _ _ ?_;clear hK K)|refine zT (by go_simp;first|done|omega) ?_|refine zF (by go_simp;first|done|omega) ?_|refine zG ?_|refine zR ?_|refine zK ?_|refine zL ?_|refine zN ?_|refine zS ?_)|simp only [Exit.then,Exit.inBlock,Exit.noGoto,↓reduceIte,Nat.reduceEqDiff]|simp only [undef,reduceCtorEq,↓reduceIte]))
          refine Q_keep [0,1,2,9,12,14,15] (fun f=>?_);simp only [keep_cons,keep_nil,lk_cons,lk_nil,Nat.reduceEqDiff,↓reduceIte]
          have h9:=HQ.out.ok _ _ r4 HNUM2.out f _ v5 (by rw [← List.append_assoc,← List.append_assoc];exact H6.out) HS6.out HNN.out
          rw [Option.getD_some,runeV] at h9
          exact h9
        · have hc':ds=[] ∨ 0x10FFFF < N:=Or.inr (by omega)
          have HNUM2:=Lib.hid (HNUM.out.trans (by rw [if_pos hc']))
          clear hc hc' hN hne
          go_simp
          (repeat (first|(with_reducible first|refine zA fun K hK=>?_|refine zB ?_|refine zC ?_)|((with_reducible first|refine zD rfl fun K hK=>?_|refine zE fun K hK=>?_);go_simp)|(with_reducible first|((repeat ((fail_if_success refine hK _ _ ?_);clear hK K));refine hK _ _ ?_;clear hK K)|refine zT (by go_simp;first|done|omega) ?_|refine zF (by go_simp;first|done|omega) ?_|refine zG ?_|refine zR ?_|refine zK ?_|refine zL ?_|refine zN ?_|refine zS ?_)|simp only [Exit.then,Exit.inBlock,Exit.noGoto,↓reduceIte,Nat.reduceEqDiff]|simp only [undef,reduceCtorEq,↓reduceIte]))
          refine Q_keep [0,1,2,9,12,14,15] (fun f=>?_);simp only [keep_cons,keep_nil,lk_cons,lk_nil,Nat.reduceEqDiff,↓reduceIte]
          exact HQ.out.ok _ none r4 HNUM2.out f _ v5 (by rw [← List.append_assoc,← List.append_assoc];exact H6.out) HS6.out HNN.out
    · have hb59:=u8ne hb (n:=59) rfl
      have hb59':((b4.toNat:Int) != 59)=true:=by simpa using hb59
      have hun:=Lib.hid (ungetc_c x HX.out.toOk c w1 v4 b4 r4 _ H4.out HN4.out HSUF4.out)
      have HB:=Lib.hid hb
      clear hb
      (repeat (first|(with_reducible first|refine zA fun K hK=>?_|refine zB ?_|refine zC ?_)|((with_reducible first|refine zD rfl fun K hK=>?_|refine zE fun K hK=>?_);go_simp)|(with_reducible first|((repeat ((fail_if_success refine hK _ _ ?_);clear hK K));refine hK _ _ ?_;clear hK K)|refine zT (by go_simp;first|done|omega) ?_|refine zF (by go_simp;first|done|omega) ?_|refine zG ?_|refine zR ?_|refine zK ?_|refine zL ?_|refine zN ?_|refine zS ?_)|simp only [Exit.then,Exit.inBlock,Exit.noGoto,↓reduceIte,Nat.reduceEqDiff]|simp only [undef,reduceCtorEq,↓reduceIte]))
      refine hun.out.mono ?_
      rintro e2 w2 ⟨rfl,v5,h5,_,hb5,hm5,_⟩
      have H5:=Lib.hid h5
      have HS5:=Lib.hid (HS4.out.s0 hm5 hb5)
      have HNN:=Lib.hid (h5.nonnil (by simp [hpre]))
      clear h5 hm5 hb5 hun
      go_simp
      (repeat (first|(with_reducible first|refine zA fun K hK=>?_|refine zB ?_|refine zC ?_)|((with_reducible first|refine zD rfl fun K hK=>?_|refine zE fun K hK=>?_);go_simp)|(with_reducible first|((repeat ((fail_if_success refine hK _ _ ?_);clear hK K));refine hK _ _ ?_;clear hK K)|refine zT (by go_simp;first|done|omega) ?_|refine zF (by go_simp;first|done|omega) ?_|refine zG ?_|refine zR ?_|refine zK ?_|refine zL ?_|refine zN ?_|refine zS ?_)|simp only [Exit.then,Exit.inBlock,Exit.noGoto,↓reduceIte,Nat.reduceEqDiff]|simp only [undef,reduceCtorEq,↓reduceIte]))
      refine Q_keep [0,1,2,9,12,14,15] (fun f=>?_);simp only [keep_cons,keep_nil,lk_cons,lk_nil,Nat.reduceEqDiff,↓reduceIte]
      refine HQ.out.ok (pre ++ ds) none (b4 :: r4) ?_ f _ v5 (by rw [← List.append_assoc];exact H5.out) HS5.out HNN.out
      unfold numRef
      rw [HSP2.out,HSP1.out,HE.out]
      simp only [List.append_nil]
      rw [if_neg HB.out]
end Go.Proofs.YtkjnockljapnbaaGreatDoor
namespace Go.Proofs.YtkjnockljapnbaaGreatDoor
open Go Go.RowKit
theorem isName_nil (p:Option Addr) (cap:Nat) (w:World):Calls Tryz.prog 62 #[.slice p 0 cap] w fun e w'=>e=.returned (.bool false)∧w'=w:=by
  go_enter Tryz.func62,Tryz.ntmps62
  go_wp2
  go_ret
  exact ⟨rfl,rfl⟩
theorem ErrV.iface {x:Cx} {v:Value} {k:EK} (h:ErrV x v (some k)):∃ t u,v=.iface t u:=by
  cases k with
  | eof=>exact ⟨_,_,h⟩
  | own=>exact ⟨_,_,h⟩
  | syn=>obtain ⟨a,h⟩:=h;exact ⟨_,_,h⟩
  | other=>obtain ⟨a,h,_⟩:=h;exact ⟨_,_,h⟩
theorem numHead (x:Cx) (hx:x.All) (c:DC) (hdc:DcOk x c) (w:World) (v:DV) (r buf0:Bs) (h:RdS x c w v r none (buf0 ++ [38])) (hsuf:(35 :: r) <:+ x.T) (hl:buf0.length ≤ 20000000000000)
    (qv cv:Value) (Q:Exit → Act → World → Prop) (ents:Option (Bs → Option Bs)) (hQ:RefOut x c w v qv cv buf0 Q (refL x.o.fails ents (35 :: r))) (f:Nat → Value) :
    (txCode 31).wp Tryz.prog Q (fr 381 f [(0,decP x),(1,qv),(2,cv),(9,.int .i64 0),(10,.int .u8 35),(12,.int .i64 buf0.length),(14,strV []),(15,.bool false)]) w:=by
  have hwb:=Lib.hid (writeByte_c x hx.toOk c w v r none _ h 35 (by simp;omega))
  have HX:=Lib.hid hx
  have HD:=Lib.hid hdc
  have HQ:=Lib.hid hQ
  have HSUF:=Lib.hid hsuf
  have HL:=Lib.hid hl
  clear hQ h hsuf hx hdc
  unfold txCode
  conv=>arg 2;whnf
  (repeat (first|(with_reducible first|refine zA fun K hK=>?_|refine zB ?_|refine zC ?_)|((with_reducible first|refine zD rfl fun K hK=>?_|refine zE fun K hK=>?_);go_simp)|(with_reducible first|((repeat ((fail_if_success refine hK _ _ ?_);clear hK K));refine hK _ _ ?_;clear hK K)|refine zT (by go_simp;first|done|omega) ?_|refine zF (by go_simp;first|done|omega) ?_|refine zG ?_|refine zR ?_|refine zK ?_|refine zL ?_|refine zN ?_|refine zS ?_)|simp only [Exit.then,Exit.inBlock,Exit.noGoto,↓reduceIte,Nat.reduceEqDiff]|simp only [undef,reduceCtorEq,↓reduceIte]))
  refine hwb.out.mono ?_
  rintro e1 w1 ⟨rfl,v1,h1,_,hs1⟩
  have H1:=Lib.hid h1
  have HS1:=Lib.hid hs1
  clear h1 hs1 hwb
  go_simp
  (repeat (first|(with_reducible first|refine zA fun K hK=>?_|refine zB ?_|refine zC ?_)|((with_reducible first|refine zD rfl fun K hK=>?_|refine zE fun K hK=>?_);go_simp)|(with_reducible first|((repeat ((fail_if_success refine hK _ _ ?_);clear hK K));refine hK _ _ ?_;clear hK K)|refine zT (by go_simp;first|done|omega) ?_|refine zF (by go_simp;first|done|omega) ?_|refine zG ?_|refine zR ?_|refine zK ?_|refine zL ?_|refine zN ?_|refine zS ?_)|simp only [Exit.then,Exit.inBlock,Exit.noGoto,↓reduceIte,Nat.reduceEqDiff]|simp only [undef,reduceCtorEq,↓reduceIte]))
  cases r with
  | nil=>
    have hmg:=Lib.hid (mustgetc_none x HX.out.toOk c HD.out w1 v1 none _ H1.out)
    refine hmg.out.mono ?_
    rintro e3 w3 ⟨rfl,v6,h6,hb6,hm6⟩
    have HS6:=Lib.hid (HS1.out.s0 hm6 hb6)
    have H6:=Lib.hid h6
    clear h6 hb6 hm6 hmg
    go_simp
    (repeat (first|(with_reducible first|refine zA fun K hK=>?_|refine zB ?_|refine zC ?_)|((with_reducible first|refine zD rfl fun K hK=>?_|refine zE fun K hK=>?_);go_simp)|(with_reducible first|((repeat ((fail_if_success refine hK _ _ ?_);clear hK K));refine hK _ _ ?_;clear hK K)|refine zT (by go_simp;first|done|omega) ?_|refine zF (by go_simp;first|done|omega) ?_|refine zG ?_|refine zR ?_|refine zK ?_|refine zL ?_|refine zN ?_|refine zS ?_)|simp only [Exit.then,Exit.inBlock,Exit.noGoto,↓reduceIte,Nat.reduceEqDiff]|simp only [undef,reduceCtorEq,↓reduceIte]))
    refine Q_keep [6] (fun f=>?_);simp only [keep_cons,keep_nil,lk_cons,lk_nil,Nat.reduceEqDiff,↓reduceIte]
    exact HQ.out.bad _ rfl f w3 v6 H6.out HS6.out
  | cons d r2=>
    have hmg:=Lib.hid (mustgetc_some x HX.out.toOk c HD.out w1 v1 d r2 none _ H1.out)
    refine hmg.out.mono ?_
    rintro e3 w3 ⟨rfl,v6,h6,hn6,hb6,hm6,_⟩
    have HS6:=Lib.hid (HS1.out.s0 hm6 hb6)
    have H6:=Lib.hid h6
    have HN6:=Lib.hid hn6
    clear h6 hb6 hm6 hmg hn6
    by_cases hd:d=120
    · subst hd
      have hwb2:=Lib.hid (writeByte_c x HX.out.toOk c w3 v6 r2 none _ H6.out 120 (by have:=HL.out;simp;omega))
      go_simp
      (repeat (first|(with_reducible first|refine zA fun K hK=>?_|refine zB ?_|refine zC ?_)|((with_reducible first|refine zD rfl fun K hK=>?_|refine zE fun K hK=>?_);go_simp)|(with_reducible first|((repeat ((fail_if_success refine hK _ _ ?_);clear hK K));refine hK _ _ ?_;clear hK K)|refine zT (by go_simp;first|done|omega) ?_|refine zF (by go_simp;first|done|omega) ?_|refine zG ?_|refine zR ?_|refine zK ?_|refine zL ?_|refine zN ?_|refine zS ?_)|simp only [Exit.then,Exit.inBlock,Exit.noGoto,↓reduceIte,Nat.reduceEqDiff]|simp only [undef,reduceCtorEq,↓reduceIte]))
      refine hwb2.out.mono ?_
      rintro e4 w4 ⟨rfl,v7,h7,_,hs7⟩
      have H7:=Lib.hid h7
      have HS7:=Lib.hid (HS6.out.trans hs7)
      clear h7 hs7 hwb2
      go_simp
      (repeat (first|(with_reducible first|refine zA fun K hK=>?_|refine zB ?_|refine zC ?_)|((with_reducible first|refine zD rfl fun K hK=>?_|refine zE fun K hK=>?_);go_simp)|(with_reducible first|((repeat ((fail_if_success refine hK _ _ ?_);clear hK K));refine hK _ _ ?_;clear hK K)|refine zT (by go_simp;first|done|omega) ?_|refine zF (by go_simp;first|done|omega) ?_|refine zG ?_|refine zR ?_|refine zK ?_|refine zL ?_|refine zN ?_|refine zS ?_)|simp only [Exit.then,Exit.inBlock,Exit.noGoto,↓reduceIte,Nat.reduceEqDiff]|simp only [undef,reduceCtorEq,↓reduceIte]))
      cases r2 with
      | nil=>
        have hmg:=Lib.hid (mustgetc_none x HX.out.toOk c HD.out w4 v7 none _ H7.out)
        refine hmg.out.mono ?_
        rintro e5 w5 ⟨rfl,v8,h8,hb8,hm8⟩
        have HS8:=Lib.hid (HS7.out.s0 hm8 hb8)
        have H8:=Lib.hid h8
        clear h8 hb8 hm8 hmg
        go_simp
        (repeat (first|(with_reducible first|refine zA fun K hK=>?_|refine zB ?_|refine zC ?_)|((with_reducible first|refine zD rfl fun K hK=>?_|refine zE fun K hK=>?_);go_simp)|(with_reducible first|((repeat ((fail_if_success refine hK _ _ ?_);clear hK K));refine hK _ _ ?_;clear hK K)|refine zT (by go_simp;first|done|omega) ?_|refine zF (by go_simp;first|done|omega) ?_|refine zG ?_|refine zR ?_|refine zK ?_|refine zL ?_|refine zN ?_|refine zS ?_)|simp only [Exit.then,Exit.inBlock,Exit.noGoto,↓reduceIte,Nat.reduceEqDiff]|simp only [undef,reduceCtorEq,↓reduceIte]))
        refine Q_keep [6] (fun f=>?_);simp only [keep_cons,keep_nil,lk_cons,lk_nil,Nat.reduceEqDiff,↓reduceIte]
        exact HQ.out.bad _ rfl f w5 v8 H8.out HS8.out
      | cons e3 r3=>
        have hmg:=Lib.hid (mustgetc_some x HX.out.toOk c HD.out w4 v7 e3 r3 none _ H7.out)
        refine hmg.out.mono ?_
        rintro e5 w5 ⟨rfl,v8,h8,hn8,hb8,hm8,_⟩
        have HS8:=Lib.hid (HS7.out.s0 hm8 hb8)
        have H8:=Lib.hid h8
        have HN8:=Lib.hid hn8
        clear h8 hb8 hm8 hmg hn8
        have HR:=Lib.hid (show refL x.o.fails ents (35 :: 120 :: e3 :: r3)=numRef x.o.fails true [38,35,120] (e3 :: r3) by simp [refL])
        go_simp
        (repeat ((fail_if_success with_reducible refine wp_stop 42 ?_);(fail_if_success with_reducible refine wp_stop2 42 ?_);(first|(with_reducible first|refine zA fun K hK=>?_|refine zB ?_|refine zC ?_)|((with_reducible first|refine zD rfl fun K hK=>?_|refine zE fun K hK=>?_);go_simp)|(with_reducible first|((repeat ((fail_if_success refine hK _ _ ?_);clear hK K));refine hK _ _ ?_;clear hK K)|refine zT (by go_simp;first|done|omega) ?_|refine zF (by go_simp;first|done|omega) ?_|refine zG ?_|refine zR ?_|refine zK ?_|refine zL ?_|refine zN ?_|refine zS ?_)|simp only [Exit.then,Exit.inBlock,Exit.noGoto,↓reduceIte,Nat.reduceEqDiff]|simp only [undef,reduceCtorEq,↓reduceIte])))
        (refine wp_keep [0,1,2,9,10,12,14,15,16] (fun f=>?_);simp only [keep_cons,keep_nil,lk_cons,lk_nil,Nat.reduceEqDiff,↓reduceIte])
        refine wp_code (numTail x HX.out c HD.out true [38,35,120] (by simp) (by simp) w5 v8 e3 r3 buf0 (by have h9:=H8.out;rw [List.append_assoc,List.append_assoc] at h9;exact h9) HN8.out ((List.suffix_cons _ _).trans ((List.suffix_cons _ _).trans HSUF.out)) HL.out qv cv Q ⟨?_,?_⟩ f) (by kernel_rfl)
        · intro raw t r hres f w' v' hr hs hnn
          exact HQ.out.ok raw t r (HR.out.trans hres) f w' v' hr (HS8.out.trans hs) hnn
        · intro k hres f w' v' hr hs
          exact HQ.out.bad k (HR.out.trans hres) f w' v' hr (HS8.out.trans hs)
    · have hd1:=u8ne hd (n:=120) rfl
      have HR:=Lib.hid (show refL x.o.fails ents (35 :: d :: r2)=numRef x.o.fails false [38,35] (d :: r2) by simp [refL,hd])
      clear hd
      go_simp
      (repeat ((fail_if_success with_reducible refine wp_stop 42 ?_);(fail_if_success with_reducible refine wp_stop2 42 ?_);(first|(with_reducible first|refine zA fun K hK=>?_|refine zB ?_|refine zC ?_)|((with_reducible first|refine zD rfl fun K hK=>?_|refine zE fun K hK=>?_);go_simp)|(with_reducible first|((repeat ((fail_if_success refine hK _ _ ?_);clear hK K));refine hK _ _ ?_;clear hK K)|refine zT (by go_simp;first|done|omega) ?_|refine zF (by go_simp;first|done|omega) ?_|refine zG ?_|refine zR ?_|refine zK ?_|refine zL ?_|refine zN ?_|refine zS ?_)|simp only [Exit.then,Exit.inBlock,Exit.noGoto,↓reduceIte,Nat.reduceEqDiff]|simp only [undef,reduceCtorEq,↓reduceIte])))
      (refine wp_keep [0,1,2,9,10,12,14,15,16] (fun f=>?_);simp only [keep_cons,keep_nil,lk_cons,lk_nil,Nat.reduceEqDiff,↓reduceIte])
      refine wp_code (numTail x HX.out c HD.out false [38,35] (by simp) (by simp) w3 v6 d r2 buf0 (by have h9:=H6.out;rw [List.append_assoc] at h9;exact h9) HN6.out ((List.suffix_cons _ _).trans HSUF.out) HL.out qv cv Q ⟨?_,?_⟩ f) (by kernel_rfl)
      · intro raw t r hres f w' v' hr hs hnn
        exact HQ.out.ok raw t r (HR.out.trans hres) f w' v' hr (HS6.out.trans hs) hnn
      · intro k hres f w' v' hr hs
        exact HQ.out.bad k (HR.out.trans hres) f w' v' hr (HS6.out.trans hs)
end Go.Proofs.YtkjnockljapnbaaGreatDoor
