/- Part of the proof that laws.FnBalanced returns true for every argument (Wg, Wh). No condition of its own. -/
import Derived.Test.YtkjnockljapnbaaGreatDoorO21
set_option linter.all false
set_option maxHeartbeats 8000000
set_option maxRecDepth 100000
namespace Go.Proofs.YtkjnockljapnbaaGreatDoor
open Go Go.RowKit
abbrev bcB:Bs:=[33,45,45]
abbrev bcV:Value:=.string ⟨#[33,45,45]⟩
theorem bc_take (j:Nat) (hj:j < 3):bcB.take j ++ [bcB.getD j 0]=bcB.take (j + 1):=by
  have:j=0 ∨ j=1 ∨ j=2:=by omega
  rcases this with rfl|rfl|rfl <;> rfl
def BkInv (x:Cx) (c:DC) (w0:World) (v0:DV) (r:Bs) (bf:Bs) (i:Nat) (v4 v21 v22:Value) (k:Nat) (a:Act) (w:World):Prop:=
  ∃ f v j,a=fr 731 f [(0,decP x),(4,v4),(21,v21),(22,v22),(23,bcV),(24,.int .i64 (i:Nat)),(25,.int .i64 (j:Nat))]∧RdS x c w v r none (bf ++ bcB.take j)∧Stp x w0 v0 w v∧k=i - j∧j ≤ i
theorem dirBack (x:Cx) (hx:x.All) (c:DC) (w:World) (v:DV) (r:Bs) (bf:Bs) (hl:bf.length ≤ 10000000000000) (h:RdS x c w v r none bf) (i:Nat) (hi:i ≤ 2) (v4 v21:Value) (dp:Int) (hd1:-3000000000 ≤ dp) (hd2:dp ≤ 3000000000) (Q:Exit → Act → World → Prop)
    (hok:∀ f w' v',RdS x c w' v' r none (bf ++ bcB.take i) → Stp x w v w' v' → Q (.goto 0) (fr 731 f [(0,decP x),(4,v4),(21,v21),(22,.int .i64 (dp + 1))]) w') (f:Nat → Value) :
    (rwCode 138).wp Tryz.prog Q (fr 731 f [(0,decP x),(4,v4),(21,v21),(22,.int .i64 dp),(23,bcV),(24,.int .i64 i)]) w:=by
  have HX:=Lib.hid hx
  have HOK:=Lib.hid hok
  have H:=Lib.hid h
  have HL:=Lib.hid hl
  have hdp:IntKind.i64.wrap (dp + 1)=dp + 1:=by rw [IntKind.wrap_i64];omega
  clear hx hok h hl hd1 hd2
  unfold rwCode
  conv=>arg 2;whnf
  (repeat (first|(with_reducible first|refine zA fun K hK=>?_|refine zB ?_|refine zC ?_)|((with_reducible first|refine zD rfl fun K hK=>?_|refine zE fun K hK=>?_);go_simp)|(with_reducible first|((repeat ((fail_if_success refine hK _ _ ?_);clear hK K));refine hK _ _ ?_;clear hK K)|refine zt ?_|refine zf ?_|refine zG ?_|refine zR ?_|refine zK ?_|refine zL ?_|refine zN ?_|refine zS ?_)|simp only [Exit.then,Exit.inBlock,Exit.noGoto,↓reduceIte,Nat.reduceEqDiff]|simp only [undef,reduceCtorEq,↓reduceIte]))
  (refine wp_keep [0,4,21,22,23,24,25] (fun f=>?_);simp only [keep_cons,keep_nil,lk_cons,lk_nil,Nat.reduceEqDiff,↓reduceIte])
  have h0:RdS x c w v r none (bf ++ bcB.take 0):=by rw [show bcB.take 0=[] from rfl,List.append_nil];exact H.out
  refine wp_loop_ghost_k (BkInv x c w v r bf i v4 v21 (.int .i64 dp)) i ⟨f,v,0,rfl,h0,Stp.refl x w v,rfl,Nat.zero_le _⟩ ?_
  clear h0
  rintro k _ w6 ⟨f,v6,j,rfl,h6,hs6,hk,hj⟩ J K2 hJ hK2
  have HJ:=Lib.hid hJ
  have HK2:=Lib.hid hK2
  have HS6:=Lib.hid hs6
  have HK:=Lib.hid hk
  have H6:=Lib.hid h6
  clear hJ hK2 hs6 hk h6
  by_cases hji:j=i
  · subst hji
    have hlt:¬ ((j:Int) < (j:Int)):=by omega
    (repeat (first|(with_reducible first|refine zA fun K hK=>?_|refine zB ?_|refine zC ?_)|((with_reducible first|refine zD rfl fun K hK=>?_|refine zE fun K hK=>?_);go_simp)|(with_reducible first|((repeat ((fail_if_success refine hK _ _ ?_);clear hK K));refine hK _ _ ?_;clear hK K)|refine zt ?_|refine zf ?_|refine zG ?_|refine zR ?_|refine zK ?_|refine zL ?_|refine zN ?_|refine zS ?_)|simp only [Exit.then,Exit.inBlock,Exit.noGoto,↓reduceIte,Nat.reduceEqDiff]|simp only [undef,reduceCtorEq,↓reduceIte]))
    refine wp_goto ?_
    (try simp only [Exit.then,Exit.inBlock])
    refine Q_keep [0,4,21,22] (fun f=>?_);simp only [keep_cons,keep_nil,lk_cons,lk_nil,Nat.reduceEqDiff,↓reduceIte]
    exact HOK.out f w6 v6 H6.out HS6.out
  · have hlt:(j:Int) < (i:Int):=by omega
    have hj3:j < 3:=by omega
    have hj3':(j:Int) < 3:=by omega
    have hj0:(0:Int) ≤ (j:Int):=by omega
    obtain ⟨p,hp⟩:∃ p,p=bcB.getD j 0:=⟨_,rfl⟩
    have hix:∀ h,(⟨#[33,45,45]⟩:ByteArray)[j]'h=p:=by
      intro h;rw [hp];exact ixc bcB j h
    have hi1:IntKind.i64.wrap ((j:Int) + 1)=((j + 1:Nat):Int):=by rw [IntKind.wrap_i64];omega
    have HTK:=Lib.hid (show (bf ++ bcB.take j) ++ [p]=bf ++ bcB.take (j + 1) by rw [List.append_assoc,hp,bc_take j hj3])
    have HJI:=Lib.hid (show j + 1 ≤ i by omega)
    have hwb:=Lib.hid (fun kk=>writeByte_k x HX.out.toOk c (w6.drewN kk) v6 r none (bf ++ bcB.take j) (H6.out.drewN HX.out.toOk kk) p (by have:=HL.out;simp only [List.length_append,List.length_take,List.length_cons,List.length_nil];omega))
    clear hp hj hi hji
    (repeat (first|(with_reducible first|refine zA fun K hK=>?_|refine zB ?_|refine zC ?_)|((with_reducible first|refine zD rfl fun K hK=>?_|refine zE fun K hK=>?_);go_simp)|(with_reducible first|((repeat ((fail_if_success refine hK _ _ ?_);clear hK K));refine hK _ _ ?_;clear hK K)|refine zt ?_|refine zf ?_|refine zG ?_|refine zR ?_|refine zK ?_|refine zL ?_|refine zN ?_|refine zS ?_)|simp only [Exit.then,Exit.inBlock,Exit.noGoto,↓reduceIte,Nat.reduceEqDiff]|simp only [undef,reduceCtorEq,↓reduceIte]))
    (refine wp_region_pi [0,0,0,0,0,0,2] [0,1,2,3,4,5,6] (by kernel_rfl) (by kernel_rfl) ?_;repeat (first|(with_reducible refine wpPi_nil (fun nq=>?_))|((with_reducible refine wpPi_free rfl rfl (fun K hK=>?_));go_simp;refine hK _ ?_;clear hK K)|((with_reducible refine wpPi_quiet rfl rfl (fun K hK=>?_));go_simp;refine hK _ ?_;clear hK K)|((with_reducible refine wpPi_eff rfl rfl (fun nq K hK=>?_));go_simp;refine hK.out _ _ ?_;clear hK K)))
    (refine wpPi_eff rfl rfl (fun nq K hK=>?_);go_simp)
    refine (hwb.out _).mono ?_
    rintro e8 w8 ⟨rfl,v8,⟨h8,hn8,hs8⟩,_⟩
    have HS8:=Lib.hid ((HS6.out.drawn _).trans hs8)
    have HR8:=Lib.hid h8
    clear h8 hn8 hs8 hwb
    (go_simp;refine hK.out _ _ ?_;clear hK K)
    (repeat (first|(with_reducible refine wpPi_nil (fun nq=>?_))|((with_reducible refine wpPi_free rfl rfl (fun K hK=>?_));go_simp;refine hK _ ?_;clear hK K)|((with_reducible refine wpPi_quiet rfl rfl (fun K hK=>?_));go_simp;refine hK _ ?_;clear hK K)|((with_reducible refine wpPi_eff rfl rfl (fun nq K hK=>?_));go_simp;refine hK.out _ _ ?_;clear hK K)))
    (repeat (first|(with_reducible first|refine zA fun K hK=>?_|refine zB ?_|refine zC ?_)|((with_reducible first|refine zD rfl fun K hK=>?_|refine zE fun K hK=>?_);go_simp)|(with_reducible first|((repeat ((fail_if_success refine hK _ _ ?_);clear hK K));refine hK _ _ ?_;clear hK K)|refine zt ?_|refine zf ?_|refine zG ?_|refine zR ?_|refine zK ?_|refine zL ?_|refine zN ?_|refine zS ?_)|simp only [Exit.then,Exit.inBlock,Exit.noGoto,↓reduceIte,Nat.reduceEqDiff]|simp only [undef,reduceCtorEq,↓reduceIte]))
    (refine K_keep [0,4,21,22,23,24,25] (fun f=>?_);simp only [keep_cons,keep_nil,lk_cons,lk_nil,Nat.reduceEqDiff,↓reduceIte])
    refine HK2.out _ _ ⟨i - (j + 1),by rw [HK.out];omega,HJ.out _ _ _ ⟨f,v8,j + 1,rfl,?_,HS8.out.drawn _,rfl,HJI.out⟩⟩
    have:=HR8.out.drewN HX.out.toOk nq
    rw [HTK.out] at this
    exact this
def dirTail (f:Bool) (inq:UInt8) (dp:Int) (buf:Bs) (i:Nat) (rest:Bs):Except EK (Bs × Bs):=
  if 3 ≤ i then (match skipComL f rest 0 0 with
    | .error e=>.error e
    | .ok r4=>dirL f r4 inq dp (buf ++ [32]))
  else match rest with
    | []=>.error (mustE f)
    | c :: r=>if c=bcB.getD i 0 then dirTail f inq dp buf (i + 1) r else dirB f c r inq (dp + 1) ((buf ++ [60]) ++ bcB.take i)
termination_by 3 - i
theorem dirB_tail (f:Bool) (dp:Int) (buf rest:Bs):dirB f 60 rest 0 dp buf=dirTail f 0 dp buf 0 rest:=by
  rw [dirB.eq_def]
  rw [if_neg (by decide),if_neg (by simp),if_neg (by decide),if_neg (by decide),if_pos rfl]
  unfold dirTail
  rw [if_neg (by decide)]
  cases rest with
  | nil=>rfl
  | cons c1 r1=>
    simp only
    by_cases h1:c1=33
    · rw [if_pos h1,if_pos (by rw [h1];rfl)]
      unfold dirTail
      rw [if_neg (by decide)]
      cases r1 with
      | nil=>rfl
      | cons c2 r2=>
        simp only
        by_cases h2:c2=45
        · rw [if_pos h2,if_pos (by rw [h2];rfl)]
          unfold dirTail
          rw [if_neg (by decide)]
          cases r2 with
          | nil=>rfl
          | cons c3 r3=>
            simp only
            by_cases h3:c3=45
            · rw [if_pos h3,if_pos (by rw [h3];rfl)]
              unfold dirTail
              rw [if_pos (by decide)]
              cases hk:skipComL f r3 0 0 with
              | error e=>
                split
                · rename_i h;simp only [Except.error.injEq] at h;rw [h]
                · rename_i h;cases h
              | ok r4=>
                split
                · rename_i h;cases h
                · rename_i h;simp only [Except.ok.injEq] at h;rw [h]
            · rw [if_neg h3,if_neg (by intro h;exact h3 h)]
              simp
        · rw [if_neg h2,if_neg (by intro h;exact h2 h)]
          simp
    · rw [if_neg h1,if_neg (by intro h;exact h1 h)]
      simp
structure DirOut (x:Cx) (c:DC) (w:World) (v:DV) (R:Except EK (Bs × Bs)) (N m:Nat) (Q:Exit → Act → World → Prop):Prop where
  next:∀ f w' v' rest' inq' dp' buf',RdS x c w' v' rest' none buf' → Stp x w v w' v' → R=dirL x.o.fails rest' inq' dp' buf' → rest'.length < m → 1 ≤ buf'.length → buf'.length + rest'.length ≤ N → dp'.natAbs + rest'.length ≤ N → Q .normal (fr 731 f [(0,decP x),(21,.int .u8 (UInt8.toNat inq')),(22,.int .i64 dp')]) w'
  goto:∀ f w' v' b rest' inq' dp' buf',RdS x c w' v' rest' none buf' → Stp x w v w' v' → R=dirB x.o.fails b rest' inq' dp' buf' → rest'.length + 1 < m → buf'.length + 1 + rest'.length ≤ N → dp'.natAbs + 1 + rest'.length ≤ N → Q (.goto 0) (fr 731 f [(0,decP x),(4,.int .u8 (UInt8.toNat b)),(21,.int .u8 (UInt8.toNat inq')),(22,.int .i64 dp')]) w'
  bad:∀ k,R=.error k → ∀ f w' v',ErrS x c w' v' k → Stp x w v w' v' → Q .ret (fr 731 f [(2,.nilIface),(3,v'.err)]) w'
def TlInv (x:Cx) (c:DC) (w0:World) (v0:DV) (R:Except EK (Bs × Bs)) (m0:Nat) (bf:Bs) (dp:Int) (k:Nat) (a:Act) (w:World):Prop:=
  ∃ f v rest i,a=fr 731 f [(0,decP x),(21,.int .u8 0),(22,.int .i64 dp),(23,bcV),(24,.int .i64 (i:Nat))]∧RdS x c w v rest none (bf ++ [60])∧Stp x w0 v0 w v∧k=3 - i∧i ≤ 3∧R=dirTail x.o.fails 0 dp bf i rest∧i + rest.length=m0
theorem dirTail_c (x:Cx) (hx:x.All) (c:DC) (hdc:DcOk x c) (w:World) (v:DV) (rest:Bs) (bf:Bs) (dp:Int) (N m:Nat) (hN:N ≤ 2000000000) (h:RdS x c w v rest none (bf ++ [60])) (hb:bf.length + 1 + rest.length ≤ N) (hd:dp.natAbs + 1 + rest.length ≤ N) (hm:rest.length < m) (Q:Exit → Act → World → Prop)
    (hQ:DirOut x c w v (dirTail x.o.fails 0 dp bf 0 rest) N m Q) (f:Nat → Value) :
    (rwCode 130).wp Tryz.prog Q (fr 731 f [(0,decP x),(21,.int .u8 0),(22,.int .i64 dp)]) w:=by
  have HX:=Lib.hid hx
  have HD:=Lib.hid hdc
  have HQ:=Lib.hid hQ
  have H:=Lib.hid h
  have HNB:=Lib.hid hb
  have HND:=Lib.hid hd
  have HM:=Lib.hid hm
  have HN:=Lib.hid hN
  clear hx hdc hQ h hb hd hm hN
  unfold rwCode
  conv=>arg 2;whnf
  (repeat (first|(with_reducible first|refine zA fun K hK=>?_|refine zB ?_|refine zC ?_)|((with_reducible first|refine zD rfl fun K hK=>?_|refine zE fun K hK=>?_);go_simp)|(with_reducible first|((repeat ((fail_if_success refine hK _ _ ?_);clear hK K));refine hK _ _ ?_;clear hK K)|refine zt ?_|refine zf ?_|refine zG ?_|refine zR ?_|refine zK ?_|refine zL ?_|refine zN ?_|refine zS ?_)|simp only [Exit.then,Exit.inBlock,Exit.noGoto,↓reduceIte,Nat.reduceEqDiff]|simp only [undef,reduceCtorEq,↓reduceIte]))
  (refine wp_keep [0,21,22,23,24] (fun f=>?_);simp only [keep_cons,keep_nil,lk_cons,lk_nil,Nat.reduceEqDiff,↓reduceIte])
  refine wp_loop_ghost_k (TlInv x c w v (dirTail x.o.fails 0 dp bf 0 rest) rest.length bf dp) 3 ⟨f,v,rest,0,rfl,H.out,Stp.refl x w v,rfl,by omega,rfl,by omega⟩ ?_
  rintro k _ w6 ⟨f,v6,rest6,i,rfl,h6,hs6,hk,hi,hR,hlen⟩ J K2 hJ hK2
  have HJ:=Lib.hid hJ
  have HK2:=Lib.hid hK2
  have HS6:=Lib.hid hs6
  have HK:=Lib.hid hk
  have H6:=Lib.hid h6
  have HR:=Lib.hid hR
  have HLEN:=Lib.hid hlen
  clear hJ hK2 hs6 hk h6 hR hlen
  by_cases hi3:i=3
  · subst hi3
    have hR3:dirTail x.o.fails 0 dp bf 0 rest=(match skipComL x.o.fails rest6 0 0 with
      | .error e=>.error e
      | .ok r4=>dirL x.o.fails r4 0 dp (bf ++ [32])):=by rw [HR.out];unfold dirTail;rw [if_pos (by decide)]
    have HR3:=Lib.hid hR3
    clear hR3
    have hsk:=Lib.hid (fun Q hok hbad f=>dirSkip x HX.out c HD.out w6 v6 rest6 bf (by have:=HNB.out;have:=HN.out;omega) H6.out (.int .u8 0) (.int .i64 dp) Q hok hbad f)
    (repeat ((fail_if_success with_reducible refine wp_stop 143 ?_);(fail_if_success with_reducible refine wp_stop2 143 ?_);(first|(with_reducible first|refine zA fun K hK=>?_|refine zB ?_|refine zC ?_)|((with_reducible first|refine zD rfl fun K hK=>?_|refine zE fun K hK=>?_);go_simp)|(with_reducible first|((repeat ((fail_if_success refine hK _ _ ?_);clear hK K));refine hK _ _ ?_;clear hK K)|refine zt ?_|refine zf ?_|refine zG ?_|refine zR ?_|refine zK ?_|refine zL ?_|refine zN ?_|refine zS ?_)|simp only [Exit.then,Exit.inBlock,Exit.noGoto,↓reduceIte,Nat.reduceEqDiff]|simp only [undef,reduceCtorEq,↓reduceIte])))
    (refine wp_keep [0,21,22] (fun f=>?_);simp only [keep_cons,keep_nil,lk_cons,lk_nil,Nat.reduceEqDiff,↓reduceIte])
    refine wp_code (hsk.out _ ?_ ?_ f) (by kernel_rfl)
    · intro r4 hr4 f w' v' hr hs
      have HR':=Lib.hid hr
      have HS':=Lib.hid hs
      have hlt:=skipComL_len hr4
      have HR4:=Lib.hid (show dirTail x.o.fails 0 dp bf 0 rest=dirL x.o.fails r4 0 dp (bf ++ [32]) by rw [HR3.out,hr4])
      have HLT:=Lib.hid hlt
      clear hr hs hlt hr4
      (repeat (first|(with_reducible first|refine zA fun K hK=>?_|refine zB ?_|refine zC ?_)|((with_reducible first|refine zD rfl fun K hK=>?_|refine zE fun K hK=>?_);go_simp)|(with_reducible first|((repeat ((fail_if_success refine hK _ _ ?_);clear hK K));refine hK _ _ ?_;clear hK K)|refine zt ?_|refine zf ?_|refine zG ?_|refine zR ?_|refine zK ?_|refine zL ?_|refine zN ?_|refine zS ?_)|simp only [Exit.then,Exit.inBlock,Exit.noGoto,↓reduceIte,Nat.reduceEqDiff]|simp only [undef,reduceCtorEq,↓reduceIte]))
      refine HQ.out.next f w' v' r4 0 dp (bf ++ [32]) HR'.out (HS6.out.trans HS'.out) HR4.out ?_ (by simp) ?_ ?_
      · have:=HLT.out;have:=HLEN.out;have:=HM.out;omega
      · have:=HLT.out;have:=HLEN.out;have:=HNB.out;simp only [List.length_append,List.length_cons,List.length_nil];omega
      · have:=HLT.out;have:=HLEN.out;have:=HND.out;omega
    · intro k hk f w' v' hE hs
      have HE':=Lib.hid hE
      have HS':=Lib.hid hs
      have HRK:=Lib.hid (show dirTail x.o.fails 0 dp bf 0 rest=.error k by rw [HR3.out,hk])
      clear hE hs hk
      (repeat (first|(with_reducible first|refine zA fun K hK=>?_|refine zB ?_|refine zC ?_)|((with_reducible first|refine zD rfl fun K hK=>?_|refine zE fun K hK=>?_);go_simp)|(with_reducible first|((repeat ((fail_if_success refine hK _ _ ?_);clear hK K));refine hK _ _ ?_;clear hK K)|refine zt ?_|refine zf ?_|refine zG ?_|refine zR ?_|refine zK ?_|refine zL ?_|refine zN ?_|refine zS ?_)|simp only [Exit.then,Exit.inBlock,Exit.noGoto,↓reduceIte,Nat.reduceEqDiff]|simp only [undef,reduceCtorEq,↓reduceIte]))
      exact HQ.out.bad k HRK.out f w' v' HE'.out (HS6.out.trans HS'.out)
  · have hlt:(i:Int) < 3:=by omega
    have hlt2:i < 3:=by omega
    have hi0:(0:Int) ≤ (i:Int):=by omega
    obtain ⟨p,hp⟩:∃ p,p=bcB.getD i 0:=⟨_,rfl⟩
    have hix:∀ h,(⟨#[33,45,45]⟩:ByteArray)[i]'h=p:=by
      intro h;rw [hp];exact ixc bcB i h
    have hi1:IntKind.i64.wrap ((i:Int) + 1)=((i + 1:Nat):Int):=by rw [IntKind.wrap_i64];omega
    have HI:=Lib.hid hi
    have HP:=Lib.hid hp
    clear hp hi hi3
    cases rest6 with
    | nil=>
      have hmg:=Lib.hid (mustgetc_none x HX.out.toOk c HD.out w6 v6 _ _ H6.out)
      have HRK:=Lib.hid (show dirTail x.o.fails 0 dp bf 0 rest=.error (mustE x.o.fails) by rw [HR.out];unfold dirTail;rw [if_neg (by omega)])
      (repeat (first|(with_reducible first|refine zA fun K hK=>?_|refine zB ?_|refine zC ?_)|((with_reducible first|refine zD rfl fun K hK=>?_|refine zE fun K hK=>?_);go_simp)|(with_reducible first|((repeat ((fail_if_success refine hK _ _ ?_);clear hK K));refine hK _ _ ?_;clear hK K)|refine zt ?_|refine zf ?_|refine zG ?_|refine zR ?_|refine zK ?_|refine zL ?_|refine zN ?_|refine zS ?_)|simp only [Exit.then,Exit.inBlock,Exit.noGoto,↓reduceIte,Nat.reduceEqDiff]|simp only [undef,reduceCtorEq,↓reduceIte]))
      refine hmg.out.mono ?_
      rintro e7 w7 ⟨rfl,v7,hE,hb7,hm7⟩
      have HS7:=Lib.hid (HS6.out.s0 hm7 hb7)
      obtain ⟨t1,u1,hu1⟩:=hE.err.iface
      have HE:=Lib.hid hE
      have hc:=hE.dec.cell
      have hf:=hE.dec.frozen
      have HU:=Lib.hid hu1
      clear hE hm7 hb7 hmg
      go_simp
      (repeat (first|(with_reducible first|refine zA fun K hK=>?_|refine zB ?_|refine zC ?_)|((with_reducible first|refine zD rfl fun K hK=>?_|refine zE fun K hK=>?_);go_simp)|(with_reducible first|((repeat ((fail_if_success refine hK _ _ ?_);clear hK K));refine hK _ _ ?_;clear hK K)|refine zt ?_|refine zf ?_|refine zG ?_|refine zR ?_|refine zK ?_|refine zL ?_|refine zN ?_|refine zS ?_)|simp only [Exit.then,Exit.inBlock,Exit.noGoto,↓reduceIte,Nat.reduceEqDiff]|simp only [undef,reduceCtorEq,↓reduceIte]))
      ((refine wp_keep [0] (fun f=>?_);simp only [keep_cons,keep_nil,lk_cons,lk_nil,Nat.reduceEqDiff,↓reduceIte]);go_quiet (fail);(repeat (first|(with_reducible first|refine zA fun K hK=>?_|refine zB ?_|refine zC ?_)|((with_reducible first|refine zD rfl fun K hK=>?_|refine zE fun K hK=>?_);go_simp)|(with_reducible first|((repeat ((fail_if_success refine hK _ _ ?_);clear hK K));refine hK _ _ ?_;clear hK K)|refine zt ?_|refine zf ?_|refine zG ?_|refine zR ?_|refine zK ?_|refine zL ?_|refine zN ?_|refine zS ?_)|simp only [Exit.then,Exit.inBlock,Exit.noGoto,↓reduceIte,Nat.reduceEqDiff]|simp only [undef,reduceCtorEq,↓reduceIte]));refine Q_keep [2,3] (fun f=>?_);simp only [keep_cons,keep_nil,lk_cons,lk_nil,Nat.reduceEqDiff,↓reduceIte])
      rw [← HU.out]
      exact HQ.out.bad _ HRK.out f _ v7 (HE.out.drewN _) (HS7.out.drawn _)
    | cons b r=>
      have hmg:=Lib.hid (mustgetc_some x HX.out.toOk c HD.out w6 v6 b r _ _ H6.out)
      (repeat (first|(with_reducible first|refine zA fun K hK=>?_|refine zB ?_|refine zC ?_)|((with_reducible first|refine zD rfl fun K hK=>?_|refine zE fun K hK=>?_);go_simp)|(with_reducible first|((repeat ((fail_if_success refine hK _ _ ?_);clear hK K));refine hK _ _ ?_;clear hK K)|refine zt ?_|refine zf ?_|refine zG ?_|refine zR ?_|refine zK ?_|refine zL ?_|refine zN ?_|refine zS ?_)|simp only [Exit.then,Exit.inBlock,Exit.noGoto,↓reduceIte,Nat.reduceEqDiff]|simp only [undef,reduceCtorEq,↓reduceIte]))
      refine hmg.out.mono ?_
      rintro e7 w7 ⟨rfl,v7,h7,hn7,hb7,hm7,hz7⟩
      have HS7:=Lib.hid (HS6.out.s0 hm7 hb7)
      have HR7:=Lib.hid h7
      clear h7 hn7 hb7 hm7 hz7 hmg
      by_cases hb:b=p
      · subst hb
        have HR2:=Lib.hid (show dirTail x.o.fails 0 dp bf 0 rest=dirTail x.o.fails 0 dp bf (i + 1) r by rw [HR.out,dirTail.eq_def,if_neg (by omega)];exact if_pos HP.out)
        go_simp
        (repeat (first|(with_reducible first|refine zA fun K hK=>?_|refine zB ?_|refine zC ?_)|((with_reducible first|refine zD rfl fun K hK=>?_|refine zE fun K hK=>?_);go_simp)|(with_reducible first|((repeat ((fail_if_success refine hK _ _ ?_);clear hK K));refine hK _ _ ?_;clear hK K)|refine zt ?_|refine zf ?_|refine zG ?_|refine zR ?_|refine zK ?_|refine zL ?_|refine zN ?_|refine zS ?_)|simp only [Exit.then,Exit.inBlock,Exit.noGoto,↓reduceIte,Nat.reduceEqDiff]|simp only [undef,reduceCtorEq,↓reduceIte]))
        (refine K_keep [0,21,22,23,24] (fun f=>?_);simp only [keep_cons,keep_nil,lk_cons,lk_nil,Nat.reduceEqDiff,↓reduceIte])
        exact HK2.out _ _ ⟨3 - (i + 1),by rw [HK.out];omega,HJ.out _ _ _ ⟨f,v7,r,i + 1,rfl,HR7.out,HS7.out,rfl,by omega,HR2.out,by have:=HLEN.out;simp at this;omega⟩⟩
      · have hbb:((b.toNat:Int) == (p.toNat:Int))=false:=u8ne hb rfl
        have hbb2:((b.toNat:Int) != (p.toNat:Int))=true:=u8bne hb rfl
        have HR2:=Lib.hid (show dirTail x.o.fails 0 dp bf 0 rest=dirB x.o.fails b r 0 (dp + 1) ((bf ++ [60]) ++ bcB.take i) by rw [HR.out,dirTail.eq_def,if_neg (by omega)];exact if_neg (by rw [← HP.out];exact hb))
        have hbk:=Lib.hid (fun Q hok f=>dirBack x HX.out c w7 v7 r (bf ++ [60]) (by have:=HNB.out;have:=HN.out;simp only [List.length_append,List.length_cons,List.length_nil];omega) HR7.out i (by omega) (.int .u8 b.toNat) (.int .u8 0) dp (by have:=HND.out;have:=HN.out;omega) (by have:=HND.out;have:=HN.out;omega) Q hok f)
        clear hb
        go_simp
        (repeat ((fail_if_success with_reducible refine wp_stop 138 ?_);(fail_if_success with_reducible refine wp_stop2 138 ?_);(first|(with_reducible first|refine zA fun K hK=>?_|refine zB ?_|refine zC ?_)|((with_reducible first|refine zD rfl fun K hK=>?_|refine zE fun K hK=>?_);go_simp)|(with_reducible first|((repeat ((fail_if_success refine hK _ _ ?_);clear hK K));refine hK _ _ ?_;clear hK K)|refine zt ?_|refine zf ?_|refine zG ?_|refine zR ?_|refine zK ?_|refine zL ?_|refine zN ?_|refine zS ?_)|simp only [Exit.then,Exit.inBlock,Exit.noGoto,↓reduceIte,Nat.reduceEqDiff]|simp only [undef,reduceCtorEq,↓reduceIte])))
        (refine wp_keep [0,4,21,22,23,24] (fun f=>?_);simp only [keep_cons,keep_nil,lk_cons,lk_nil,Nat.reduceEqDiff,↓reduceIte])
        refine wp_code (hbk.out _ ?_ f) (by kernel_rfl)
        intro f w' v' hr hs
        have HR':=Lib.hid hr
        have HS':=Lib.hid hs
        clear hr hs
        (repeat (first|(with_reducible first|refine zA fun K hK=>?_|refine zB ?_|refine zC ?_)|((with_reducible first|refine zD rfl fun K hK=>?_|refine zE fun K hK=>?_);go_simp)|(with_reducible first|((repeat ((fail_if_success refine hK _ _ ?_);clear hK K));refine hK _ _ ?_;clear hK K)|refine zt ?_|refine zf ?_|refine zG ?_|refine zR ?_|refine zK ?_|refine zL ?_|refine zN ?_|refine zS ?_)|simp only [Exit.then,Exit.inBlock,Exit.noGoto,↓reduceIte,Nat.reduceEqDiff]|simp only [undef,reduceCtorEq,↓reduceIte]))
        refine HQ.out.goto f w' v' b r 0 (dp + 1) _ HR'.out (HS7.out.trans HS'.out) HR2.out ?_ ?_ ?_
        · have h1:=HLEN.out;have h2:=HM.out;rw [List.length_cons] at h1;omega
        · have h1:=HLEN.out;have h2:=HNB.out;rw [List.length_cons] at h1;simp only [List.length_append,List.length_cons,List.length_nil,List.length_take];omega
        · have h1:=HLEN.out;have h2:=HND.out;simp only [List.length_cons] at h1;omega
end Go.Proofs.YtkjnockljapnbaaGreatDoor
namespace Go.Proofs.YtkjnockljapnbaaGreatDoor
open Go Go.RowKit
theorem u8eqq {b c:UInt8} (h:b=c):((b.toNat:Int) == (c.toNat:Int))=true:=by subst h;simp
theorem dirPass (x:Cx) (hx:x.All) (c:DC) (hdc:DcOk x c) (w:World) (v:DV) (b:UInt8) (r:Bs) (inq:UInt8) (dp:Int) (buf:Bs) (N:Nat) (hN:N ≤ 2000000000) (h:RdS x c w v r none buf) (hb:buf.length + 1 + r.length ≤ N) (hd:dp.natAbs + 1 + r.length ≤ N) (Q:Exit → Act → World → Prop)
    (hQ:DirOut x c w v (dirB x.o.fails b r inq dp buf) N (r.length + 1) Q) (f:Nat → Value) :
    (rwCode 121).wp Tryz.prog Q (fr 731 f [(0,decP x),(4,.int .u8 b.toNat),(21,.int .u8 inq.toNat),(22,.int .i64 dp)]) w:=by
  have hwb:=Lib.hid (writeByte_k x hx.toOk c w v r none buf h b (by omega))
  have HX:=Lib.hid hx
  have HD:=Lib.hid hdc
  have HQ:=Lib.hid hQ
  have HNB:=Lib.hid hb
  have HND:=Lib.hid hd
  have HN:=Lib.hid hN
  have HB8:=Lib.hid (show (buf ++ [b]).length=buf.length + 1 by simp)
  have hdp:IntKind.i64.wrap (dp - 1)=dp - 1:=by rw [IntKind.wrap_i64];omega
  clear hx hdc hQ h hb hd hN
  unfold rwCode
  conv=>arg 2;whnf
  (repeat (first|(with_reducible first|refine zA fun K hK=>?_|refine zB ?_|refine zC ?_)|((with_reducible first|refine zD rfl fun K hK=>?_|refine zE fun K hK=>?_);go_simp)|(with_reducible first|((repeat ((fail_if_success refine hK _ _ ?_);clear hK K));refine hK _ _ ?_;clear hK K)|refine zt ?_|refine zf ?_|refine zG ?_|refine zR ?_|refine zK ?_|refine zL ?_|refine zN ?_|refine zS ?_)|simp only [Exit.then,Exit.inBlock,Exit.noGoto,↓reduceIte,Nat.reduceEqDiff]|simp only [undef,reduceCtorEq,↓reduceIte]))
  refine hwb.out.mono ?_
  rintro e8 w8 ⟨rfl,v8,⟨h8,hn8,hs8⟩,_⟩
  have HS8:=Lib.hid hs8
  have HR8:=Lib.hid h8
  clear h8 hn8 hs8 hwb
  have HNX:=Lib.hid (fun (inq':UInt8) (dp':Int) (hR:dirB x.o.fails b r inq dp buf=dirL x.o.fails r inq' dp' (buf ++ [b])) (hdp:dp'.natAbs + r.length ≤ N) (f:Nat → Value)=>
    HQ.out.next f w8 v8 r inq' dp' (buf ++ [b]) HR8.out HS8.out hR (by omega) (by simp) (by have:=HNB.out;have:=HB8.out;omega) hdp)
  by_cases h1:b=inq
  · have t1:=u8eqq h1
    have HR:=Lib.hid (show dirB x.o.fails b r inq dp buf=dirL x.o.fails r 0 dp (buf ++ [b]) by rw [dirB.eq_def,if_pos h1])
    clear h1
    go_simp
    (repeat (first|(with_reducible first|refine zA fun K hK=>?_|refine zB ?_|refine zC ?_)|((with_reducible first|refine zD rfl fun K hK=>?_|refine zE fun K hK=>?_);go_simp)|(with_reducible first|((repeat ((fail_if_success refine hK _ _ ?_);clear hK K));refine hK _ _ ?_;clear hK K)|refine zt ?_|refine zf ?_|refine zG ?_|refine zR ?_|refine zK ?_|refine zL ?_|refine zN ?_|refine zS ?_)|simp only [Exit.then,Exit.inBlock,Exit.noGoto,↓reduceIte,Nat.reduceEqDiff]|simp only [undef,reduceCtorEq,↓reduceIte]))
    refine Q_keep [0,21,22] (fun f=>?_);simp only [keep_cons,keep_nil,lk_cons,lk_nil,Nat.reduceEqDiff,↓reduceIte]
    exact HNX.out 0 dp HR.out (by have:=HND.out;omega) f
  · have t1:((b.toNat:Int) == (inq.toNat:Int))=false:=u8ne h1 rfl
    by_cases h2:inq=0
    · subst h2
      have t1':=u8ne (n:=0) h1 rfl
      by_cases h3:b=39 ∨ b=34
      · have HR:=Lib.hid (show dirB x.o.fails b r 0 dp buf=dirL x.o.fails r b dp (buf ++ [b]) by rw [dirB.eq_def,if_neg h1,if_neg (by simp),if_pos h3])
        have hcs:((b.toNat:Int) == 39)=true ∨ (((b.toNat:Int) == 39)=false∧((b.toNat:Int) == 34)=true):=by
          rcases h3 with rfl|rfl
          · exact Or.inl rfl
          · exact Or.inr ⟨rfl,rfl⟩
        have HNX2:=Lib.hid (HNX.out b dp HR.out (by have:=HND.out;omega))
        clear h1 h3
        rcases hcs with t2|⟨t2,t3⟩
        all_goals
          go_simp
          (repeat (first|(with_reducible first|refine zA fun K hK=>?_|refine zB ?_|refine zC ?_)|((with_reducible first|refine zD rfl fun K hK=>?_|refine zE fun K hK=>?_);go_simp)|(with_reducible first|((repeat ((fail_if_success refine hK _ _ ?_);clear hK K));refine hK _ _ ?_;clear hK K)|refine zt ?_|refine zf ?_|refine zG ?_|refine zR ?_|refine zK ?_|refine zL ?_|refine zN ?_|refine zS ?_)|simp only [Exit.then,Exit.inBlock,Exit.noGoto,↓reduceIte,Nat.reduceEqDiff]|simp only [undef,reduceCtorEq,↓reduceIte]))
          refine Q_keep [0,21,22] (fun f=>?_);simp only [keep_cons,keep_nil,lk_cons,lk_nil,Nat.reduceEqDiff,↓reduceIte]
          exact HNX2.out f
      · have t2:=u8ne (n:=39) (fun hh=>h3 (Or.inl hh)) rfl
        have t3:=u8ne (n:=34) (fun hh=>h3 (Or.inr hh)) rfl
        by_cases h4:b=62
        · subst h4
          have HR:=Lib.hid (show dirB x.o.fails 62 r 0 dp buf=dirL x.o.fails r 0 (dp - 1) (buf ++ [62]) by rw [dirB.eq_def,if_neg h1,if_neg (by simp),if_neg h3,if_pos rfl])
          have HNX2:=Lib.hid (HNX.out 0 (dp - 1) HR.out (by have:=HND.out;omega))
          clear h1 h3
          go_simp
          (repeat (first|(with_reducible first|refine zA fun K hK=>?_|refine zB ?_|refine zC ?_)|((with_reducible first|refine zD rfl fun K hK=>?_|refine zE fun K hK=>?_);go_simp)|(with_reducible first|((repeat ((fail_if_success refine hK _ _ ?_);clear hK K));refine hK _ _ ?_;clear hK K)|refine zt ?_|refine zf ?_|refine zG ?_|refine zR ?_|refine zK ?_|refine zL ?_|refine zN ?_|refine zS ?_)|simp only [Exit.then,Exit.inBlock,Exit.noGoto,↓reduceIte,Nat.reduceEqDiff]|simp only [undef,reduceCtorEq,↓reduceIte]))
          refine Q_keep [0,21,22] (fun f=>?_);simp only [keep_cons,keep_nil,lk_cons,lk_nil,Nat.reduceEqDiff,↓reduceIte]
          exact HNX2.out f
        · have t4:=u8ne (n:=62) h4 rfl
          by_cases h5:b=60
          · subst h5
            have HTL:=Lib.hid (dirB_tail x.o.fails dp buf r)
            have htl:=Lib.hid (fun Q hq f=>dirTail_c x HX.out c HD.out w8 v8 r buf dp N (r.length + 1) HN.out HR8.out HNB.out HND.out (by omega) Q hq f)
            clear h1 h3 h4
            go_simp
            (repeat ((fail_if_success with_reducible refine wp_stop 130 ?_);(fail_if_success with_reducible refine wp_stop2 130 ?_);(first|(with_reducible first|refine zA fun K hK=>?_|refine zB ?_|refine zC ?_)|((with_reducible first|refine zD rfl fun K hK=>?_|refine zE fun K hK=>?_);go_simp)|(with_reducible first|((repeat ((fail_if_success refine hK _ _ ?_);clear hK K));refine hK _ _ ?_;clear hK K)|refine zt ?_|refine zf ?_|refine zG ?_|refine zR ?_|refine zK ?_|refine zL ?_|refine zN ?_|refine zS ?_)|simp only [Exit.then,Exit.inBlock,Exit.noGoto,↓reduceIte,Nat.reduceEqDiff]|simp only [undef,reduceCtorEq,↓reduceIte])))
            (refine wp_keep [0,21,22] (fun f=>?_);simp only [keep_cons,keep_nil,lk_cons,lk_nil,Nat.reduceEqDiff,↓reduceIte])
            refine wp_code (htl.out _ ?_ f) (by kernel_rfl)
            refine ⟨?_,?_,?_⟩
            · intro f w' v' rest' inq' dp' buf' hr hs hR hlt hbl hb hd
              have HR':=Lib.hid hr
              have HS':=Lib.hid (HS8.out.trans hs)
              have HG:=Lib.hid (show dirB x.o.fails 60 r 0 dp buf=dirL x.o.fails rest' inq' dp' buf' by rw [HTL.out,hR])
              have HLT:=Lib.hid hlt
              have HBL:=Lib.hid hbl
              have HB':=Lib.hid hb
              have HD':=Lib.hid hd
              clear hr hs hR hlt hbl hb hd
              (repeat (first|(with_reducible first|refine zA fun K hK=>?_|refine zB ?_|refine zC ?_)|((with_reducible first|refine zD rfl fun K hK=>?_|refine zE fun K hK=>?_);go_simp)|(with_reducible first|((repeat ((fail_if_success refine hK _ _ ?_);clear hK K));refine hK _ _ ?_;clear hK K)|refine zt ?_|refine zf ?_|refine zG ?_|refine zR ?_|refine zK ?_|refine zL ?_|refine zN ?_|refine zS ?_)|simp only [Exit.then,Exit.inBlock,Exit.noGoto,↓reduceIte,Nat.reduceEqDiff]|simp only [undef,reduceCtorEq,↓reduceIte]))
              exact HQ.out.next f w' v' rest' inq' dp' buf' HR'.out HS'.out HG.out HLT.out HBL.out HB'.out HD'.out
            · intro f w' v' b' rest' inq' dp' buf' hr hs hR hlt hb hd
              have HR':=Lib.hid hr
              have HS':=Lib.hid (HS8.out.trans hs)
              have HG:=Lib.hid (show dirB x.o.fails 60 r 0 dp buf=dirB x.o.fails b' rest' inq' dp' buf' by rw [HTL.out,hR])
              have HLT:=Lib.hid hlt
              have HB':=Lib.hid hb
              have HD':=Lib.hid hd
              clear hr hs hR hlt hb hd
              (repeat (first|(with_reducible first|refine zA fun K hK=>?_|refine zB ?_|refine zC ?_)|((with_reducible first|refine zD rfl fun K hK=>?_|refine zE fun K hK=>?_);go_simp)|(with_reducible first|((repeat ((fail_if_success refine hK _ _ ?_);clear hK K));refine hK _ _ ?_;clear hK K)|refine zt ?_|refine zf ?_|refine zG ?_|refine zR ?_|refine zK ?_|refine zL ?_|refine zN ?_|refine zS ?_)|simp only [Exit.then,Exit.inBlock,Exit.noGoto,↓reduceIte,Nat.reduceEqDiff]|simp only [undef,reduceCtorEq,↓reduceIte]))
              exact HQ.out.goto f w' v' b' rest' inq' dp' buf' HR'.out HS'.out HG.out HLT.out HB'.out HD'.out
            · intro k hk f w' v' hE hs
              have HE':=Lib.hid hE
              have HS':=Lib.hid (HS8.out.trans hs)
              have HG:=Lib.hid (show dirB x.o.fails 60 r 0 dp buf=.error k by rw [HTL.out,hk])
              clear hE hs hk
              (repeat (first|(with_reducible first|refine zA fun K hK=>?_|refine zB ?_|refine zC ?_)|((with_reducible first|refine zD rfl fun K hK=>?_|refine zE fun K hK=>?_);go_simp)|(with_reducible first|((repeat ((fail_if_success refine hK _ _ ?_);clear hK K));refine hK _ _ ?_;clear hK K)|refine zt ?_|refine zf ?_|refine zG ?_|refine zR ?_|refine zK ?_|refine zL ?_|refine zN ?_|refine zS ?_)|simp only [Exit.then,Exit.inBlock,Exit.noGoto,↓reduceIte,Nat.reduceEqDiff]|simp only [undef,reduceCtorEq,↓reduceIte]))
              exact HQ.out.bad k HG.out f w' v' HE'.out HS'.out
          · have t5:=u8ne (n:=60) h5 rfl
            have HR:=Lib.hid (show dirB x.o.fails b r 0 dp buf=dirL x.o.fails r 0 dp (buf ++ [b]) by rw [dirB.eq_def,if_neg h1,if_neg (by simp),if_neg h3,if_neg h4,if_neg h5])
            have HNX2:=Lib.hid (HNX.out 0 dp HR.out (by have:=HND.out;omega))
            clear h1 h3 h4 h5
            go_simp
            (repeat (first|(with_reducible first|refine zA fun K hK=>?_|refine zB ?_|refine zC ?_)|((with_reducible first|refine zD rfl fun K hK=>?_|refine zE fun K hK=>?_);go_simp)|(with_reducible first|((repeat ((fail_if_success refine hK _ _ ?_);clear hK K));refine hK _ _ ?_;clear hK K)|refine zt ?_|refine zf ?_|refine zG ?_|refine zR ?_|refine zK ?_|refine zL ?_|refine zN ?_|refine zS ?_)|simp only [Exit.then,Exit.inBlock,Exit.noGoto,↓reduceIte,Nat.reduceEqDiff]|simp only [undef,reduceCtorEq,↓reduceIte]))
            refine Q_keep [0,21,22] (fun f=>?_);simp only [keep_cons,keep_nil,lk_cons,lk_nil,Nat.reduceEqDiff,↓reduceIte]
            exact HNX2.out f
    · have t2:((inq.toNat:Int) != 0)=true:=u8bne (c:=0) h2 rfl
      have t2':((inq.toNat:Int) == 0)=false:=u8ne (c:=0) h2 rfl
      have HR:=Lib.hid (show dirB x.o.fails b r inq dp buf=dirL x.o.fails r inq dp (buf ++ [b]) by rw [dirB.eq_def,if_neg h1,if_pos h2])
      clear h1 h2
      go_simp
      (repeat (first|(with_reducible first|refine zA fun K hK=>?_|refine zB ?_|refine zC ?_)|((with_reducible first|refine zD rfl fun K hK=>?_|refine zE fun K hK=>?_);go_simp)|(with_reducible first|((repeat ((fail_if_success refine hK _ _ ?_);clear hK K));refine hK _ _ ?_;clear hK K)|refine zt ?_|refine zf ?_|refine zG ?_|refine zR ?_|refine zK ?_|refine zL ?_|refine zN ?_|refine zS ?_)|simp only [Exit.then,Exit.inBlock,Exit.noGoto,↓reduceIte,Nat.reduceEqDiff]|simp only [undef,reduceCtorEq,↓reduceIte]))
      refine Q_keep [0,21,22] (fun f=>?_);simp only [keep_cons,keep_nil,lk_cons,lk_nil,Nat.reduceEqDiff,↓reduceIte]
      exact HNX.out inq dp HR.out (by have:=HND.out;omega) f
end Go.Proofs.YtkjnockljapnbaaGreatDoor
