/- Part of the proof that laws.FnBalanced returns true for every argument (We, Wf). No condition of its own. -/
import Derived.Test.YtkjnockljapnbaaGreatDoorO20
import Derived.ScopeJumps
set_option linter.all false
set_option maxHeartbeats 8000000
set_option maxRecDepth 100000
namespace Go.Proofs.YtkjnockljapnbaaGreatDoor
open Go Go.RowKit
theorem ixc (l:Bs) (k:Nat):∀ h,(⟨l.toArray⟩:ByteArray)[k]'h=l.getD k 0:=by
  intro h
  have h':k < l.length:=by simpa [ByteArray.size] using h
  show l.toArray[k]=_
  simp [h']
abbrev cdB:Bs:=[67,68,65,84,65,91]
def secL (o:Opt) (p:Bs) (r:Bs):Except EK (RTok × Bs):=
  match matchL o.fails p r with
  | .error e=>.error e
  | .ok r2=>match textL o none true r2 0 0 [] with
    | .error e=>.error e
    | .ok (d,r3)=>.ok (.text d,r3)
def CdInv (x:Cx) (c:DC) (w0:World) (v0:DV) (l0:Bs) (k:Nat) (a:Act) (w:World):Prop:=
  ∃ f v rest i e buf,a=fr 731 f [(0,decP x),(19,.int .i64 (i:Nat))]∧RdS x c w v rest e buf∧Stp x w0 v0 w v∧k=6 - i∧i ≤ 6∧secL x.o cdB l0=secL x.o (cdB.drop i) rest
theorem rawSec (x:Cx) (hx:x.All) (c:DC) (hdc:DcOk x c) (hno:NoEnt x c) (w:World) (v:DV) (rest:Bs) (e:Option EK) (buf:Bs) (h:RdS x c w v rest e buf) (Q:Exit → Act → World → Prop)
    (hQ:∀ f w' t e,RawPost x c w v (secL x.o cdB rest) t e w' → Q .ret (fr 731 f [(2,t),(3,e)]) w') (f:Nat → Value) :
    (rwCode 100).wp Tryz.prog Q (fr 731 f [(0,decP x)]) w:=by
  have HX:=Lib.hid hx
  have HD:=Lib.hid hdc
  have HNO:=Lib.hid hno
  have HQ:=Lib.hid hQ
  have H:=Lib.hid h
  clear hx hdc hno hQ h
  unfold rwCode
  conv=>arg 2;whnf
  (repeat (first|(with_reducible first|refine zA fun K hK=>?_|refine zB ?_|refine zC ?_)|((with_reducible first|refine zD rfl fun K hK=>?_|refine zE fun K hK=>?_);go_simp)|(with_reducible first|((repeat ((fail_if_success refine hK _ _ ?_);clear hK K));refine hK _ _ ?_;clear hK K)|refine zt ?_|refine zf ?_|refine zG ?_|refine zR ?_|refine zK ?_|refine zL ?_|refine zN ?_|refine zS ?_)|simp only [Exit.then,Exit.inBlock,Exit.noGoto,↓reduceIte,Nat.reduceEqDiff]|simp only [undef,reduceCtorEq,↓reduceIte]))
  (refine wp_keep [0,19] (fun f=>?_);simp only [keep_cons,keep_nil,lk_cons,lk_nil,Nat.reduceEqDiff,↓reduceIte])
  refine wp_loop_ghost_k (CdInv x c w v rest) 6 ⟨f,v,rest,0,e,buf,rfl,H.out,Stp.refl x w v,rfl,by omega,rfl⟩ ?_
  rintro k _ w6 ⟨f,v6,rest6,i,e6,bf,rfl,h6,hs6,hk,hi,hse⟩ J K2 hJ hK2
  have HJ:=Lib.hid hJ
  have HK2:=Lib.hid hK2
  have HS6:=Lib.hid hs6
  have HK:=Lib.hid hk
  have HSE:=Lib.hid hse
  have H6:=Lib.hid h6
  clear hJ hK2 hs6 hk hse h6
  by_cases hi6:i=6
  · subst hi6
    have htx:=Lib.hid (text_c x HX.out c HD.out HNO.out none true w6 v6 rest6 e6 bf H6.out (fun h=>absurd rfl h) (fun _ h=>by cases h))
    have HRES:=Lib.hid (show secL x.o cdB rest=(match textL x.o none true rest6 0 0 [] with|.error e=>.error e|.ok (d,r3)=>.ok (.text d,r3)) from HSE.out.trans rfl)
    (repeat (first|(with_reducible first|refine zA fun K hK=>?_|refine zB ?_|refine zC ?_)|((with_reducible first|refine zD rfl fun K hK=>?_|refine zE fun K hK=>?_);go_simp)|(with_reducible first|((repeat ((fail_if_success refine hK _ _ ?_);clear hK K));refine hK _ _ ?_;clear hK K)|refine zt ?_|refine zf ?_|refine zG ?_|refine zR ?_|refine zK ?_|refine zL ?_|refine zN ?_|refine zS ?_)|simp only [Exit.then,Exit.inBlock,Exit.noGoto,↓reduceIte,Nat.reduceEqDiff]|simp only [undef,reduceCtorEq,↓reduceIte]))
    rw [show (-1:Int)=qI none from rfl]
    refine htx.out.mono ?_
    rintro e3 w3 ⟨v3,hs3,hp⟩
    have HS3:=Lib.hid (HS6.out.trans hs3)
    clear hs3 htx
    cases hres:textL x.o none true rest6 0 0 [] with
    | error k=>
      rw [hres] at hp
      obtain ⟨rfl,hE⟩:=hp
      have HRES2:=Lib.hid (show secL x.o cdB rest=.error k by rw [HRES.out,hres])
      obtain ⟨t1,u1,hu1⟩:=hE.err.iface
      have hc:=hE.dec.cell
      have hf:=hE.dec.frozen
      have HE:=Lib.hid hE
      have HU:=Lib.hid hu1
      clear hE hres
      have q1:=fun w=>slNil w
      go_simp
      (repeat (first|(with_reducible first|refine zA fun K hK=>?_|refine zB ?_|refine zC ?_)|((with_reducible first|refine zD rfl fun K hK=>?_|refine zE fun K hK=>?_);go_simp)|(with_reducible first|((repeat ((fail_if_success refine hK _ _ ?_);clear hK K));refine hK _ _ ?_;clear hK K)|refine zt ?_|refine zf ?_|refine zG ?_|refine zR ?_|refine zK ?_|refine zL ?_|refine zN ?_|refine zS ?_)|simp only [Exit.then,Exit.inBlock,Exit.noGoto,↓reduceIte,Nat.reduceEqDiff]|simp only [undef,reduceCtorEq,↓reduceIte]))
      ((refine wp_keep [0] (fun f=>?_);simp only [keep_cons,keep_nil,lk_cons,lk_nil,Nat.reduceEqDiff,↓reduceIte]);go_quiet (fail);(repeat (first|(with_reducible first|refine zA fun K hK=>?_|refine zB ?_|refine zC ?_)|((with_reducible first|refine zD rfl fun K hK=>?_|refine zE fun K hK=>?_);go_simp)|(with_reducible first|((repeat ((fail_if_success refine hK _ _ ?_);clear hK K));refine hK _ _ ?_;clear hK K)|refine zt ?_|refine zf ?_|refine zG ?_|refine zR ?_|refine zK ?_|refine zL ?_|refine zN ?_|refine zS ?_)|simp only [Exit.then,Exit.inBlock,Exit.noGoto,↓reduceIte,Nat.reduceEqDiff]|simp only [undef,reduceCtorEq,↓reduceIte]));refine Q_keep [2,3] (fun f=>?_);simp only [keep_cons,keep_nil,lk_cons,lk_nil,Nat.reduceEqDiff,↓reduceIte])
      exact HQ.out f _ _ _ ⟨v3,HS3.out.drawn _,by rw [HRES2.out];exact ⟨rfl,HU.out.symm,HE.out.drewN _⟩⟩
    | ok dr=>
      obtain ⟨d,r'⟩:=dr
      rw [hres] at hp
      obtain ⟨g,cap,e',b',rfl,hR,hbv,hd1,hd2,hend,hnb⟩:=hp
      have HNB:=Lib.hid (hnb rfl)
      clear hnb
      have HRES2:=Lib.hid (show secL x.o cdB rest=.ok (.text d,r') by rw [HRES.out,hres])
      have hdat:DataAt w3 v3.bufv (.slice (some ⟨g,0,none⟩) d.length cap) d:=by
        rcases hR.bf with ⟨h1,_⟩|⟨g',cap',arr,h1,hg,hsz,hl,hcp,_,_,hel⟩
        · rw [h1] at hbv;cases hbv
        · rw [h1] at hbv
          simp only [Value.slice.injEq,Option.some.injEq,Addr.mk.injEq] at hbv
          obtain ⟨⟨rfl,_⟩,_,rfl⟩:=hbv
          refine ⟨g',cap',b'.length,rfl,by rw [h1],fun j hj=>?_,by omega,hcp⟩
          rw [Nat.zero_add,hg.cell,hel j (by omega)]
          have:d.getD j 0=b'.getD j 0:=by
            rw [hd1]
            simp only [List.getD_eq_getElem?_getD,List.getElem?_take]
            rw [if_pos hj]
          rw [this]
      have HR:=Lib.hid hR
      have HDAT:=Lib.hid hdat
      have HFIN:=Lib.hid hR.fin
      clear hR hbv hd1 hend hres hdat
      have q1:=fun a l c w=>slSome a l c w
      go_simp
      (repeat (first|(with_reducible first|refine zA fun K hK=>?_|refine zB ?_|refine zC ?_)|((with_reducible first|refine zD rfl fun K hK=>?_|refine zE fun K hK=>?_);go_simp)|(with_reducible first|((repeat ((fail_if_success refine hK _ _ ?_);clear hK K));refine hK _ _ ?_;clear hK K)|refine zt ?_|refine zf ?_|refine zG ?_|refine zR ?_|refine zK ?_|refine zL ?_|refine zN ?_|refine zS ?_)|simp only [Exit.then,Exit.inBlock,Exit.noGoto,↓reduceIte,Nat.reduceEqDiff]|simp only [undef,reduceCtorEq,↓reduceIte]))
      refine Q_keep [2,3] (fun f=>?_);simp only [keep_cons,keep_nil,lk_cons,lk_nil,Nat.reduceEqDiff,↓reduceIte]
      refine HQ.out f _ _ _ ⟨v3,HS3.out,?_⟩
      rw [HRES2.out]
      refine ⟨rfl,e',b',HR.out,⟨_,rfl,HDAT.out⟩,?_,HNB.out⟩
      rcases HFIN.out with h1|⟨h1,h2⟩
      · exact Or.inl h1
      · exact Or.inr ⟨⟨d,rfl⟩,h2,h1⟩
  · have hlt:(i:Int) < 6:=by omega
    have hlt2:i < 6:=by omega
    have h0:(0:Int) ≤ (i:Int):=by omega
    obtain ⟨p,hp⟩:∃ p,p=cdB.getD i 0:=⟨_,rfl⟩
    have hdrop:cdB.drop i=p :: cdB.drop (i + 1):=by
      rw [hp]
      have:i=0 ∨ i=1 ∨ i=2 ∨ i=3 ∨ i=4 ∨ i=5:=by omega
      rcases this with rfl|rfl|rfl|rfl|rfl|rfl <;> rfl
    have hix:∀ h,(⟨#[67,68,65,84,65,91]⟩:ByteArray)[i]'h=p:=by
      intro h;rw [hp];exact ixc cdB i h
    have hi1:IntKind.i64.wrap ((i:Int) + 1)=((i + 1:Nat):Int):=by rw [IntKind.wrap_i64];omega
    have HDROP:=Lib.hid hdrop
    have HI:=Lib.hid hi
    clear hdrop hp hi hi6
    cases rest6 with
    | nil=>
      have hmg:=Lib.hid (mustgetc_none x HX.out.toOk c HD.out w6 v6 e6 bf H6.out)
      have HRES2:=Lib.hid (show secL x.o cdB rest=.error (mustE x.o.fails) by rw [HSE.out,HDROP.out];rfl)
      (repeat (first|(with_reducible first|refine zA fun K hK=>?_|refine zB ?_|refine zC ?_)|((with_reducible first|refine zD rfl fun K hK=>?_|refine zE fun K hK=>?_);go_simp)|(with_reducible first|((repeat ((fail_if_success refine hK _ _ ?_);clear hK K));refine hK _ _ ?_;clear hK K)|refine zt ?_|refine zf ?_|refine zG ?_|refine zR ?_|refine zK ?_|refine zL ?_|refine zN ?_|refine zS ?_)|simp only [Exit.then,Exit.inBlock,Exit.noGoto,↓reduceIte,Nat.reduceEqDiff]|simp only [undef,reduceCtorEq,↓reduceIte]))
      refine hmg.out.mono ?_
      rintro e7 w7 ⟨rfl,v7,hE,hb7,hm7⟩
      have HS7:=Lib.hid (HS6.out.s0 hm7 hb7)
      obtain ⟨t1,u1,hu1⟩:=hE.err.iface
      have HE:=Lib.hid hE
      have hc:=hE.dec.cell
      have hf:=hE.dec.frozen
      have HU:=Lib.hid hu1
      clear hE hm7 hb7 hmg
      go_simp
      (repeat (first|(with_reducible first|refine zA fun K hK=>?_|refine zB ?_|refine zC ?_)|((with_reducible first|refine zD rfl fun K hK=>?_|refine zE fun K hK=>?_);go_simp)|(with_reducible first|((repeat ((fail_if_success refine hK _ _ ?_);clear hK K));refine hK _ _ ?_;clear hK K)|refine zt ?_|refine zf ?_|refine zG ?_|refine zR ?_|refine zK ?_|refine zL ?_|refine zN ?_|refine zS ?_)|simp only [Exit.then,Exit.inBlock,Exit.noGoto,↓reduceIte,Nat.reduceEqDiff]|simp only [undef,reduceCtorEq,↓reduceIte]))
      ((refine wp_keep [0] (fun f=>?_);simp only [keep_cons,keep_nil,lk_cons,lk_nil,Nat.reduceEqDiff,↓reduceIte]);go_quiet (fail);(repeat (first|(with_reducible first|refine zA fun K hK=>?_|refine zB ?_|refine zC ?_)|((with_reducible first|refine zD rfl fun K hK=>?_|refine zE fun K hK=>?_);go_simp)|(with_reducible first|((repeat ((fail_if_success refine hK _ _ ?_);clear hK K));refine hK _ _ ?_;clear hK K)|refine zt ?_|refine zf ?_|refine zG ?_|refine zR ?_|refine zK ?_|refine zL ?_|refine zN ?_|refine zS ?_)|simp only [Exit.then,Exit.inBlock,Exit.noGoto,↓reduceIte,Nat.reduceEqDiff]|simp only [undef,reduceCtorEq,↓reduceIte]));refine Q_keep [2,3] (fun f=>?_);simp only [keep_cons,keep_nil,lk_cons,lk_nil,Nat.reduceEqDiff,↓reduceIte])
      exact HQ.out f _ _ _ ⟨v7,HS7.out.drawn _,by rw [HRES2.out];exact ⟨rfl,HU.out.symm,HE.out.drewN _⟩⟩
    | cons b r=>
      have hmg:=Lib.hid (mustgetc_some x HX.out.toOk c HD.out w6 v6 b r e6 bf H6.out)
      (repeat (first|(with_reducible first|refine zA fun K hK=>?_|refine zB ?_|refine zC ?_)|((with_reducible first|refine zD rfl fun K hK=>?_|refine zE fun K hK=>?_);go_simp)|(with_reducible first|((repeat ((fail_if_success refine hK _ _ ?_);clear hK K));refine hK _ _ ?_;clear hK K)|refine zt ?_|refine zf ?_|refine zG ?_|refine zR ?_|refine zK ?_|refine zL ?_|refine zN ?_|refine zS ?_)|simp only [Exit.then,Exit.inBlock,Exit.noGoto,↓reduceIte,Nat.reduceEqDiff]|simp only [undef,reduceCtorEq,↓reduceIte]))
      refine hmg.out.mono ?_
      rintro e7 w7 ⟨rfl,v7,h7,hn7,hb7,hm7,hz7⟩
      have HS7:=Lib.hid (HS6.out.s0 hm7 hb7)
      have HR7:=Lib.hid h7
      clear h7 hn7 hb7 hm7 hz7 hmg
      by_cases hb:b=p
      · subst hb
        have HSE2:=Lib.hid (show secL x.o cdB rest=secL x.o (cdB.drop (i + 1)) r by
          rw [HSE.out,HDROP.out];unfold secL;conv=>lhs;unfold matchL
          rw [if_pos rfl])
        go_simp
        (repeat (first|(with_reducible first|refine zA fun K hK=>?_|refine zB ?_|refine zC ?_)|((with_reducible first|refine zD rfl fun K hK=>?_|refine zE fun K hK=>?_);go_simp)|(with_reducible first|((repeat ((fail_if_success refine hK _ _ ?_);clear hK K));refine hK _ _ ?_;clear hK K)|refine zt ?_|refine zf ?_|refine zG ?_|refine zR ?_|refine zK ?_|refine zL ?_|refine zN ?_|refine zS ?_)|simp only [Exit.then,Exit.inBlock,Exit.noGoto,↓reduceIte,Nat.reduceEqDiff]|simp only [undef,reduceCtorEq,↓reduceIte]))
        (refine K_keep [0,19] (fun f=>?_);simp only [keep_cons,keep_nil,lk_cons,lk_nil,Nat.reduceEqDiff,↓reduceIte])
        exact HK2.out _ _ ⟨6 - (i + 1),by rw [HK.out];omega,HJ.out _ _ _ ⟨f,v7,r,i + 1,none,bf,rfl,HR7.out,HS7.out,rfl,by omega,HSE2.out⟩⟩
      · have hbb:((b.toNat:Int) == (p.toNat:Int))=false:=u8ne hb rfl
        have hbb2:((b.toNat:Int) != (p.toNat:Int))=true:=u8bne hb rfl
        have HRES2:=Lib.hid (show secL x.o cdB rest=.error .syn by
          rw [HSE.out,HDROP.out];unfold secL;unfold matchL;rw [if_neg hb])
        have HSY:=Lib.hid (fun msg=>synErr_g HX.out.toOk HR7.out msg)
        clear hb
        go_simp
        (repeat (first|(with_reducible first|refine zA fun K hK=>?_|refine zB ?_|refine zC ?_)|((with_reducible first|refine zD rfl fun K hK=>?_|refine zE fun K hK=>?_);go_simp)|(with_reducible first|((repeat ((fail_if_success refine hK _ _ ?_);clear hK K));refine hK _ _ ?_;clear hK K)|refine zt ?_|refine zf ?_|refine zG ?_|refine zR ?_|refine zK ?_|refine zL ?_|refine zN ?_|refine zS ?_)|simp only [Exit.then,Exit.inBlock,Exit.noGoto,↓reduceIte,Nat.reduceEqDiff]|simp only [undef,reduceCtorEq,↓reduceIte]))
        refine (HSY.out _).mono ?_
        rintro e5 w9 ⟨a9,rfl,hS⟩
        have hc2:=hS.dec.cell
        have hf2:=hS.dec.frozen
        have HS:=Lib.hid hS
        clear hS
        go_simp
        (repeat (first|(with_reducible first|refine zA fun K hK=>?_|refine zB ?_|refine zC ?_)|((with_reducible first|refine zD rfl fun K hK=>?_|refine zE fun K hK=>?_);go_simp)|(with_reducible first|((repeat ((fail_if_success refine hK _ _ ?_);clear hK K));refine hK _ _ ?_;clear hK K)|refine zt ?_|refine zf ?_|refine zG ?_|refine zR ?_|refine zK ?_|refine zL ?_|refine zN ?_|refine zS ?_)|simp only [Exit.then,Exit.inBlock,Exit.noGoto,↓reduceIte,Nat.reduceEqDiff]|simp only [undef,reduceCtorEq,↓reduceIte]))
        ((refine wp_keep [0] (fun f=>?_);simp only [keep_cons,keep_nil,lk_cons,lk_nil,Nat.reduceEqDiff,↓reduceIte]);go_quiet (fail);(repeat (first|(with_reducible first|refine zA fun K hK=>?_|refine zB ?_|refine zC ?_)|((with_reducible first|refine zD rfl fun K hK=>?_|refine zE fun K hK=>?_);go_simp)|(with_reducible first|((repeat ((fail_if_success refine hK _ _ ?_);clear hK K));refine hK _ _ ?_;clear hK K)|refine zt ?_|refine zf ?_|refine zG ?_|refine zR ?_|refine zK ?_|refine zL ?_|refine zN ?_|refine zS ?_)|simp only [Exit.then,Exit.inBlock,Exit.noGoto,↓reduceIte,Nat.reduceEqDiff]|simp only [undef,reduceCtorEq,↓reduceIte]));refine Q_keep [2,3] (fun f=>?_);simp only [keep_cons,keep_nil,lk_cons,lk_nil,Nat.reduceEqDiff,↓reduceIte])
        exact HQ.out f _ _ _ ⟨_,(HS7.out.trans HS.out.stp).drawn _,by rw [HRES2.out];exact ⟨rfl,rfl,HS.out.err.drewN _⟩⟩
end Go.Proofs.YtkjnockljapnbaaGreatDoor
namespace Go.Proofs.YtkjnockljapnbaaGreatDoor
open Go Go.RowKit
theorem RdS.len {x:Cx} {c:DC} {w:World} {v:DV} {rest:Bs} {e:Option EK} {buf:Bs} (h:RdS x c w v rest e buf) (hx:x.Ok):rest.length ≤ 1000000000:=Nat.le_trans (h.suf.length_le) hx.len
def SkInv (x:Cx) (c:DC) (w0:World) (v0:DV) (l0:Bs) (bf:Bs) (v21 v22:Value) (k:Nat) (a:Act) (w:World):Prop:=
  ∃ f v rest b0 b1 e,a=fr 731 f [(0,decP x),(21,v21),(22,v22),(26,.int .u8 (UInt8.toNat b0)),(27,.int .u8 (UInt8.toNat b1))]∧RdS x c w v rest e bf∧Stp x w0 v0 w v∧k=rest.length ∧
    skipComL x.o.fails l0 0 0=skipComL x.o.fails rest b0 b1
theorem dirSkip (x:Cx) (hx:x.All) (c:DC) (hdc:DcOk x c) (w:World) (v:DV) (rest:Bs) (bf:Bs) (hl:bf.length ≤ 10000000000000) (h:RdS x c w v rest none (bf ++ [60])) (v21 v22:Value) (Q:Exit → Act → World → Prop)
    (hok:∀ r4,skipComL x.o.fails rest 0 0=.ok r4 → ∀ f w' v',RdS x c w' v' r4 none (bf ++ [32]) → Stp x w v w' v' → Q .normal (fr 731 f [(0,decP x),(21,v21),(22,v22)]) w')
    (hbad:∀ k,skipComL x.o.fails rest 0 0=.error k → ∀ f w' v',ErrS x c w' v' k → Stp x w v w' v' → Q .ret (fr 731 f [(2,.nilIface),(3,v'.err)]) w') (f:Nat → Value) :
    (rwCode 143).wp Tryz.prog Q (fr 731 f [(0,decP x),(21,v21),(22,v22)]) w:=by
  have HX:=Lib.hid hx
  have HD:=Lib.hid hdc
  have HOK:=Lib.hid hok
  have HBAD:=Lib.hid hbad
  have H:=Lib.hid h
  have HL:=Lib.hid hl
  have hlen:=Lib.hid (fun k=>len_c x c (w.drewN k) v rest none _ (h.drewN hx.toOk k))
  have htr:=Lib.hid (fun k=>truncate_c x hx.toOk c (w.drewN k) v rest none _ (h.drewN hx.toOk k) bf.length (by simp))
  have hsub:IntKind.i64.wrap ((bf.length:Int) + 1 - 1)=(bf.length:Int):=by rw [IntKind.wrap_i64];omega
  have hsub2:IntKind.i64.wrap (bf.length:Int)=(bf.length:Int):=by rw [IntKind.wrap_i64];omega
  have hll:(bf ++ [(60:UInt8)]).length=bf.length + 1:=by simp
  rw [hll] at hlen
  clear hx hdc hok hbad h hl hll
  unfold rwCode
  conv=>arg 2;whnf
  (repeat (first|(with_reducible first|refine zA fun K hK=>?_|refine zB ?_|refine zC ?_)|((with_reducible first|refine zD rfl fun K hK=>?_|refine zE fun K hK=>?_);go_simp)|(with_reducible first|((repeat ((fail_if_success refine hK _ _ ?_);clear hK K));refine hK _ _ ?_;clear hK K)|refine zt ?_|refine zf ?_|refine zG ?_|refine zR ?_|refine zK ?_|refine zL ?_|refine zN ?_|refine zS ?_)|simp only [Exit.then,Exit.inBlock,Exit.noGoto,↓reduceIte,Nat.reduceEqDiff]|simp only [undef,reduceCtorEq,↓reduceIte]))
  (refine wp_region_pi [0,0,0,0,0,0,2,0,2] [0,1,2,3,4,5,6,7,8] (by kernel_rfl) (by kernel_rfl) ?_;repeat (first|(with_reducible refine wpPi_nil (fun nq=>?_))|((with_reducible refine wpPi_free rfl rfl (fun K hK=>?_));go_simp;refine hK _ ?_;clear hK K)|((with_reducible refine wpPi_quiet rfl rfl (fun K hK=>?_));go_simp;refine hK _ ?_;clear hK K)|((with_reducible refine wpPi_eff rfl rfl (fun nq K hK=>?_));go_simp;refine hK.out _ _ ?_;clear hK K)))
  (refine wpPi_eff rfl rfl (fun nq K hK=>?_);go_simp)
  refine (hlen.out _).mono ?_
  rintro e1 w1 ⟨rfl,k1,rfl⟩
  (go_simp;refine hK.out _ _ ?_;clear hK K)
  (repeat (first|(with_reducible refine wpPi_nil (fun nq=>?_))|((with_reducible refine wpPi_free rfl rfl (fun K hK=>?_));go_simp;refine hK _ ?_;clear hK K)|((with_reducible refine wpPi_quiet rfl rfl (fun K hK=>?_));go_simp;refine hK _ ?_;clear hK K)|((with_reducible refine wpPi_eff rfl rfl (fun nq K hK=>?_));go_simp;refine hK.out _ _ ?_;clear hK K)))
  (refine wpPi_eff rfl rfl (fun nq K hK=>?_);go_simp)
  refine (htr.out _).mono ?_
  rintro e2 w2 ⟨rfl,v2,h2,hn2,hb2,hm2,hz2⟩
  have HR2:=Lib.hid (show RdS x c w2 v2 rest none bf by rw [List.take_left'] at h2;exact h2;rfl)
  have HS2:=Lib.hid ((Stp.drewN _).trans (Stp.ofS0 hm2 hb2))
  clear h2 hn2 hb2 hm2 hz2 hlen htr hsub hsub2
  (go_simp;refine hK.out _ _ ?_;clear hK K)
  (repeat (first|(with_reducible refine wpPi_nil (fun nq=>?_))|((with_reducible refine wpPi_free rfl rfl (fun K hK=>?_));go_simp;refine hK _ ?_;clear hK K)|((with_reducible refine wpPi_quiet rfl rfl (fun K hK=>?_));go_simp;refine hK _ ?_;clear hK K)|((with_reducible refine wpPi_eff rfl rfl (fun nq K hK=>?_));go_simp;refine hK.out _ _ ?_;clear hK K)))
  (repeat (first|(with_reducible first|refine zA fun K hK=>?_|refine zB ?_|refine zC ?_)|((with_reducible first|refine zD rfl fun K hK=>?_|refine zE fun K hK=>?_);go_simp)|(with_reducible first|((repeat ((fail_if_success refine hK _ _ ?_);clear hK K));refine hK _ _ ?_;clear hK K)|refine zt ?_|refine zf ?_|refine zG ?_|refine zR ?_|refine zK ?_|refine zL ?_|refine zN ?_|refine zS ?_)|simp only [Exit.then,Exit.inBlock,Exit.noGoto,↓reduceIte,Nat.reduceEqDiff]|simp only [undef,reduceCtorEq,↓reduceIte]))
  (refine wp_keep [0,21,22,26,27] (fun f=>?_);simp only [keep_cons,keep_nil,lk_cons,lk_nil,Nat.reduceEqDiff,↓reduceIte])
  have HR3:=Lib.hid (HR2.out.drewN HX.out.toOk nq)
  have HS3:=Lib.hid (HS2.out.drawn nq)
  generalize w2.drewN nq=w3 at HR3 HS3 ⊢
  clear HR2 HS2
  refine wp_loop_ghost_k (SkInv x c w v rest bf v21 v22) rest.length ⟨f,v2,rest,0,0,none,rfl,HR3.out,HS3.out,rfl,rfl⟩ ?_
  rintro k _ w6 ⟨f,v6,rest6,b0,b1,e6,rfl,h6,hs6,hk,hsk⟩ J K2 hJ hK2
  have HJ:=Lib.hid hJ
  have HK2:=Lib.hid hK2
  have HS6:=Lib.hid hs6
  have HK:=Lib.hid hk
  have HSK:=Lib.hid hsk
  clear hJ hK2 hs6 hk hsk
  cases rest6 with
  | nil=>
    have hmg:=Lib.hid (mustgetc_none x HX.out.toOk c HD.out w6 v6 e6 bf h6)
    clear h6
    (repeat (first|(with_reducible first|refine zA fun K hK=>?_|refine zB ?_|refine zC ?_)|((with_reducible first|refine zD rfl fun K hK=>?_|refine zE fun K hK=>?_);go_simp)|(with_reducible first|((repeat ((fail_if_success refine hK _ _ ?_);clear hK K));refine hK _ _ ?_;clear hK K)|refine zt ?_|refine zf ?_|refine zG ?_|refine zR ?_|refine zK ?_|refine zL ?_|refine zN ?_|refine zS ?_)|simp only [Exit.then,Exit.inBlock,Exit.noGoto,↓reduceIte,Nat.reduceEqDiff]|simp only [undef,reduceCtorEq,↓reduceIte]))
    refine hmg.out.mono ?_
    rintro e7 w7 ⟨rfl,v7,hE,hb7,hm7⟩
    have HS7:=Lib.hid (HS6.out.s0 hm7 hb7)
    obtain ⟨t1,u1,hu1⟩:=hE.err.iface
    have HE:=Lib.hid hE
    have hc:=hE.dec.cell
    have hf:=hE.dec.frozen
    have HU:=Lib.hid hu1
    clear hE hm7 hb7 hmg
    go_simp
    (repeat (first|(with_reducible first|refine zA fun K hK=>?_|refine zB ?_|refine zC ?_)|((with_reducible first|refine zD rfl fun K hK=>?_|refine zE fun K hK=>?_);go_simp)|(with_reducible first|((repeat ((fail_if_success refine hK _ _ ?_);clear hK K));refine hK _ _ ?_;clear hK K)|refine zt ?_|refine zf ?_|refine zG ?_|refine zR ?_|refine zK ?_|refine zL ?_|refine zN ?_|refine zS ?_)|simp only [Exit.then,Exit.inBlock,Exit.noGoto,↓reduceIte,Nat.reduceEqDiff]|simp only [undef,reduceCtorEq,↓reduceIte]))
    ((refine wp_keep [0] (fun f=>?_);simp only [keep_cons,keep_nil,lk_cons,lk_nil,Nat.reduceEqDiff,↓reduceIte]);go_quiet (fail);(repeat (first|(with_reducible first|refine zA fun K hK=>?_|refine zB ?_|refine zC ?_)|((with_reducible first|refine zD rfl fun K hK=>?_|refine zE fun K hK=>?_);go_simp)|(with_reducible first|((repeat ((fail_if_success refine hK _ _ ?_);clear hK K));refine hK _ _ ?_;clear hK K)|refine zt ?_|refine zf ?_|refine zG ?_|refine zR ?_|refine zK ?_|refine zL ?_|refine zN ?_|refine zS ?_)|simp only [Exit.then,Exit.inBlock,Exit.noGoto,↓reduceIte,Nat.reduceEqDiff]|simp only [undef,reduceCtorEq,↓reduceIte]));refine Q_keep [2,3] (fun f=>?_);simp only [keep_cons,keep_nil,lk_cons,lk_nil,Nat.reduceEqDiff,↓reduceIte])
    rw [← HU.out]
    exact HBAD.out _ (by rw [HSK.out];rfl) f _ v7 (HE.out.drewN _) (HS7.out.drawn _)
  | cons b r=>
    have hmg:=Lib.hid (mustgetc_some x HX.out.toOk c HD.out w6 v6 b r e6 bf h6)
    clear h6
    (repeat (first|(with_reducible first|refine zA fun K hK=>?_|refine zB ?_|refine zC ?_)|((with_reducible first|refine zD rfl fun K hK=>?_|refine zE fun K hK=>?_);go_simp)|(with_reducible first|((repeat ((fail_if_success refine hK _ _ ?_);clear hK K));refine hK _ _ ?_;clear hK K)|refine zt ?_|refine zf ?_|refine zG ?_|refine zR ?_|refine zK ?_|refine zL ?_|refine zN ?_|refine zS ?_)|simp only [Exit.then,Exit.inBlock,Exit.noGoto,↓reduceIte,Nat.reduceEqDiff]|simp only [undef,reduceCtorEq,↓reduceIte]))
    refine hmg.out.mono ?_
    rintro e7 w7 ⟨rfl,v7,h7,hn7,hb7,hm7,hz7⟩
    have HS7:=Lib.hid (HS6.out.s0 hm7 hb7)
    have HR7:=Lib.hid h7
    clear h7 hn7 hb7 hm7 hz7 hmg
    have hcs:(((b0.toNat:Int) == 45)=false∧b0 ≠ 45) ∨ (((b0.toNat:Int) == 45)=true∧b0=45∧((b1.toNat:Int) == 45)=false∧b1 ≠ 45) ∨ (((b0.toNat:Int) == 45)=true∧b0=45∧((b1.toNat:Int) == 45)=true∧b1=45∧((b.toNat:Int) == 62)=false∧b ≠ 62) ∨ (((b0.toNat:Int) == 45)=true∧b0=45∧((b1.toNat:Int) == 45)=true∧b1=45∧((b.toNat:Int) == 62)=true∧b=62):=by
      by_cases h0:b0=45
      · subst h0
        by_cases h1:b1=45
        · subst h1
          by_cases h2:b=62
          · subst h2;exact Or.inr (Or.inr (Or.inr ⟨rfl,rfl,rfl,rfl,rfl,rfl⟩))
          · exact Or.inr (Or.inr (Or.inl ⟨rfl,rfl,rfl,rfl,u8ne h2 rfl,h2⟩))
        · exact Or.inr (Or.inl ⟨rfl,rfl,u8ne h1 rfl,h1⟩)
      · exact Or.inl ⟨u8ne h0 rfl,h0⟩
    rcases hcs with ⟨c0,c0'⟩|⟨c0,c0',c1,c1'⟩|⟨c0,c0',c1,c1',c2,c2'⟩|⟨c0,c0',c1,c1',c2,c2'⟩
    case inr.inr.inr=>
      have HRES:=Lib.hid (show skipComL x.o.fails rest 0 0=.ok r by rw [HSK.out];unfold skipComL;rw [if_pos ⟨c0',c1',c2'⟩])
      have hwb:=Lib.hid (writeByte_k x HX.out.toOk c w7 v7 r none bf HR7.out 32 (by have:=HL.out;omega))
      go_simp
      (repeat (first|(with_reducible first|refine zA fun K hK=>?_|refine zB ?_|refine zC ?_)|((with_reducible first|refine zD rfl fun K hK=>?_|refine zE fun K hK=>?_);go_simp)|(with_reducible first|((repeat ((fail_if_success refine hK _ _ ?_);clear hK K));refine hK _ _ ?_;clear hK K)|refine zt ?_|refine zf ?_|refine zG ?_|refine zR ?_|refine zK ?_|refine zL ?_|refine zN ?_|refine zS ?_)|simp only [Exit.then,Exit.inBlock,Exit.noGoto,↓reduceIte,Nat.reduceEqDiff]|simp only [undef,reduceCtorEq,↓reduceIte]))
      refine hwb.out.mono ?_
      rintro e8 w8 ⟨rfl,v8,⟨h8,hn8,hs8⟩,_⟩
      have HS8:=Lib.hid (HS7.out.trans hs8)
      have HR8:=Lib.hid h8
      clear h8 hn8 hs8 hwb
      go_simp
      (repeat (first|(with_reducible first|refine zA fun K hK=>?_|refine zB ?_|refine zC ?_)|((with_reducible first|refine zD rfl fun K hK=>?_|refine zE fun K hK=>?_);go_simp)|(with_reducible first|((repeat ((fail_if_success refine hK _ _ ?_);clear hK K));refine hK _ _ ?_;clear hK K)|refine zt ?_|refine zf ?_|refine zG ?_|refine zR ?_|refine zK ?_|refine zL ?_|refine zN ?_|refine zS ?_)|simp only [Exit.then,Exit.inBlock,Exit.noGoto,↓reduceIte,Nat.reduceEqDiff]|simp only [undef,reduceCtorEq,↓reduceIte]))
      refine Q_keep [0,21,22] (fun f=>?_);simp only [keep_cons,keep_nil,lk_cons,lk_nil,Nat.reduceEqDiff,↓reduceIte]
      exact HOK.out r HRES.out f w8 v8 HR8.out HS8.out
    all_goals
      have HCN:=Lib.hid (show ¬ (b0=45∧b1=45∧b=62) by first|exact fun hh=>c0' hh.1|exact fun hh=>c1' hh.2.1|exact fun hh=>c2' hh.2.2)
      go_simp
      (repeat (first|(with_reducible first|refine zA fun K hK=>?_|refine zB ?_|refine zC ?_)|((with_reducible first|refine zD rfl fun K hK=>?_|refine zE fun K hK=>?_);go_simp)|(with_reducible first|((repeat ((fail_if_success refine hK _ _ ?_);clear hK K));refine hK _ _ ?_;clear hK K)|refine zt ?_|refine zf ?_|refine zG ?_|refine zR ?_|refine zK ?_|refine zL ?_|refine zN ?_|refine zS ?_)|simp only [Exit.then,Exit.inBlock,Exit.noGoto,↓reduceIte,Nat.reduceEqDiff]|simp only [undef,reduceCtorEq,↓reduceIte]))
      (refine K_keep [0,21,22,26,27] (fun f=>?_);simp only [keep_cons,keep_nil,lk_cons,lk_nil,Nat.reduceEqDiff,↓reduceIte])
      refine HK2.out _ _ ⟨r.length,by rw [HK.out];simp,HJ.out _ _ _ ⟨f,v7,r,b1,b,none,by first|rfl|(subst c1';rfl),HR7.out,HS7.out,rfl,?_⟩⟩
      rw [HSK.out];conv=>lhs;unfold skipComL
      rw [if_neg HCN.out]
end Go.Proofs.YtkjnockljapnbaaGreatDoor
