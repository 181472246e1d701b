/- Part of the proof that laws.FnBalanced returns true for every argument (Tz, Ua, Ub, Va, Vb, Vc). No condition of its own. -/
import Derived.Test.YtkjnockljapnbaaGreatDoorO16
set_option linter.all false
set_option maxHeartbeats 8000000
set_option maxRecDepth 100000
namespace Go.Proofs.YtkjnockljapnbaaGreatDoor
open Go Go.RowKit
theorem decN_le (n b0 b1 b2 b3:Nat) (hn:1 ≤ n):(Lib.decodeN n b0 b1 b2 b3).2 ≤ n:=by
  unfold Lib.decodeN
  repeat' split
  all_goals (simp only;omega)
theorem decL_wid (l:Bs) (h:l ≠ []):(decL l).2 ≤ l.length:=by
  have hs:(⟨l.toArray⟩:ByteArray).size=l.length:=rfl
  have hn:0 < l.length:=List.length_pos_iff.2 h
  unfold decL Lib.decodeGoB
  rw [hs,if_neg (by omega),Lib.decode_at]
  exact decN_le _ _ _ _ _ (by rw [hs];omega)
def Brk (b0 b1:UInt8) (buf:Bs):Prop:=(b1=93 → 1 ≤ buf.length)∧(b0=93∧b1=93 → 2 ≤ buf.length)
theorem txNext_on {o:Opt} (ho:o.ents=none) {q:Option UInt8} {cd:Bool} {rest:Bs} {b0 b1:UInt8} {buf r':Bs} {b0' b1':UInt8} {buf':Bs} (h:txNext o q cd rest b0 b1 buf=.on r' b0' b1' buf') (hb:Brk b0 b1 buf) :
    r'.length < rest.length∧buf'.length + 8 * r'.length ≤ buf.length + 8 * rest.length∧Brk b0' b1' buf':=by
  unfold txNext at h
  split at h
  · split at h <;> cases h
  · rename_i b r
    split at h
    · split at h <;> cases h
    · split at h
      · split at h <;> cases h
      · split at h
        · cases h
        · split at h
          · split at h
            · cases h
            · rename_i r2 b2 hr
              simp only [TxRes.on.injEq] at h
              obtain ⟨rfl,rfl,rfl,rfl⟩:=h
              have hz:Brk 0 0 b2:=⟨fun h=>absurd h (by decide),fun h=>absurd h.1 (by decide)⟩
              unfold refStep at hr
              rw [ho] at hr
              split at hr
              · cases hr
              · rename_i raw t r3 hh
                simp only [Except.ok.injEq,Prod.mk.injEq] at hr
                obtain ⟨rfl,rfl⟩:=hr
                have h1:=refL_len hh
                have h2:=refL_t hh
                simp
                exact ⟨by omega,by omega,hz⟩
              · rename_i raw r3 hh
                split at hr
                · cases hr
                · simp only [Except.ok.injEq,Prod.mk.injEq] at hr
                  obtain ⟨rfl,rfl⟩:=hr
                  have h1:=refL_len hh
                  have h2:=refL_rawlen hh
                  simp
                  exact ⟨by omega,by omega,hz⟩
          · simp only [TxRes.on.injEq] at h
            obtain ⟨rfl,rfl,rfl,rfl⟩:=h
            unfold txStep
            obtain ⟨ha,hb2⟩:=hb
            refine ⟨by simp,?_,?_,?_⟩
            · split
              · simp;omega
              · split <;> simp <;> omega
            · intro h93
              subst h93
              rw [if_neg (by decide),if_neg (by rintro ⟨_,h⟩;revert h;decide)]
              simp
            · rintro ⟨h93,h94⟩
              subst h94
              rw [if_neg (by decide),if_neg (by rintro ⟨_,h⟩;revert h;decide)]
              have:=ha h93
              simp;omega
theorem txNext_stop {o:Opt} {q:Option UInt8} {cd:Bool} {rest:Bs} {b0 b1:UInt8} {buf r':Bs} {n:Nat} {e':Option EK} {buf':Bs} (h:txNext o q cd rest b0 b1 buf=.stop n r' e' buf') (hb:Brk b0 b1 buf) :
    n ≤ buf'.length∧buf'=buf∧(q=none → cd=false → r'=[] → e'=some (endE o.fails))∧((b0=0∧b1=0) → q=none → cd=false∧(rest=[] ∨ ∃ r,rest=60 :: r)):=by
  unfold txNext at h
  split at h
  · split at h
    · cases h
    · simp only [TxRes.stop.injEq] at h
      obtain ⟨rfl,rfl,rfl,rfl⟩:=h
      rename_i hcd
      exact ⟨Nat.zero_le _,rfl,fun _ _ _=>rfl,fun _ _=>⟨by simpa using hcd,Or.inl rfl⟩⟩
  · rename_i b r
    split at h
    · rename_i hk
      split at h
      · simp only [TxRes.stop.injEq] at h
        obtain ⟨rfl,rfl,rfl,rfl⟩:=h
        rename_i hcd
        refine ⟨hb.2 ⟨hk.2.1,hk.2.2.1⟩,rfl,(fun _ hc=>by rw [hcd] at hc;cases hc),fun hz=>?_⟩
        rw [hz.1] at hk
        exact absurd hk.2.1 (by decide)
      · cases h
    · split at h
      · rename_i hk
        split at h
        · simp only [TxRes.stop.injEq] at h
          obtain ⟨rfl,rfl,rfl,rfl⟩:=h
          exact ⟨Nat.zero_le _,rfl,(fun _ _ h=>by cases h),fun _ _=>⟨hk.2,Or.inr ⟨r,by rw [hk.1]⟩⟩⟩
        · cases h
      · split at h
        · rename_i hk
          simp only [TxRes.stop.injEq] at h
          obtain ⟨rfl,rfl,rfl,rfl⟩:=h
          exact ⟨Nat.zero_le _,rfl,(fun hq=>by rw [hq] at hk;cases hk),(fun _ hq=>by rw [hq] at hk;cases hk)⟩
        · split at h
          · split at h <;> cases h
          · cases h
end Go.Proofs.YtkjnockljapnbaaGreatDoor
namespace Go.Proofs.YtkjnockljapnbaaGreatDoor
open Go Go.RowKit
def TfInv (x:Cx) (w1:World) (g:Nat) (dv:Value) (d:Bs) (m:Nat) (a:Act) (w:World):Prop:=
  ∃ f off l cp k,a=fr 381 f [(0,decP x),(26,dv),(27,.slice (some ⟨g,off,none⟩) l.length cp)]∧Below w1.heap.size w1 w∧BytesAt w g off l∧l.length ≤ cp∧cp ≤ 9223372036854775807∧l.length ≤ k∧charsL d=charsFrom k l∧m=l.length
theorem charsFrom_nil (k:Nat):charsFrom k []=true:=by cases k <;> simp [charsFrom]
theorem textFin (x:Cx) (hx:x.All) (c:DC) (w:World) (v:DV) (r:Bs) (e:Option EK) (b:Bs) (n:Nat) (h:RdS x c w v r e b) (hnn:NonNil v) (hnb:n ≤ b.length) (hl:b.length ≤ 10000000000000) (Q:Exit → Act → World → Prop)
    (hok:charsL (b.take (b.length - n))=true → ∀ g cap,v.bufv=.slice (some ⟨g,0,none⟩) b.length cap → ∀ f w',RdS x c w' v r e b → Stp x w v w' v → Q .ret (fr 381 f [(6,.slice (some ⟨g,0,none⟩) (b.length - n:Nat) cap)]) w')
    (hbad:charsL (b.take (b.length - n))=false → ∀ f w' v',ErrS x c w' v' .syn → Stp x w v w' v' → Q .ret (fr 381 f [(6,.slice none 0 0)]) w') (f:Nat → Value) :
    (txCode 91).wp Tryz.prog Q (fr 381 f [(0,decP x),(9,.int .i64 n)]) w:=by
  obtain ⟨g,cap,hv,hby,hlc,hcm⟩:∃ g cap,v.bufv=.slice (some ⟨g,0,none⟩) b.length cap∧BytesAt w g 0 b∧b.length ≤ cap∧cap ≤ 9223372036854775807:=by
    rcases h.bf with ⟨hv,_⟩|⟨g,cap,arr,hv,hg,hsz,hl,hcp,hB,hS,hel⟩
    · exact absurd hv hnn.ne
    · exact ⟨g,cap,hv,fun j hj=>by rw [Nat.zero_add,hg.cell];exact hel j hj,hl,hcp⟩
  have hbd:=Lib.hid (bytes_c x c w v r e b h)
  have HX:=Lib.hid hx
  have H:=Lib.hid h
  have HOK:=Lib.hid (hok · g cap hv)
  have HBAD:=Lib.hid hbad
  have hd:BytesAt w g 0 (b.take (b.length - n)):=by
    intro j hj
    rw [List.length_take] at hj
    rw [hby j (by omega)]
    simp only [List.getD_eq_getElem?_getD,List.getElem?_take]
    rw [if_pos (by omega)]
  obtain ⟨d,hdd⟩:∃ d,d=b.take (b.length - n):=⟨_,rfl⟩
  have hdl:d.length=b.length - n:=by rw [hdd,List.length_take];omega
  rw [← hdd] at HOK HBAD hd
  obtain ⟨B,hB⟩:∃ B,B=b.length:=⟨_,rfl⟩
  rw [← hB] at hdl hl hlc hnb hv
  rw [hv] at hbd
  have HDL:=Lib.hid hdl
  have hsub:IntKind.i64.wrap ((B:Int) - (n:Int))=(d.length:Int):=by rw [IntKind.wrap_i64];omega
  have d0:(0:Int) ≤ (d.length:Int):=by omega
  have d1:(d.length:Int) ≤ (cap:Int):=by omega
  have HD:=Lib.hid hd
  have hdc2:d.length ≤ cap:=by omega
  rw [← hB] at HOK
  rw [← hdl] at HOK
  clear hok hbad h hx hnn hby hdd hB hdl hd hv
  unfold txCode
  conv=>arg 2;whnf
  (repeat (first|(with_reducible first|refine zA fun K hK=>?_|refine zB ?_|refine zC ?_)|((with_reducible first|refine zD rfl fun K hK=>?_|refine zE fun K hK=>?_);go_simp)|(with_reducible first|((repeat ((fail_if_success refine hK _ _ ?_);clear hK K));refine hK _ _ ?_;clear hK K)|refine zt ?_|refine zf ?_|refine zG ?_|refine zR ?_|refine zK ?_|refine zL ?_|refine zN ?_|refine zS ?_)|simp only [Exit.then,Exit.inBlock,Exit.noGoto,↓reduceIte,Nat.reduceEqDiff]|simp only [undef,reduceCtorEq,↓reduceIte]))
  refine hbd.out.mono ?_
  rintro e1 w1 ⟨rfl,k1,rfl⟩
  go_simp
  (repeat (first|(with_reducible first|refine zA fun K hK=>?_|refine zB ?_|refine zC ?_)|((with_reducible first|refine zD rfl fun K hK=>?_|refine zE fun K hK=>?_);go_simp)|(with_reducible first|((repeat ((fail_if_success refine hK _ _ ?_);clear hK K));refine hK _ _ ?_;clear hK K)|refine zt ?_|refine zf ?_|refine zG ?_|refine zR ?_|refine zK ?_|refine zL ?_|refine zN ?_|refine zS ?_)|simp only [Exit.then,Exit.inBlock,Exit.noGoto,↓reduceIte,Nat.reduceEqDiff]|simp only [undef,reduceCtorEq,↓reduceIte]))
  (refine wp_keep [0,26,27] (fun f=>?_);simp only [keep_cons,keep_nil,lk_cons,lk_nil,Nat.reduceEqDiff,↓reduceIte])
  have HB1:=Lib.hid (show BytesAt (w.drewN k1) g 0 d from HD.out)
  have H1:=Lib.hid (H.out.drewN HX.out.toOk k1)
  have HS1:=Lib.hid (Stp.drewN (x:=x) (w:=w) (v:=v) k1)
  clear hsub hbd
  generalize w.drewN k1=w1 at HB1 H1 HS1 ⊢
  refine wp_loop_ghost_k (TfInv x w1 g (.slice (some ⟨g,0,none⟩) d.length cap) d) d.length ⟨f,0,d,cap,d.length,rfl,Below.refl _ _,HB1.out,hdc2,hcm,Nat.le_refl _,rfl,rfl⟩ ?_
  rintro m _ w2 ⟨f,off,l,cp,k,rfl,hbw,hbl,hlc2,hcm2,hk,hch,hm⟩ J K2 hJ hK2
  have HJ:=Lib.hid hJ
  have HK2:=Lib.hid hK2
  have HBW:=Lib.hid hbw
  have HBL:=Lib.hid hbl
  have HK:=Lib.hid hk
  have HCH:=Lib.hid hch
  have HM:=Lib.hid hm
  have H2:=Lib.hid (H1.out.below HX.out.toOk hbw)
  have HS2:=Lib.hid (HS1.out.s0 (mod_none hbw _) rfl)
  clear hJ hK2 hbw hbl hk hch hm
  by_cases hl0:l=[]
  · subst hl0
    (repeat (first|(with_reducible first|refine zA fun K hK=>?_|refine zB ?_|refine zC ?_)|((with_reducible first|refine zD rfl fun K hK=>?_|refine zE fun K hK=>?_);go_simp)|(with_reducible first|((repeat ((fail_if_success refine hK _ _ ?_);clear hK K));refine hK _ _ ?_;clear hK K)|refine zt ?_|refine zf ?_|refine zG ?_|refine zR ?_|refine zK ?_|refine zL ?_|refine zN ?_|refine zS ?_)|simp only [Exit.then,Exit.inBlock,Exit.noGoto,↓reduceIte,Nat.reduceEqDiff]|simp only [undef,reduceCtorEq,↓reduceIte]))
    refine Q_keep [6] (fun f=>?_);simp only [keep_cons,keep_nil,lk_cons,lk_nil,Nat.reduceEqDiff,↓reduceIte]
    exact HOK.out (by rw [HCH.out];exact charsFrom_nil k) f w2 H2.out HS2.out
  · have hne:=Lib.hid hl0
    have hpos:(0:Int) < (l.length:Int):=by have:=List.length_pos_iff.2 hl0;omega
    have hdr:=Lib.hid (dec_c l g off cp w2 (HX.out.tabs H2.out.base) HBL.out)
    have hwid:=decL_wid l hl0
    have hwp:=decL_pos l hl0
    obtain ⟨k',hk'⟩:∃ k',k=k' + 1:=⟨k - 1,by have:=HK.out;omega⟩
    subst hk'
    have hch2:charsL d=(if (decL l).1=65533∧(decL l).2=1 then false else if inRange (decL l).1 then charsFrom k' (l.drop (decL l).2) else false):=by
      rw [HCH.out]
      rw [charsFrom,if_neg hl0]
    have HCH2:=Lib.hid hch2
    clear hch2 hl0
    obtain ⟨rn,hrn⟩:∃ rn,rn=(decL l).1:=⟨_,rfl⟩
    obtain ⟨sz,hsz⟩:∃ sz,sz=(decL l).2:=⟨_,rfl⟩
    rw [← hrn] at hdr HCH2
    rw [← hsz] at hdr HCH2 hwid hwp
    clear hrn hsz
    have hz0:(0:Int) ≤ (sz:Int):=by omega
    have hz1:(sz:Int) ≤ (l.length:Int):=by omega
    have hz2:(l.length:Int) ≤ (cp:Int):=by omega
    have hbad:(((rn:Int) == 65533)=false) ∨ (((rn:Int) == 65533)=true∧((sz:Int) == 1)=false) ∨ (((rn:Int) == 65533)=true∧((sz:Int) == 1)=true):=by
      cases ((rn:Int) == 65533) <;> cases ((sz:Int) == 1) <;> simp
    (repeat (first|(with_reducible first|refine zA fun K hK=>?_|refine zB ?_|refine zC ?_)|((with_reducible first|refine zD rfl fun K hK=>?_|refine zE fun K hK=>?_);go_simp)|(with_reducible first|((repeat ((fail_if_success refine hK _ _ ?_);clear hK K));refine hK _ _ ?_;clear hK K)|refine zt ?_|refine zf ?_|refine zG ?_|refine zR ?_|refine zK ?_|refine zL ?_|refine zN ?_|refine zS ?_)|simp only [Exit.then,Exit.inBlock,Exit.noGoto,↓reduceIte,Nat.reduceEqDiff]|simp only [undef,reduceCtorEq,↓reduceIte]))
    refine hdr.out.mono ?_
    rintro e2 w3 ⟨rfl,hw3⟩
    have H3:=Lib.hid (H2.out.below HX.out.toOk hw3)
    have HS3:=Lib.hid (HS2.out.s0 (mod_none hw3 _) rfl)
    have HBW3:=Lib.hid (HBW.out.trans (hw3.mono HBW.out.size))
    have HBL3:=Lib.hid (HBL.out.below hw3)
    have HSY:=Lib.hid (fun msg=>synErr_w HX.out.toOk H3.out msg)
    clear hw3 hdr
    rcases hbad with hb|⟨hb,hb2⟩|⟨hb,hb2⟩
    case inr.inr=>
      go_simp
      (repeat (first|(with_reducible first|refine zA fun K hK=>?_|refine zB ?_|refine zC ?_)|((with_reducible first|refine zD rfl fun K hK=>?_|refine zE fun K hK=>?_);go_simp)|(with_reducible first|((repeat ((fail_if_success refine hK _ _ ?_);clear hK K));refine hK _ _ ?_;clear hK K)|refine zt ?_|refine zf ?_|refine zG ?_|refine zR ?_|refine zK ?_|refine zL ?_|refine zN ?_|refine zS ?_)|simp only [Exit.then,Exit.inBlock,Exit.noGoto,↓reduceIte,Nat.reduceEqDiff]|simp only [undef,reduceCtorEq,↓reduceIte]))
      refine (HSY.out _).mono ?_
      rintro e4 w4 ⟨rfl,hS⟩
      have hc2:=hS.dec.cell
      have hf2:=hS.dec.frozen
      have HS:=Lib.hid hS
      clear hS
      go_simp
      (repeat (first|(with_reducible first|refine zA fun K hK=>?_|refine zB ?_|refine zC ?_)|((with_reducible first|refine zD rfl fun K hK=>?_|refine zE fun K hK=>?_);go_simp)|(with_reducible first|((repeat ((fail_if_success refine hK _ _ ?_);clear hK K));refine hK _ _ ?_;clear hK K)|refine zt ?_|refine zf ?_|refine zG ?_|refine zR ?_|refine zK ?_|refine zL ?_|refine zN ?_|refine zS ?_)|simp only [Exit.then,Exit.inBlock,Exit.noGoto,↓reduceIte,Nat.reduceEqDiff]|simp only [undef,reduceCtorEq,↓reduceIte]))
      refine Q_keep [6] (fun f=>?_);simp only [keep_cons,keep_nil,lk_cons,lk_nil,Nat.reduceEqDiff,↓reduceIte]
      exact HBAD.out (by rw [HCH2.out, if_pos ⟨by have : (rn : Int) = 65533 := by simpa using hb
                                                  omega, by have : (sz : Int) = 1 := by simpa using hb2
                                                            omega⟩]) f _ _ HS.out.err (HS3.out.trans HS.out.stp)
    all_goals
      have HCH3:Hid (charsL d=if inRange rn then charsFrom k' (l.drop sz) else false):=by
        have:=HCH2.out
        rw [if_neg (by intro h;simp_all)] at this
        exact this
      have hir:=Lib.hid (inRange_c rn w3)
      go_simp
      (repeat (first|(with_reducible first|refine zA fun K hK=>?_|refine zB ?_|refine zC ?_)|((with_reducible first|refine zD rfl fun K hK=>?_|refine zE fun K hK=>?_);go_simp)|(with_reducible first|((repeat ((fail_if_success refine hK _ _ ?_);clear hK K));refine hK _ _ ?_;clear hK K)|refine zt ?_|refine zf ?_|refine zG ?_|refine zR ?_|refine zK ?_|refine zL ?_|refine zN ?_|refine zS ?_)|simp only [Exit.then,Exit.inBlock,Exit.noGoto,↓reduceIte,Nat.reduceEqDiff]|simp only [undef,reduceCtorEq,↓reduceIte]))
      refine hir.out.mono ?_
      rintro e4 w4 ⟨rfl,rfl⟩
      by_cases hin:inRange rn=true
      · rw [hin]
        have HN:=Lib.hid (show charsL d=charsFrom k' (l.drop sz) by rw [HCH3.out,if_pos hin])
        clear hin hir
        go_simp
        (repeat (first|(with_reducible first|refine zA fun K hK=>?_|refine zB ?_|refine zC ?_)|((with_reducible first|refine zD rfl fun K hK=>?_|refine zE fun K hK=>?_);go_simp)|(with_reducible first|((repeat ((fail_if_success refine hK _ _ ?_);clear hK K));refine hK _ _ ?_;clear hK K)|refine zt ?_|refine zf ?_|refine zG ?_|refine zR ?_|refine zK ?_|refine zL ?_|refine zN ?_|refine zS ?_)|simp only [Exit.then,Exit.inBlock,Exit.noGoto,↓reduceIte,Nat.reduceEqDiff]|simp only [undef,reduceCtorEq,↓reduceIte]))
        (refine K_keep [0,26,27] (fun f=>?_);simp only [keep_cons,keep_nil,lk_cons,lk_nil,Nat.reduceEqDiff,↓reduceIte])
        refine HK2.out _ _ ⟨(l.drop sz).length,by rw [HM.out,List.length_drop];omega,HJ.out _ _ _ ?_⟩
        by_cases hcz:cp=sz
        · have hlz:l.drop sz=[]:=List.drop_eq_nil_of_le (by omega)
          have hls:l.length - sz=0:=by omega
          refine ⟨f,off,[],cp - sz,k',?_,HBW3.out,fun j hj=>absurd hj (by simp),Nat.zero_le _,by omega,Nat.zero_le _,?_,by rw [hlz]⟩
          · rw [if_pos hcz,hls];rfl
          · rw [HN.out,hlz]
        · refine ⟨f,off + sz,l.drop sz,cp - sz,k',?_,HBW3.out,HBL3.out.drop sz,by rw [List.length_drop];omega,by omega,by have:=HK.out;rw [List.length_drop];omega,HN.out,rfl⟩
          rw [if_neg hcz,List.length_drop]
      · have hin':inRange rn=false:=by simpa using hin
        rw [hin']
        have HN:=Lib.hid (show charsL d=false by rw [HCH3.out,hin'];rfl)
        clear hin hin' hir
        go_simp
        (repeat (first|(with_reducible first|refine zA fun K hK=>?_|refine zB ?_|refine zC ?_)|((with_reducible first|refine zD rfl fun K hK=>?_|refine zE fun K hK=>?_);go_simp)|(with_reducible first|((repeat ((fail_if_success refine hK _ _ ?_);clear hK K));refine hK _ _ ?_;clear hK K)|refine zt ?_|refine zf ?_|refine zG ?_|refine zR ?_|refine zK ?_|refine zL ?_|refine zN ?_|refine zS ?_)|simp only [Exit.then,Exit.inBlock,Exit.noGoto,↓reduceIte,Nat.reduceEqDiff]|simp only [undef,reduceCtorEq,↓reduceIte]))
        refine (HSY.out _).mono ?_
        rintro e4 w4 ⟨rfl,hS⟩
        have hc2:=hS.dec.cell
        have hf2:=hS.dec.frozen
        have HS:=Lib.hid hS
        clear hS
        go_simp
        (repeat (first|(with_reducible first|refine zA fun K hK=>?_|refine zB ?_|refine zC ?_)|((with_reducible first|refine zD rfl fun K hK=>?_|refine zE fun K hK=>?_);go_simp)|(with_reducible first|((repeat ((fail_if_success refine hK _ _ ?_);clear hK K));refine hK _ _ ?_;clear hK K)|refine zt ?_|refine zf ?_|refine zG ?_|refine zR ?_|refine zK ?_|refine zL ?_|refine zN ?_|refine zS ?_)|simp only [Exit.then,Exit.inBlock,Exit.noGoto,↓reduceIte,Nat.reduceEqDiff]|simp only [undef,reduceCtorEq,↓reduceIte]))
        refine Q_keep [6] (fun f=>?_);simp only [keep_cons,keep_nil,lk_cons,lk_nil,Nat.reduceEqDiff,↓reduceIte]
        exact HBAD.out HN.out f _ _ HS.out.err (HS3.out.trans HS.out.stp)
end Go.Proofs.YtkjnockljapnbaaGreatDoor
namespace Go.Proofs.YtkjnockljapnbaaGreatDoor
open Go Go.RowKit
def TextPost (x:Cx) (c:DC) (q:Option UInt8) (cd:Bool) (w':World) (v':DV) (en:Ending):Except EK (Bs × Bs) → Prop
  | .error k=>en=.returned (.slice none 0 0)∧ErrS x c w' v' k
  | .ok (d,r)=>∃ g cap e b,en=.returned (.slice (some ⟨g,0,none⟩) d.length cap)∧RdS x c w' v' r e b∧v'.bufv=.slice (some ⟨g,0,none⟩) b.length cap∧d=b.take d.length∧d.length ≤ b.length∧(q=none → cd=false → r=[] → e=some (endE x.o.fails))∧(cd=true → v'.nb=-1)
structure NoEnt (x:Cx) (c:DC):Prop where
  ent:c.ent=.map none
  ents:x.o.ents=none
def TxInv (x:Cx) (c:DC) (w0:World) (v0:DV) (q:Option UInt8) (cd:Bool) (rest0:Bs) (k:Nat) (a:Act) (w:World):Prop:=
  ∃ f v rest e b0 b1 buf,a=fr 381 f [(0,decP x),(1,.int .i64 (qI q)),(2,.bool cd),(7,.int .u8 (UInt8.toNat b0)),(8,.int .u8 (UInt8.toNat b1)),(9,.int .i64 0)]∧RdS x c w v rest e buf∧Stp x w0 v0 w v∧k=rest.length ∧
    textL x.o q cd rest0 0 0 []=textL x.o q cd rest b0 b1 buf∧(NonNil v ∨ (q=none∧b0=0∧b1=0∧rest=rest0))∧buf.length + 8 * rest.length ≤ 8 * rest0.length∧Brk b0 b1 buf
theorem text_c (x:Cx) (hx:x.All) (c:DC) (hdc:DcOk x c) (hno:NoEnt x c) (q:Option UInt8) (cd:Bool) (w:World) (v:DV) (rest:Bs) (e:Option EK) (buf:Bs) (h:RdS x c w v rest e buf)
    (hq:q ≠ none → NonNil v) (hc:q=none → cd=false → ∃ b r,rest=b :: r∧b ≠ 60) :
    Calls Tryz.prog 37 #[decP x,.int .i64 (qI q),.bool cd] w fun en w'=>∃ v',Stp x w v w' v'∧TextPost x c q cd w' v' en (textL x.o q cd rest 0 0 []):=by
  have hrs:=Lib.hid (reset_c x hx.toOk c w v rest e buf h)
  have HX:=Lib.hid hx
  have HD:=Lib.hid hdc
  have HNO:=Lib.hid hno
  have HQ:=Lib.hid hq
  have HC:=Lib.hid hc
  have HRL:=Lib.hid (show rest.length ≤ 1000000000 from Nat.le_trans (h.suf.length_le) hx.len)
  clear h hx hdc hno hq hc
  refine calls_fr (vs:=[_,_,_]) 381 Tryz.func37 rfl rfl (Nat.le_of_ble_eq_true rfl) fun f=>?_
  simp only [argSlots]
  (repeat (first|(with_reducible first|refine zA fun K hK=>?_|refine zB ?_|refine zC ?_)|((with_reducible first|refine zD rfl fun K hK=>?_|refine zE fun K hK=>?_);go_simp)|(with_reducible first|((repeat ((fail_if_success refine hK _ _ ?_);clear hK K));refine hK _ _ ?_;clear hK K)|refine zt ?_|refine zf ?_|refine zG ?_|refine zR ?_|refine zK ?_|refine zL ?_|refine zN ?_|refine zS ?_)|simp only [Exit.then,Exit.inBlock,Exit.noGoto,↓reduceIte,Nat.reduceEqDiff]|simp only [undef,reduceCtorEq,↓reduceIte]))
  refine hrs.out.mono ?_
  rintro e1 w1 ⟨rfl,v1,h1,hn1,hb1,hm1,hz1⟩
  have H1:=Lib.hid h1
  have HS1:=Lib.hid (Stp.ofS0 hm1 hb1)
  have HB1:=Lib.hid hb1
  clear h1 hn1 hb1 hm1 hz1 hrs
  go_simp
  (repeat (first|(with_reducible first|refine zA fun K hK=>?_|refine zB ?_|refine zC ?_)|((with_reducible first|refine zD rfl fun K hK=>?_|refine zE fun K hK=>?_);go_simp)|(with_reducible first|((repeat ((fail_if_success refine hK _ _ ?_);clear hK K));refine hK _ _ ?_;clear hK K)|refine zt ?_|refine zf ?_|refine zG ?_|refine zR ?_|refine zK ?_|refine zL ?_|refine zN ?_|refine zS ?_)|simp only [Exit.then,Exit.inBlock,Exit.noGoto,↓reduceIte,Nat.reduceEqDiff]|simp only [undef,reduceCtorEq,↓reduceIte]))
  (refine wp_keep [0,1,2,7,8,9] (fun f=>?_);simp only [keep_cons,keep_nil,lk_cons,lk_nil,Nat.reduceEqDiff,↓reduceIte])
  have hz:Brk 0 0 []:=⟨fun h=>absurd h (by decide),fun h=>absurd h.1 (by decide)⟩
  have hstart:NonNil v1 ∨ (q=none∧(0:UInt8)=0∧(0:UInt8)=0∧rest=rest):=by
    cases q with
    | none=>exact Or.inr ⟨rfl,rfl,rfl,rfl⟩
    | some qb=>exact Or.inl ((HQ.out (by simp)).of_iff HB1.out)
  refine wp_loop_ghost_k (TxInv x c w v q cd rest) rest.length ⟨f,v1,rest,e,0,0,[],rfl,H1.out,HS1.out,rfl,rfl,hstart,by simp,hz⟩ ?_
  rintro k _ w2 ⟨f,v2,r2,e2,b0,b1,b2,rfl,h2,hs2,hk2,ht2,hn2,hl2,hbr⟩ J K2 hJ hK2
  refine wp_block ?_
  have hlim:b2.length ≤ 8000000000000:=by have:=HRL.out;omega
  have hround:RoundOut x c w2 v2 q cd (Exit.inBlock 1 (Exit.then K2 (Exit.inBlock 0 (Exit.then K (Exit.noGoto (bodyPost Tryz.prog Tryz.f37 fun en w'=>∃ v',Stp x w v w' v'∧TextPost x c q cd w' v' en (textL x.o q cd rest 0 0 []))))))) (txNext x.o q cd r2 b0 b1 b2):=by
    have htn:textL x.o q cd rest 0 0 []=_:=ht2.trans (textL_next x.o q cd r2 b0 b1 b2)
    refine ⟨fun k he f w' v' hE hS=>?_,fun n r' e' b' he f w' v' hR hS hN hNb=>?_,fun r' b0' b1' b' he e' hee f w' v' hR hS hN=>?_⟩
    · simp only [Exit.inBlock,Exit.then,Exit.noGoto]
      (refine fr_out1 rfl (by decide) (by simp only [lk_cons,lk_nil,Nat.reduceEqDiff,↓reduceIte];rfl) ?_)
      refine ⟨v',hs2.trans hS,?_⟩
      rw [htn,he]
      exact ⟨rfl,hE⟩
    · show K _ _
      obtain ⟨hnb,hbb,hend,hst⟩:=txNext_stop he hbr
      have hNN:NonNil v':=by
        rcases hn2 with h|⟨hq0,h0,h1,hrr⟩
        · exact hN h
        · obtain ⟨hcd,hr⟩:=hst ⟨h0,h1⟩ hq0
          obtain ⟨bb,rr,hb1,hb2⟩:=HC.out hq0 hcd
          rcases hr with hr|⟨r4,hr⟩
          · rw [hrr,hb1] at hr;cases hr
          · rw [hrr,hb1] at hr;cases hr;exact absurd rfl hb2
      refine hK _ _ (wp_code (textFin x HX.out c w' v' r' e' b' n hR hNN hnb (by rw [hbb];omega) _ ?_ ?_ f) (by kernel_rfl))
      · intro hch g cap hbv f w3 hR3 hS3
        simp only [Exit.inBlock,Exit.then,Exit.noGoto]
        (refine fr_out1 rfl (by decide) (by simp only [lk_cons,lk_nil,Nat.reduceEqDiff,↓reduceIte];rfl) ?_)
        refine ⟨v',(hs2.trans hS).trans hS3,?_⟩
        rw [htn,he]
        show TextPost _ _ _ _ _ _ _ (txFin n r' b')
        unfold txFin
        rw [if_pos hch]
        have hlen:(b'.take (b'.length - n)).length=b'.length - n:=by rw [List.length_take];omega
        exact ⟨g,cap,e',b',by rw [hlen],hR3,hbv,by rw [hlen],by rw [hlen];omega,hend,hNb⟩
      · intro hch f w3 v3 hE3 hS3
        simp only [Exit.inBlock,Exit.then,Exit.noGoto]
        (refine fr_out1 rfl (by decide) (by simp only [lk_cons,lk_nil,Nat.reduceEqDiff,↓reduceIte];rfl) ?_)
        refine ⟨v3,(hs2.trans hS).trans hS3,?_⟩
        rw [htn,he]
        show TextPost _ _ _ _ _ _ _ (txFin n r' b')
        unfold txFin
        rw [hch]
        exact ⟨rfl,hE3⟩
    · obtain ⟨ho1,ho2,ho3⟩:=txNext_on HNO.out.ents he hbr
      have hgo:K2 (fr 381 f [(0,decP x),(1,.int .i64 (qI q)),(2,.bool cd),(7,.int .u8 b0'.toNat),(8,.int .u8 b1'.toNat),(9,.int .i64 0)]) w':=
        hK2 _ _ ⟨r'.length,by rw [hk2];exact ho1,hJ _ _ _ ⟨f,v',r',none,b0',b1',b',rfl,hR,hs2.trans hS,rfl,by rw [htn,he],Or.inl hN,by omega,ho3⟩⟩
      rcases hee with rfl|rfl
      · exact hgo
      · exact hgo
  cases r2 with
  | nil=>exact wp_code (textRound_nil x HX.out c HD.out q cd w2 v2 e2 b2 b0 b1 h2 _ hround f) (by kernel_rfl)
  | cons b r3=>exact wp_code (textRound_cons x HX.out c HD.out HNO.out.ent HNO.out.ents q cd w2 v2 e2 b r3 b2 b0 b1 h2 (hn2.imp id (fun h=>⟨h.2.1,h.2.2.1⟩)) hlim _ hround f) (by kernel_rfl)
end Go.Proofs.YtkjnockljapnbaaGreatDoor
namespace Go.Proofs.YtkjnockljapnbaaGreatDoor
open Go Go.RowKit
abbrev chV (v:Value):Value:=.iface 114 v
def RawTextPost (x:Cx) (c:DC) (w':World) (v':DV) (en:Ending):Except EK (Bs × Bs) → Prop
  | .error k=>en=.returned (.tuple #[.nilIface,v'.err])∧ErrS x c w' v' k
  | .ok (d,r)=>∃ g cap e b,en=.returned (.tuple #[chV (.slice (some ⟨g,0,none⟩) d.length cap),.nilIface])∧RdS x c w' v' r e b∧v'.bufv=.slice (some ⟨g,0,none⟩) b.length cap∧d=b.take d.length∧d.length ≤ b.length∧(r=[] → e=some (endE x.o.fails))
theorem slNil (w:World):(binOp .eql 74 (.slice none 0 0) (.slice none 0 0)).run Tryz.prog w=.ok (.bool true) w:=by kernel_rfl
theorem slSome (a:Addr) (l c:Nat) (w:World):(binOp .eql 74 (.slice (some a) l c) (.slice none 0 0)).run Tryz.prog w=.ok (.bool false) w:=by kernel_rfl
theorem rawText (x:Cx) (hx:x.All) (c:DC) (hdc:DcOk x c) (hno:NoEnt x c) (hnc:c.needClose=false) (w:World) (v:DV) (b:UInt8) (r:Bs) (buf:Bs) (hb:b ≠ 60) (h:RdS x c w v (b :: r) none buf) :
    Calls Tryz.prog 23 #[decP x] w fun en w'=>∃ v',Stp x w v w' v'∧RawTextPost x c w' v' en (textL x.o none false (b :: r) 0 0 []):=by
  have hg:=Lib.hid (getc_some x hx.toOk c hdc w v b r none buf h)
  have HSUF:=Lib.hid h.suf
  have HX:=Lib.hid hx
  have HD:=Lib.hid hdc
  have HNO:=Lib.hid hno
  have HB:=Lib.hid hb
  have hc:=h.dec.cell
  have hf:=h.dec.frozen
  have he:v.err=.nilIface:=h.err
  have hb60:=u8ne hb (n:=60) rfl
  have hb60':((b.toNat:Int) != 60)=true:=by simpa using hb60
  clear h hx hdc hno hb
  refine calls_fr (vs:=[_]) 731 Tryz.func23 rfl rfl (Nat.le_of_ble_eq_true rfl) fun f=>?_
  simp only [argSlots]
  (repeat (first|(with_reducible first|refine zA fun K hK=>?_|refine zB ?_|refine zC ?_)|((with_reducible first|refine zD rfl fun K hK=>?_|refine zE fun K hK=>?_);go_simp)|(with_reducible first|((repeat ((fail_if_success refine hK _ _ ?_);clear hK K));refine hK _ _ ?_;clear hK K)|refine zt ?_|refine zf ?_|refine zG ?_|refine zR ?_|refine zK ?_|refine zL ?_|refine zN ?_|refine zS ?_)|simp only [Exit.then,Exit.inBlock,Exit.noGoto,↓reduceIte,Nat.reduceEqDiff]|simp only [undef,reduceCtorEq,↓reduceIte]))
  refine hg.out.mono ?_
  rintro e1 w1 ⟨rfl,v1,h1,hn1,hb1,hm1,_⟩
  have hun:=Lib.hid (ungetc_c x HX.out.toOk c w1 v1 b r _ h1 hn1 HSUF.out)
  have HS1:=Lib.hid (hm1.stp hb1)
  clear h1 hn1 hb1 hm1 hg hc hf
  go_simp
  (repeat (first|(with_reducible first|refine zA fun K hK=>?_|refine zB ?_|refine zC ?_)|((with_reducible first|refine zD rfl fun K hK=>?_|refine zE fun K hK=>?_);go_simp)|(with_reducible first|((repeat ((fail_if_success refine hK _ _ ?_);clear hK K));refine hK _ _ ?_;clear hK K)|refine zt ?_|refine zf ?_|refine zG ?_|refine zR ?_|refine zK ?_|refine zL ?_|refine zN ?_|refine zS ?_)|simp only [Exit.then,Exit.inBlock,Exit.noGoto,↓reduceIte,Nat.reduceEqDiff]|simp only [undef,reduceCtorEq,↓reduceIte]))
  refine hun.out.mono ?_
  rintro e2 w2 ⟨rfl,v2,h2,_,hb2,hm2,_⟩
  have htx:=Lib.hid (text_c x HX.out c HD.out HNO.out none false w2 v2 (b :: r) none buf h2 (fun h=>absurd rfl h) (fun _ _=>⟨b,r,rfl,HB.out⟩))
  have HS2:=Lib.hid (HS1.out.s0 hm2 hb2)
  clear h2 hb2 hm2 hun he
  go_simp
  (repeat (first|(with_reducible first|refine zA fun K hK=>?_|refine zB ?_|refine zC ?_)|((with_reducible first|refine zD rfl fun K hK=>?_|refine zE fun K hK=>?_);go_simp)|(with_reducible first|((repeat ((fail_if_success refine hK _ _ ?_);clear hK K));refine hK _ _ ?_;clear hK K)|refine zt ?_|refine zf ?_|refine zG ?_|refine zR ?_|refine zK ?_|refine zL ?_|refine zN ?_|refine zS ?_)|simp only [Exit.then,Exit.inBlock,Exit.noGoto,↓reduceIte,Nat.reduceEqDiff]|simp only [undef,reduceCtorEq,↓reduceIte]))
  rw [show (-1:Int)=qI none from rfl]
  refine htx.out.mono ?_
  rintro e3 w3 ⟨v3,hs3,hp⟩
  have HS3:=Lib.hid (HS2.out.trans hs3)
  clear hs3 htx
  cases hres:textL x.o none false (b :: r) 0 0 [] with
  | error k=>
    rw [hres] at hp
    obtain ⟨rfl,hE⟩:=hp
    have hc:=hE.dec.cell
    have hf:=hE.dec.frozen
    have HE:=Lib.hid hE
    have HRES:=Lib.hid hres
    clear hE hres
    have q1:=fun w=>slNil w
    go_simp
    (repeat (first|(with_reducible first|refine zA fun K hK=>?_|refine zB ?_|refine zC ?_)|((with_reducible first|refine zD rfl fun K hK=>?_|refine zE fun K hK=>?_);go_simp)|(with_reducible first|((repeat ((fail_if_success refine hK _ _ ?_);clear hK K));refine hK _ _ ?_;clear hK K)|refine zt ?_|refine zf ?_|refine zG ?_|refine zR ?_|refine zK ?_|refine zL ?_|refine zN ?_|refine zS ?_)|simp only [Exit.then,Exit.inBlock,Exit.noGoto,↓reduceIte,Nat.reduceEqDiff]|simp only [undef,reduceCtorEq,↓reduceIte]))
    (refine wp_keep [0] (fun f=>?_);simp only [keep_cons,keep_nil,lk_cons,lk_nil,Nat.reduceEqDiff,↓reduceIte])
    go_quiet (fail)
    (repeat (first|(with_reducible first|refine zA fun K hK=>?_|refine zB ?_|refine zC ?_)|((with_reducible first|refine zD rfl fun K hK=>?_|refine zE fun K hK=>?_);go_simp)|(with_reducible first|((repeat ((fail_if_success refine hK _ _ ?_);clear hK K));refine hK _ _ ?_;clear hK K)|refine zt ?_|refine zf ?_|refine zG ?_|refine zR ?_|refine zK ?_|refine zL ?_|refine zN ?_|refine zS ?_)|simp only [Exit.then,Exit.inBlock,Exit.noGoto,↓reduceIte,Nat.reduceEqDiff]|simp only [undef,reduceCtorEq,↓reduceIte]))
    (refine fr_out2 rfl (by decide) (by decide) (by simp only [lk_cons,lk_nil,Nat.reduceEqDiff,↓reduceIte];rfl) (by simp only [lk_cons,lk_nil,Nat.reduceEqDiff,↓reduceIte];rfl) ?_)
    refine ⟨v3,HS3.out.trans (Stp.drewN _),?_⟩
    rw [HRES.out]
    exact ⟨rfl,⟨Below_drewN HE.out.base _,HE.out.dec,HE.out.err⟩⟩
  | ok dr=>
    obtain ⟨d,r'⟩:=dr
    rw [hres] at hp
    obtain ⟨g,cap,e,b',rfl,hR,hbv,hd1,hd2,hend,_⟩:=hp
    have HR:=Lib.hid hR
    have HBV:=Lib.hid hbv
    have HD1:=Lib.hid hd1
    have HEND:=Lib.hid hend
    have HRES:=Lib.hid hres
    clear hR hbv hd1 hend hres
    have q1:=fun a l c w=>slSome a l c w
    go_simp
    (repeat (first|(with_reducible first|refine zA fun K hK=>?_|refine zB ?_|refine zC ?_)|((with_reducible first|refine zD rfl fun K hK=>?_|refine zE fun K hK=>?_);go_simp)|(with_reducible first|((repeat ((fail_if_success refine hK _ _ ?_);clear hK K));refine hK _ _ ?_;clear hK K)|refine zt ?_|refine zf ?_|refine zG ?_|refine zR ?_|refine zK ?_|refine zL ?_|refine zN ?_|refine zS ?_)|simp only [Exit.then,Exit.inBlock,Exit.noGoto,↓reduceIte,Nat.reduceEqDiff]|simp only [undef,reduceCtorEq,↓reduceIte]))
    (refine fr_out2 rfl (by decide) (by decide) (by simp only [lk_cons,lk_nil,Nat.reduceEqDiff,↓reduceIte];rfl) (by simp only [lk_cons,lk_nil,Nat.reduceEqDiff,↓reduceIte];rfl) ?_)
    refine ⟨v3,HS3.out,?_⟩
    rw [HRES.out]
    exact ⟨g,cap,e,b',rfl,HR.out,HBV.out,HD1.out,hd2,HEND.out rfl rfl⟩
theorem rawErr (x:Cx) (c:DC) (w:World) (v:DV) (h:DecAt w x.d c v) (t:TypeId) (u:Value) (he:v.err=.iface t u) :
    Calls Tryz.prog 23 #[decP x] w fun en w'=>en=.returned (.tuple #[.nilIface,v.err])∧∃ k,w'=w.drewN k:=by
  have hc:=h.cell
  have hf:=h.frozen
  clear h
  refine calls_fr (vs:=[_]) 731 Tryz.func23 rfl rfl (Nat.le_of_ble_eq_true rfl) fun f=>?_
  simp only [argSlots]
  (repeat (first|(with_reducible first|refine zA fun K hK=>?_|refine zB ?_|refine zC ?_)|((with_reducible first|refine zD rfl fun K hK=>?_|refine zE fun K hK=>?_);go_simp)|(with_reducible first|((repeat ((fail_if_success refine hK _ _ ?_);clear hK K));refine hK _ _ ?_;clear hK K)|refine zt ?_|refine zf ?_|refine zG ?_|refine zR ?_|refine zK ?_|refine zL ?_|refine zN ?_|refine zS ?_)|simp only [Exit.then,Exit.inBlock,Exit.noGoto,↓reduceIte,Nat.reduceEqDiff]|simp only [undef,reduceCtorEq,↓reduceIte]))
  (refine wp_keep [0] (fun f=>?_);simp only [keep_cons,keep_nil,lk_cons,lk_nil,Nat.reduceEqDiff,↓reduceIte])
  go_quiet (fail)
  (repeat (first|(with_reducible first|refine zA fun K hK=>?_|refine zB ?_|refine zC ?_)|((with_reducible first|refine zD rfl fun K hK=>?_|refine zE fun K hK=>?_);go_simp)|(with_reducible first|((repeat ((fail_if_success refine hK _ _ ?_);clear hK K));refine hK _ _ ?_;clear hK K)|refine zt ?_|refine zf ?_|refine zG ?_|refine zR ?_|refine zK ?_|refine zL ?_|refine zN ?_|refine zS ?_)|simp only [Exit.then,Exit.inBlock,Exit.noGoto,↓reduceIte,Nat.reduceEqDiff]|simp only [undef,reduceCtorEq,↓reduceIte]))
  (refine fr_out2 rfl (by decide) (by decide) (by simp only [lk_cons,lk_nil,Nat.reduceEqDiff,↓reduceIte];rfl) (by simp only [lk_cons,lk_nil,Nat.reduceEqDiff,↓reduceIte];rfl) ?_)
  exact ⟨by rw [he],_,rfl⟩
end Go.Proofs.YtkjnockljapnbaaGreatDoor
namespace Go.Proofs.YtkjnockljapnbaaGreatDoor
open Go Go.RowKit
theorem ptrNil (w:World):(binOp .neq 80 (.pointer none) (.pointer none)).run Tryz.prog w=.ok (.bool false) w:=by kernel_rfl
theorem ptrNilE (w:World):(binOp .eql 80 (.pointer none) (.pointer none)).run Tryz.prog w=.ok (.bool true) w:=by kernel_rfl
theorem anyNil (w:World):(binOp .neq 53 .nilIface .nilIface).run Tryz.prog w=.ok (.bool false) w:=by kernel_rfl
abbrev zStr:Value:=.string ⟨#[]⟩
theorem taChS (v:Value) (w:World):(Instr.typeAssert (chV v) 53 94 true).run Tryz.prog w=.ok (.tuple #[.agg #[zStr,zStr,.slice none 0 0],.bool false]) w:=by kernel_rfl
theorem taChE (v:Value) (w:World):(Instr.typeAssert (chV v) 53 103 true).run Tryz.prog w=.ok (.tuple #[.agg #[zStr,zStr],.bool false]) w:=by kernel_rfl
theorem anyNilE (w:World):(binOp .eql 53 .nilIface .nilIface).run Tryz.prog w=.ok (.bool true) w:=by kernel_rfl
end Go.Proofs.YtkjnockljapnbaaGreatDoor
namespace Go.Proofs.YtkjnockljapnbaaGreatDoor
open Go Go.RowKit
abbrev tokV (kind:Int) (space loc:Bs) (attrs:Value) (text:Bs) (at' line col:Int):Value:=.agg #[.int .i64 kind,strV space,strV loc,attrs,strV text,.int .i64 at',.int .i64 line,.int .i64 col]
theorem Blk.drew {w:World} {b:Nat} {cs:Array Value} {t:TypeId} (h:Blk w b cs t):Blk w.drew b cs t:=h
theorem BytesAt.setCell {w:World} {b off:Nat} {l:Bs} (h:BytesAt w b off l) {a:Addr} (hn:b ≠ a.block) (u:Value):BytesAt (w.setCell a u) b off l:=fun j hj=>(cell_of_heap (heap_setCell_ne _ _ _ _ hn) _).trans (h j hj)
theorem BytesAt.drew {w:World} {b off:Nat} {l:Bs} (h:BytesAt w b off l):BytesAt w.drew b off l:=h
theorem BytesAt.drewN {w:World} {b off:Nat} {l:Bs} (h:BytesAt w b off l) (n:Nat):BytesAt (w.drewN n) b off l:=h
theorem taChC (v:Value) (w:World):(Instr.typeAssert (chV v) 53 114 true).run Tryz.prog w=.ok (.tuple #[v,.bool true]) w:=by kernel_rfl
theorem conv_ch (l:Bs) (w:World) (b off cap:Nat) (h:BytesAt w b off l):(convert 114 9 (.slice (some ⟨b,off,none⟩) l.length cap)).run Tryz.prog w=.ok (strV l) w:=
  Lib.run_convert_whole (P:=Tryz.prog) w 114 5 9 Tryz.underlying114 Tryz.underlying5 Tryz.underlying9 b off ⟨l.toArray⟩ h.toBytes cap
end Go.Proofs.YtkjnockljapnbaaGreatDoor
