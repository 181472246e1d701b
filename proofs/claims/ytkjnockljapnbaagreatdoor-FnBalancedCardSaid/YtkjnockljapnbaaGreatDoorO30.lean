/- Part of the proof that laws.FnBalanced returns true for every argument (Wm). No condition of its own. -/
import Derived.Test.YtkjnockljapnbaaGreatDoorO29
set_option linter.all false
set_option maxHeartbeats 8000000
set_option maxRecDepth 100000
namespace Go.Proofs.YtkjnockljapnbaaGreatDoor
open Go Go.RowKit
def StPost (x:Cx) (c:DC) (w:World) (v:DV) (R:Except EK (((Bs × Bs) × List At3) × Bool × Bs)) (t e:Value) (w':World):Prop:=
  ∃ v',Stp x w v w' v'∧match R with
    | .error k=>t=.nilIface∧e=v'.err∧ErrS x c w' v' k
    | .ok ((nm,ats),em,r)=>e=.nilIface∧∃ b,RdS x (c.closing nm em) w' v' r none b∧TokAt w' v'.bufv w.heap.size t (.start nm ats)∧v'.nb=-1
theorem stFin (x:Cx) (hx:x.All) (c:DC) (w0:World) (v0:DV) (w:World) (v:DV) (rest:Bs) (buf:Bs) (h:RdS x c w v rest none buf) (hnb:v.nb=-1) (hs:Stp x w0 v0 w v) (nb:Nat) (nm:Bs × Bs) (av:Value) (acc:List At3) (hk:Keep x w0 w v nb nm av acc) (em:Bool)
    (Q:Exit → Act → World → Prop) (hQ:∀ f w' t e,StPost x c w0 v0 (.ok ((nm,acc),em,rest)) t e w' → Q .ret (fr 731 f [(2,t),(3,e)]) w') (f:Nat → Value) :
    (rwCode 198).wp Tryz.prog Q (fr 731 f [(0,decP x),(28,.pointer (some ⟨nb,0,none⟩)),(29,.bool em),(30,av)]) w:=by
  have hc:=h.dec.cell
  have hf:=h.dec.frozen
  have hcn:=hk.name.cell
  have hfn:=hk.name.frozen
  obtain ⟨g0,cap0,hav⟩:∃ g cap,av=.slice (some ⟨g,0,none⟩) acc.length cap:=by
    rcases hk.row.2 with ⟨h1,_⟩|⟨g,cap,cur,h1,_⟩
    · exact absurd h1 hk.ne
    · exact ⟨g,cap,h1⟩
  subst hav
  have hne1:nb ≠ x.d:=fun e=>hk.nbS (Or.inl (Or.inl e))
  have hne2:x.d ≠ nb:=fun e=>hne1 e.symm
  have HQ:=Lib.hid hQ
  have H:=Lib.hid h
  have HS:=Lib.hid hs
  have HK:=Lib.hid hk
  have HNB:=Lib.hid hnb
  have HX:=Lib.hid hx
  have hds:∀ g,(Value.slice (some ⟨g0,0,none⟩) acc.length cap0).ownBlock=some g → ¬ g=x.d:=fun g hg e=>(hk.rowS g hg).1 (Or.inl (Or.inl e))
  have HDS:=Lib.hid hds
  clear hQ h hs hk hx hds hnb
  unfold rwCode
  conv=>arg 2;whnf
  cases em with
  | false=>
    (repeat (first|(with_reducible first|refine zA fun K hK=>?_|refine zB ?_|refine zC ?_)|((with_reducible first|refine zD rfl fun K hK=>?_|refine zE fun K hK=>?_);go_simp)|(with_reducible first|((repeat ((fail_if_success refine hK _ _ ?_);clear hK K));refine hK _ _ ?_;clear hK K)|refine zt ?_|refine zf ?_|refine zG ?_|refine zR ?_|refine zK ?_|refine zL ?_|refine zN ?_|refine zS ?_)|simp only [Exit.then,Exit.inBlock,Exit.noGoto,↓reduceIte,Nat.reduceEqDiff]|simp only [undef,reduceCtorEq,↓reduceIte]))
    refine Q_keep [2,3] (fun f=>?_);simp only [keep_cons,keep_nil,lk_cons,lk_nil,Nat.reduceEqDiff,↓reduceIte]
    exact HQ.out f w _ _ ⟨v,HS.out,rfl,buf,H.out,⟨_,rfl,HK.out.ne,HK.out.row⟩,HNB.out⟩
  | true=>
    (repeat (first|(with_reducible first|refine zA fun K hK=>?_|refine zB ?_|refine zC ?_)|((with_reducible first|refine zD rfl fun K hK=>?_|refine zE fun K hK=>?_);go_simp)|(with_reducible first|((repeat ((fail_if_success refine hK _ _ ?_);clear hK K));refine hK _ _ ?_;clear hK K)|refine zt ?_|refine zf ?_|refine zG ?_|refine zR ?_|refine zK ?_|refine zL ?_|refine zN ?_|refine zS ?_)|simp only [Exit.then,Exit.inBlock,Exit.noGoto,↓reduceIte,Nat.reduceEqDiff]|simp only [undef,reduceCtorEq,↓reduceIte]))
    refine Q_keep [2,3] (fun f=>?_);simp only [keep_cons,keep_nil,lk_cons,lk_nil,Nat.reduceEqDiff,↓reduceIte]
    have hm:Mod (fun k=>k=x.d) w (((w.setCell ⟨x.d,14,none⟩ (.bool true)).setCell ⟨x.d,15,none⟩ (strV nm.1)).setCell ⟨x.d,16,none⟩ (strV nm.2)):=
      (((Mod.refl (fun k=>k=x.d) w).setCell (p:=⟨x.d,14,none⟩) (Or.inl rfl) _).setCell (p:=⟨x.d,15,none⟩) (Or.inl rfl) _).setCell (p:=⟨x.d,16,none⟩) (Or.inl rfl) _
    refine HQ.out f _ _ _ ⟨v,HS.out.s0 (hm.mono (fun i _ hi=>Or.inl hi)) rfl,rfl,buf,H.out.turn HX.out.toOk ?_ hm,⟨_,rfl,HK.out.ne,ownsRow_mod HK.out.row hm HDS.out⟩,HNB.out⟩
    exact (((show Blk w x.d _ _ from H.out.dec).set 14 (.bool true)).set 15 (strV nm.1)).set 16 (strV nm.2)
def closeL (f:Bool) (acc:List At3):Bs → Except EK (List At3 × Bool × Bs)
  | []=>.error (mustE f)
  | c :: r3=>if c=62 then .ok (acc,true,r3) else .error .syn
def StInv (x:Cx) (c:DC) (w0:World) (v0:DV) (nb:Nat) (nm:Bs × Bs) (r0:Bs) (k:Nat) (a:Act) (w:World):Prop:=
  ∃ f v rest e b av acc,a=fr 731 f [(0,decP x),(28,.pointer (some ⟨nb,0,none⟩)),(29,.bool false),(30,av)]∧RdS x c w v rest e b∧NonNil v∧Stp x w0 v0 w v∧Keep x w0 w v nb nm av acc∧k=rest.length ∧
    (∀ K,rest.length < K → attrsL x.o (r0.length + 1) r0 []=attrsL x.o K rest acc)∧acc.length + rest.length ≤ r0.length
theorem rawStart (x:Cx) (hx:x.All) (c:DC) (hdc:DcOk x c) (hno:NoEnt x c) (w:World) (v:DV) (b:UInt8) (rest:Bs) (buf:Bs) (h:RdS x c w v rest none buf) (hn:v.nb=-1) (hsuf:(b :: rest) <:+ x.T) (Q:Exit → Act → World → Prop)
    (hQ:∀ f w' t e,StPost x c w v (startL x.o (b :: rest)) t e w' → Q .ret (fr 731 f [(2,t),(3,e)]) w') (f:Nat → Value) :
    (rwCode 152).wp Tryz.prog Q (fr 731 f [(0,decP x),(4,.int .u8 b.toNat)]) w:=by
  have hun:=Lib.hid (ungetc_c x hx.toOk c w v b rest buf h hn hsuf)
  have HX:=Lib.hid hx
  have HD:=Lib.hid hdc
  have HNO:=Lib.hid hno
  have HQ:=Lib.hid hQ
  have HBW:=Lib.hid (show x.B ≤ w.heap.size from h.base.size)
  have HRL:=Lib.hid (show (b :: rest).length ≤ 1000000000 from Nat.le_trans (hsuf.length_le) hx.len)
  have H:=Lib.hid h
  clear hx hdc hno hQ h hn hsuf
  unfold rwCode
  conv=>arg 2;whnf
  (repeat (first|(with_reducible first|refine zA fun K hK=>?_|refine zB ?_|refine zC ?_)|((with_reducible first|refine zD rfl fun K hK=>?_|refine zE fun K hK=>?_);go_simp)|(with_reducible first|((repeat ((fail_if_success refine hK _ _ ?_);clear hK K));refine hK _ _ ?_;clear hK K)|refine zt ?_|refine zf ?_|refine zG ?_|refine zR ?_|refine zK ?_|refine zL ?_|refine zN ?_|refine zS ?_)|simp only [Exit.then,Exit.inBlock,Exit.noGoto,↓reduceIte,Nat.reduceEqDiff]|simp only [undef,reduceCtorEq,↓reduceIte]))
  refine hun.out.mono ?_
  rintro e1 w1 ⟨rfl,v1,h1,hn1,hb1,hm1,hz1⟩
  have HS1:=Lib.hid ((Stp.refl x w v).s0 hm1 hb1)
  have hal:Below w1.heap.size w1 (w1.alloc (.cells #[.string ⟨#[]⟩,.string ⟨#[]⟩] 82)):=(Below.refl _ w1).alloc (Nat.le_refl _) _
  have hns:=Lib.hid (nsname_c x HX.out.toFit c HD.out _ v1 (b :: rest) none buf (h1.below HX.out.toOk hal))
  have hq:=Blk.new w1 #[.string ⟨#[]⟩,.string ⟨#[]⟩] 82
  have HS2:=Lib.hid (HS1.out.alloc (.cells #[.string ⟨#[]⟩,.string ⟨#[]⟩] 82))
  have HQ0:=Lib.hid hq
  have HNB:=Lib.hid h1.newS1
  have HSZ:=Lib.hid HS1.out.mod.size
  clear h1 hn1 hb1 hm1 hz1 hun hal hq HS1
  go_simp
  (repeat (first|(with_reducible first|refine zA fun K hK=>?_|refine zB ?_|refine zC ?_)|((with_reducible first|refine zD rfl fun K hK=>?_|refine zE fun K hK=>?_);go_simp)|(with_reducible first|((repeat ((fail_if_success refine hK _ _ ?_);clear hK K));refine hK _ _ ?_;clear hK K)|refine zt ?_|refine zf ?_|refine zG ?_|refine zR ?_|refine zK ?_|refine zL ?_|refine zN ?_|refine zS ?_)|simp only [Exit.then,Exit.inBlock,Exit.noGoto,↓reduceIte,Nat.reduceEqDiff]|simp only [undef,reduceCtorEq,↓reduceIte]))
  refine hns.out.mono ?_
  rintro e2 w2 ⟨v2,hs2,hp2⟩
  have hlt:w1.heap.size < (w1.alloc (.cells #[.string ⟨#[]⟩,.string ⟨#[]⟩] 82)).heap.size:=by simp
  have hn2:=hs2.notS1 HNB.out hlt
  have hq2:=HQ0.out.mod hs2.mod HNB.out
  have HS3:=Lib.hid (HS2.out.trans hs2)
  obtain ⟨nb,hnb⟩:∃ nb,nb=w1.heap.size:=⟨_,rfl⟩
  rw [← hnb] at hn2 hq2
  have HQ2:=Lib.hid hq2
  have HN2:=Lib.hid hn2
  have HNBB:=Lib.hid (show w.heap.size ≤ nb by rw [hnb];exact HSZ.out)
  have hcq:=hq2.cell
  have hfq:=hq2.frozen
  have hdq:x.d ≠ nb:=fun e=>hn2 (Or.inl (Or.inl e.symm))
  have hqd:nb ≠ x.d:=fun e=>hdq e.symm
  have HBNB:=Lib.hid (Nat.le_trans HBW.out HNBB.out)
  rw [← hnb]
  clear hs2 hq2 hn2 hlt hns HS2 HQ0 HNB HSZ hnb
  cases hn:nsnameL x.o.fails (b :: rest) with
  | error k=>
    rw [hn] at hp2
    obtain ⟨nm,rfl,hno⟩:=hp2
    have HRES:=Lib.hid (show startL x.o (b :: rest)=.error k by unfold startL;rw [hn])
    rcases hno with hE|⟨rfl,r,b',hR⟩
    · obtain ⟨hE2,hm⟩:=name_store_err hE HQ2.out HN2.out HBNB.out nm
      have HS4:=Lib.hid (HS3.out.new HNBB.out hm)
      obtain ⟨t1,u1,hu1⟩:=hE.err.iface
      have HE2:=Lib.hid hE2
      have hc:=hE2.dec.cell
      have hf:=hE2.dec.frozen
      have HU:=Lib.hid hu1
      clear hE hE2 hm hn
      go_simp
      (repeat (first|(with_reducible first|refine zA fun K hK=>?_|refine zB ?_|refine zC ?_)|((with_reducible first|refine zD rfl fun K hK=>?_|refine zE fun K hK=>?_);go_simp)|(with_reducible first|((repeat ((fail_if_success refine hK _ _ ?_);clear hK K));refine hK _ _ ?_;clear hK K)|refine zt ?_|refine zf ?_|refine zG ?_|refine zR ?_|refine zK ?_|refine zL ?_|refine zN ?_|refine zS ?_)|simp only [Exit.then,Exit.inBlock,Exit.noGoto,↓reduceIte,Nat.reduceEqDiff]|simp only [undef,reduceCtorEq,↓reduceIte]))
      ((refine wp_keep [0] (fun f=>?_);simp only [keep_cons,keep_nil,lk_cons,lk_nil,Nat.reduceEqDiff,↓reduceIte]);go_quiet (fail);(repeat (first|(with_reducible first|refine zA fun K hK=>?_|refine zB ?_|refine zC ?_)|((with_reducible first|refine zD rfl fun K hK=>?_|refine zE fun K hK=>?_);go_simp)|(with_reducible first|((repeat ((fail_if_success refine hK _ _ ?_);clear hK K));refine hK _ _ ?_;clear hK K)|refine zt ?_|refine zf ?_|refine zG ?_|refine zR ?_|refine zK ?_|refine zL ?_|refine zN ?_|refine zS ?_)|simp only [Exit.then,Exit.inBlock,Exit.noGoto,↓reduceIte,Nat.reduceEqDiff]|simp only [undef,reduceCtorEq,↓reduceIte]));refine Q_keep [2,3] (fun f=>?_);simp only [keep_cons,keep_nil,lk_cons,lk_nil,Nat.reduceEqDiff,↓reduceIte])
      exact HQ.out f _ _ _ ⟨v2,HS4.out.drawn _,by rw [HRES.out];exact ⟨rfl,HU.out.symm,HE2.out.drewN _⟩⟩
    · obtain ⟨hR2,hB2,hm⟩:=name_store hR HQ2.out HN2.out HBNB.out nm
      have HS4:=Lib.hid (HS3.out.new HNBB.out hm)
      have he:v2.err=.nilIface:=hR2.err
      have hc:=hR2.dec.cell
      have hf:=hR2.dec.frozen
      have HSY:=Lib.hid (fun msg=>synErr_g HX.out.toOk hR2 msg)
      clear hR hR2 hB2 hm hn
      go_simp
      (repeat (first|(with_reducible first|refine zA fun K hK=>?_|refine zB ?_|refine zC ?_)|((with_reducible first|refine zD rfl fun K hK=>?_|refine zE fun K hK=>?_);go_simp)|(with_reducible first|((repeat ((fail_if_success refine hK _ _ ?_);clear hK K));refine hK _ _ ?_;clear hK K)|refine zt ?_|refine zf ?_|refine zG ?_|refine zR ?_|refine zK ?_|refine zL ?_|refine zN ?_|refine zS ?_)|simp only [Exit.then,Exit.inBlock,Exit.noGoto,↓reduceIte,Nat.reduceEqDiff]|simp only [undef,reduceCtorEq,↓reduceIte]))
      refine (HSY.out _).mono ?_
      rintro e3 w3 ⟨a9,rfl,hS⟩
      have hc2:=hS.dec.cell
      have hf2:=hS.dec.frozen
      have HS:=Lib.hid hS
      clear hS hc hf he hcq hfq
      go_simp
      (repeat (first|(with_reducible first|refine zA fun K hK=>?_|refine zB ?_|refine zC ?_)|((with_reducible first|refine zD rfl fun K hK=>?_|refine zE fun K hK=>?_);go_simp)|(with_reducible first|((repeat ((fail_if_success refine hK _ _ ?_);clear hK K));refine hK _ _ ?_;clear hK K)|refine zt ?_|refine zf ?_|refine zG ?_|refine zR ?_|refine zK ?_|refine zL ?_|refine zN ?_|refine zS ?_)|simp only [Exit.then,Exit.inBlock,Exit.noGoto,↓reduceIte,Nat.reduceEqDiff]|simp only [undef,reduceCtorEq,↓reduceIte]))
      ((refine wp_keep [0] (fun f=>?_);simp only [keep_cons,keep_nil,lk_cons,lk_nil,Nat.reduceEqDiff,↓reduceIte]);go_quiet (fail);(repeat (first|(with_reducible first|refine zA fun K hK=>?_|refine zB ?_|refine zC ?_)|((with_reducible first|refine zD rfl fun K hK=>?_|refine zE fun K hK=>?_);go_simp)|(with_reducible first|((repeat ((fail_if_success refine hK _ _ ?_);clear hK K));refine hK _ _ ?_;clear hK K)|refine zt ?_|refine zf ?_|refine zG ?_|refine zR ?_|refine zK ?_|refine zL ?_|refine zN ?_|refine zS ?_)|simp only [Exit.then,Exit.inBlock,Exit.noGoto,↓reduceIte,Nat.reduceEqDiff]|simp only [undef,reduceCtorEq,↓reduceIte]));refine Q_keep [2,3] (fun f=>?_);simp only [keep_cons,keep_nil,lk_cons,lk_nil,Nat.reduceEqDiff,↓reduceIte])
      exact HQ.out f _ _ _ ⟨_,(HS4.out.trans HS.out.stp).drawn _,by rw [HRES.out];exact ⟨rfl,rfl,HS.out.err.drewN _⟩⟩
  | ok p=>
    obtain ⟨nm,r⟩:=p
    rw [hn] at hp2
    obtain ⟨rfl,b2,hbne,hR⟩:=hp2
    obtain ⟨hR2,hB2,hm⟩:=name_store hR HQ2.out HN2.out HBNB.out nm
    have HS4:=Lib.hid (HS3.out.new HNBB.out hm)
    have HNN:=Lib.hid (hR.nonnil hbne)
    have HRES:=Lib.hid (show startL x.o (b :: rest)=(match attrsL x.o (r.length + 1) r [] with|.error e=>.error e|.ok (ats,em,r2)=>.ok ((nm,ats),em,r2)) by unfold startL;rw [hn];rfl)
    have HRLEN:=Lib.hid (show r.length ≤ 1000000000 from by have:=(nsnameL_suf hn).2;have:=HRL.out;omega)
    have HR2:=Lib.hid hR2
    have HB2:=Lib.hid hB2
    clear hR hR2 hB2 hm hn
    go_simp
    (repeat (first|(with_reducible first|refine zA fun K hK=>?_|refine zB ?_|refine zC ?_)|((with_reducible first|refine zD rfl fun K hK=>?_|refine zE fun K hK=>?_);go_simp)|(with_reducible first|((repeat ((fail_if_success refine hK _ _ ?_);clear hK K));refine hK _ _ ?_;clear hK K)|refine zt ?_|refine zf ?_|refine zG ?_|refine zR ?_|refine zK ?_|refine zL ?_|refine zN ?_|refine zS ?_)|simp only [Exit.then,Exit.inBlock,Exit.noGoto,↓reduceIte,Nat.reduceEqDiff]|simp only [undef,reduceCtorEq,↓reduceIte]))
    (refine wp_keep [0,28,29,30] (fun f=>?_);simp only [keep_cons,keep_nil,lk_cons,lk_nil,Nat.reduceEqDiff,↓reduceIte])
    obtain ⟨w3,hw3⟩:∃ w3,w3=(w2.setCell ⟨nb,0,none⟩ (strV nm.1)).setCell ⟨nb,1,none⟩ (strV nm.2):=⟨_,rfl⟩
    have hbe:Below w3.heap.size w3 (w3.alloc (.cells #[] 96)):=(Below.refl _ w3).alloc (Nat.le_refl _) _
    have HR3:=Lib.hid (show RdS x c (w3.alloc (.cells #[] 96)) v2 r none b2 by rw [hw3] at hbe ⊢;exact HR2.out.below HX.out.toOk hbe)
    have HS5:=Lib.hid (show Stp x w v (w3.alloc (.cells #[] 96)) v2 by rw [hw3];exact HS4.out.alloc _)
    have HKP:=Lib.hid (show Keep x w (w3.alloc (.cells #[] 96)) v2 nb nm (.slice (some ⟨w3.heap.size,0,none⟩) 0 0) [] by
      have hb:Blk w3 nb #[strV nm.1,strV nm.2] 82:=by rw [hw3];exact HB2.out
      have hw:w.heap.size ≤ w3.heap.size:=by rw [hw3];exact HS4.out.mod.size
      have hrs:RdS x c w3 v2 r none b2:=by rw [hw3];exact HR2.out
      refine ⟨hb.alloc _,HN2.out,HNBB.out,⟨rfl,Or.inr ⟨w3.heap.size,0,#[],rfl,hw,Blk.new w3 #[] 96,Nat.le_refl _,Nat.zero_le _,rfl,rfl⟩⟩,fun g hg=>?_,by simp⟩
      have hg':w3.heap.size=g:=by simpa [Value.ownBlock] using hg
      subst hg'
      exact ⟨hrs.newS1,by have:=hb.lt;omega⟩)
    rw [show (w2.setCell ⟨nb,0,none⟩ (.string ⟨nm.1.toArray⟩)).setCell ⟨nb,1,none⟩ (.string ⟨nm.2.toArray⟩)=w3 from hw3.symm]
    have HSZ3:=Lib.hid (show w3.heap.size=w2.heap.size by rw [hw3];simp [World.setCell])
    try rw [← HSZ3.out]
    clear hw3 hbe hcq hfq
    refine wp_loop_ghost_k (StInv x c w v nb nm r) r.length ⟨f,v2,r,none,b2,_,[],rfl,HR3.out,HNN.out,HS5.out,HKP.out,rfl,fun K hK=>attrsL_fuel (by omega) hK,by simp⟩ ?_
    clear HR3 HS5 HKP HR2 HB2 HS4
    rintro k _ w6 ⟨f,v6,rest6,e6,b6,av,acc,rfl,h6,hnn6,hs6,hk6,hkk,hat,hlen⟩ J K2 hJ hK2
    have HJ:=Lib.hid hJ
    have HK2:=Lib.hid hK2
    have HS6:=Lib.hid hs6
    have HKK:=Lib.hid hkk
    have HNN6:=Lib.hid hnn6
    have HKP6:=Lib.hid hk6
    have HAT:=Lib.hid (hat (rest6.length + 1) (by omega))
    have HLEN:=Lib.hid hlen
    have hsp:=Lib.hid (space_c x HX.out.toOk c HD.out w6 v6 rest6 e6 b6 h6)
    clear hJ hK2 hs6 hkk hnn6 hk6 hat hlen h6
    (repeat (first|(with_reducible first|refine zA fun K hK=>?_|refine zB ?_|refine zC ?_)|((with_reducible first|refine zD rfl fun K hK=>?_|refine zE fun K hK=>?_);go_simp)|(with_reducible first|((repeat ((fail_if_success refine hK _ _ ?_);clear hK K));refine hK _ _ ?_;clear hK K)|refine zt ?_|refine zf ?_|refine zG ?_|refine zR ?_|refine zK ?_|refine zL ?_|refine zN ?_|refine zS ?_)|simp only [Exit.then,Exit.inBlock,Exit.noGoto,↓reduceIte,Nat.reduceEqDiff]|simp only [undef,reduceCtorEq,↓reduceIte]))
    refine hsp.out.mono ?_
    rintro e7 w7 ⟨rfl,v7,e7',hP⟩
    have HS7:=Lib.hid (HS6.out.s0 hP.mod hP.bufv)
    have HKP7:=Lib.hid (HKP6.out.step (hP.mod.stp hP.bufv))
    have HNN7:=Lib.hid (HNN6.out.of_eq hP.bufv)
    have HR7:=Lib.hid hP.rd
    clear hP hsp HS6 HKP6 HNN6
    cases hw:skipWs rest6 with
    | nil=>
      have HRK:=Lib.hid (show startL x.o (b :: rest)=.error (mustE x.o.fails) by rw [HRES.out,HAT.out];simp only [attrsL,hw])
      have hmg:=Lib.hid (mustgetc_none x HX.out.toOk c HD.out w7 v7 _ b6 (by have:=HR7.out;rw [hw] at this;exact this))
      clear hw
      go_simp
      (repeat (first|(with_reducible first|refine zA fun K hK=>?_|refine zB ?_|refine zC ?_)|((with_reducible first|refine zD rfl fun K hK=>?_|refine zE fun K hK=>?_);go_simp)|(with_reducible first|((repeat ((fail_if_success refine hK _ _ ?_);clear hK K));refine hK _ _ ?_;clear hK K)|refine zt ?_|refine zf ?_|refine zG ?_|refine zR ?_|refine zK ?_|refine zL ?_|refine zN ?_|refine zS ?_)|simp only [Exit.then,Exit.inBlock,Exit.noGoto,↓reduceIte,Nat.reduceEqDiff]|simp only [undef,reduceCtorEq,↓reduceIte]))
      refine hmg.out.mono ?_
      rintro e8 w8 ⟨rfl,v8,hE,hb8,hm8⟩
      have HS8:=Lib.hid (HS7.out.s0 hm8 hb8)
      obtain ⟨t1,u1,hu1⟩:=hE.err.iface
      have HE:=Lib.hid hE
      have hc:=hE.dec.cell
      have hf:=hE.dec.frozen
      have HU:=Lib.hid hu1
      clear hE hm8 hb8 hmg
      go_simp
      (repeat (first|(with_reducible first|refine zA fun K hK=>?_|refine zB ?_|refine zC ?_)|((with_reducible first|refine zD rfl fun K hK=>?_|refine zE fun K hK=>?_);go_simp)|(with_reducible first|((repeat ((fail_if_success refine hK _ _ ?_);clear hK K));refine hK _ _ ?_;clear hK K)|refine zt ?_|refine zf ?_|refine zG ?_|refine zR ?_|refine zK ?_|refine zL ?_|refine zN ?_|refine zS ?_)|simp only [Exit.then,Exit.inBlock,Exit.noGoto,↓reduceIte,Nat.reduceEqDiff]|simp only [undef,reduceCtorEq,↓reduceIte]))
      ((refine wp_keep [0] (fun f=>?_);simp only [keep_cons,keep_nil,lk_cons,lk_nil,Nat.reduceEqDiff,↓reduceIte]);go_quiet (fail);(repeat (first|(with_reducible first|refine zA fun K hK=>?_|refine zB ?_|refine zC ?_)|((with_reducible first|refine zD rfl fun K hK=>?_|refine zE fun K hK=>?_);go_simp)|(with_reducible first|((repeat ((fail_if_success refine hK _ _ ?_);clear hK K));refine hK _ _ ?_;clear hK K)|refine zt ?_|refine zf ?_|refine zG ?_|refine zR ?_|refine zK ?_|refine zL ?_|refine zN ?_|refine zS ?_)|simp only [Exit.then,Exit.inBlock,Exit.noGoto,↓reduceIte,Nat.reduceEqDiff]|simp only [undef,reduceCtorEq,↓reduceIte]));refine Q_keep [2,3] (fun f=>?_);simp only [keep_cons,keep_nil,lk_cons,lk_nil,Nat.reduceEqDiff,↓reduceIte])
      exact HQ.out f _ _ _ ⟨v8,HS8.out.drawn _,by rw [HRK.out];exact ⟨rfl,HU.out.symm,HE.out.drewN _⟩⟩
    | cons b1 r2=>
      have hmg:=Lib.hid (mustgetc_some x HX.out.toOk c HD.out w7 v7 b1 r2 _ b6 (by have:=HR7.out;rw [hw] at this;exact this))
      have HSUF:=Lib.hid (show (b1 :: r2) <:+ x.T by have:=HR7.out.suf;rw [hw] at this;exact this)
      have HL2:=Lib.hid (show r2.length + 1 ≤ rest6.length by have:=(skipWs_suf rest6).length_le;rw [hw] at this;exact this)
      have HAT2:=Lib.hid (show attrsL x.o (r.length + 1) r []=(if b1=47 then closeL x.o.fails acc r2
      else if b1=62 then .ok (acc,false,r2)
      else match attrL x.o (b1 :: r2) with
        | .error e=>.error e
        | .ok (a,r5)=>attrsL x.o rest6.length r5 (acc ++ [a])) by rw [HAT.out,attrsL.eq_def];simp only [hw];cases r2 <;> rfl)
      clear hw HAT
      go_simp
      (repeat (first|(with_reducible first|refine zA fun K hK=>?_|refine zB ?_|refine zC ?_)|((with_reducible first|refine zD rfl fun K hK=>?_|refine zE fun K hK=>?_);go_simp)|(with_reducible first|((repeat ((fail_if_success refine hK _ _ ?_);clear hK K));refine hK _ _ ?_;clear hK K)|refine zt ?_|refine zf ?_|refine zG ?_|refine zR ?_|refine zK ?_|refine zL ?_|refine zN ?_|refine zS ?_)|simp only [Exit.then,Exit.inBlock,Exit.noGoto,↓reduceIte,Nat.reduceEqDiff]|simp only [undef,reduceCtorEq,↓reduceIte]))
      refine hmg.out.mono ?_
      rintro e8 w8 ⟨rfl,v8,h8,hn8,hb8,hm8,hz8⟩
      have HS8:=Lib.hid (HS7.out.s0 hm8 hb8)
      have HKP8:=Lib.hid (HKP7.out.step (hm8.stp hb8))
      have HNN8:=Lib.hid (HNN7.out.of_eq hb8)
      have HR8:=Lib.hid h8
      have HN8:=Lib.hid hn8
      clear h8 hn8 hb8 hm8 hz8 hmg HS7 HKP7 HNN7 HR7
      by_cases hb47:b1=47
      · subst hb47
        cases r2 with
        | nil=>
          have HRK:=Lib.hid (show startL x.o (b :: rest)=.error (mustE x.o.fails) by rw [HRES.out,HAT2.out];rfl)
          have hmg:=Lib.hid (mustgetc_none x HX.out.toOk c HD.out w8 v8 _ b6 HR8.out)
          go_simp
          (repeat (first|(with_reducible first|refine zA fun K hK=>?_|refine zB ?_|refine zC ?_)|((with_reducible first|refine zD rfl fun K hK=>?_|refine zE fun K hK=>?_);go_simp)|(with_reducible first|((repeat ((fail_if_success refine hK _ _ ?_);clear hK K));refine hK _ _ ?_;clear hK K)|refine zt ?_|refine zf ?_|refine zG ?_|refine zR ?_|refine zK ?_|refine zL ?_|refine zN ?_|refine zS ?_)|simp only [Exit.then,Exit.inBlock,Exit.noGoto,↓reduceIte,Nat.reduceEqDiff]|simp only [undef,reduceCtorEq,↓reduceIte]))
          refine hmg.out.mono ?_
          rintro e9 w9 ⟨rfl,v9,hE,hb9,hm9⟩
          have HS9:=Lib.hid (HS8.out.s0 hm9 hb9)
          obtain ⟨t1,u1,hu1⟩:=hE.err.iface
          have HE:=Lib.hid hE
          have hc:=hE.dec.cell
          have hf:=hE.dec.frozen
          have HU:=Lib.hid hu1
          clear hE hm9 hb9 hmg
          go_simp
          (repeat (first|(with_reducible first|refine zA fun K hK=>?_|refine zB ?_|refine zC ?_)|((with_reducible first|refine zD rfl fun K hK=>?_|refine zE fun K hK=>?_);go_simp)|(with_reducible first|((repeat ((fail_if_success refine hK _ _ ?_);clear hK K));refine hK _ _ ?_;clear hK K)|refine zt ?_|refine zf ?_|refine zG ?_|refine zR ?_|refine zK ?_|refine zL ?_|refine zN ?_|refine zS ?_)|simp only [Exit.then,Exit.inBlock,Exit.noGoto,↓reduceIte,Nat.reduceEqDiff]|simp only [undef,reduceCtorEq,↓reduceIte]))
          ((refine wp_keep [0] (fun f=>?_);simp only [keep_cons,keep_nil,lk_cons,lk_nil,Nat.reduceEqDiff,↓reduceIte]);go_quiet (fail);(repeat (first|(with_reducible first|refine zA fun K hK=>?_|refine zB ?_|refine zC ?_)|((with_reducible first|refine zD rfl fun K hK=>?_|refine zE fun K hK=>?_);go_simp)|(with_reducible first|((repeat ((fail_if_success refine hK _ _ ?_);clear hK K));refine hK _ _ ?_;clear hK K)|refine zt ?_|refine zf ?_|refine zG ?_|refine zR ?_|refine zK ?_|refine zL ?_|refine zN ?_|refine zS ?_)|simp only [Exit.then,Exit.inBlock,Exit.noGoto,↓reduceIte,Nat.reduceEqDiff]|simp only [undef,reduceCtorEq,↓reduceIte]));refine Q_keep [2,3] (fun f=>?_);simp only [keep_cons,keep_nil,lk_cons,lk_nil,Nat.reduceEqDiff,↓reduceIte])
          exact HQ.out f _ _ _ ⟨v9,HS9.out.drawn _,by rw [HRK.out];exact ⟨rfl,HU.out.symm,HE.out.drewN _⟩⟩
        | cons d r3=>
          have hmg:=Lib.hid (mustgetc_some x HX.out.toOk c HD.out w8 v8 d r3 _ b6 HR8.out)
          go_simp
          (repeat (first|(with_reducible first|refine zA fun K hK=>?_|refine zB ?_|refine zC ?_)|((with_reducible first|refine zD rfl fun K hK=>?_|refine zE fun K hK=>?_);go_simp)|(with_reducible first|((repeat ((fail_if_success refine hK _ _ ?_);clear hK K));refine hK _ _ ?_;clear hK K)|refine zt ?_|refine zf ?_|refine zG ?_|refine zR ?_|refine zK ?_|refine zL ?_|refine zN ?_|refine zS ?_)|simp only [Exit.then,Exit.inBlock,Exit.noGoto,↓reduceIte,Nat.reduceEqDiff]|simp only [undef,reduceCtorEq,↓reduceIte]))
          refine hmg.out.mono ?_
          rintro e9 w9 ⟨rfl,v9,h9,hn9,hb9,hm9,hz9⟩
          have HS9:=Lib.hid (HS8.out.s0 hm9 hb9)
          have HKP9:=Lib.hid (HKP8.out.step (hm9.stp hb9))
          have HR9:=Lib.hid h9
          have HN9:=Lib.hid hn9
          clear h9 hn9 hb9 hm9 hz9 hmg HS8 HKP8
          by_cases hd62:d=62
          · subst hd62
            have HRK:=Lib.hid (show startL x.o (b :: rest)=.ok ((nm,acc),true,r3) by rw [HRES.out,HAT2.out];rfl)
            go_simp
            (repeat ((fail_if_success with_reducible refine wp_stop 198 ?_);(fail_if_success with_reducible refine wp_stop2 198 ?_);(first|(with_reducible first|refine zA fun K hK=>?_|refine zB ?_|refine zC ?_)|((with_reducible first|refine zD rfl fun K hK=>?_|refine zE fun K hK=>?_);go_simp)|(with_reducible first|((repeat ((fail_if_success refine hK _ _ ?_);clear hK K));refine hK _ _ ?_;clear hK K)|refine zt ?_|refine zf ?_|refine zG ?_|refine zR ?_|refine zK ?_|refine zL ?_|refine zN ?_|refine zS ?_)|simp only [Exit.then,Exit.inBlock,Exit.noGoto,↓reduceIte,Nat.reduceEqDiff]|simp only [undef,reduceCtorEq,↓reduceIte])))
            (refine wp_keep [0,28,29,30] (fun f=>?_);simp only [keep_cons,keep_nil,lk_cons,lk_nil,Nat.reduceEqDiff,↓reduceIte])
            refine wp_code (stFin x HX.out c w v w9 v9 r3 b6 HR9.out HN9.out HS9.out nb nm av acc HKP9.out true _ ?_ f) (by kernel_rfl)
            intro f w' t e hP
            exact HQ.out f w' t e (by rw [HRK.out];exact hP)
          · have hbb:=u8ne (n:=62) hd62 rfl
            have hbb2:=u8bne (n:=62) hd62 rfl
            have HRK:=Lib.hid (show startL x.o (b :: rest)=.error .syn by rw [HRES.out,HAT2.out,if_pos rfl];simp only [closeL,if_neg hd62])
            have HSY:=Lib.hid (fun msg=>synErr_g HX.out.toOk HR9.out msg)
            clear hd62
            go_simp
            (repeat (first|(with_reducible first|refine zA fun K hK=>?_|refine zB ?_|refine zC ?_)|((with_reducible first|refine zD rfl fun K hK=>?_|refine zE fun K hK=>?_);go_simp)|(with_reducible first|((repeat ((fail_if_success refine hK _ _ ?_);clear hK K));refine hK _ _ ?_;clear hK K)|refine zt ?_|refine zf ?_|refine zG ?_|refine zR ?_|refine zK ?_|refine zL ?_|refine zN ?_|refine zS ?_)|simp only [Exit.then,Exit.inBlock,Exit.noGoto,↓reduceIte,Nat.reduceEqDiff]|simp only [undef,reduceCtorEq,↓reduceIte]))
            refine (HSY.out _).mono ?_
            rintro e5 w10 ⟨a9,rfl,hS⟩
            have hc2:=hS.dec.cell
            have hf2:=hS.dec.frozen
            have HS:=Lib.hid hS
            clear hS
            go_simp
            (repeat (first|(with_reducible first|refine zA fun K hK=>?_|refine zB ?_|refine zC ?_)|((with_reducible first|refine zD rfl fun K hK=>?_|refine zE fun K hK=>?_);go_simp)|(with_reducible first|((repeat ((fail_if_success refine hK _ _ ?_);clear hK K));refine hK _ _ ?_;clear hK K)|refine zt ?_|refine zf ?_|refine zG ?_|refine zR ?_|refine zK ?_|refine zL ?_|refine zN ?_|refine zS ?_)|simp only [Exit.then,Exit.inBlock,Exit.noGoto,↓reduceIte,Nat.reduceEqDiff]|simp only [undef,reduceCtorEq,↓reduceIte]))
            ((refine wp_keep [0] (fun f=>?_);simp only [keep_cons,keep_nil,lk_cons,lk_nil,Nat.reduceEqDiff,↓reduceIte]);go_quiet (fail);(repeat (first|(with_reducible first|refine zA fun K hK=>?_|refine zB ?_|refine zC ?_)|((with_reducible first|refine zD rfl fun K hK=>?_|refine zE fun K hK=>?_);go_simp)|(with_reducible first|((repeat ((fail_if_success refine hK _ _ ?_);clear hK K));refine hK _ _ ?_;clear hK K)|refine zt ?_|refine zf ?_|refine zG ?_|refine zR ?_|refine zK ?_|refine zL ?_|refine zN ?_|refine zS ?_)|simp only [Exit.then,Exit.inBlock,Exit.noGoto,↓reduceIte,Nat.reduceEqDiff]|simp only [undef,reduceCtorEq,↓reduceIte]));refine Q_keep [2,3] (fun f=>?_);simp only [keep_cons,keep_nil,lk_cons,lk_nil,Nat.reduceEqDiff,↓reduceIte])
            exact HQ.out f _ _ _ ⟨_,(HS9.out.trans HS.out.stp).drawn _,by rw [HRK.out];exact ⟨rfl,rfl,HS.out.err.drewN _⟩⟩
      · have hbb:=u8ne (n:=47) hb47 rfl
        have hbb2:=u8bne (n:=47) hb47 rfl
        by_cases hb62:b1=62
        · subst hb62
          have HRK:=Lib.hid (show startL x.o (b :: rest)=.ok ((nm,acc),false,r2) by rw [HRES.out,HAT2.out];rfl)
          go_simp
          (repeat ((fail_if_success with_reducible refine wp_stop 198 ?_);(fail_if_success with_reducible refine wp_stop2 198 ?_);(first|(with_reducible first|refine zA fun K hK=>?_|refine zB ?_|refine zC ?_)|((with_reducible first|refine zD rfl fun K hK=>?_|refine zE fun K hK=>?_);go_simp)|(with_reducible first|((repeat ((fail_if_success refine hK _ _ ?_);clear hK K));refine hK _ _ ?_;clear hK K)|refine zt ?_|refine zf ?_|refine zG ?_|refine zR ?_|refine zK ?_|refine zL ?_|refine zN ?_|refine zS ?_)|simp only [Exit.then,Exit.inBlock,Exit.noGoto,↓reduceIte,Nat.reduceEqDiff]|simp only [undef,reduceCtorEq,↓reduceIte])))
          (refine wp_keep [0,28,29,30] (fun f=>?_);simp only [keep_cons,keep_nil,lk_cons,lk_nil,Nat.reduceEqDiff,↓reduceIte])
          refine wp_code (stFin x HX.out c w v w8 v8 r2 b6 HR8.out HN8.out HS8.out nb nm av acc HKP8.out false _ ?_ f) (by kernel_rfl)
          intro f w' t e hP
          exact HQ.out f w' t e (by rw [HRK.out];exact hP)
        · have hbb3:=u8ne (n:=62) hb62 rfl
          have hbb4:=u8bne (n:=62) hb62 rfl
          have hun:=Lib.hid (ungetc_c x HX.out.toOk c w8 v8 b1 r2 b6 HR8.out HN8.out HSUF.out)
          have HAT3:=Lib.hid (show attrsL x.o (r.length + 1) r []=(match attrL x.o (b1 :: r2) with
            | .error e=>.error e
            | .ok (a,r5)=>attrsL x.o rest6.length r5 (acc ++ [a])) by rw [HAT2.out,if_neg hb47,if_neg hb62])
          clear hb47 hb62
          go_simp
          (repeat (first|(with_reducible first|refine zA fun K hK=>?_|refine zB ?_|refine zC ?_)|((with_reducible first|refine zD rfl fun K hK=>?_|refine zE fun K hK=>?_);go_simp)|(with_reducible first|((repeat ((fail_if_success refine hK _ _ ?_);clear hK K));refine hK _ _ ?_;clear hK K)|refine zt ?_|refine zf ?_|refine zG ?_|refine zR ?_|refine zK ?_|refine zL ?_|refine zN ?_|refine zS ?_)|simp only [Exit.then,Exit.inBlock,Exit.noGoto,↓reduceIte,Nat.reduceEqDiff]|simp only [undef,reduceCtorEq,↓reduceIte]))
          refine hun.out.mono ?_
          rintro e9 w9 ⟨rfl,v9,h9,hn9,hb9,hm9,hz9⟩
          have HS9:=Lib.hid (HS8.out.s0 hm9 hb9)
          have HKP9:=Lib.hid (HKP8.out.step (hm9.stp hb9))
          have HNN9:=Lib.hid (HNN8.out.of_eq hb9)
          have HR9:=Lib.hid h9
          clear h9 hn9 hb9 hm9 hz9 hun HS8 HKP8 HNN8
          go_simp
          (repeat ((fail_if_success with_reducible refine wp_stop 176 ?_);(fail_if_success with_reducible refine wp_stop2 176 ?_);(first|(with_reducible first|refine zA fun K hK=>?_|refine zB ?_|refine zC ?_)|((with_reducible first|refine zD rfl fun K hK=>?_|refine zE fun K hK=>?_);go_simp)|(with_reducible first|((repeat ((fail_if_success refine hK _ _ ?_);clear hK K));refine hK _ _ ?_;clear hK K)|refine zt ?_|refine zf ?_|refine zG ?_|refine zR ?_|refine zK ?_|refine zL ?_|refine zN ?_|refine zS ?_)|simp only [Exit.then,Exit.inBlock,Exit.noGoto,↓reduceIte,Nat.reduceEqDiff]|simp only [undef,reduceCtorEq,↓reduceIte])))
          (refine wp_keep [0,28,29,30] (fun f=>?_);simp only [keep_cons,keep_nil,lk_cons,lk_nil,Nat.reduceEqDiff,↓reduceIte])
          refine wp_code (atOne x HX.out c HD.out HNO.out w v w9 v9 (b1 :: r2) b6 HR9.out HNN9.out HS9.out HBW.out nb nm av acc HKP9.out (by have:=HLEN.out;have:=HRLEN.out;omega) _ _ _ ?_ ?_ f) (by kernel_rfl)
          · intro a r5 hres f w' v' e' b' av' hr hn2 hs' hk'
            have HR:=Lib.hid hr
            have HNN2:=Lib.hid hn2
            have HS:=Lib.hid hs'
            have HK:=Lib.hid hk'
            have HLL:=Lib.hid ((attrL_suf hres).2)
            have HG:=Lib.hid (show attrsL x.o (r.length + 1) r []=attrsL x.o rest6.length r5 (acc ++ [a]) by rw [HAT3.out,hres])
            clear hr hn2 hs' hk' hres
            (repeat (first|(with_reducible first|refine zA fun K hK=>?_|refine zB ?_|refine zC ?_)|((with_reducible first|refine zD rfl fun K hK=>?_|refine zE fun K hK=>?_);go_simp)|(with_reducible first|((repeat ((fail_if_success refine hK _ _ ?_);clear hK K));refine hK _ _ ?_;clear hK K)|refine zt ?_|refine zf ?_|refine zG ?_|refine zR ?_|refine zK ?_|refine zL ?_|refine zN ?_|refine zS ?_)|simp only [Exit.then,Exit.inBlock,Exit.noGoto,↓reduceIte,Nat.reduceEqDiff]|simp only [undef,reduceCtorEq,↓reduceIte]))
            refine HK2.out _ _ ⟨r5.length,?_,HJ.out _ _ _ ⟨f,v',r5,e',b',av',acc ++ [a],rfl,HR.out,HNN2.out,HS.out,HK.out,rfl,fun K hK=>?_,?_⟩⟩
            · rw [HKK.out];have:=HLL.out;have:=HL2.out;simp only [List.length_cons] at *;omega
            · rw [HG.out];exact attrsL_fuel (by have:=HLL.out;have:=HL2.out;simp only [List.length_cons] at *;omega) hK
            · have:=HLL.out;have:=HL2.out;have:=HLEN.out;simp only [List.length_append,List.length_cons,List.length_nil] at *;omega
          · intro k hres f w' v' hE hs'
            have HE:=Lib.hid hE
            have HS:=Lib.hid hs'
            have HG:=Lib.hid (show startL x.o (b :: rest)=.error k by rw [HRES.out,HAT3.out,hres])
            clear hE hs' hres
            (repeat (first|(with_reducible first|refine zA fun K hK=>?_|refine zB ?_|refine zC ?_)|((with_reducible first|refine zD rfl fun K hK=>?_|refine zE fun K hK=>?_);go_simp)|(with_reducible first|((repeat ((fail_if_success refine hK _ _ ?_);clear hK K));refine hK _ _ ?_;clear hK K)|refine zt ?_|refine zf ?_|refine zG ?_|refine zR ?_|refine zK ?_|refine zL ?_|refine zN ?_|refine zS ?_)|simp only [Exit.then,Exit.inBlock,Exit.noGoto,↓reduceIte,Nat.reduceEqDiff]|simp only [undef,reduceCtorEq,↓reduceIte]))
            exact HQ.out f w' _ _ ⟨v',HS.out,by rw [HG.out];exact ⟨rfl,rfl,HE.out⟩⟩
end Go.Proofs.YtkjnockljapnbaaGreatDoor
