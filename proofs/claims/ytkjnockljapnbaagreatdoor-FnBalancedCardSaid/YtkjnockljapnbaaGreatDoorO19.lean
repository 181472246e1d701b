/- Part of the proof that laws.FnBalanced returns true for every argument (Wc). No condition of its own. -/
import Derived.Test.YtkjnockljapnbaaGreatDoorO18
import Derived.Test.YtkjnockljapnbaaGreatDoorO17
import Derived.Test.YtkjnockljapnbaaGreatDoorO02
import Derived.Maps.AppendAt
set_option linter.all false
set_option maxHeartbeats 8000000
set_option maxRecDepth 100000
namespace Go.Proofs.YtkjnockljapnbaaGreatDoor
open Go Go.RowKit
abbrev cmV (v:Value):Value:=.iface 115 v
abbrev dvV (v:Value):Value:=.iface 118 v
abbrev pvV (tg:Bs) (v:Value):Value:=.iface 117 (.agg #[strV tg,v])
abbrev enV (nm:Bs × Bs):Value:=.iface 103 (.agg #[strV nm.1,strV nm.2])
abbrev stV (nm:Bs × Bs) (ats:Value):Value:=.iface 94 (.agg #[strV nm.1,strV nm.2,ats])
def atCells (ats:List At3):List Value:=ats.flatMap fun a=>[strV a.1,strV a.2.1,strV a.2.2]
theorem atCells_len (ats:List At3):(atCells ats).length=ats.length * 3:=by
  induction ats with
  | nil=>rfl
  | cons a ats ih=>
    have:atCells (a :: ats)=[strV a.1,strV a.2.1,strV a.2.2] ++ atCells ats:=rfl
    rw [this,List.length_append,ih];simp;omega
structure DataAt (w:World) (bv:Value) (s:Value) (d:Bs):Prop where
  ex:∃ g cap n,s=.slice (some ⟨g,0,none⟩) d.length cap∧bv=.slice (some ⟨g,0,none⟩) n cap∧BytesAt w g 0 d∧d.length ≤ cap∧cap ≤ 9223372036854775807
def TokAt (w:World) (bv:Value) (base:Nat) (tv:Value):RTok → Prop
  | .text d=>∃ s,tv=chV s∧DataAt w bv s d
  | .comment d=>∃ s,tv=cmV s∧DataAt w bv s d
  | .dir d=>∃ s,tv=dvV s∧DataAt w bv s d
  | .proc tg d=>∃ s,tv=pvV tg s∧DataAt w bv s d
  | .fin nm=>tv=enV nm
  | .start nm ats=>∃ s,tv=stV nm s∧s ≠ .slice none 0 0∧w.ownsRow base 96 3 s ats.length (atCells ats)
def DC.closing (c:DC) (nm:Bs × Bs) (em:Bool):DC:=if em then { c with needClose:=true,tcs:=⟨nm.1.toArray⟩,tcl:=⟨nm.2.toArray⟩ } else c
def RawPost (x:Cx) (c:DC) (w:World) (v:DV) (R:Except EK (RTok × Bs)) (t e:Value) (w':World):Prop:=
  ∃ v',Stp x w v w' v'∧match R with
    | .error k=>t=.nilIface∧e=v'.err∧ErrS x c w' v' k
    | .ok (tk,r)=>e=.nilIface∧∃ e' b,RdS x c w' v' r e' b∧TokAt w' v'.bufv w.heap.size t tk∧(e'=none ∨ ((∃ d,tk=.text d)∧r=[]∧e'=some (endE x.o.fails)))∧v'.nb=-1
noncomputable def rwCode (n:Nat):Code:=((Tryz.f23.body).bind (Code.partAt n)).getD .skip
theorem Stp.below {x:Cx} {w w1 w2:World} {v v1:DV} (h:Stp x w v w1 v1) (hb:Below w1.heap.size w1 w2):Stp x w v w2 v1:=h.s0 (mod_none hb _) rfl
theorem Stp.alloc {x:Cx} {w w1:World} {v v1:DV} (h:Stp x w v w1 v1) (o:Obj):Stp x w v (w1.alloc o) v1:=h.below ((Below.refl _ w1).alloc (Nat.le_refl _) _)
theorem ErrS.drewN {x:Cx} {c:DC} {w:World} {v:DV} {k:EK} (h:ErrS x c w v k) (n:Nat):ErrS x c (w.drewN n) v k:=⟨Below_drewN h.base _,h.dec,h.err⟩
theorem Stp.drawn {x:Cx} {w w1:World} {v v1:DV} (h:Stp x w v w1 v1) (n:Nat):Stp x w v (w1.drewN n) v1:=h.trans (Stp.drewN n)
theorem u8bne {b c:UInt8} {n:Int} (h:b ≠ c) (hc:(c.toNat:Int)=n):((b.toNat:Int) != n)=true:=by
  have:=u8ne h hc
  simpa using this
theorem synErr_g {x:Cx} (hx:x.Ok) {c:DC} {w:World} {v:DV} {rest:Bs} {e:Option EK} {buf:Bs} (h:RdS x c w v rest e buf) (msg:ByteArray) :
    Calls Tryz.prog 24 #[.pointer (some ⟨x.d,0,none⟩),.string msg] w fun en w'=>∃ a,en=.returned (synV a)∧SynW x c w v w' a:=
  (synErr_w hx h msg).mono fun _ _ ⟨h1,h2⟩=>⟨_,h1,h2⟩
structure NameAt (x:Cx) (w0:World) (v0:DV) (w:World) (q:Nat) (nm:Bs × Bs):Prop where
  blk:Blk w q #[strV nm.1,strV nm.2] 82
  new:w0.heap.size ≤ q
  ns:¬ x.S1 v0 q
theorem NameAt.stp {x:Cx} {w0:World} {v0:DV} {w w':World} {v v':DV} {q:Nat} {nm:Bs × Bs} (h:NameAt x w0 v0 w q nm) (hs:Stp x w v w' v') (hq:¬ x.S1 v q):NameAt x w0 v0 w' q nm:=
  ⟨h.blk.mod hs.mod hq,h.new,h.ns⟩
theorem Stp.notS1 {x:Cx} {w w':World} {v v':DV} {q:Nat} (h:Stp x w v w' v') (hq:¬ x.S1 v q) (hl:q < w.heap.size):¬ x.S1 v' q:=by
  rintro (h1|h1)
  · exact hq (Or.inl h1)
  · rcases h.buf q h1 with h2|h2
    · exact hq (Or.inr h2)
    · omega
theorem RdS.newS1 {x:Cx} {c:DC} {w:World} {v:DV} {rest:Bs} {e:Option EK} {buf:Bs} (h:RdS x c w v rest e buf):¬ x.S1 v w.heap.size:=fun hk=>Nat.lt_irrefl _ (h.s1lt _ hk)
theorem name_store {x:Cx} {c:DC} {w:World} {v:DV} {rest:Bs} {e:Option EK} {buf:Bs} (h:RdS x c w v rest e buf) {q:Nat} {a b:Value} (hq:Blk w q #[a,b] 82) (hS:¬ x.S1 v q) (hB:x.B ≤ q) (nm:Bs × Bs) :
    RdS x c ((w.setCell ⟨q,0,none⟩ (strV nm.1)).setCell ⟨q,1,none⟩ (strV nm.2)) v rest e buf∧Blk ((w.setCell ⟨q,0,none⟩ (strV nm.1)).setCell ⟨q,1,none⟩ (strV nm.2)) q #[strV nm.1,strV nm.2] 82 ∧
      Mod (fun k=>k=q) w ((w.setCell ⟨q,0,none⟩ (strV nm.1)).setCell ⟨q,1,none⟩ (strV nm.2)):=by
  have hm:Mod (fun k=>k=q) w ((w.setCell ⟨q,0,none⟩ (strV nm.1)).setCell ⟨q,1,none⟩ (strV nm.2)):=((Mod.refl (fun k=>k=q) w).setCell (p:=⟨q,0,none⟩) (Or.inl rfl) _).setCell (p:=⟨q,1,none⟩) (Or.inl rfl) _
  exact ⟨h.mod hm (fun k hk he=>hS (he ▸ hk)) (fun k hk=>hk ▸ hB),(hq.set 0 (strV nm.1)).set 1 (strV nm.2),hm⟩
theorem name_store_err {x:Cx} {c:DC} {w:World} {v:DV} {k:EK} (h:ErrS x c w v k) {q:Nat} {a b:Value} (hq:Blk w q #[a,b] 82) (hS:¬ x.S1 v q) (hB:x.B ≤ q) (nm:Bs × Bs) :
    ErrS x c ((w.setCell ⟨q,0,none⟩ (strV nm.1)).setCell ⟨q,1,none⟩ (strV nm.2)) v k∧Mod (fun k=>k=q) w ((w.setCell ⟨q,0,none⟩ (strV nm.1)).setCell ⟨q,1,none⟩ (strV nm.2)):=by
  have hm:Mod (fun k=>k=q) w ((w.setCell ⟨q,0,none⟩ (strV nm.1)).setCell ⟨q,1,none⟩ (strV nm.2)):=((Mod.refl (fun k=>k=q) w).setCell (p:=⟨q,0,none⟩) (Or.inl rfl) _).setCell (p:=⟨q,1,none⟩) (Or.inl rfl) _
  exact ⟨⟨Mod.below h.base h.base.size hm (fun k hk=>hk ▸ hB),Blk.mod h.dec hm (fun he=>hS (he ▸ Or.inl (Or.inl rfl))),h.err⟩,hm⟩
theorem splitName_len (s:Bs):(splitName s).1.length ≤ s.length∧(splitName s).2.length ≤ s.length:=by
  unfold splitName
  split
  · simp
  · rename_i b loc h
    have h1:loc.length ≤ s.length:=by
      have h2:=(List.dropWhile_suffix (fun x:UInt8=>x != 58) (l:=s)).length_le
      rw [h] at h2;simp at h2;omega
    have h3:=(List.takeWhile_prefix (fun x:UInt8=>x != 58) (l:=s)).length_le
    split
    · simp
    · exact ⟨h3,h1⟩
theorem rawEnd (x:Cx) (hx:x.All) (c:DC) (hdc:DcOk x c) (w:World) (v:DV) (rest:Bs) (e:Option EK) (buf:Bs) (h:RdS x c w v rest e buf) (Q:Exit → Act → World → Prop)
    (hQ:∀ f w' t e,RawPost x c w v (endL x.o rest) t e w' → Q .ret (fr 731 f [(2,t),(3,e)]) w') (f:Nat → Value) :
    (rwCode 22).wp Tryz.prog Q (fr 731 f [(0,decP x)]) w:=by
  have hb1:Below w.heap.size w (w.alloc (.cells #[.string ⟨#[]⟩,.string ⟨#[]⟩] 82)):=(Below.refl _ w).alloc (Nat.le_refl _) _
  have hns:=Lib.hid (nsname_c x hx.toFit c hdc _ v rest e buf (h.below hx.toOk hb1))
  have hq:=Blk.new w #[.string ⟨#[]⟩,.string ⟨#[]⟩] 82
  have HS0:=Lib.hid ((Stp.refl x w v).alloc (.cells #[.string ⟨#[]⟩,.string ⟨#[]⟩] 82))
  have HQ0:=Lib.hid hq
  have HNB:=Lib.hid h.newS1
  have HX:=Lib.hid hx
  have HD:=Lib.hid hdc
  have HQ:=Lib.hid hQ
  have HBW:=Lib.hid (show x.B ≤ w.heap.size from h.base.size)
  have HRL:=Lib.hid (show rest.length ≤ 1000000000 from Nat.le_trans (h.suf.length_le) hx.len)
  clear h hb1 hq hx hdc hQ
  unfold rwCode
  conv=>arg 2;whnf
  (repeat (first|(with_reducible first|refine zA fun K hK=>?_|refine zB ?_|refine zC ?_)|((with_reducible first|refine zD rfl fun K hK=>?_|refine zE fun K hK=>?_);go_simp)|(with_reducible first|((repeat ((fail_if_success refine hK _ _ ?_);clear hK K));refine hK _ _ ?_;clear hK K)|refine zt ?_|refine zf ?_|refine zG ?_|refine zR ?_|refine zK ?_|refine zL ?_|refine zN ?_|refine zS ?_)|simp only [Exit.then,Exit.inBlock,Exit.noGoto,↓reduceIte,Nat.reduceEqDiff]|simp only [undef,reduceCtorEq,↓reduceIte]))
  refine hns.out.mono ?_
  rintro e2 w2 ⟨v2,hs2,hp2⟩
  have hlt:w.heap.size < (w.alloc (.cells #[.string ⟨#[]⟩,.string ⟨#[]⟩] 82)).heap.size:=by simp
  have hn2:=hs2.notS1 HNB.out hlt
  have hq2:=HQ0.out.mod hs2.mod HNB.out
  have HS2:=Lib.hid (HS0.out.trans hs2)
  have HQ2:=Lib.hid hq2
  have HN2:=Lib.hid hn2
  have hcq:=hq2.cell
  have hfq:=hq2.frozen
  have hdq:x.d ≠ w.heap.size:=fun e=>hn2 (Or.inl (Or.inl e.symm))
  have hqd:w.heap.size ≠ x.d:=fun e=>hdq e.symm
  clear hs2 hq2 hn2 hlt hns
  cases hn:nsnameL x.o.fails rest with
  | error k=>
    rw [hn] at hp2
    obtain ⟨nm,rfl,hno⟩:=hp2
    have HRES:=Lib.hid (show endL x.o rest=.error k by unfold endL;rw [hn])
    rcases hno with hE|⟨rfl,r,b,hR⟩
    · obtain ⟨hE2,hm⟩:=name_store_err hE HQ2.out HN2.out HBW.out nm
      have HS3:=Lib.hid (HS2.out.new (Nat.le_refl _) hm)
      obtain ⟨t1,u1,hu1⟩:=hE.err.iface
      have HE2:=Lib.hid hE2
      have hc:=hE2.dec.cell
      have hf:=hE2.dec.frozen
      have HU:=Lib.hid hu1
      clear hE hE2 hm hn
      go_simp
      (repeat (first|(with_reducible first|refine zA fun K hK=>?_|refine zB ?_|refine zC ?_)|((with_reducible first|refine zD rfl fun K hK=>?_|refine zE fun K hK=>?_);go_simp)|(with_reducible first|((repeat ((fail_if_success refine hK _ _ ?_);clear hK K));refine hK _ _ ?_;clear hK K)|refine zt ?_|refine zf ?_|refine zG ?_|refine zR ?_|refine zK ?_|refine zL ?_|refine zN ?_|refine zS ?_)|simp only [Exit.then,Exit.inBlock,Exit.noGoto,↓reduceIte,Nat.reduceEqDiff]|simp only [undef,reduceCtorEq,↓reduceIte]))
      ((refine wp_keep [0] (fun f=>?_);simp only [keep_cons,keep_nil,lk_cons,lk_nil,Nat.reduceEqDiff,↓reduceIte]);go_quiet (fail);(repeat (first|(with_reducible first|refine zA fun K hK=>?_|refine zB ?_|refine zC ?_)|((with_reducible first|refine zD rfl fun K hK=>?_|refine zE fun K hK=>?_);go_simp)|(with_reducible first|((repeat ((fail_if_success refine hK _ _ ?_);clear hK K));refine hK _ _ ?_;clear hK K)|refine zt ?_|refine zf ?_|refine zG ?_|refine zR ?_|refine zK ?_|refine zL ?_|refine zN ?_|refine zS ?_)|simp only [Exit.then,Exit.inBlock,Exit.noGoto,↓reduceIte,Nat.reduceEqDiff]|simp only [undef,reduceCtorEq,↓reduceIte]));refine Q_keep [2,3] (fun f=>?_);simp only [keep_cons,keep_nil,lk_cons,lk_nil,Nat.reduceEqDiff,↓reduceIte])
      exact HQ.out f _ _ _ ⟨v2,HS3.out.drawn _,by rw [HRES.out];exact ⟨rfl,HU.out.symm,HE2.out.drewN _⟩⟩
    · obtain ⟨hR2,hB2,hm⟩:=name_store hR HQ2.out HN2.out HBW.out nm
      have HS3:=Lib.hid (HS2.out.new (Nat.le_refl _) hm)
      have he:v2.err=.nilIface:=hR2.err
      have hc:=hR2.dec.cell
      have hf:=hR2.dec.frozen
      have HSY:=Lib.hid (fun msg=>synErr_g HX.out.toOk hR2 msg)
      clear hR hR2 hB2 hm hn
      go_simp
      (repeat (first|(with_reducible first|refine zA fun K hK=>?_|refine zB ?_|refine zC ?_)|((with_reducible first|refine zD rfl fun K hK=>?_|refine zE fun K hK=>?_);go_simp)|(with_reducible first|((repeat ((fail_if_success refine hK _ _ ?_);clear hK K));refine hK _ _ ?_;clear hK K)|refine zt ?_|refine zf ?_|refine zG ?_|refine zR ?_|refine zK ?_|refine zL ?_|refine zN ?_|refine zS ?_)|simp only [Exit.then,Exit.inBlock,Exit.noGoto,↓reduceIte,Nat.reduceEqDiff]|simp only [undef,reduceCtorEq,↓reduceIte]))
      refine (HSY.out _).mono ?_
      rintro e3 w3 ⟨a9,rfl,hS⟩
      have hc2:=hS.dec.cell
      have hf2:=hS.dec.frozen
      have HS:=Lib.hid hS
      clear hS hc hf he hcq hfq
      go_simp
      (repeat (first|(with_reducible first|refine zA fun K hK=>?_|refine zB ?_|refine zC ?_)|((with_reducible first|refine zD rfl fun K hK=>?_|refine zE fun K hK=>?_);go_simp)|(with_reducible first|((repeat ((fail_if_success refine hK _ _ ?_);clear hK K));refine hK _ _ ?_;clear hK K)|refine zt ?_|refine zf ?_|refine zG ?_|refine zR ?_|refine zK ?_|refine zL ?_|refine zN ?_|refine zS ?_)|simp only [Exit.then,Exit.inBlock,Exit.noGoto,↓reduceIte,Nat.reduceEqDiff]|simp only [undef,reduceCtorEq,↓reduceIte]))
      ((refine wp_keep [0] (fun f=>?_);simp only [keep_cons,keep_nil,lk_cons,lk_nil,Nat.reduceEqDiff,↓reduceIte]);go_quiet (fail);(repeat (first|(with_reducible first|refine zA fun K hK=>?_|refine zB ?_|refine zC ?_)|((with_reducible first|refine zD rfl fun K hK=>?_|refine zE fun K hK=>?_);go_simp)|(with_reducible first|((repeat ((fail_if_success refine hK _ _ ?_);clear hK K));refine hK _ _ ?_;clear hK K)|refine zt ?_|refine zf ?_|refine zG ?_|refine zR ?_|refine zK ?_|refine zL ?_|refine zN ?_|refine zS ?_)|simp only [Exit.then,Exit.inBlock,Exit.noGoto,↓reduceIte,Nat.reduceEqDiff]|simp only [undef,reduceCtorEq,↓reduceIte]));refine Q_keep [2,3] (fun f=>?_);simp only [keep_cons,keep_nil,lk_cons,lk_nil,Nat.reduceEqDiff,↓reduceIte])
      exact HQ.out f _ _ _ ⟨_,(HS3.out.trans HS.out.stp).drawn _,by rw [HRES.out];exact ⟨rfl,rfl,HS.out.err.drewN _⟩⟩
  | ok p=>
    obtain ⟨nm,r⟩:=p
    rw [hn] at hp2
    obtain ⟨rfl,b,_,hR⟩:=hp2
    obtain ⟨hR2,hB2,hm⟩:=name_store hR HQ2.out HN2.out HBW.out nm
    have HS3:=Lib.hid (HS2.out.new (Nat.le_refl _) hm)
    have HR2:=Lib.hid hR2
    have HB2:=Lib.hid hB2
    have HRES:=Lib.hid (show endL x.o rest=(match skipWs r with|[]=>.error (mustE x.o.fails)|b :: r2=>if b=62 then .ok (.fin nm,r2) else .error .syn) by unfold endL;rw [hn];rfl)
    have HNL:=Lib.hid (show nm.2.length ≤ 1000000000 by
      obtain ⟨s,h1,_,rfl⟩:=nsnameL_name hn
      have h2:=(splitName_len s).2
      have h3:=nameL_len h1
      have:=HRL.out
      omega)
    have hsp:=Lib.hid (space_c x HX.out.toOk c HD.out _ v2 r none b HR2.out)
    clear hR hR2 hB2 hm hn
    go_simp
    (repeat (first|(with_reducible first|refine zA fun K hK=>?_|refine zB ?_|refine zC ?_)|((with_reducible first|refine zD rfl fun K hK=>?_|refine zE fun K hK=>?_);go_simp)|(with_reducible first|((repeat ((fail_if_success refine hK _ _ ?_);clear hK K));refine hK _ _ ?_;clear hK K)|refine zt ?_|refine zf ?_|refine zG ?_|refine zR ?_|refine zK ?_|refine zL ?_|refine zN ?_|refine zS ?_)|simp only [Exit.then,Exit.inBlock,Exit.noGoto,↓reduceIte,Nat.reduceEqDiff]|simp only [undef,reduceCtorEq,↓reduceIte]))
    refine hsp.out.mono ?_
    rintro e3 w3 ⟨rfl,v3,e3',hP⟩
    have hq3:=HB2.out.mod hP.mod (fun hk=>HN2.out (Or.inl hk))
    have HS4:=Lib.hid (HS3.out.s0 hP.mod hP.bufv)
    have HR3:=Lib.hid hP.rd
    have HQ3:=Lib.hid hq3
    have HN3:=Lib.hid (show ¬ x.S1 v3 w.heap.size from by
      rintro (h1|h1)
      · exact HN2.out (Or.inl h1)
      · rw [hP.bufv] at h1;exact HN2.out (Or.inr h1))
    clear hP hsp hq3
    cases hw:skipWs r with
    | nil=>
      have HRES2:=Lib.hid (show endL x.o rest=.error (mustE x.o.fails) by rw [HRES.out,hw])
      have hmg:=Lib.hid (mustgetc_none x HX.out.toOk c HD.out w3 v3 _ b (by have:=HR3.out;rw [hw] at this;exact this))
      clear hw
      go_simp
      (repeat (first|(with_reducible first|refine zA fun K hK=>?_|refine zB ?_|refine zC ?_)|((with_reducible first|refine zD rfl fun K hK=>?_|refine zE fun K hK=>?_);go_simp)|(with_reducible first|((repeat ((fail_if_success refine hK _ _ ?_);clear hK K));refine hK _ _ ?_;clear hK K)|refine zt ?_|refine zf ?_|refine zG ?_|refine zR ?_|refine zK ?_|refine zL ?_|refine zN ?_|refine zS ?_)|simp only [Exit.then,Exit.inBlock,Exit.noGoto,↓reduceIte,Nat.reduceEqDiff]|simp only [undef,reduceCtorEq,↓reduceIte]))
      refine hmg.out.mono ?_
      rintro e4 w4 ⟨rfl,v4,hE,hb4,hm4⟩
      have HS5:=Lib.hid (HS4.out.s0 hm4 hb4)
      obtain ⟨t1,u1,hu1⟩:=hE.err.iface
      have HE:=Lib.hid hE
      have hc:=hE.dec.cell
      have hf:=hE.dec.frozen
      have HU:=Lib.hid hu1
      clear hE hm4 hb4 hmg hcq hfq
      go_simp
      (repeat (first|(with_reducible first|refine zA fun K hK=>?_|refine zB ?_|refine zC ?_)|((with_reducible first|refine zD rfl fun K hK=>?_|refine zE fun K hK=>?_);go_simp)|(with_reducible first|((repeat ((fail_if_success refine hK _ _ ?_);clear hK K));refine hK _ _ ?_;clear hK K)|refine zt ?_|refine zf ?_|refine zG ?_|refine zR ?_|refine zK ?_|refine zL ?_|refine zN ?_|refine zS ?_)|simp only [Exit.then,Exit.inBlock,Exit.noGoto,↓reduceIte,Nat.reduceEqDiff]|simp only [undef,reduceCtorEq,↓reduceIte]))
      ((refine wp_keep [0] (fun f=>?_);simp only [keep_cons,keep_nil,lk_cons,lk_nil,Nat.reduceEqDiff,↓reduceIte]);go_quiet (fail);(repeat (first|(with_reducible first|refine zA fun K hK=>?_|refine zB ?_|refine zC ?_)|((with_reducible first|refine zD rfl fun K hK=>?_|refine zE fun K hK=>?_);go_simp)|(with_reducible first|((repeat ((fail_if_success refine hK _ _ ?_);clear hK K));refine hK _ _ ?_;clear hK K)|refine zt ?_|refine zf ?_|refine zG ?_|refine zR ?_|refine zK ?_|refine zL ?_|refine zN ?_|refine zS ?_)|simp only [Exit.then,Exit.inBlock,Exit.noGoto,↓reduceIte,Nat.reduceEqDiff]|simp only [undef,reduceCtorEq,↓reduceIte]));refine Q_keep [2,3] (fun f=>?_);simp only [keep_cons,keep_nil,lk_cons,lk_nil,Nat.reduceEqDiff,↓reduceIte])
      exact HQ.out f _ _ _ ⟨v4,HS5.out.drawn _,by rw [HRES2.out];exact ⟨rfl,HU.out.symm,HE.out.drewN _⟩⟩
    | cons b1 r2=>
      have hmg:=Lib.hid (mustgetc_some x HX.out.toOk c HD.out w3 v3 b1 r2 _ b (by have:=HR3.out;rw [hw] at this;exact this))
      have HRES2:=Lib.hid (show endL x.o rest=if b1=62 then .ok (.fin nm,r2) else .error .syn by rw [HRES.out,hw])
      clear hw
      go_simp
      (repeat (first|(with_reducible first|refine zA fun K hK=>?_|refine zB ?_|refine zC ?_)|((with_reducible first|refine zD rfl fun K hK=>?_|refine zE fun K hK=>?_);go_simp)|(with_reducible first|((repeat ((fail_if_success refine hK _ _ ?_);clear hK K));refine hK _ _ ?_;clear hK K)|refine zt ?_|refine zf ?_|refine zG ?_|refine zR ?_|refine zK ?_|refine zL ?_|refine zN ?_|refine zS ?_)|simp only [Exit.then,Exit.inBlock,Exit.noGoto,↓reduceIte,Nat.reduceEqDiff]|simp only [undef,reduceCtorEq,↓reduceIte]))
      refine hmg.out.mono ?_
      rintro e4 w4 ⟨rfl,v4,hR4,hn4,hb4,hm4,hz4⟩
      have HS5:=Lib.hid (HS4.out.s0 hm4 hb4)
      have hq4:=HQ3.out.mod hm4 (fun hk=>HN3.out (Or.inl hk))
      have hcq:=hq4.cell
      have hfq:=hq4.frozen
      have HR4:=Lib.hid hR4
      have HN4:=Lib.hid hn4
      clear hR4 hn4 hm4 hb4 hz4 hmg hq4
      by_cases hb:b1=62
      · subst hb
        go_simp
        (repeat (first|(with_reducible first|refine zA fun K hK=>?_|refine zB ?_|refine zC ?_)|((with_reducible first|refine zD rfl fun K hK=>?_|refine zE fun K hK=>?_);go_simp)|(with_reducible first|((repeat ((fail_if_success refine hK _ _ ?_);clear hK K));refine hK _ _ ?_;clear hK K)|refine zt ?_|refine zf ?_|refine zG ?_|refine zR ?_|refine zK ?_|refine zL ?_|refine zN ?_|refine zS ?_)|simp only [Exit.then,Exit.inBlock,Exit.noGoto,↓reduceIte,Nat.reduceEqDiff]|simp only [undef,reduceCtorEq,↓reduceIte]))
        refine Q_keep [2,3] (fun f=>?_);simp only [keep_cons,keep_nil,lk_cons,lk_nil,Nat.reduceEqDiff,↓reduceIte]
        exact HQ.out f _ _ _ ⟨v4,HS5.out,by rw [HRES2.out,if_pos rfl];exact ⟨rfl,none,b,HR4.out,rfl,Or.inl rfl,HN4.out⟩⟩
      · have hbb:=u8ne (n:=62) hb rfl
        have hbb2:=u8bne (n:=62) hb rfl
        have HRES3:=Lib.hid (show endL x.o rest=.error .syn by rw [HRES2.out,if_neg hb])
        have HSY:=Lib.hid (fun msg=>synErr_g HX.out.toOk HR4.out msg)
        have hl1:¬ 9223372036854775807 < nm.2.length + 6:=by have:=HNL.out;omega
        have hl2:¬ 9223372036854775807 < 29 + nm.2.length:=by have:=HNL.out;omega
        have hl3:¬ 9223372036854775807 < 29 + nm.2.length + 6:=by have:=HNL.out;omega
        have hl4:¬ 9223372036854775807 < 29 + (nm.2.length + 6):=by have:=HNL.out;omega
        clear hb
        go_simp
        (repeat (first|(with_reducible first|refine zA fun K hK=>?_|refine zB ?_|refine zC ?_)|((with_reducible first|refine zD rfl fun K hK=>?_|refine zE fun K hK=>?_);go_simp)|(with_reducible first|((repeat ((fail_if_success refine hK _ _ ?_);clear hK K));refine hK _ _ ?_;clear hK K)|refine zt ?_|refine zf ?_|refine zG ?_|refine zR ?_|refine zK ?_|refine zL ?_|refine zN ?_|refine zS ?_)|simp only [Exit.then,Exit.inBlock,Exit.noGoto,↓reduceIte,Nat.reduceEqDiff]|simp only [undef,reduceCtorEq,↓reduceIte]))
        refine (HSY.out _).mono ?_
        rintro e5 w5 ⟨a9,rfl,hS⟩
        have hc2:=hS.dec.cell
        have hf2:=hS.dec.frozen
        have HS:=Lib.hid hS
        clear hS hcq hfq
        go_simp
        (repeat (first|(with_reducible first|refine zA fun K hK=>?_|refine zB ?_|refine zC ?_)|((with_reducible first|refine zD rfl fun K hK=>?_|refine zE fun K hK=>?_);go_simp)|(with_reducible first|((repeat ((fail_if_success refine hK _ _ ?_);clear hK K));refine hK _ _ ?_;clear hK K)|refine zt ?_|refine zf ?_|refine zG ?_|refine zR ?_|refine zK ?_|refine zL ?_|refine zN ?_|refine zS ?_)|simp only [Exit.then,Exit.inBlock,Exit.noGoto,↓reduceIte,Nat.reduceEqDiff]|simp only [undef,reduceCtorEq,↓reduceIte]))
        ((refine wp_keep [0] (fun f=>?_);simp only [keep_cons,keep_nil,lk_cons,lk_nil,Nat.reduceEqDiff,↓reduceIte]);go_quiet (fail);(repeat (first|(with_reducible first|refine zA fun K hK=>?_|refine zB ?_|refine zC ?_)|((with_reducible first|refine zD rfl fun K hK=>?_|refine zE fun K hK=>?_);go_simp)|(with_reducible first|((repeat ((fail_if_success refine hK _ _ ?_);clear hK K));refine hK _ _ ?_;clear hK K)|refine zt ?_|refine zf ?_|refine zG ?_|refine zR ?_|refine zK ?_|refine zL ?_|refine zN ?_|refine zS ?_)|simp only [Exit.then,Exit.inBlock,Exit.noGoto,↓reduceIte,Nat.reduceEqDiff]|simp only [undef,reduceCtorEq,↓reduceIte]));refine Q_keep [2,3] (fun f=>?_);simp only [keep_cons,keep_nil,lk_cons,lk_nil,Nat.reduceEqDiff,↓reduceIte])
        exact HQ.out f _ _ _ ⟨_,(HS5.out.trans HS.out.stp).drawn _,by rw [HRES3.out];exact ⟨rfl,rfl,HS.out.err.drewN _⟩⟩
end Go.Proofs.YtkjnockljapnbaaGreatDoor
