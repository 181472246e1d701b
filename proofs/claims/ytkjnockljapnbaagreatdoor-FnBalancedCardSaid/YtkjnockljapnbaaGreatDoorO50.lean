/- Part of the proof that laws.FnBalanced returns true for every argument (Iz, Ka, Kc, Kd, Ke, Kf). No condition of its own. -/
import Derived.Test.YtkjnockljapnbaaGreatDoorO49
import Derived.Test.YtkjnockljapnbaaGreatDoorO02
import Derived.Test.YtkjnockljapnbaaGreatDoorO45
set_option linter.all false
set_option maxHeartbeats 8000000
set_option maxRecDepth 100000
namespace Go.Proofs.YtkjnockljapnbaaGreatDoor
open Go Go.RowKit
noncomputable def tsCode (n:Nat):Code:=((Tryz.f9.body).bind (Code.partAt n)).getD .skip
theorem take_pre {T rest:Bs} (h:rest <:+ T):T=T.take (T.length - rest.length) ++ rest:=by
  obtain ⟨p,rfl⟩:=h
  have:(p ++ rest).length - rest.length=p.length:=by rw [List.length_append];omega
  rw [this,List.take_left' rfl]
theorem RdS.line_col {x:Cx} {c:DC} {w:World} {v:DV} {rest:Bs} {e:Option EK} {buf:Bs} (hR:RdS x c w v rest e buf) (hnb:v.nb ≠ 10) (tk:RTok) {pre:Bs} (hpre:x.T=pre ++ rest) :
    v.line=((tk.itok pre).line:Nat)∧v.off - v.lstart + 1=((tk.itok pre).col:Nat):=by
  obtain ⟨p,hT,ho,hl,hs,_⟩:=hR.pos
  have hp:p=pre:=List.append_cancel_right (by rw [← hT,← hpre])
  subst hp
  have h1:=hs hnb
  cases tk <;> exact ⟨hl,by show _=((colOf p:Nat):Int);omega⟩
structure TksOut (x:Cx) (au:Value) (m b0:Nat) (s:St) (l:List (RTok × St)) (xs:List Value) (Q:Exit → Act → World → Prop):Prop where
  on:∀ f c w v s' sb fb n l' xs' tv',TkSt x c w v s' m sb fb n b0 l' xs' tv' au → s'.mu2 < s.mu2 → Q .normal (fr 45 f [(7,.pointer (some ⟨b0,0,none⟩)),(10,decP x),(11,tv')]) w
  err:∀ f w tv k,Toks eqFold x.o (St.init x.T) l k → Below x.B x.W0 w → w.ownsRow b0 33 8 tv l.length xs → RowsAt (RowOk w b0 (fun _=>True) x.T) l xs → Q .ret (fr 45 f [(8,tv),(9,.int .i64 (EK.code k))]) w
theorem tksErr (x:Cx) (hx:x.All) (heb:∃ cs t,Blk x.W0 x.eofA.block cs t) (het:x.W0.cell? ⟨1,0,none⟩=some (rtI 55)) (hetB:1 < x.B)
    (au:Value) (m b0:Nat) (s:St) (l:List (RTok × St)) (xs:List Value) (tv:Value) (k:EK) (hrun:Toks eqFold x.o (St.init x.T) l k) (w:World) (hrow:w.ownsRow b0 33 8 tv l.length xs) (hrows:RowsAt (RowOk w b0 (fun _=>True) x.T) l xs)
    (t e:Value) (he:ErrV x e (some k)) (hb:Below x.B x.W0 w) (ho:OthAt w e k) (Q:Exit → Act → World → Prop) (hQ:TksOut x au m b0 s l xs Q) (f:Nat → Value) :
    (tsCode 8).wp Tryz.prog Q (fr 45 f [(7,.pointer (some ⟨b0,0,none⟩)),(10,decP x),(11,tv),(12,t),(13,e)]) w:=by
  have hco:=Lib.hid (code_c x hx.toOk heb het hetB hb he ho)
  obtain ⟨t1,u1,rfl⟩:=he.iface
  have HQ:=Lib.hid hQ
  have HRUN:=Lib.hid hrun
  have HROW:=Lib.hid hrow
  have HROWS:=Lib.hid hrows
  have HB:=Lib.hid hb
  clear hx heb het hetB hrun hrow hrows he hb ho hQ
  conv=>arg 2;unfold tsCode;whnf
  (repeat (first|(with_reducible first|refine zA fun K hK=>?_|refine zB ?_|refine zC ?_)|((with_reducible first|refine zD rfl fun K hK=>?_|refine zE fun K hK=>?_);go_simp)|(with_reducible first|((repeat ((fail_if_success refine hK _ _ ?_);clear hK K));refine hK _ _ ?_;clear hK K)|refine zt ?_|refine zf ?_|refine zG ?_|refine zR ?_|refine zK ?_|refine zL ?_|refine zN ?_|refine zS ?_)|simp only [Exit.then,Exit.inBlock,Exit.noGoto,↓reduceIte,Nat.reduceEqDiff]|simp only [undef,reduceCtorEq,↓reduceIte]))
  refine hco.out.mono ?_
  rintro e2 w2 ⟨rfl,hb2⟩
  have HB2:=Lib.hid hb2
  clear hb2 hco
  go_simp
  (repeat (first|(with_reducible first|refine zA fun K hK=>?_|refine zB ?_|refine zC ?_)|((with_reducible first|refine zD rfl fun K hK=>?_|refine zE fun K hK=>?_);go_simp)|(with_reducible first|((repeat ((fail_if_success refine hK _ _ ?_);clear hK K));refine hK _ _ ?_;clear hK K)|refine zt ?_|refine zf ?_|refine zG ?_|refine zR ?_|refine zK ?_|refine zL ?_|refine zN ?_|refine zS ?_)|simp only [Exit.then,Exit.inBlock,Exit.noGoto,↓reduceIte,Nat.reduceEqDiff]|simp only [undef,reduceCtorEq,↓reduceIte]))
  refine Q_keep [8,9] (fun f=>?_);simp only [keep_cons,keep_nil,lk_cons,lk_nil,Nat.reduceEqDiff,↓reduceIte]
  have hm:Mod (fun _=>False) w w2:=mod_none HB2.out _
  exact HQ.out.err f w2 tv k HRUN.out (HB.out.trans (HB2.out.mono HB.out.size)) (ownsRow_mod HROW.out hm (fun _ _=>id)) (HROWS.out.mono (fun a ys hr=>hr.mod hm (fun k _ _=>⟨id,trivial⟩)))
theorem tksOk (x:Cx) (hx:x.All) (hT:x.T.length ≤ 100000000) (au:Value) (m b0:Nat) (hB:x.B ≤ b0) (c0:DC) (w0:World) (v0:DV) (s:St) (sb0 fb0:List Nat) (n0:Nat) (l:List (RTok × St)) (xs:List Value) (tv:Value) (h:TkSt x c0 w0 v0 s m sb0 fb0 n0 b0 l xs tv au)
    (tk:RTok) (s':St) (hstep:stepL eqFold x.o s=.ok (tk,s')) (c:DC) (w:World) (v:DV) (sb fb:List Nat) (n:Nat) (hts:TS x c w v s' m sb fb n) (t:Value) (BT:Nat) (ht:TokAt w v.bufv BT t tk) (hm:Mod (fun b=>x.S1 v0 b ∨ b ∈ m :: (sb0 ++ fb0) ∨ tokBlk c0.nextTok b) w0 w) (h1:∀ b ∈ m :: (sb ++ fb),b ∈ m :: (sb0 ++ fb0) ∨ w0.heap.size ≤ b) (h2:∀ b,x.S1 v b → x.S1 v0 b ∨ w0.heap.size ≤ b) (h3:∀ g,tokBlk c.nextTok g → tokBlk c0.nextTok g ∨ w0.heap.size ≤ g) (hle:∀ nm ats,tk=.start nm ats → ats.length ≤ 1000000000)
    (Q:Exit → Act → World → Prop) (hQ:TksOut x au m b0 s l xs Q) (f:Nat → Value) :
    (tsCode 8).wp Tryz.prog Q (fr 45 f [(7,.pointer (some ⟨b0,0,none⟩)),(10,decP x),(11,tv),(12,t),(13,.nilIface)]) w:=by
  obtain ⟨a1,a2,a3,a4,a5,a6,a7,a8,a9⟩:=h.step hx.toOk hstep hts hm h1 h2 h3
  obtain ⟨e0,bf,hR,_,_⟩:=hts.rd.rd
  have HLC:=Lib.hid (hR.line_col hts.rd.nb tk (take_pre hR.suf))
  have hit:=Lib.hid (itok_c x hx.toOk c w v s'.rest e0 bf hR _ (take_pre hR.suf) BT t tk ht hle)
  have hmu0:(St.init x.T).mu2=8 * x.T.length:=by rw [mu2_of rfl];unfold St.mu St.init;simp
  have hln:l.length ≤ 1000000000:=by rw [hmu0] at a8;omega
  have HLN:=Lib.hid hln
  have HA:=Lib.hid (And.intro a1 (And.intro a2 (And.intro a3 (And.intro a4 (And.intro a5 (And.intro a6 (And.intro a7 (And.intro a8 a9))))))))
  have HTS:=Lib.hid hts
  have HTV:=Lib.hid h.tvb
  have HQ:=Lib.hid hQ
  have HBL:=Lib.hid hB
  clear hx hT hB h hstep hts ht hm h1 h2 h3 hle hQ a1 a2 a3 a4 a5 a6 a7 a8 a9 hR hmu0 hln
  obtain ⟨p,hp⟩:∃ p,p=tk.itok (x.T.take (x.T.length - s'.rest.length)):=⟨_,rfl⟩
  rw [← hp] at hit
  have HP:=Lib.hid hp
  clear hp
  conv=>arg 2;unfold tsCode;whnf
  (repeat (first|(with_reducible first|refine zA fun K hK=>?_|refine zB ?_|refine zC ?_)|((with_reducible first|refine zD rfl fun K hK=>?_|refine zE fun K hK=>?_);go_simp)|(with_reducible first|((repeat ((fail_if_success refine hK _ _ ?_);clear hK K));refine hK _ _ ?_;clear hK K)|refine zt ?_|refine zf ?_|refine zG ?_|refine zR ?_|refine zK ?_|refine zL ?_|refine zN ?_|refine zS ?_)|simp only [Exit.then,Exit.inBlock,Exit.noGoto,↓reduceIte,Nat.reduceEqDiff]|simp only [undef,reduceCtorEq,↓reduceIte]))
  refine hit.out.mono ?_
  rintro e3 w3 ⟨⟨sa,sl,sc,rfl,hat⟩,hb3⟩
  obtain ⟨b1,b2,b3,b4,b5,b6,b7,b8,b9⟩:=HA.out
  obtain ⟨tv',w4,hrun,hown,hgr,hob⟩:=tok_append2 w3 b0 (Nat.le_trans (Nat.le_of_lt b2.lt) hb3.size) tv l.length HLN.out xs (ownsRow_mod (S:=fun _=>False) b3 (mod_none hb3 _) (fun _ _=>id)) p.kind p.space p.loc (.slice sa sl sc) rfl p.text p.at' v.line (v.off - v.lstart + 1)
  have HAT:=Lib.hid hat
  have HB3:=Lib.hid hb3
  have HOWN:=Lib.hid hown
  have HGR:=Lib.hid hgr
  have HOB:=Lib.hid hob
  clear hit hat hb3 hown hgr hob b1 b2 b3 b4 b5 b6 b7 b8 b9
  go_simp
  (repeat ((fail_if_success at_builtin);(first|(with_reducible first|refine zA fun K hK=>?_|refine zB ?_|refine zC ?_)|((with_reducible first|refine zD rfl fun K hK=>?_|refine zE fun K hK=>?_);go_simp)|(with_reducible first|((repeat ((fail_if_success refine hK _ _ ?_);clear hK K));refine hK _ _ ?_;clear hK K)|refine zt ?_|refine zf ?_|refine zG ?_|refine zR ?_|refine zK ?_|refine zL ?_|refine zN ?_|refine zS ?_)|simp only [Exit.then,Exit.inBlock,Exit.noGoto,↓reduceIte,Nat.reduceEqDiff]|simp only [undef,reduceCtorEq,↓reduceIte])))
  refine wpList_app rfl (.tmp 39) (.tmp 43) _ _ rfl _ _ _ (by rw [fr_eval (by decide)];(try simp only [keep_cons,keep_nil,lk_cons,lk_nil,Nat.reduceEqDiff,↓reduceIte]);(try rfl)) (by rw [fr_eval (by decide)];(try simp only [keep_cons,keep_nil,lk_cons,lk_nil,Nat.reduceEqDiff,↓reduceIte]);(try rfl)) hrun ?_
  clear hrun
  rw [fr_put (by decide)]
  (repeat (first|(with_reducible first|refine zA fun K hK=>?_|refine zB ?_|refine zC ?_)|((with_reducible first|refine zD rfl fun K hK=>?_|refine zE fun K hK=>?_);go_simp)|(with_reducible first|((repeat ((fail_if_success refine hK _ _ ?_);clear hK K));refine hK _ _ ?_;clear hK K)|refine zt ?_|refine zf ?_|refine zG ?_|refine zR ?_|refine zK ?_|refine zL ?_|refine zN ?_|refine zS ?_)|simp only [Exit.then,Exit.inBlock,Exit.noGoto,↓reduceIte,Nat.reduceEqDiff]|simp only [undef,reduceCtorEq,↓reduceIte]))
  refine Q_keep [7,10,11] (fun f=>?_);simp only [keep_cons,keep_nil,lk_cons,lk_nil,Nat.reduceEqDiff,↓reduceIte]
  obtain ⟨b1,b2,b3,b4,b5,b6,b7,b8,b9⟩:=HA.out
  have hp:=HP.out
  subst hp
  exact HQ.out.on f c w4 v s' sb fb n _ _ tv' (TkSt.lay HBL.out HTS.out b1 b2 HTV.out b3 b4 b5 b6 b7 b8 HB3.out HAT.out HOWN.out HGR.out HOB.out HLC.out) b9
end Go.Proofs.YtkjnockljapnbaaGreatDoor
namespace Go.Proofs.YtkjnockljapnbaaGreatDoor
open Go Go.RowKit
structure AuL (w:World) (A:Option Addr) (C:Nat) (l:List Bs):Prop where
  n:l.length ≤ 1000000000000
  c:l.length ≤ C
  at':0 < l.length → ∃ b o,A=some ⟨b,o,none⟩∧b < w.heap.size∧∀ j a,l[j]?=some a → w.cell? ⟨b,o + j,none⟩=some (strV a)∧a.length ≤ 1000000000000
theorem AuL.nil (w:World) (A:Option Addr) (C:Nat):AuL w A C []:=⟨by simp,by simp,fun h=>(by simp at h)⟩
theorem AuL.below {w w':World} {A:Option Addr} {C:Nat} {l:List Bs} (h:AuL w A C l) (hb:Below w.heap.size w w'):AuL w' A C l:=by
  refine ⟨h.n,h.c,fun hl=>?_⟩
  obtain ⟨b,o,h1,h2,h3⟩:=h.at' hl
  refine ⟨b,o,h1,Nat.lt_of_lt_of_le h2 hb.size,fun j a hj=>?_⟩
  rw [hb.cell (p:=⟨b,o + j,none⟩) h2]
  exact h3 j a hj
theorem tokens_c (T:Bs) (hT:T.length ≤ 100000000) (o:Opt) (hno:o.ents=none) (auA:Option Addr) (auC:Nat) (pcA:Option Addr) (pcN pcC:Nat) (pcs:List Int) (w:World) (hE:EnvA w) (hau:AuL w auA auC o.auto) (hp:PcOk w pcA pcN pcC pcs) :
    Calls Tryz.prog 9 #[strV T,.slice pcA pcN pcC,.bool o.fails,optV o.raw (!o.strict) (.slice auA o.auto.length auC) o.space] w (TokensOut T o w):=by
  obtain ⟨eofA,he,hl⟩:=hE.eof
  obtain ⟨x,hx⟩:∃ x,x=mkCx w T o eofA pcA pcN pcC pcs:=⟨_,rfl⟩
  have HALL:=Lib.hid (show x.All by rw [hx];exact mkCx_all hE.toEnv (by omega) o he hl hp)
  have HEB:=Lib.hid (show ∃ cs t,Blk x.W0 x.eofA.block cs t by rw [hx];exact hE.eofB eofA he)
  have HET:=Lib.hid (show x.W0.cell? ⟨1,0,none⟩=some (rtI 55) by rw [hx];exact hE.et)
  have HETB:=Lib.hid (show 1 < x.B by rw [hx];exact hE.etB)
  have HAF:=Lib.hid (show AfTab x.W0 by rw [hx];exact hE.af)
  have HAFB:=Lib.hid (show 3 < x.B by rw [hx];exact hE.afB)
  have hxo:x.o=o:=by rw [hx];rfl
  have hxT:x.T=T:=by rw [hx];rfl
  have hxW:x.W0=w:=by rw [hx];rfl
  have hxB:x.B=w.heap.size:=by rw [hx];rfl
  have hrdx:x.rd=w.heap.size + 1:=by rw [hx];rfl
  have hdx:x.d=w.heap.size + 4:=by rw [hx];rfl
  have hbx:x.br=w.heap.size + 5:=by rw [hx];rfl
  have hrbx:x.rb=w.heap.size + 6:=by rw [hx];rfl
  have HX:=Lib.hid hx
  have HXO:=Lib.hid hxo
  have HXT:=Lib.hid hxT
  have HXW:=Lib.hid hxW
  have HXB:=Lib.hid hxB
  have HTL:=Lib.hid hT
  have HAU:=Lib.hid hau
  have HFE:=Lib.hid (show FoldEnv x.W0 by rw [hxW];exact hE.fe)
  have HNO:=Lib.hid hno
  have HDX:=Lib.hid hdx
  have HRDX:=Lib.hid hrdx
  have HBX:=Lib.hid hbx
  have HRBX:=Lib.hid hrbx
  clear hx hT hE he hl hp hau hno hxo hxT hxW hxB
  have hdec:=Lib.hid (fun (w':World) (hs:w'.heap.size=w.heap.size + 2)=>decoder_c x w' o.raw (!o.strict) auA o.auto.length auC o.space (by omega) (by omega) (by omega))
  clear hdx hbx hrbx hrdx
  refine calls_fr (vs:=[_,_,_,_]) 45 Tryz.func9 rfl rfl (Nat.le_of_ble_eq_true rfl) fun f=>?_
  simp only [argSlots]
  (repeat (first|(with_reducible first|refine zA fun K hK=>?_|refine zB ?_|refine zC ?_)|((with_reducible first|refine zD rfl fun K hK=>?_|refine zE fun K hK=>?_);go_simp)|(with_reducible first|((repeat ((fail_if_success refine hK _ _ ?_);clear hK K));refine hK _ _ ?_;clear hK K)|refine zt ?_|refine zf ?_|refine zG ?_|refine zR ?_|refine zK ?_|refine zL ?_|refine zN ?_|refine zS ?_)|simp only [Exit.then,Exit.inBlock,Exit.noGoto,↓reduceIte,Nat.reduceEqDiff]|simp only [undef,reduceCtorEq,↓reduceIte]))
  rw [show (w.heap.size + 1)=x.rd from HRDX.out.symm]
  have hrd0:Blk ((w.alloc (.cells #[.bool o.raw,.bool (!o.strict),.slice none 0 0,.slice auA o.auto.length auC,strV o.space] 30)).alloc (.cells #[strV T,.slice pcA pcN pcC,.int .i64 0,.bool o.fails] 52)) x.rd #[strV T,.slice pcA pcN pcC,.int .i64 0,.bool o.fails] 52:=by
    have:=Blk.new (w.alloc (.cells #[.bool o.raw,.bool (!o.strict),.slice none 0 0,.slice auA o.auto.length auC,strV o.space] 30)) #[strV T,.slice pcA pcN pcC,.int .i64 0,.bool o.fails] 52
    rw [HRDX.out];simpa using this
  have hop0:Blk ((w.alloc (.cells #[.bool o.raw,.bool (!o.strict),.slice none 0 0,.slice auA o.auto.length auC,strV o.space] 30)).alloc (.cells #[strV T,.slice pcA pcN pcC,.int .i64 0,.bool o.fails] 52)) w.heap.size (optCells o (.slice auA o.auto.length auC)) 30:=(Blk.new w _ _).alloc _
  have hbl0:Below w.heap.size w ((w.alloc (.cells #[.bool o.raw,.bool (!o.strict),.slice none 0 0,.slice auA o.auto.length auC,strV o.space] 30)).alloc (.cells #[strV T,.slice pcA pcN pcC,.int .i64 0,.bool o.fails] 52)):=((Below.refl _ w).alloc (Nat.le_refl _) _).alloc (by simp) _
  have hsz0:((w.alloc (.cells #[.bool o.raw,.bool (!o.strict),.slice none 0 0,.slice auA o.auto.length auC,strV o.space] 30)).alloc (.cells #[strV T,.slice pcA pcN pcC,.int .i64 0,.bool o.fails] 52)).heap.size=w.heap.size + 2:=by simp
  refine (hdec.out _ (by simp)).mono ?_
  rintro e1 w1 ⟨rfl,hb1,hd1,hbr,hrb,hmp⟩
  rw [hsz0] at hmp
  have HB1:=Lib.hid (hbl0.trans (hb1.mono (by simp;omega)))
  obtain ⟨c,hc⟩:∃ c:DC,c={ c0 x (w.heap.size + 2 + 1) with strict:=o.strict,auto:=.slice auA o.auto.length auC,space:=⟨o.space.toArray⟩ }:=⟨_,rfl⟩
  have hdc:DecAt w1 x.d c v0:=by
    rw [hc]
    have h9:=hd1
    rw [hsz0] at h9
    simpa using h9
  have hrd1:Blk w1 x.rd _ _:=Blk.mod (S:=fun _=>False) hrd0 (mod_none hb1 _) id
  have hop1:Blk w1 w.heap.size (optCells o (.slice auA o.auto.length auC)) 30:=Blk.mod (S:=fun _=>False) hop0 (mod_none hb1 _) id
  have hR:RdS x c w1 v0 T none []:=rdS0 (c:=c) (by have:=HTL.out;omega) x HX.out HB1.out hdc hbr hrb (by rw [HX.out] at hrd1 ⊢;exact hrd1)
  have hns:NsAt w1 (w.heap.size + 2 + 1) 0 (fun _=>none):=NsAt.of hmp
  have hS1:∀ k,x.S1 v0 k → k=w.heap.size + 4 ∨ k=w.heap.size + 5 ∨ k=w.heap.size + 6 ∨ k=w.heap.size + 1:=by
    have h1:=HDX.out
    have h2:=HRDX.out
    have h3:=HBX.out
    have h4:=HRBX.out
    rintro k ((h|h|h|h)|h)
    · omega
    · omega
    · omega
    · omega
    · exact h.elim
  have hts:TS x c w1 v0 (St.init T) (w.heap.size + 2 + 1) [] [] 0:=by
    refine ⟨⟨⟨by rw [hc];rfl,by rw [hc,HXO.out]⟩,⟨by rw [hc];rfl,by rw [HXO.out];exact HNO.out⟩,by rw [hc,HXO.out],⟨auA,o.auto.length,auC,by rw [hc],by rw [HXO.out],HAU.out.n,HAU.out.c,fun h=>by rw [HXO.out,HXB.out,HXW.out];exact HAU.out.at' h⟩⟩,
      ⟨⟨none,[],hR,fun h=>(by cases h),fun h=>absurd rfl h⟩,by rw [hc];rfl,fun nm h=>(by cases h),(show (-1:Int) ≠ 10 by decide)⟩,
      ⟨by rw [hc];exact rfl,⟨[],by rw [hc];exact rfl⟩,by rw [hc];rfl,hns,by simp,fun b hb=>?_,fun b hb hs=>?_⟩,fun e he=>(by cases he),fun k u h=>(by cases h),fun nm h=>(by cases h),?_,NxAt.none rfl (by rw [hc];rfl)⟩
    · simp only [List.append_nil,List.mem_cons,List.not_mem_nil,or_false] at hb
      rw [hb,HXB.out];omega
    · simp only [List.append_nil,List.mem_cons,List.not_mem_nil,or_false] at hb
      have:=hS1 b hs
      omega
    · rw [HXT.out];simp [St.init,nextW]
  have hst:TkSt x c w1 v0 (St.init T) (w.heap.size + 2 + 1) [] [] 0 w.heap.size [] [] (.slice none 0 0) (.slice auA o.auto.length auC):=by
    refine ⟨hts,by rw [HXO.out];exact hop1,⟨hop1.lt,fun hs=>by have:=hS1 _ hs;omega,fun hh=>?_,fun hh=>by rw [show c.nextTok=.nilIface by rw [hc];rfl] at hh;exact hh.elim⟩,by simp [Value.ownBlock],⟨rfl,Or.inl ⟨rfl,rfl⟩⟩,fun k hk=>(by cases hk),.nil,fun l' e ht=>(by rw [HXT.out];simpa using ht),fun _=>rfl,by rw [HXT.out];simp⟩
    simp only [List.append_nil,List.mem_cons,List.not_mem_nil,or_false] at hh
    omega
  have HST:=Lib.hid hst
  clear hb1 hd1 hbr hrb hmp hdc hc hrd1 hrd0 hop0 hbl0 hdec hop1 hR hns hS1 hts hst hsz0
  go_simp
  (repeat (first|(with_reducible first|refine zA fun K hK=>?_|refine zB ?_|refine zC ?_)|((with_reducible first|refine zD rfl fun K hK=>?_|refine zE fun K hK=>?_);go_simp)|(with_reducible first|((repeat ((fail_if_success refine hK _ _ ?_);clear hK K));refine hK _ _ ?_;clear hK K)|refine zt ?_|refine zf ?_|refine zG ?_|refine zR ?_|refine zK ?_|refine zL ?_|refine zN ?_|refine zS ?_)|simp only [Exit.then,Exit.inBlock,Exit.noGoto,↓reduceIte,Nat.reduceEqDiff]|simp only [undef,reduceCtorEq,↓reduceIte]))
  (refine wp_keep [7,10,11] (fun f=>?_);simp only [keep_cons,keep_nil,lk_cons,lk_nil,Nat.reduceEqDiff,↓reduceIte])
  obtain ⟨m,hm⟩:∃ m,m=w.heap.size + 2 + 1:=⟨_,rfl⟩
  rw [← hm] at HST
  clear hm
  refine wp_loop_ghost_k (TkInv x (.slice auA o.auto.length auC) m w.heap.size) (St.init T).mu2 ⟨f,c,v0,St.init T,[],[],0,[],[],.slice none 0 0,rfl,HST.out,rfl⟩ ?_
  clear HST
  rintro k _ w2 ⟨f,c,v,s,sb,fb,n,l,xs,tv,rfl,hst,hk⟩ J K2 hJ hK2
  have HJ:=Lib.hid hJ
  have HK2:=Lib.hid hK2
  have HST:=Lib.hid hst
  have HK:=Lib.hid hk
  have hco:∀ j,w2.cell? ⟨w.heap.size,j,none⟩=(optCells o (.slice auA o.auto.length auC))[j]?:=by have h:=hst.opt.cell;rw [HXO.out] at h;exact h
  have hfo:=hst.opt.frozen
  have hmuT:s.mu2 ≤ 8 * T.length:=by
    have h1:=hst.mu
    have h2:(St.init x.T).mu2=8 * T.length:=by rw [mu2_of rfl,HXT.out];unfold St.mu St.init;simp
    omega
  have HMU:=Lib.hid hmuT
  clear hJ hK2 hst hk hmuT
  have hcase:o.raw=true ∨ o.raw=false:=by cases o.raw <;> simp
  rcases hcase with hraw|hraw
  · have hsl:stepL eqFold x.o s=rawL x.o s:=by unfold stepL;rw [HXO.out,hraw];rfl
    have HSL:=Lib.hid hsl
    have HTK:=Lib.hid (rawToken_c x HALL.out HAF.out HAFB.out c w2 v s m sb fb n  HST.out.ts (HST.out.next (by rw [HXO.out];exact hraw)))
    clear hsl
    (repeat (first|(with_reducible first|refine zA fun K hK=>?_|refine zB ?_|refine zC ?_)|((with_reducible first|refine zD rfl fun K hK=>?_|refine zE fun K hK=>?_);go_simp)|(with_reducible first|((repeat ((fail_if_success refine hK _ _ ?_);clear hK K));refine hK _ _ ?_;clear hK K)|refine zt ?_|refine zf ?_|refine zG ?_|refine zR ?_|refine zK ?_|refine zL ?_|refine zN ?_|refine zS ?_)|simp only [Exit.then,Exit.inBlock,Exit.noGoto,↓reduceIte,Nat.reduceEqDiff]|simp only [undef,reduceCtorEq,↓reduceIte]))
    refine HTK.out.mono ?_
    rintro e1 w3 ⟨t,e,rfl,hp⟩
    rw [← HSL.out] at hp
    have HP:=Lib.hid hp
    clear hp HTK hco hfo
    go_simp
    (repeat ((fail_if_success with_reducible refine wp_stop 8 ?_);(fail_if_success with_reducible refine wp_stop2 8 ?_);(first|(with_reducible first|refine zA fun K hK=>?_|refine zB ?_|refine zC ?_)|((with_reducible first|refine zD rfl fun K hK=>?_|refine zE fun K hK=>?_);go_simp)|(with_reducible first|((repeat ((fail_if_success refine hK _ _ ?_);clear hK K));refine hK _ _ ?_;clear hK K)|refine zt ?_|refine zf ?_|refine zG ?_|refine zR ?_|refine zK ?_|refine zL ?_|refine zN ?_|refine zS ?_)|simp only [Exit.then,Exit.inBlock,Exit.noGoto,↓reduceIte,Nat.reduceEqDiff]|simp only [undef,reduceCtorEq,↓reduceIte])))
    (refine wp_keep [7,10,11,12,13] (fun f=>?_);simp only [keep_cons,keep_nil,lk_cons,lk_nil,Nat.reduceEqDiff,↓reduceIte])
    have hp:=HP.out
    unfold TkPost at hp
    cases hres:stepL eqFold x.o s with
    | error kk=>
      rw [hres] at hp
      obtain ⟨_,p2,p3,p4,p5⟩:=hp
      have hfar:∀ k,Far x v c.nextTok m sb fb w2 k → ¬ (x.S1 v k ∨ k ∈ m :: (sb ++ fb) ∨ tokBlk c.nextTok k):=fun k hf hh=>by
        rcases hh with hh|hh|hh
        · exact hf.s1 hh
        · exact hf.own hh
        · exact hf.pend hh
      refine wp_code (tksErr x HALL.out HEB.out HET.out HETB.out (.slice auA o.auto.length auC) m w.heap.size s l xs tv kk ?_ w3 (ownsRow_mod HST.out.row p5 (fun k hk=>hfar k (HST.out.tvf k hk))) (HST.out.rows.mono (fun a ys hr=>hr.mod p5 (fun k hk _=>⟨hfar k hk.1,trivial⟩))) t e p2 p3 p4 _ ⟨fun f c' w' v' s' sb' fb' n' l' xs' tv' hst' hlt=>?_,fun f w' tv' kk' hr' hb' hrow' hrows'=>?_⟩ f) (by kernel_rfl)
      · have h9:=HST.out.run [] kk (.stop hres)
        simpa using h9
      · refine HK2.out _ _ ⟨s'.mu2,by rw [HK.out];exact hlt,HJ.out _ _ _ ⟨f,c',v',s',sb',fb',n',l',xs',tv',rfl,hst',rfl⟩⟩
      · (refine fr_out2 rfl (by decide) (by decide) (by simp only [lk_cons,lk_nil,Nat.reduceEqDiff,↓reduceIte];rfl) (by simp only [lk_cons,lk_nil,Nat.reduceEqDiff,↓reduceIte];rfl) ?_)
        rw [HXB.out,HXW.out] at hb'
        rw [HXT.out] at hrows'
        refine ⟨l,kk',tv',xs,rfl,?_,hb',hrow',hrows',?_⟩
        · have h9:=hr'
          rw [HXO.out,HXT.out] at h9
          exact h9
        · have h1:=HST.out.mu
          have h2:(St.init x.T).mu2=8 * T.length:=by rw [mu2_of rfl,HXT.out];unfold St.mu St.init;simp
          omega
    | ok pr=>
      obtain ⟨tk,s2⟩:=pr
      rw [hres] at hp
      obtain ⟨rfl,c3,v3,sb3,fb3,n3,g1,⟨BT,g2⟩,g3,g4,g5,g6⟩:=hp
      refine wp_code (tksOk x HALL.out (by rw [HXT.out];exact HTL.out) (.slice auA o.auto.length auC) m w.heap.size (by rw [HXB.out];exact Nat.le_refl _) c w2 v s sb fb n l xs tv HST.out tk s2 hres c3 w3 v3 sb3 fb3 n3 g1 t BT g2 g3 g4 g5 g6 (fun nm ats ht=>?_) _ ⟨fun f c' w' v' s' sb' fb' n' l' xs' tv' hst' hlt=>?_,fun f w' tv' kk' hr' hb' hrow' hrows'=>?_⟩ f) (by kernel_rfl)
      · subst ht
        obtain ⟨e9,b9,hR9,_,_⟩:=HST.out.ts.rd.rd
        have h9:=stepL_ats (by rw [HXO.out];exact HNO.out) hres hR9.suf.length_le HST.out.ts.tcl (fun tk htk=>by
          have h:=HST.out.ts.nxt
          unfold NxAt at h
          rw [htk] at h
          obtain ⟨_,_,_,_,h4,_⟩:=h
          exact h4)
        have h7:=HALL.out.toOk.len
        omega
      · refine HK2.out _ _ ⟨s'.mu2,by rw [HK.out];exact hlt,HJ.out _ _ _ ⟨f,c',v',s',sb',fb',n',l',xs',tv',rfl,hst',rfl⟩⟩
      · (refine fr_out2 rfl (by decide) (by decide) (by simp only [lk_cons,lk_nil,Nat.reduceEqDiff,↓reduceIte];rfl) (by simp only [lk_cons,lk_nil,Nat.reduceEqDiff,↓reduceIte];rfl) ?_)
        rw [HXB.out,HXW.out] at hb'
        rw [HXT.out] at hrows'
        refine ⟨l,kk',tv',xs,rfl,?_,hb',hrow',hrows',?_⟩
        · have h9:=hr'
          rw [HXO.out,HXT.out] at h9
          exact h9
        · have h1:=HST.out.mu
          have h2:(St.init x.T).mu2=8 * T.length:=by rw [mu2_of rfl,HXT.out];unfold St.mu St.init;simp
          omega
  · have hsl:stepL eqFold x.o s=tokL eqFold x.o s:=by unfold stepL;rw [HXO.out,hraw];rfl
    have HSL:=Lib.hid hsl
    have HTK:=Lib.hid (token_c x HALL.out HAF.out HAFB.out HFE.out HEB.out c w2 v s m sb fb n HST.out.ts)
    clear hsl
    (repeat (first|(with_reducible first|refine zA fun K hK=>?_|refine zB ?_|refine zC ?_)|((with_reducible first|refine zD rfl fun K hK=>?_|refine zE fun K hK=>?_);go_simp)|(with_reducible first|((repeat ((fail_if_success refine hK _ _ ?_);clear hK K));refine hK _ _ ?_;clear hK K)|refine zt ?_|refine zf ?_|refine zG ?_|refine zR ?_|refine zK ?_|refine zL ?_|refine zN ?_|refine zS ?_)|simp only [Exit.then,Exit.inBlock,Exit.noGoto,↓reduceIte,Nat.reduceEqDiff]|simp only [undef,reduceCtorEq,↓reduceIte]))
    refine HTK.out.mono ?_
    rintro e1 w3 ⟨t,e,rfl,hp⟩
    rw [← HSL.out] at hp
    have HP:=Lib.hid hp
    clear hp HTK hco hfo
    go_simp
    (repeat ((fail_if_success with_reducible refine wp_stop 8 ?_);(fail_if_success with_reducible refine wp_stop2 8 ?_);(first|(with_reducible first|refine zA fun K hK=>?_|refine zB ?_|refine zC ?_)|((with_reducible first|refine zD rfl fun K hK=>?_|refine zE fun K hK=>?_);go_simp)|(with_reducible first|((repeat ((fail_if_success refine hK _ _ ?_);clear hK K));refine hK _ _ ?_;clear hK K)|refine zt ?_|refine zf ?_|refine zG ?_|refine zR ?_|refine zK ?_|refine zL ?_|refine zN ?_|refine zS ?_)|simp only [Exit.then,Exit.inBlock,Exit.noGoto,↓reduceIte,Nat.reduceEqDiff]|simp only [undef,reduceCtorEq,↓reduceIte])))
    (refine wp_keep [7,10,11,12,13] (fun f=>?_);simp only [keep_cons,keep_nil,lk_cons,lk_nil,Nat.reduceEqDiff,↓reduceIte])
    have hp:=HP.out
    unfold TkPost at hp
    cases hres:stepL eqFold x.o s with
    | error kk=>
      rw [hres] at hp
      obtain ⟨_,p2,p3,p4,p5⟩:=hp
      have hfar:∀ k,Far x v c.nextTok m sb fb w2 k → ¬ (x.S1 v k ∨ k ∈ m :: (sb ++ fb) ∨ tokBlk c.nextTok k):=fun k hf hh=>by
        rcases hh with hh|hh|hh
        · exact hf.s1 hh
        · exact hf.own hh
        · exact hf.pend hh
      refine wp_code (tksErr x HALL.out HEB.out HET.out HETB.out (.slice auA o.auto.length auC) m w.heap.size s l xs tv kk ?_ w3 (ownsRow_mod HST.out.row p5 (fun k hk=>hfar k (HST.out.tvf k hk))) (HST.out.rows.mono (fun a ys hr=>hr.mod p5 (fun k hk _=>⟨hfar k hk.1,trivial⟩))) t e p2 p3 p4 _ ⟨fun f c' w' v' s' sb' fb' n' l' xs' tv' hst' hlt=>?_,fun f w' tv' kk' hr' hb' hrow' hrows'=>?_⟩ f) (by kernel_rfl)
      · have h9:=HST.out.run [] kk (.stop hres)
        simpa using h9
      · refine HK2.out _ _ ⟨s'.mu2,by rw [HK.out];exact hlt,HJ.out _ _ _ ⟨f,c',v',s',sb',fb',n',l',xs',tv',rfl,hst',rfl⟩⟩
      · (refine fr_out2 rfl (by decide) (by decide) (by simp only [lk_cons,lk_nil,Nat.reduceEqDiff,↓reduceIte];rfl) (by simp only [lk_cons,lk_nil,Nat.reduceEqDiff,↓reduceIte];rfl) ?_)
        rw [HXB.out,HXW.out] at hb'
        rw [HXT.out] at hrows'
        refine ⟨l,kk',tv',xs,rfl,?_,hb',hrow',hrows',?_⟩
        · have h9:=hr'
          rw [HXO.out,HXT.out] at h9
          exact h9
        · have h1:=HST.out.mu
          have h2:(St.init x.T).mu2=8 * T.length:=by rw [mu2_of rfl,HXT.out];unfold St.mu St.init;simp
          omega
    | ok pr=>
      obtain ⟨tk,s2⟩:=pr
      rw [hres] at hp
      obtain ⟨rfl,c3,v3,sb3,fb3,n3,g1,⟨BT,g2⟩,g3,g4,g5,g6⟩:=hp
      refine wp_code (tksOk x HALL.out (by rw [HXT.out];exact HTL.out) (.slice auA o.auto.length auC) m w.heap.size (by rw [HXB.out];exact Nat.le_refl _) c w2 v s sb fb n l xs tv HST.out tk s2 hres c3 w3 v3 sb3 fb3 n3 g1 t BT g2 g3 g4 g5 g6 (fun nm ats ht=>?_) _ ⟨fun f c' w' v' s' sb' fb' n' l' xs' tv' hst' hlt=>?_,fun f w' tv' kk' hr' hb' hrow' hrows'=>?_⟩ f) (by kernel_rfl)
      · subst ht
        obtain ⟨e9,b9,hR9,_,_⟩:=HST.out.ts.rd.rd
        have h9:=stepL_ats (by rw [HXO.out];exact HNO.out) hres hR9.suf.length_le HST.out.ts.tcl (fun tk htk=>by
          have h:=HST.out.ts.nxt
          unfold NxAt at h
          rw [htk] at h
          obtain ⟨_,_,_,_,h4,_⟩:=h
          exact h4)
        have h7:=HALL.out.toOk.len
        omega
      · refine HK2.out _ _ ⟨s'.mu2,by rw [HK.out];exact hlt,HJ.out _ _ _ ⟨f,c',v',s',sb',fb',n',l',xs',tv',rfl,hst',rfl⟩⟩
      · (refine fr_out2 rfl (by decide) (by decide) (by simp only [lk_cons,lk_nil,Nat.reduceEqDiff,↓reduceIte];rfl) (by simp only [lk_cons,lk_nil,Nat.reduceEqDiff,↓reduceIte];rfl) ?_)
        rw [HXB.out,HXW.out] at hb'
        rw [HXT.out] at hrows'
        refine ⟨l,kk',tv',xs,rfl,?_,hb',hrow',hrows',?_⟩
        · have h9:=hr'
          rw [HXO.out,HXT.out] at h9
          exact h9
        · have h1:=HST.out.mu
          have h2:(St.init x.T).mu2=8 * T.length:=by rw [mu2_of rfl,HXT.out];unfold St.mu St.init;simp
          omega
end Go.Proofs.YtkjnockljapnbaaGreatDoor
namespace Go.Proofs.YtkjnockljapnbaaGreatDoor
open Go Go.RowKit
def plCells (p:ITok) (av:Value):List Value:=[.int .i64 p.kind,strV p.space,strV p.loc,av,strV p.text,.int .i64 p.at']
def PtOk (w:World) (base:Nat) (G:Nat → Prop) (p:ITok) (ys:List Value):Prop:=
  ∃ sa sl sc,ys=plCells p (.slice sa sl sc)∧w.ownsRow base 62 3 (.slice sa sl sc) p.attrs.length (atCells p.attrs)∧∀ k,(Value.slice sa sl sc).ownBlock=some k → G k
theorem PtOk.mod {w w':World} {base:Nat} {G G':Nat → Prop} {p:ITok} {ys:List Value} {S:Nat → Prop} (h:PtOk w base G p ys) (hm:Mod S w w') (hG:∀ k,G k → k < w.heap.size → ¬ S k∧G' k):PtOk w' base G' p ys:=by
  obtain ⟨sa,sl,sc,rfl,hr,hg⟩:=h
  exact ⟨sa,sl,sc,rfl,ownsRow_mod hr hm (fun k hk=>(hG k (hg k hk) (ownsRow_lt hr hk).1).1),fun k hk=>(hG k (hg k hk) (ownsRow_lt hr hk).1).2⟩
structure SrcTok (w:World) (g o:Nat) (p:ITok):Prop where
  ex:∃ sa sl sc i6 i7,w.cell? ⟨g,o,none⟩=some (.int .i64 p.kind)∧w.cell? ⟨g,o + 1,none⟩=some (strV p.space)∧w.cell? ⟨g,o + 2,none⟩=some (strV p.loc)∧w.cell? ⟨g,o + 3,none⟩=some (.slice sa sl sc)∧w.cell? ⟨g,o + 4,none⟩=some (strV p.text)∧w.cell? ⟨g,o + 5,none⟩=some (.int .i64 p.at') ∧
    w.cell? ⟨g,o + 6,none⟩=some (.int .i64 i6)∧w.cell? ⟨g,o + 7,none⟩=some (.int .i64 i7)∧w.ownsRow 0 61 3 (.slice sa sl sc) p.attrs.length (atCells p.attrs)
  len:p.attrs.length ≤ 1000000000
end Go.Proofs.YtkjnockljapnbaaGreatDoor
namespace Go.Proofs.YtkjnockljapnbaaGreatDoor
open Go
def rdT:Bs:=[60,97,47,62]
def rdO:Opt:=⟨false,true,none,[],[],false⟩
def rdS1:St:={ rest:=[],ended:=false,toClose:=some ([],[97]),stk:=[{ kind:=0,space:=[],loc:=[97],ok:=false }],ns:=fun _=>none,next:=none }
def rdS2:St:={ rest:=[],ended:=false,toClose:=none,stk:=[],ns:=fun _=>none,next:=none }
theorem rd_a:step0 rdO (St.init rdT)=.ok (.start ([],[97]) [],rdS1):=by rfl
theorem rd_b:step0 rdO rdS1=.ok (.fin ([],[97]),rdS2):=by rfl
theorem rd_c:step0 rdO rdS2=.error .eof:=by rfl
theorem rd_toks (fold:Bs → Bs → Bool):Toks fold rdO (St.init rdT) [(.start ([],[97]) [],rdS1),(.fin ([],[97]),rdS2)] .eof:=
  .more (by rw [stepL_nil rfl rfl];exact rd_a) (.more (by rw [stepL_nil rfl rfl];exact rd_b) (.stop (by rw [stepL_nil rfl rfl];exact rd_c)))
end Go.Proofs.YtkjnockljapnbaaGreatDoor
namespace Go.Proofs.YtkjnockljapnbaaGreatDoor
open Go Go.RowKit
theorem row_len {w:World} {base:Nat} {e:TypeId} {sa:Option Addr} {sl sc n:Nat} {xs:List Value} {sz:Nat} (h:w.ownsRow base e sz (.slice sa sl sc) n xs):sl=n:=by
  rcases h.2 with ⟨h3,h9⟩|⟨g,cap,cur,h3,_⟩
  · simp only [Value.slice.injEq] at h3;omega
  · simp only [Value.slice.injEq] at h3;exact h3.2.1
end Go.Proofs.YtkjnockljapnbaaGreatDoor
namespace Go.Proofs.YtkjnockljapnbaaGreatDoor
open Go Go.RowKit
theorem row_cell {w:World} {base:Nat} {e:TypeId} {sz:Nat} {v:Value} {n:Nat} {xs:List Value} (h:w.ownsRow base e sz v n xs) (hn:0 < n):∃ g cap,v=.slice (some ⟨g,0,none⟩) n cap∧base ≤ g∧g < w.heap.size∧n ≤ cap∧cap ≤ maxLen∧∀ k u,xs[k]?=some u → w.cell? ⟨g,k,none⟩=some u:=by
  rcases h.2 with ⟨_,h9⟩|⟨g,cap,cur,h3,h4,h5,h6,h7,h8,h9⟩
  · omega
  · have hb:Blk w g cur e:=h5
    refine ⟨g,cap,h3,h4,hb.lt,h6,h7,fun k u hk=>?_⟩
    rw [hb.cell]
    rw [← h9] at hk
    have hkl:=(List.getElem?_eq_some_iff.1 hk).1
    rw [List.getElem?_take,if_pos (by simp at hkl;omega),Array.getElem?_toList] at hk
    exact hk
theorem tok_src {w:World} {base g:Nat} {T:Bs} {l:List (RTok × St)} {xs:List Value} {G:Nat → Prop} (hrows:RowsAt (RowOk w base G T) l xs) (hcell:∀ k u,xs[k]?=some u → w.cell? ⟨g,k,none⟩=some u) {i:Nat} {ts:RTok × St} (hi:l[i]?=some ts) (hlen:(ts.1.itok (T.take (T.length - ts.2.rest.length))).attrs.length ≤ 1000000000) :
    SrcTok w g (i * 8) (ts.1.itok (T.take (T.length - ts.2.rest.length))):=by
  obtain ⟨ys,⟨sa,sl,sc,i6,i7,rfl,hr,_⟩,hy⟩:=hrows.get (n:=8) (fun _ _ h=>h.len) hi
  have hc:∀ j u,j < 8 → (tokCells _ _ _ _ _ _ _ _)[j]?=some u → w.cell? ⟨g,i * 8 + j,none⟩=some u:=fun j u hj hu=>hcell _ _ ((hy j hj).trans hu)
  have hr0:w.ownsRow 0 61 3 (.slice sa sl sc) (ts.1.itok (T.take (T.length - ts.2.rest.length))).attrs.length (atCells (ts.1.itok (T.take (T.length - ts.2.rest.length))).attrs):=by
    refine ⟨hr.1,?_⟩
    rcases hr.2 with h9|⟨g9,cap,cur,e1,e2,e3⟩
    · exact Or.inl h9
    · exact Or.inr ⟨g9,cap,cur,e1,Nat.zero_le _,e3⟩
  exact ⟨⟨sa,sl,sc,i6,i7,hc 0 _ (by omega) rfl,hc 1 _ (by omega) rfl,hc 2 _ (by omega) rfl,hc 3 _ (by omega) rfl,hc 4 _ (by omega) rfl,hc 5 _ (by omega) rfl,hc 6 _ (by omega) rfl,hc 7 _ (by omega) rfl,hr0⟩,hlen⟩
theorem reads_c (w:World) (hE:EnvA w):Calls Tryz.prog 10 #[] w fun en w'=>en=.returned (.bool true)∧Below w.heap.size w w':=by
  have HT:=Lib.hid (tokens_c rdT (by decide) rdO rfl none 0 none 0 0 [] w hE (AuL.nil w none 0) ⟨by omega,by omega,fun h=>by omega⟩)
  clear hE
  refine calls_fr (vs:=[]) 36 Tryz.func10 rfl rfl (Nat.le_of_ble_eq_true rfl) fun f=>?_
  simp only [argSlots]
  (repeat (first|(with_reducible first|refine zA fun K hK=>?_|refine zB ?_|refine zC ?_)|((with_reducible first|refine zD rfl fun K hK=>?_|refine zE fun K hK=>?_);go_simp)|(with_reducible first|((repeat ((fail_if_success refine hK _ _ ?_);clear hK K));refine hK _ _ ?_;clear hK K)|refine zt ?_|refine zf ?_|refine zG ?_|refine zR ?_|refine zK ?_|refine zL ?_|refine zN ?_|refine zS ?_)|simp only [Exit.then,Exit.inBlock,Exit.noGoto,↓reduceIte,Nat.reduceEqDiff]|simp only [undef,reduceCtorEq,↓reduceIte]))
  refine HT.out.mono ?_
  rintro e1 w1 ⟨l,e,tv,xs,rfl,htk,hb,hrow,hrows,_⟩
  obtain ⟨rfl,rfl⟩:=htk.det (rd_toks eqFold)
  obtain ⟨g,cap,rfl,hg1,hg2,hn,hcm,hcell⟩:=row_cell hrow (by decide)
  have s0:=tok_src (i:=0) hrows hcell rfl (by decide)
  have s1:=tok_src (i:=1) hrows hcell rfl (by decide)
  obtain ⟨⟨_,_,_,_,_,a0,_⟩,_⟩:=s0
  obtain ⟨⟨_,_,_,_,_,b0,b1,b2,_⟩,_⟩:=s1
  have k0:w1.cell? ⟨g,0,none⟩=some (.int .i64 1):=a0
  have k1:w1.cell? ⟨g,8,none⟩=some (.int .i64 2):=b0
  have k2:w1.cell? ⟨g,10,none⟩=some (.string ⟨#[97]⟩):=b2
  have HB:=Lib.hid hb
  clear a0 b0 b1 b2 htk hb hrow hrows hcell HT
  rw [show ((EK.code .eof:Nat):Int)=0 from rfl]
  go_simp
  (repeat (first|(with_reducible first|refine zA fun K hK=>?_|refine zB ?_|refine zC ?_)|((with_reducible first|refine zD rfl fun K hK=>?_|refine zE fun K hK=>?_);go_simp)|(with_reducible first|((repeat ((fail_if_success refine hK _ _ ?_);clear hK K));refine hK _ _ ?_;clear hK K)|refine zt ?_|refine zf ?_|refine zG ?_|refine zR ?_|refine zK ?_|refine zL ?_|refine zN ?_|refine zS ?_)|simp only [Exit.then,Exit.inBlock,Exit.noGoto,↓reduceIte,Nat.reduceEqDiff]|simp only [undef,reduceCtorEq,↓reduceIte]))
  (refine fr_out1 rfl (by decide) (by simp only [lk_cons,lk_nil,Nat.reduceEqDiff,↓reduceIte];rfl) ?_)
  exact ⟨rfl,HB.out⟩
end Go.Proofs.YtkjnockljapnbaaGreatDoor
