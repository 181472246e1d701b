/- Part of the proof that laws.FnRawTokens returns true for every argument. No conditions. -/
import Derived.Test.YtdjdjbpnbjdaaaaGreatDoorP17
import Derived.Test.YtdjdjbpnbjdaaaaGreatDoorP18
set_option linter.all false
set_option maxHeartbeats 8000000
set_option maxRecDepth 100000
namespace Go.Proofs.YtdjdjbpnbjdaaaaGreatDoor
open Go Go.RowKit Tryz
theorem jP.other {x:Cx} {c:DC} {w w':World} {v:DV} {k:EK} (h:jP x c w v k) {q:Nat} (hm:aK (fun i=>i=q) w w') (hq:q≠x.d) (hB:x.B≤q):jP x c w' v k:=
 ⟨aK.below h.base h.base.size hm (fun i hi=>hi▸hB),aJ.mod h.dec hm (fun he=>hq he.symm),h.err⟩
theorem bX.turn {x:Cx} (hx:x.Ok) {c c':DC} {w w':World} {v:DV} {rest:Bs} {e:Option EK} {buf:Bs} (h:bX x c w v rest e buf) (hd:bO w' x.d c' v) (hm:aK (fun k=>k=x.d) w w'):bX x c' w' v rest e buf:=by
 obtain ⟨un,iW,hu⟩:=h.inp
 exact ⟨aK.below h.base h.base.size hm (fun k hk=>hk▸hx.d),hd,⟨un,iW.mod hm (fun he=>hx.ne1 he.symm) (fun he=>hx.ne2 he.symm) (fun he=>hx.ne3 he.symm),hu⟩,h.pos,h.err,h.fin,h.bf.mod hm (fun k hk he=>h.bf.notS0 k hk (Or.inl he))⟩
theorem a0t (x:Cx) (hx:x.All) (c:DC) (dR:iU x c) (jL:wL x c) (w0:World) (v0:DV) (w:World) (v:DV) (rest:Bs) (buf:Bs) (h:bX x c w v rest none buf) (o4:cO v) (hs:cK x w0 v0 w v) (OS:x.B≤w0.heap.size) (nb:Nat) (nm:Bs×Bs) (av:Value) (acc:List eI) (hk:tA x w0 w v nb nm av acc) (hn:acc.length≤1000000000)
  (p28 v29:Value) (Q:Exit→Act→World→Prop)
  (pB:∀ a r5,gY x.o rest=.ok (a,r5)→∀ f w' v' e' b' av',bX x c w' v' r5 e' b'→cO v'→cK x w0 v0 w' v'→tA x w0 w' v' nb nm av' (acc++[a])→Q .normal (fr 731 f [(0,bS x),(28,p28),(29,v29),(30,av')]) w')
  (gO:∀ k,gY x.o rest=.error k→∀ f w' v',jP x c w' v' k→cK x w0 v0 w' v'→Q .ret (fr 731 f [(2,.nilIface),(3,v'.err)]) w') (f:Nat→Value) :
  (dM 176).wp prog Q (fr 731 f [(0,bS x),(28,p28),(29,v29),(30,av)]) w:=by
 have bP:Below w.heap.size w (w.alloc (.cells #[aB [],aB [],aB []] 99)):=(Below.refl _ w).alloc (Nat.le_refl _) _
 have hA0:zY x c w0 v0 (w.alloc (.cells #[aB [],aB [],aB []] 99)) v rest none nb nm av acc w.heap.size #[aB [],aB [],aB []]:=
  ⟨⟨buf,h.below hx.toOk bP⟩,o4,hs.below bP,hk.below bP,⟨aJ.new w _ _,h.newS1,hs.mod.size,by have:=hk.name.lt;omega,fun he=>by have:=(aV hk.row he).1;omega⟩⟩
 have HX:=Lh hx
 have HD:=Lh dR
 have xP:=Lh jL
 have DL:=Lh pB
 have zT:=Lh gO
 have LB:=Lh OS
 have HN:=Lh hn
 have Ja:=Lh (((hA0.set OS 0 (aB [])).set OS 1 (aB [])).set OS 2 (aB []))
 have HA0:=Lh hA0
 have tC:=Lh (QL x.o rest)
 clear hx dR jL pB gO OS hn bP hA0 h o4 hs hk
 unfold dM
 conv=>arg 2;whnf
 refine vT 177 ?_
 (refine cJ [0,28,29,30,31] fun f=>?_)
 obtain ⟨ab,hab⟩:∃ ab,ab=w.heap.size:=⟨_,rfl⟩
 obtain ⟨w1,qF⟩:∃ w1,w1=w.alloc (.cells #[aB [],aB [],aB []] 99):=⟨_,rfl⟩
 have W5:Hid (zY x c w0 v0 w1 v rest none nb nm av acc ab #[aB [],aB [],aB []]):=by rw [qF,hab];exact HA0.out
 rw [show w.alloc (.cells #[.string ⟨#[]⟩,.string ⟨#[]⟩,.string ⟨#[]⟩] 99)=w1 from qF.symm,←hab]
 clear Ja HA0 qF hab
 obtain ⟨b1,mF⟩:=W5.out.rd
 have sM:=Lh (C9 x HX.out.toFit c HD.out w1 v rest none b1 mF)
 clear mF
 (refine vg ?_;(repeat with_reducible intro K hK))
 refine sM.out.mono ?_
 rintro e2 w2 ⟨v2,gS,mG⟩
 have OQ:=Lh (W5.out.cell.step gS)
 have dN:=Lh (W5.out.keep.step gS)
 have gH:=Lh (W5.out.stp.trans gS)
 have wG:=OQ.out.blk.cell
 have FJ:=OQ.out.blk.frozen
 have SM:x.d≠ab:=fun e=>OQ.out.S (Or.inl (Or.inl e.symm))
 have E5:ab≠x.d:=fun e=>SM e.symm
 clear gS sM
 cases hn:cE x.o.fails rest with
 | error k=>
  rw [hn] at mG
  obtain ⟨an,rfl,Hh⟩:=mG
  have dB:=Lh (show gY x.o rest=.error k by rw [tC.out,hn])
  have hm:aK (fun i=>i=ab) w2 ((w2.setCell ⟨ab,0,none⟩ (aB an.1)).setCell ⟨ab,1,none⟩ (aB an.2)):=((aK.refl (fun i=>i=ab) w2).setCell (p:=⟨ab,0,none⟩) (Or.inl rfl) _).setCell (p:=⟨ab,1,none⟩) (Or.inl rfl) _
  have wH:=Lh (gH.out.fresh (hm.mono (fun i _ hi=>hi▸OQ.out.B)))
  rcases Hh with hE|⟨rfl,r,b,hR⟩
  ·have B7:=hE.other hm E5 (Nat.le_trans LB.out OQ.out.B)
   obtain ⟨t1,u1,oQ⟩:=hE.err.iface
   have FO:=Lh B7
   have hc:=B7.dec.cell
   have hf:=B7.dec.frozen
   have HU:=Lh oQ
   clear hE B7 hm hn
   ((repeat revert K);refine vS ?_;(repeat with_reducible intro K hK))
   ((refine cJ [0] fun f=>?_);go_quiet (fail);((repeat revert K);refine vg ?_;intro K hK);refine Qk [2,3] fun f=>?_)
   rw [←HU.out]
   exact zT.out _ dB.out f _ v2 (FO.out.drewN _) (wH.out.drawn _)
  ·have s8:=hR.mod hm (fun k hk he=>OQ.out.S (he▸hk)) (fun k hk=>hk▸Nat.le_trans LB.out OQ.out.B)
   have he:v2.err=.nilIface:=s8.err
   have hc:=s8.dec.cell
   have hf:=s8.dec.frozen
   have qS:=Lh (fun msg=>g7 HX.out.toOk s8 msg)
   clear hR s8 hm hn
   ((repeat revert K);refine vS ?_;(repeat with_reducible intro K hK))
   refine (qS.out _).mono ?_
   rintro e3 w3 ⟨a9,rfl,hS⟩
   have tE:=hS.dec.cell
   have sZ:=hS.dec.frozen
   have HS:=Lh hS
   clear hS hc hf he wG FJ
   ((repeat revert K);refine vS ?_;(repeat with_reducible intro K hK))
   ((refine cJ [0] fun f=>?_);go_quiet (fail);((repeat revert K);refine vg ?_;intro K hK);refine Qk [2,3] fun f=>?_)
   exact zT.out _ dB.out f _ { v2 with err:=BR a9 } (HS.out.err.drewN _) ((wH.out.trans HS.out.stp).drawn _)
 | ok p=>
  obtain ⟨an,r⟩:=p
  rw [hn] at mG
  obtain ⟨rfl,b,Tc,hR⟩:=mG
  have dB:=Lh (show gY x.o rest=hC x.o an r by rw [tC.out,hn])
  have Oe:Hid (zY x c w0 v0 w2 v2 r none nb nm av acc ab #[aB [],aB [],aB []]):=⟨⟨b,hR⟩,hR.nonnil Tc,gH.out,dN.out,OQ.out⟩
  have HA4:Hid (zY x c w0 v0 ((w2.setCell ⟨ab,0,none⟩ (aB an.1)).setCell ⟨ab,1,none⟩ (aB an.2)) v2 r none nb nm av acc ab #[aB an.1,aB an.2,aB []]):=(Oe.out.set LB.out 0 (aB an.1)).set LB.out 1 (aB an.2)
  clear hR hn
  go_simp
  ((repeat revert K);refine vT 182 ?_)
  (refine cJ [0,28,29,30,31] fun f=>?_)
  refine aY (Iz x HX.out c HD.out xP.out w0 v0 _ v2 r LB.out nb nm av acc HN.out ab an HA4.out p28 v29 _ ?_ ?_ f) (by kernel_rfl)
  ·intro a r5 bR f w' v' e' b' av' hr gK MV yV
   have HR:=Lh hr
   have nC:=Lh gK
   have HS:=Lh MV
   have HK:=Lh yV
   have HG:=Lh (show gY x.o rest=.ok (a,r5) by rw [dB.out,bR])
   clear hr gK MV yV bR wG FJ
   refine vg ?_
   exact DL.out a r5 HG.out f w' v' e' b' av' HR.out nC.out HS.out HK.out
  ·intro k bR f w' v' hE MV
   have HE:=Lh hE
   have HS:=Lh MV
   have HG:=Lh (show gY x.o rest=.error k by rw [dB.out,bR])
   clear hE MV bR wG FJ
   refine vg ?_
   exact zT.out k HG.out f w' v' HE.out HS.out
def JP (x:Cx) (c:DC) (w:World) (v:DV) (R:Except EK (((Bs×Bs)×List eI)×Bool×Bs)) (t e:Value) (w':World):Prop:=
 ∃ v',cK x w v w' v'∧match R with
  | .error k=>t=.nilIface∧e=v'.err∧jP x c w' v' k
  | .ok ((nm,ats),em,r)=>e=.nilIface∧∃ b,bX x (c.closing nm em) w' v' r none b∧jN w' v'.bufv w.heap.size t (.start nm ats)∧v'.nb=-1
theorem Of (x:Cx) (hx:x.All) (c:DC) (w0:World) (v0:DV) (w:World) (v:DV) (rest:Bs) (buf:Bs) (h:bX x c w v rest none buf) (lC:v.nb=-1) (hs:cK x w0 v0 w v) (nb:Nat) (nm:Bs×Bs) (av:Value) (acc:List eI) (hk:tA x w0 w v nb nm av acc) (em:Bool)
  (Q:Exit→Act→World→Prop) (hQ:∀ f w' t e,JP x c w0 v0 (.ok ((nm,acc),em,rest)) t e w'→Q .ret (fr 731 f [(2,t),(3,e)]) w') (f:Nat→Value) :
  (dM 198).wp prog Q (fr 731 f [(0,bS x),(28,.pointer (some ⟨nb,0,none⟩)),(29,.bool em),(30,av)]) w:=by
 have hc:=h.dec.cell
 have hf:=h.dec.frozen
 have EY:=hk.name.cell
 have Og:=hk.name.frozen
 obtain ⟨g0,cap0,Fg⟩:∃ g cap,av=.slice (some ⟨g,0,none⟩) acc.length cap:=by
  rcases hk.row.2 with ⟨h1,_⟩|⟨g,cap,cur,h1,_⟩
  ·exact absurd h1 hk.ne
  ·exact ⟨g,cap,h1⟩
 subst Fg
 have IV:nb≠x.d:=fun e=>hk.nbS (Or.inl (Or.inl e))
 have y7:x.d≠nb:=fun e=>IV e.symm
 have HQ:=Lh hQ
 have H:=Lh h
 have HS:=Lh hs
 have HK:=Lh hk
 have rJ:=Lh lC
 have HX:=Lh hx
 have hds:∀ g,(Value.slice (some ⟨g0,0,none⟩) acc.length cap0).ownBlock=some g→¬ g=x.d:=fun g hg e=>(hk.rowS g hg).1 (Or.inl (Or.inl e))
 have Y4:=Lh hds
 clear hQ h hs hk hx hds lC
 unfold dM
 conv=>arg 2;whnf
 cases em with
 | false=>
  refine vg ?_
  refine Qk [2,3] fun f=>?_
  exact HQ.out f w _ _ ⟨v,HS.out,rfl,buf,H.out,⟨_,rfl,HK.out.ne,HK.out.row⟩,rJ.out⟩
 | true=>
  refine vg ?_
  refine Qk [2,3] fun f=>?_
  have hm:aK (fun k=>k=x.d) w (((w.setCell ⟨x.d,14,none⟩ (.bool true)).setCell ⟨x.d,15,none⟩ (aB nm.1)).setCell ⟨x.d,16,none⟩ (aB nm.2)):=
   (((aK.refl (fun k=>k=x.d) w).setCell (p:=⟨x.d,14,none⟩) (Or.inl rfl) _).setCell (p:=⟨x.d,15,none⟩) (Or.inl rfl) _).setCell (p:=⟨x.d,16,none⟩) (Or.inl rfl) _
  refine HQ.out f _ _ _ ⟨v,HS.out.s0 (hm.mono (fun i _ hi=>Or.inl hi)) rfl,rfl,buf,H.out.turn HX.out.toOk ?_ hm,⟨_,rfl,HK.out.ne,aG HK.out.row hm Y4.out⟩,rJ.out⟩
  exact (((show aJ w x.d _ _ from H.out.dec).set 14 (.bool true)).set 15 (aB nm.1)).set 16 (aB nm.2)
def Z8 (f:Bool) (acc:List eI):Bs→Except EK (List eI×Bool×Bs)
 | []=>.error (bW f)
 | c::r3=>if c=62 then .ok (acc,true,r3) else .error .syn
def a0u (x:Cx) (c:DC) (w0:World) (v0:DV) (nb:Nat) (nm:Bs×Bs) (r0:Bs) (k:Nat) (a:Act) (w:World):Prop:=
 ∃ f v rest e b av acc,a=fr 731 f [(0,bS x),(28,.pointer (some ⟨nb,0,none⟩)),(29,.bool false),(30,av)]∧bX x c w v rest e b∧cO v∧cK x w0 v0 w v∧tA x w0 w v nb nm av acc∧k=rest.length ∧
  (∀ K,rest.length<K→dD x.o (r0.length+1) r0 []=dD x.o K rest acc)∧acc.length+rest.length≤r0.length
theorem Z9 (x:Cx) (hx:x.All) (c:DC) (dR:iU x c) (jL:wL x c) (w:World) (v:DV) (b:UInt8) (rest:Bs) (buf:Bs) (h:bX x c w v rest none buf) (hn:v.nb=-1) (lI:(b::rest) <:+ x.T) (Q:Exit→Act→World→Prop)
  (hQ:∀ f w' t e,JP x c w v (fI x.o (b::rest)) t e w'→Q .ret (fr 731 f [(2,t),(3,e)]) w') (f:Nat→Value) :
  (dM 152).wp prog Q (fr 731 f [(0,bS x),(4,.int .u8 b.toNat)]) w:=by
 have iW:=Lh (gZ x hx.toOk c w v b rest buf h hn lI)
 have HX:=Lh hx
 have HD:=Lh dR
 have xP:=Lh jL
 have HQ:=Lh hQ
 have tW:=Lh (show x.B≤w.heap.size from h.base.size)
 have ON:=Lh (show (b::rest).length≤1000000000 from Nat.le_trans (lI.length_le) hx.len)
 have H:=Lh h
 clear hx dR jL hQ h hn lI
 unfold dM
 conv=>arg 2;whnf
 (refine vg ?_;(repeat with_reducible intro K hK))
 refine iW.out.mono ?_
 rintro e1 w1 ⟨rfl,v1,h1,iL,bP,eA,iR⟩
 have iS:=Lh ((cK.refl x w v).s0 eA bP)
 have iE:Below w1.heap.size w1 (w1.alloc (.cells #[.string ⟨#[]⟩,.string ⟨#[]⟩] 85)):=(Below.refl _ w1).alloc (Nat.le_refl _) _
 have sM:=Lh (C9 x HX.out.toFit c HD.out _ v1 (b::rest) none buf (h1.below HX.out.toOk iE))
 have hq:=aJ.new w1 #[.string ⟨#[]⟩,.string ⟨#[]⟩] 85
 have gH:=Lh (iS.out.alloc (.cells #[.string ⟨#[]⟩,.string ⟨#[]⟩] 85))
 have HQ0:=Lh hq
 have rJ:=Lh h1.newS1
 have W4:=Lh iS.out.mod.size
 clear h1 iL bP eA iR iW iE hq iS
 ((repeat revert K);refine vS ?_;(repeat with_reducible intro K hK))
 refine sM.out.mono ?_
 rintro e2 w2 ⟨v2,gS,mG⟩
 have bB:w1.heap.size<(w1.alloc (.cells #[.string ⟨#[]⟩,.string ⟨#[]⟩] 85)).heap.size:=by simp
 have gK:=gS.notS1 rJ.out bB
 have AQ:=HQ0.out.mod gS.mod rJ.out
 have wH:=Lh (gH.out.trans gS)
 obtain ⟨nb,lC⟩:∃ nb,nb=w1.heap.size:=⟨_,rfl⟩
 rw [←lC] at gK AQ
 have R6:=Lh AQ
 have mH:=Lh gK
 have Aa:=Lh (show w.heap.size≤nb by rw [lC];exact W4.out)
 have nU:=AQ.cell
 have s6:=AQ.frozen
 have SM:x.d≠nb:=fun e=>gK (Or.inl (Or.inl e.symm))
 have E5:nb≠x.d:=fun e=>SM e.symm
 have Td:=Lh (Nat.le_trans tW.out Aa.out)
 rw [←lC]
 clear gS AQ gK bB sM gH HQ0 rJ W4 lC
 cases hn:cE x.o.fails (b::rest) with
 | error k=>
  rw [hn] at mG
  obtain ⟨nm,rfl,jL⟩:=mG
  have dB:=Lh (show fI x.o (b::rest)=.error k by unfold fI;rw [hn])
  rcases jL with hE|⟨rfl,r,b',hR⟩
  ·obtain ⟨B7,hm⟩:=uG hE R6.out mH.out Td.out nm
   have nM:=Lh (wH.out.new Aa.out hm)
   obtain ⟨t1,u1,oQ⟩:=hE.err.iface
   have FO:=Lh B7
   have hc:=B7.dec.cell
   have hf:=B7.dec.frozen
   have HU:=Lh oQ
   clear hE B7 hm hn
   ((repeat revert K);refine vS ?_;(repeat with_reducible intro K hK))
   ((refine cJ [0] fun f=>?_);go_quiet (fail);((repeat revert K);refine vg ?_;intro K hK);refine Qk [2,3] fun f=>?_)
   exact HQ.out f _ _ _ ⟨v2,nM.out.drawn _,by rw [dB.out];exact ⟨rfl,HU.out.symm,FO.out.drewN _⟩⟩
  ·obtain ⟨s8,Im,hm⟩:=sG hR R6.out mH.out Td.out nm
   have nM:=Lh (wH.out.new Aa.out hm)
   have he:v2.err=.nilIface:=s8.err
   have hc:=s8.dec.cell
   have hf:=s8.dec.frozen
   have qS:=Lh (fun msg=>g7 HX.out.toOk s8 msg)
   clear hR s8 Im hm hn
   ((repeat revert K);refine vS ?_;(repeat with_reducible intro K hK))
   refine (qS.out _).mono ?_
   rintro e3 w3 ⟨a9,rfl,hS⟩
   have tE:=hS.dec.cell
   have sZ:=hS.dec.frozen
   have HS:=Lh hS
   clear hS hc hf he nU s6
   ((repeat revert K);refine vS ?_;(repeat with_reducible intro K hK))
   ((refine cJ [0] fun f=>?_);go_quiet (fail);((repeat revert K);refine vg ?_;intro K hK);refine Qk [2,3] fun f=>?_)
   exact HQ.out f _ _ _ ⟨_,(nM.out.trans HS.out.stp).drawn _,by rw [dB.out];exact ⟨rfl,rfl,HS.out.err.drewN _⟩⟩
 | ok p=>
  obtain ⟨nm,r⟩:=p
  rw [hn] at mG
  obtain ⟨rfl,b2,Tc,hR⟩:=mG
  obtain ⟨s8,Im,hm⟩:=sG hR R6.out mH.out Td.out nm
  have nM:=Lh (wH.out.new Aa.out hm)
  have nC:=Lh (hR.nonnil Tc)
  have dB:=Lh (show fI x.o (b::rest)=(match dD x.o (r.length+1) r [] with|.error e=>.error e|.ok (ats,em,r2)=>.ok ((nm,ats),em,r2)) by unfold fI;rw [hn];rfl)
  have Z5:=Lh (show r.length≤1000000000 from by have:=(kM hn).2;have:=ON.out;omega)
  have fB:=Lh s8
  have nK:=Lh Im
  clear hR s8 Im hm hn
  ((repeat revert K);refine vS ?_;intro K hK)
  (refine cJ [0,28,29,30] fun f=>?_)
  obtain ⟨w3,nV⟩:∃ w3,w3=(w2.setCell ⟨nb,0,none⟩ (aB nm.1)).setCell ⟨nb,1,none⟩ (aB nm.2):=⟨_,rfl⟩
  have QJ:Below w3.heap.size w3 (w3.alloc (.cells #[] 99)):=(Below.refl _ w3).alloc (Nat.le_refl _) _
  have DP:=Lh (show bX x c (w3.alloc (.cells #[] 99)) v2 r none b2 by rw [nV] at QJ ⊢;exact fB.out.below HX.out.toOk QJ)
  have rG:=Lh (show cK x w v (w3.alloc (.cells #[] 99)) v2 by rw [nV];exact nM.out.alloc _)
  have HKP:=Lh (show tA x w (w3.alloc (.cells #[] 99)) v2 nb nm (.slice (some ⟨w3.heap.size,0,none⟩) 0 0) [] by
   have hb:aJ w3 nb #[aB nm.1,aB nm.2] 85:=by rw [nV];exact nK.out
   have hw:w.heap.size≤w3.heap.size:=by rw [nV];exact nM.out.mod.size
   have B1:bX x c w3 v2 r none b2:=by rw [nV];exact fB.out
   refine ⟨hb.alloc _,mH.out,Aa.out,⟨rfl,Or.inr ⟨w3.heap.size,0,#[],rfl,hw,aJ.new w3 #[] 99,Nat.le_refl _,Nat.zero_le _,rfl,rfl⟩⟩,fun g hg=>?_,by simp⟩
   have hg':w3.heap.size=g:=by simpa [Value.ownBlock] using hg
   subst hg'
   exact ⟨B1.newS1,by have:=hb.lt;omega⟩)
  rw [show (w2.setCell ⟨nb,0,none⟩ (.string ⟨nm.1.toArray⟩)).setCell ⟨nb,1,none⟩ (.string ⟨nm.2.toArray⟩)=w3 from nV.symm]
  have a3x:=Lh (show w3.heap.size=w2.heap.size by rw [nV];simp [World.setCell])
  try rw [←a3x.out]
  clear nV QJ nU s6
  refine wp_loop_ghost_k (a0u x c w v nb nm r) r.length ⟨f,v2,r,none,b2,_,[],rfl,DP.out,nC.out,rG.out,HKP.out,rfl,fun K hK=>uI (by omega) hK,by simp⟩ ?_
  clear DP rG HKP fB nK nM
  rintro k _ w6 ⟨f,v6,rest6,e6,b6,av,acc,rfl,h6,Sk,yX,hk6,hkk,qG,bF⟩ J K2 hJ cY
  have HJ:=Lh hJ
  have dN:=Lh cY
  have nD:=Lh yX
  have Ny:=Lh hkk
  have Il:=Lh Sk
  have a0v:=Lh hk6
  have SS:=Lh (qG (rest6.length+1) (by omega))
  have cL:=Lh bF
  have fY:=Lh (xY x HX.out.toOk c HD.out w6 v6 rest6 e6 b6 h6)
  clear hJ cY yX hkk Sk hk6 qG bF h6
  (revert K;refine vg ?_;(repeat with_reducible intro K hK))
  refine fY.out.mono ?_
  rintro e7 w7 ⟨rfl,v7,e7',hP⟩
  have rH:=Lh (nD.out.s0 hP.mod hP.bufv)
  have a0w:=Lh (a0v.out.step (hP.mod.stp hP.bufv))
  have a0x:=Lh (Il.out.of_eq hP.bufv)
  have DR:=Lh hP.rd
  clear hP fY nD a0v Il
  cases hw:aM rest6 with
  | nil=>
   have BW:=Lh (show fI x.o (b::rest)=.error (bW x.o.fails) by rw [dB.out,SS.out];simp only [dD,hw])
   have fD:=Lh (bJ x HX.out.toOk c HD.out w7 v7 _ b6 (by have:=DR.out;rw [hw] at this;exact this))
   clear hw
   ((repeat revert K);refine vS ?_;(repeat with_reducible intro K hK))
   refine fD.out.mono ?_
   rintro e8 w8 ⟨rfl,v8,hE,E3,kZ⟩
   have xL:=Lh (rH.out.s0 kZ E3)
   obtain ⟨t1,u1,oQ⟩:=hE.err.iface
   have HE:=Lh hE
   have hc:=hE.dec.cell
   have hf:=hE.dec.frozen
   have HU:=Lh oQ
   clear hE kZ E3 fD
   ((repeat revert K);refine vS ?_;(repeat with_reducible intro K hK))
   ((refine cJ [0] fun f=>?_);go_quiet (fail);((repeat revert K);refine vg ?_;(repeat with_reducible intro K hK));refine Qk [2,3] fun f=>?_)
   exact HQ.out f _ _ _ ⟨v8,xL.out.drawn _,by rw [BW.out];exact ⟨rfl,HU.out.symm,HE.out.drewN _⟩⟩
  | cons b1 r2=>
   have fD:=Lh (bH x HX.out.toOk c HD.out w7 v7 b1 r2 _ b6 (by have:=DR.out;rw [hw] at this;exact this))
   have kC:=Lh (show (b1::r2) <:+ x.T by have:=DR.out.suf;rw [hw] at this;exact this)
   have tI:=Lh (show r2.length+1≤rest6.length by have:=(eO rest6).length_le;rw [hw] at this;exact this)
   have MW:=Lh (show dD x.o (r.length+1) r []=(if b1=47 then Z8 x.o.fails acc r2
   else if b1=62 then .ok (acc,false,r2)
   else match gY x.o (b1::r2) with
    | .error e=>.error e
    | .ok (a,r5)=>dD x.o rest6.length r5 (acc++[a])) by rw [SS.out,dD.eq_def];simp only [hw];cases r2<;>rfl)
   clear hw SS
   ((repeat revert K);refine vS ?_;(repeat with_reducible intro K hK))
   refine fD.out.mono ?_
   rintro e8 w8 ⟨rfl,v8,h8,LP,E3,kZ,hz8⟩
   have xL:=Lh (rH.out.s0 kZ E3)
   have Ab:=Lh (a0w.out.step (kZ.stp E3))
   have a0y:=Lh (a0x.out.of_eq E3)
   have E6:=Lh h8
   have Fa:=Lh LP
   clear h8 LP E3 kZ hz8 fD rH a0w a0x DR
   by_cases Ac:b1=47
   ·subst Ac
    cases r2 with
    | nil=>
     have BW:=Lh (show fI x.o (b::rest)=.error (bW x.o.fails) by rw [dB.out,MW.out];rfl)
     have fD:=Lh (bJ x HX.out.toOk c HD.out w8 v8 _ b6 E6.out)
     ((repeat revert K);refine vS ?_;(repeat with_reducible intro K hK))
     refine fD.out.mono ?_
     rintro e9 w9 ⟨rfl,v9,hE,JQ,tR⟩
     have W7:=Lh (xL.out.s0 tR JQ)
     obtain ⟨t1,u1,oQ⟩:=hE.err.iface
     have HE:=Lh hE
     have hc:=hE.dec.cell
     have hf:=hE.dec.frozen
     have HU:=Lh oQ
     clear hE tR JQ fD
     ((repeat revert K);refine vS ?_;(repeat with_reducible intro K hK))
     ((refine cJ [0] fun f=>?_);go_quiet (fail);((repeat revert K);refine vg ?_;(repeat with_reducible intro K hK));refine Qk [2,3] fun f=>?_)
     exact HQ.out f _ _ _ ⟨v9,W7.out.drawn _,by rw [BW.out];exact ⟨rfl,HU.out.symm,HE.out.drewN _⟩⟩
    | cons d r3=>
     have fD:=Lh (bH x HX.out.toOk c HD.out w8 v8 d r3 _ b6 E6.out)
     ((repeat revert K);refine vS ?_;(repeat with_reducible intro K hK))
     refine fD.out.mono ?_
     rintro e9 w9 ⟨rfl,v9,h9,Ad,JQ,tR,hz9⟩
     have W7:=Lh (xL.out.s0 tR JQ)
     have Te:=Lh (Ab.out.step (tR.stp JQ))
     have HR9:=Lh h9
     have Yj:=Lh Ad
     clear h9 Ad JQ tR hz9 fD xL Ab
     by_cases Ae:d=62
     ·subst Ae
      have BW:=Lh (show fI x.o (b::rest)=.ok ((nm,acc),true,r3) by rw [dB.out,MW.out];rfl)
      go_simp
      ((repeat revert K);refine vT 198 ?_)
      (refine cJ [0,28,29,30] fun f=>?_)
      refine aY (Of x HX.out c w v w9 v9 r3 b6 HR9.out Yj.out W7.out nb nm av acc Te.out true _ ?_ f) (by kernel_rfl)
      intro f w' t e hP
      exact HQ.out f w' t e (by rw [BW.out];exact hP)
     ·have vG:=eU (n:=62) Ae rfl
      have QF:=uF (n:=62) Ae rfl
      have BW:=Lh (show fI x.o (b::rest)=.error .syn by rw [dB.out,MW.out,if_pos rfl];simp only [Z8,if_neg Ae])
      have qS:=Lh (fun msg=>g7 HX.out.toOk HR9.out msg)
      clear Ae
      ((repeat revert K);refine vS ?_;(repeat with_reducible intro K hK))
      refine (qS.out _).mono ?_
      rintro e5 w10 ⟨a9,rfl,hS⟩
      have tE:=hS.dec.cell
      have sZ:=hS.dec.frozen
      have HS:=Lh hS
      clear hS
      ((repeat revert K);refine vS ?_;(repeat with_reducible intro K hK))
      ((refine cJ [0] fun f=>?_);go_quiet (fail);((repeat revert K);refine vg ?_;(repeat with_reducible intro K hK));refine Qk [2,3] fun f=>?_)
      exact HQ.out f _ _ _ ⟨_,(W7.out.trans HS.out.stp).drawn _,by rw [BW.out];exact ⟨rfl,rfl,HS.out.err.drewN _⟩⟩
   ·have vG:=eU (n:=47) Ac rfl
    have QF:=uF (n:=47) Ac rfl
    by_cases Af:b1=62
    ·subst Af
     have BW:=Lh (show fI x.o (b::rest)=.ok ((nm,acc),false,r2) by rw [dB.out,MW.out];rfl)
     go_simp
     ((repeat revert K);refine vT 198 ?_)
     (refine cJ [0,28,29,30] fun f=>?_)
     refine aY (Of x HX.out c w v w8 v8 r2 b6 E6.out Fa.out xL.out nb nm av acc Ab.out false _ ?_ f) (by kernel_rfl)
     intro f w' t e hP
     exact HQ.out f w' t e (by rw [BW.out];exact hP)
    ·have a5d:=eU (n:=62) Af rfl
     have a5e:=uF (n:=62) Af rfl
     have iW:=Lh (gZ x HX.out.toOk c w8 v8 b1 r2 b6 E6.out Fa.out kC.out)
     have Ag:=Lh (show dD x.o (r.length+1) r []=(match gY x.o (b1::r2) with
      | .error e=>.error e
      | .ok (a,r5)=>dD x.o rest6.length r5 (acc++[a])) by rw [MW.out,if_neg Ac,if_neg Af])
     clear Ac Af
     ((repeat revert K);refine vS ?_;(repeat with_reducible intro K hK))
     refine iW.out.mono ?_
     rintro e9 w9 ⟨rfl,v9,h9,Ad,JQ,tR,hz9⟩
     have W7:=Lh (xL.out.s0 tR JQ)
     have Te:=Lh (Ab.out.step (tR.stp JQ))
     have a3y:=Lh (a0y.out.of_eq JQ)
     have HR9:=Lh h9
     clear h9 Ad JQ tR hz9 iW xL Ab a0y
     go_simp
     ((repeat revert K);refine vT 176 ?_;intro K hK)
     (refine cJ [0,28,29,30] fun f=>?_)
     refine aY (a0t x HX.out c HD.out xP.out w v w9 v9 (b1::r2) b6 HR9.out a3y.out W7.out tW.out nb nm av acc Te.out (by have:=cL.out;have:=Z5.out;omega) _ _ _ ?_ ?_ f) (by kernel_rfl)
     ·intro a r5 bR f w' v' e' b' av' hr gK MV yV
      have HR:=Lh hr
      have Y2:=Lh gK
      have HS:=Lh MV
      have HK:=Lh yV
      have YG:=Lh ((qL bR).2)
      have HG:=Lh (show dD x.o (r.length+1) r []=dD x.o rest6.length r5 (acc++[a]) by rw [Ag.out,bR])
      clear hr gK MV yV bR
      (revert K;refine vg ?_;intro K hK)
      refine dN.out _ _ ⟨r5.length,?_,HJ.out _ _ _ ⟨f,v',r5,e',b',av',acc++[a],rfl,HR.out,Y2.out,HS.out,HK.out,rfl,fun K hK=>?_,?_⟩⟩
      ·rw [Ny.out];have:=YG.out;have:=tI.out;simp only [List.length_cons] at *;omega
      ·rw [HG.out];exact uI (by have:=YG.out;have:=tI.out;simp only [List.length_cons] at *;omega) hK
      ·have:=YG.out;have:=tI.out;have:=cL.out;simp only [List.length_append,List.length_cons,List.length_nil] at *;omega
     ·intro k bR f w' v' hE MV
      have HE:=Lh hE
      have HS:=Lh MV
      have HG:=Lh (show fI x.o (b::rest)=.error k by rw [dB.out,Ag.out,bR])
      clear hE MV bR
      (revert K;refine vg ?_;intro K hK)
      exact HQ.out f w' _ _ ⟨v',HS.out,by rw [HG.out];exact ⟨rfl,rfl,HE.out⟩⟩
structure JR (x:Cx) (c:DC) (w:World) (v:DV) (s:St):Prop where
 rd:∃ e b,bX x c w v s.rest e b∧(s.ended=true→e≠none)∧(e≠none→s.toClose=none)
 nc:c.needClose=s.toClose.isSome
 tc:∀ nm,s.toClose=some nm→c.tcs=⟨nm.1.toArray⟩∧c.tcl=⟨nm.2.toArray⟩
 nb:v.nb≠10
def uJ (c c':DC):Prop:=∃ b p q,c'={ c with needClose:=b,tcs:=p,tcl:=q }
theorem uJ.refl (c:DC):uJ c c:=⟨c.needClose,c.tcs,c.tcl,rfl⟩
def cF (x:Cx) (c:DC) (w:World) (v:DV) (s:St) (t e:Value) (w':World):Prop:=
 match fS x.o s with
 | .error k=>∃ v',cK x w v w' v'∧t=.nilIface∧e=v'.err∧jP x c w' v' k∧kU w' e k
 | .ok (tk,s')=>∃ v' c',cK x w v w' v'∧e=.nilIface∧uJ c c'∧JR x c' w' v' s'∧jN w' v'.bufv w.heap.size t tk∧((∀ d,tk≠.text d)→s'.ended=false∧∃ b,bX x c' w' v' s'.rest none b)
theorem jC.tok {x:Cx} {c:DC} {w0 w:World} {v0 v:DV} {s:St} {R:Except EK (aP×Bs)} {t e:Value} {w':World} (hs:cK x w0 v0 w v) (MC:c.needClose=false) (sQ:s.toClose=none) (gE:w0.heap.size≤w.heap.size)
  (hr:fS x.o s=match R with|.error e=>.error e|.ok (t,r)=>.ok (t,{ s with rest:=r })) (rI:s.ended=false) (h:jC x c w v R t e w'):cF x c w0 v0 s t e w':=by
 obtain ⟨⟨v',MV,hp⟩,ho⟩:=h
 unfold cF
 rw [hr]
 cases R with
 | error k=>exact ⟨v',hs.trans MV,hp.1,hp.2.1,hp.2.2,ho k rfl⟩
 | ok p=>
  obtain ⟨tk,r⟩:=p
  obtain ⟨he,e',b,hR,ht,zZ,lC⟩:=hp
  refine ⟨v',c,hs.trans MV,he,uJ.refl c,⟨⟨e',b,hR,fun h=>(by rw [rI] at h;cases h),fun _=>sQ⟩,by rw [MC,sQ];rfl,fun nm h=>(by rw [sQ] at h;cases h),by rw [lC];decide⟩,?_⟩
  cases tk with
  | start nm ats=>
   refine ⟨?_,fun _=>?_⟩
   ·obtain ⟨sv,h1,h2,h3⟩:=ht
    refine ⟨sv,h1,h2,h3.1,?_⟩
    rcases h3.2 with h4|⟨g,cap,cur,h4,h5,h6⟩
    ·exact Or.inl h4
    ·exact Or.inr ⟨g,cap,cur,h4,Nat.le_trans gE h5,h6⟩
   ·rcases zZ with h9|⟨⟨d,h9⟩,_⟩
    ·subst h9;exact ⟨rI,b,hR⟩
    ·cases h9
  | text d=>exact ⟨ht,fun h=>absurd rfl (h d)⟩
  | _=>
   refine ⟨ht,fun _=>?_⟩
   rcases zZ with h9|⟨⟨d,h9⟩,_⟩
   ·subst h9;exact ⟨rI,b,hR⟩
   ·cases h9
theorem JP.tok {x:Cx} {c:DC} {w0 w:World} {v0 v:DV} {s:St} {R:Except EK (((Bs×Bs)×List eI)×Bool×Bs)} {t e:Value} {w':World} (hs:cK x w0 v0 w v) (MC:c.needClose=false) (sQ:s.toClose=none) (gE:w0.heap.size≤w.heap.size)
  (hr:fS x.o s=match R with|.error e=>.error e|.ok ((nm,ats),em,r)=>.ok (.start nm ats,{ s with rest:=r,toClose:=if em then some nm else none })) (rI:s.ended=false) (jL:xM R) (h:JP x c w v R t e w'):cF x c w0 v0 s t e w':=by
 obtain ⟨v',MV,hp⟩:=h
 unfold cF
 rw [hr]
 cases R with
 | error k=>exact ⟨v',hs.trans MV,hp.1,hp.2.1,hp.2.2,kU.no (fun hh=>jL (by rw [hh]))⟩
 | ok p=>
  obtain ⟨⟨nm,ats⟩,em,r⟩:=p
  obtain ⟨he,b,hR,ht,lC⟩:=hp
  have Ha:uJ c (c.closing nm em):=by
   cases em
   ·exact uJ.refl c
   ·exact ⟨_,_,_,rfl⟩
  refine ⟨v',_,hs.trans MV,he,Ha,⟨⟨none,b,hR,fun h=>(by rw [rI] at h;cases h),fun h=>absurd rfl h⟩,?_,?_,by rw [lC];decide⟩,?_⟩
  ·cases em
   ·simp [DC.closing,MC]
   ·rfl
  ·intro nm' h
   cases em
   ·cases h
   ·simp only [if_true,oY] at h
    subst h
    exact ⟨rfl,rfl⟩
  ·refine ⟨?_,fun _=>⟨rI,b,hR⟩⟩
   obtain ⟨sv,h1,h2,h3⟩:=ht
   refine ⟨sv,h1,h2,h3.1,?_⟩
   rcases h3.2 with h4|⟨g,cap,cur,h4,h5,h6⟩
   ·exact Or.inl h4
   ·exact Or.inr ⟨g,cap,cur,h4,Nat.le_trans gE h5,h6⟩
def Tf (o:cU) (s:St):Bs→Except EK (aP×St)
 | []=>.error (bW o.fails)
 | c::r2=>
  if c=47 then (match o7 o r2 with|.error e=>.error e|.ok (t,r3)=>.ok (t,{ s with rest:=r3 }))
  else if c=63 then (match FC o r2 with|.error e=>.error e|.ok (t,r3)=>.ok (t,{ s with rest:=r3 }))
  else if c=33 then (match kK o r2 with|.error e=>.error e|.ok (t,r3)=>.ok (t,{ s with rest:=r3 }))
  else match fI o (c::r2) with
   | .error e=>.error e
   | .ok ((nm,ats),em,r3)=>.ok (.start nm ats,{ s with rest:=r3,toClose:=if em then some nm else none })
theorem Jb {o:cU} {s:St} (rI:s.ended=false) (sQ:s.toClose=none) {r:Bs} (hr:s.rest=60::r):fS o s=Tf o s r:=by
 obtain ⟨rest,en,tc,stk,ns,nx⟩:=s
 simp only at rI sQ hr
 subst rI sQ hr
 unfold fS Tf
 cases r<;>rfl
theorem QM (o:cU) (b:UInt8) (r:Bs):kK o (b::r)=if b=45 then DQ o r else if b=91 then vW o MH r else nG o b r:=by
 unfold kK DQ vW nG
 simp only
 split
 ·rfl
 ·split
  ·rfl
  ·rfl
theorem Tg (x:Cx) (hx:x.All) (B8:lQ x.W0) (s9:3<x.B) (c:DC) (dR:iU x c) (jL:wL x c) (MC:c.needClose=false) (w:World) (v:DV) (s:St) (r:Bs) (hr:s.rest=60::r) (rI:s.ended=false) (sQ:s.toClose=none) (buf:Bs) (h:bX x c w v (60::r) none buf) :
  Calls prog 29 #[bS x] w fun en w'=>∃ t e,en=.returned (.tuple #[t,e])∧cF x c w v s t e w':=by
 have hg:=Lh (qN x hx.toOk c dR w v 60 r none buf h)
 have HX:=Lh hx
 have Fi:=Lh B8
 have VD:=Lh s9
 have HD:=Lh dR
 have xP:=Lh jL
 have Yk:=Lh MC
 have VG:=Lh rI
 have Yl:=Lh sQ
 have QN:=Lh (Jb (o:=x.o) rI sQ hr)
 have hc:=h.dec.cell
 have hf:=h.dec.frozen
 have he:v.err=.nilIface:=h.err
 have kC:=Lh h.suf
 clear h hx B8 s9 dR jL hr rI sQ
 refine eJ 731 func29 [_] fun f=>?_
 simp only [aE]
 (refine vg ?_;(repeat with_reducible intro K hK))
 refine hg.out.mono ?_
 rintro e1 w1 ⟨rfl,v1,h1,iL,bP,eA,_⟩
 have iS:=Lh ((cK.refl x w v).s0 eA bP)
 have R3:=Lh h1
 clear h1 iL bP eA hg hc hf he MC
 have FV:=Lh (show ∀ f w' t e,cF x c w v s t e w'→bodyPost prog Tryz.f29 (fun en w'=>∃ t e,en=.returned (.tuple #[t,e])∧cF x c w v s t e w') .ret (fr 731 f [(2,t),(3,e)]) w' from
  fun f w' t e hP=>IM rfl (by decide) (by decide) (by simp only [aL,aQ,aS,bD,Nat.reduceEqDiff,↓reduceIte]) (by simp only [aL,aQ,aS,bD,Nat.reduceEqDiff,↓reduceIte]) ⟨t,e,rfl,hP⟩)
 cases r with
 | nil=>
  have fD:=Lh (bJ x HX.out.toOk c HD.out w1 v1 none buf R3.out)
  ((repeat revert K);refine vS ?_;(repeat with_reducible intro K hK))
  refine fD.out.mono ?_
  rintro e4 w4 ⟨rfl,v4,hE,pC,l5⟩
  have rG:=Lh (iS.out.s0 l5 pC)
  obtain ⟨t1,u1,oQ⟩:=hE.err.iface
  have HE:=Lh hE
  have hc:=hE.dec.cell
  have hf:=hE.dec.frozen
  have HU:=Lh oQ
  clear hE l5 pC fD
  ((repeat revert K);refine vS ?_;(repeat with_reducible intro K hK))
  ((refine cJ [0] fun f=>?_);go_quiet (fail);((repeat revert K);refine vg ?_;intro K hK);refine Qk [2,3] fun f=>?_)
  refine FV.out f _ _ _ ?_
  unfold cF
  rw [QN.out]
  exact ⟨v4,rG.out.drawn _,rfl,HU.out.symm,HE.out.drewN _,kU.no (DG _)⟩
 | cons b r2=>
  have fD:=Lh (bH x HX.out.toOk c HD.out w1 v1 b r2 none buf R3.out)
  ((repeat revert K);refine vS ?_;(repeat with_reducible intro K hK))
  refine fD.out.mono ?_
  rintro e4 w4 ⟨rfl,v4,Ob,UH,pC,l5,Sm⟩
  have nM:=Lh (iS.out.s0 l5 pC)
  have SN:=Lh Ob
  have Rn:=Lh UH
  clear Ob UH l5 pC Sm fD
  by_cases ST:b=47
  ·subst ST
   have wO:=Lh (show fS x.o s=(match o7 x.o r2 with|.error e=>.error e|.ok (t,r3)=>.ok (t,{ s with rest:=r3 })) by rw [QN.out];rfl)
   go_simp
   ((repeat revert K);refine vT 22 ?_;intro K hK)
   (refine cJ [0] fun f=>?_)
   refine aY (Sl x HX.out c HD.out w4 v4 r2 none buf SN.out _ ?_ f) (by kernel_rfl)
   intro f w' t e hP
   exact FV.out f w' t e (jC.tok nM.out Yk.out Yl.out nM.out.mod.size wO.out VG.out (hP.o (Ho _ _)))
  ·have t1:=eU (n:=47) ST rfl
   by_cases VH:b=63
   ·subst VH
    have wO:=Lh (show fS x.o s=(match FC x.o r2 with|.error e=>.error e|.ok (t,r3)=>.ok (t,{ s with rest:=r3 })) by rw [QN.out];rfl)
    clear ST t1
    go_simp
    ((repeat revert K);refine vT 37 ?_;intro K hK)
    (refine cJ [0] fun f=>?_)
    refine aY (a0p x HX.out Fi.out VD.out c HD.out w4 v4 r2 none buf SN.out _ ?_ f) (by kernel_rfl)
    intro f w' t e hP
    exact FV.out f w' t e (jC.tok nM.out Yk.out Yl.out nM.out.mod.size wO.out VG.out hP)
   ·have t2:=eU (n:=63) VH rfl
    by_cases h33:b=33
    ·subst h33
     have wO:=Lh (show fS x.o s=(match kK x.o r2 with|.error e=>.error e|.ok (t,r3)=>.ok (t,{ s with rest:=r3 })) by rw [QN.out];rfl)
     clear ST VH t1 t2
     cases r2 with
     | nil=>
      have fD:=Lh (bJ x HX.out.toOk c HD.out w4 v4 none buf SN.out)
      ((repeat revert K);refine vS ?_;(repeat with_reducible intro K hK))
      refine fD.out.mono ?_
      rintro e5 w5 ⟨rfl,v5,hE,jM,fL⟩
      have rG:=Lh (nM.out.s0 fL jM)
      obtain ⟨t1,u1,oQ⟩:=hE.err.iface
      have HE:=Lh hE
      have hc:=hE.dec.cell
      have hf:=hE.dec.frozen
      have HU:=Lh oQ
      clear hE fL jM fD
      ((repeat revert K);refine vS ?_;(repeat with_reducible intro K hK))
      ((refine cJ [0] fun f=>?_);go_quiet (fail);((repeat revert K);refine vg ?_;(repeat with_reducible intro K hK));refine Qk [2,3] fun f=>?_)
      refine FV.out f _ _ _ ?_
      unfold cF
      rw [wO.out]
      exact ⟨v5,rG.out.drawn _,rfl,HU.out.symm,HE.out.drewN _,kU.no (DG _)⟩
     | cons b2 r3=>
      have fD:=Lh (bH x HX.out.toOk c HD.out w4 v4 b2 r3 none buf SN.out)
      have HB:=Lh (QM x.o b2 r3)
      ((repeat revert K);refine vS ?_;(repeat with_reducible intro K hK))
      refine fD.out.mono ?_
      rintro e5 w5 ⟨rfl,v5,Oc,PK,jM,fL,OL⟩
      have rG:=Lh (nM.out.s0 fL jM)
      have Fh:=Lh Oc
      clear Oc PK fL jM OL fD
      by_cases wP:b2=45
      ·subst wP
       have MX:=Lh (show fS x.o s=(match DQ x.o r3 with|.error e=>.error e|.ok (t,r3)=>.ok (t,{ s with rest:=r3 })) by rw [wO.out,HB.out,if_pos rfl])
       have a3z:=Lh (show xM (DQ x.o r3) by have h9:=DI x.o (45::r3);rw [HB.out,if_pos rfl] at h9;exact h9)
       go_simp
       ((repeat revert K);refine vT 79 ?_;(repeat with_reducible intro K hK))
       (refine cJ [0] fun f=>?_)
       refine aY (Sn x HX.out c HD.out w5 v5 r3 none buf Fh.out _ ?_ f) (by kernel_rfl)
       intro f w' t e hP
       exact FV.out f w' t e (jC.tok rG.out Yk.out Yl.out rG.out.mod.size MX.out VG.out (hP.o a3z.out))
      ·have t3:=eU (n:=45) wP rfl
       by_cases VI:b2=91
       ·subst VI
        have MX:=Lh (show fS x.o s=(match vW x.o MH r3 with|.error e=>.error e|.ok (t,r3)=>.ok (t,{ s with rest:=r3 })) by rw [wO.out,HB.out,if_neg wP,if_pos rfl])
        have a4A:=Lh (show xM (vW x.o MH r3) by have h9:=DI x.o (91::r3);rw [HB.out,if_neg wP,if_pos rfl] at h9;exact h9)
        clear wP t3
        go_simp
        ((repeat revert K);refine vT 100 ?_;(repeat with_reducible intro K hK))
        (refine cJ [0] fun f=>?_)
        refine aY (So x HX.out c HD.out xP.out w5 v5 r3 none buf Fh.out _ ?_ f) (by kernel_rfl)
        intro f w' t e hP
        exact FV.out f w' t e (jC.tok rG.out Yk.out Yl.out rG.out.mod.size MX.out VG.out (hP.o a4A.out))
       ·have t4:=eU (n:=91) VI rfl
        have MX:=Lh (show fS x.o s=(match nG x.o b2 r3 with|.error e=>.error e|.ok (t,r3)=>.ok (t,{ s with rest:=r3 })) by rw [wO.out,HB.out,if_neg wP,if_neg VI])
        have a4B:=Lh (show xM (nG x.o b2 r3) by have h9:=DI x.o (b2::r3);rw [HB.out,if_neg wP,if_neg VI] at h9;exact h9)
        clear wP VI
        go_simp
        ((repeat revert K);refine vT 113 ?_;intro K hK)
        (refine cJ [0,4] fun f=>?_)
        refine aY (Sq x HX.out c HD.out w5 v5 b2 r3 buf Fh.out _ ?_ f) (by kernel_rfl)
        intro f w' t e hP
        exact FV.out f w' t e (jC.tok rG.out Yk.out Yl.out rG.out.mod.size MX.out VG.out (hP.o a4B.out))
    ·have t3:=eU (n:=33) h33 rfl
     have wO:=Lh (show fS x.o s=(match fI x.o (b::r2) with|.error e=>.error e|.ok ((nm,ats),em,r3)=>.ok (.start nm ats,{ s with rest:=r3,toClose:=if em then some nm else none })) by
      rw [QN.out];simp only [Tf,if_neg ST,if_neg VH,if_neg h33])
     clear ST VH h33
     go_simp
     ((repeat revert K);refine vT 152 ?_)
     (refine cJ [0,4] fun f=>?_)
     refine aY (Z9 x HX.out c HD.out xP.out w4 v4 b r2 buf SN.out Rn.out (by have:=R3.out.suf;exact this) _ ?_ f) (by kernel_rfl)
     intro f w' t e hP
     exact FV.out f w' t e (hP.tok nM.out Yk.out Yl.out nM.out.mod.size wO.out VG.out (UK _ _))
theorem QO {o:cU}:∀ (n:Nat) (rest:Bs),rest.length≤n→∀ (b0 b1:UInt8) (buf:Bs) {d r:Bs},aX o none false rest b0 b1 buf=.ok (d,r)→r=[]∨∃ t,r=60::t:=by
 intro n
 induction n with
 | zero=>
  intro rest hl b0 b1 buf d r h
  have:rest=[]:=List.eq_nil_of_length_eq_zero (by omega)
  subst this
  unfold aX at h
  rw [if_neg (by simp)] at h
  split at h
  ·simp only [cI,cC] at h;exact Or.inl h.2.symm
  ·cases h
 | succ n ih=>
  intro rest hl b0 b1 buf d r h
  cases rest with
  | nil=>
   unfold aX at h
   rw [if_neg (by simp)] at h
   split at h
   ·simp only [cI,cC] at h;exact Or.inl h.2.symm
   ·cases h
  | cons b t=>
   have ht:t.length≤n:=by simp at hl;omega
   unfold aX at h
   split at h
   ·split at h
    ·rename_i hh;cases hh
    ·cases h
   ·split at h
    ·rename_i hb
     rw [if_pos rfl] at h
     split at h
     ·simp only [cI,cC] at h
      exact Or.inr ⟨t,by rw [←h.2,hb.1]⟩
     ·cases h
    ·split at h
     ·rename_i hh;cases hh
     ·split at h
      ·split at h
       ·cases h
       ·rename_i hr;exact ih _ (by have:=fO (mW hr);omega) _ _ _ h
       ·rename_i hr
        split at h
        ·cases h
        ·exact ih _ (by have:=fO (mW hr);omega) _ _ _ h
      ·exact ih _ ht _ _ _ h
theorem bX.nb_text {x:Cx} {c:DC} {w:World} {v:DV} {r:Bs} {e:Option EK} {b:Bs} (h:bX x c w v r e b) (hr:r=[]∨∃ t,r=60::t):v.nb≠10:=by
 obtain ⟨un,_,h1⟩:=h.inp
 rcases h1 with ⟨h1,_⟩|⟨b,h1,h2⟩
 ·rw [h1];decide
 ·rcases hr with hr|⟨t,hr⟩
  ·rw [hr] at h2;cases h2
  ·rw [hr] at h2
   simp only [List.cons.injEq] at h2
   rw [h1,←h2.1];decide
theorem Ah (x:Cx) (hx:x.Ok) (c:DC) (w:World) (v:DV) (s:St) (nm:Bs×Bs) (rI:s.ended=false) (sQ:s.toClose=some nm) (B9:JR x c w v s) :
  Calls prog 29 #[bS x] w fun en w'=>∃ t e,en=.returned (.tuple #[t,e])∧cF x c w v s t e w':=by
 obtain ⟨⟨e,b,hR,h1,h2⟩,MC,Th,lC⟩:=B9
 have he:e=none:=by
  cases e with
  | none=>rfl
  | some k=>have:=h2 (by simp);rw [sQ] at this;cases this
 subst he
 obtain ⟨q1,q2⟩:=Th nm sQ
 rw [sQ] at MC
 have Ai:c.needClose=true:=MC
 have hc:=hR.dec.cell
 have hf:=hR.dec.frozen
 have Fj:v.err=.nilIface:=hR.err
 have HX:=Lh hx
 have HR:=Lh hR
 have QN:=Lh (show fS x.o s=.ok (.fin nm,{ s with toClose:=none }) by unfold fS;rw [if_neg (by rw [rI];simp),sQ])
 have VG:=Lh rI
 have rJ:=Lh lC
 clear hR h1 h2 MC Th sQ rI hx lC
 refine eJ 731 func29 [_] fun f=>?_
 simp only [aE]
 (refine vg ?_;intro K hK)
 (refine kX ?_)
 refine ⟨_,_,rfl,?_⟩
 unfold cF
 rw [QN.out]
 have hm:aK (fun k=>k=x.d) w (w.setCell ⟨x.d,14,none⟩ (.bool false)):=(aK.refl (fun k=>k=x.d) w).setCell (p:=⟨x.d,14,none⟩) (Or.inl rfl) _
 have hd:bO (w.setCell ⟨x.d,14,none⟩ (.bool false)) x.d { c with needClose:=false } v:=(show aJ w x.d _ _ from HR.out.dec).set 14 (.bool false)
 refine ⟨v,{ c with needClose:=false },(cK.refl x w v).s0 (hm.mono (fun i _ hi=>Or.inl hi)) rfl,rfl,⟨false,c.tcs,c.tcl,rfl⟩,⟨⟨none,b,HR.out.turn HX.out hd hm,fun h=>?_,fun _=>rfl⟩,rfl,fun nm h=>(by cases h),rJ.out⟩,rfl,fun _=>⟨VG.out,b,HR.out.turn HX.out hd hm⟩⟩
 have h9:s.ended=true:=h
 rw [VG.out] at h9;cases h9
theorem Jc (x:Cx) (hx:x.All) (c:DC) (dR:iU x c) (MC:c.needClose=false) (w:World) (v:DV) (buf:Bs) (h:bX x c w v [] none buf) :
  Calls prog 29 #[bS x] w fun en w'=>∃ v',cK x w v w' v'∧en=.returned (.tuple #[.nilIface,v'.err])∧jP x c w' v' (qK x.o.fails):=by
 have hg:=Lh (vA x hx.toOk c dR w v none buf h)
 have hc:=h.dec.cell
 have hf:=h.dec.frozen
 have he:v.err=.nilIface:=h.err
 clear h hx dR
 refine eJ 731 func29 [_] fun f=>?_
 simp only [aE]
 (refine vg ?_;(repeat with_reducible intro K hK))
 refine hg.out.mono ?_
 rintro e1 w1 ⟨rfl,v1,h1,iL,bP,eA,_⟩
 have iS:=Lh ((cK.refl x w v).s0 eA bP)
 have HE:=Lh (show jP x c w1 v1 (qK x.o.fails) from ⟨h1.base,h1.dec,h1.err⟩)
 obtain ⟨t1,u1,oQ⟩:=HE.out.err.iface
 have HU:=Lh oQ
 have hc:=h1.dec.cell
 have hf:=h1.dec.frozen
 clear h1 iL bP eA hg he MC
 ((repeat revert K);refine vS ?_;(repeat with_reducible intro K hK))
 ((refine cJ [0] fun f=>?_);go_quiet (fail);((repeat revert K);refine vg ?_;intro K hK);refine Qk [2,3] fun f=>?_)
 (refine kX ?_)
 exact ⟨v1,iS.out.drawn _,by rw [HU.out],HE.out.drewN _⟩
theorem MY {o:cU} {s:St} (sQ:s.toClose=none) (hr:s.rest=[]):fS o s=.error (qK o.fails):=by
 obtain ⟨rest,en,tc,stk,ns,nx⟩:=s
 simp only at sQ hr
 subst sQ hr
 unfold fS
 cases en<;>rfl
theorem VJ {o:cU} {s:St} (rI:s.ended=false) (sQ:s.toClose=none) {b:UInt8} {r:Bs} (hb:b≠60) (hr:s.rest=b::r):fS o s=match aX o none false (b::r) 0 0 [] with
  | .error e=>.error e
  | .ok (d,r2)=>.ok (.text d,{ s with rest:=r2,ended:=r2==[] }):=by
 obtain ⟨rest,en,tc,stk,ns,nx⟩:=s
 simp only at sQ hr rI
 subst sQ hr rI
 unfold fS
 simp only [Bool.false_eq_true,if_false]
 rw [if_pos hb]
 cases aX o none false (b::r) 0 0 []<;>rfl
theorem MZ (x:Cx) (hx:x.All) (B8:lQ x.W0) (s9:3<x.B) (c:DC) (dR:iU x c) (jL:wL x c) (w:World) (v:DV) (s:St) (B9:JR x c w v s) :
  Calls prog 29 #[bS x] w fun en w'=>∃ t e,en=.returned (.tuple #[t,e])∧cF x c w v s t e w':=by
 obtain ⟨⟨e,b,hR,h1,h2⟩,MC,Th,_⟩:=id B9
 cases e with
 | some k=>
  have sQ:=h2 (by simp)
  obtain ⟨t1,u1,oQ⟩:=hR.err.iface
  have zZ:=hR.fin
  rcases zZ with zZ|⟨zZ,kV⟩
  ·cases zZ
  ·refine (Si x c w v hR.dec t1 u1 oQ).mono ?_
   rintro en w' ⟨rfl,k',rfl⟩
   refine ⟨_,_,rfl,?_⟩
   unfold cF
   rw [MY sQ kV]
   have hk:k=qK x.o.fails:=by simpa using zZ
   subst hk
   exact ⟨v,cK.drewN _,rfl,rfl,jP.drewN ⟨hR.base,hR.dec,hR.err⟩ _,kU.no (SB _)⟩
 | none=>
  have rI:s.ended=false:=by
   cases h:s.ended with
   | false=>rfl
   | true=>exact absurd rfl (h1 h)
  cases sQ:s.toClose with
  | some nm=>exact Ah x hx.toOk c w v s nm rI sQ B9
  | none=>
   have Ai:c.needClose=false:=by rw [MC,sQ];rfl
   cases hr:s.rest with
   | nil=>
    rw [hr] at hR
    refine (Jc x hx c dR Ai w v b hR).mono ?_
    rintro en w' ⟨v',hs,rfl,hE⟩
    refine ⟨_,_,rfl,?_⟩
    unfold cF
    rw [MY sQ hr]
    exact ⟨v',hs,rfl,rfl,hE,kU.no (SB _)⟩
   | cons d r=>
    rw [hr] at hR
    by_cases hd:d=60
    ·subst hd
     exact Tg x hx B8 s9 c dR jL Ai w v s r hr rI sQ b hR
    ·refine (Ii x hx c dR jL Ai w v d r b hd hR).mono ?_
     rintro en w' ⟨v',hs,hp⟩
     have fT:=VJ (o:=x.o) rI sQ hd hr
     cases bR:aX x.o none false (d::r) 0 0 [] with
     | error k=>
      rw [bR] at hp fT
      obtain ⟨rfl,hE⟩:=hp
      refine ⟨_,_,rfl,?_⟩
      unfold cF
      rw [fT]
      exact ⟨v',hs,rfl,rfl,hE,kU.no (fun hh=>DH _ _ _ _ _ (Nat.le_refl _) _ _ _ (by rw [←hh];exact bR))⟩
     | ok p=>
      obtain ⟨tx,r'⟩:=p
      rw [bR] at hp fT
      obtain ⟨g,cap,e',b',rfl,Oh,rF,nR,FI,uB⟩:=hp
      refine ⟨_,_,rfl,?_⟩
      unfold cF
      rw [fT]
      refine ⟨v',c,hs,rfl,uJ.refl c,⟨⟨e',b',Oh,fun h=>?_,fun _=>sQ⟩,by rw [Ai,sQ];rfl,fun nm h=>(by rw [sQ] at h;cases h),Oh.nb_text (QO _ _ (Nat.le_refl _) _ _ _ bR)⟩,⟨_,rfl,?_⟩,fun h=>absurd rfl (h tx)⟩
      ·have h9:r'=[]:=by simpa using h
       rw [uB h9];simp
      ·have lY:=(Oh.bf.part rF nR FI).1
       rcases Oh.bf with ⟨h5,_⟩|⟨g',cap',arr,h5,hg,gE,hl,wT,_,_,oB⟩
       ·rw [h5] at rF;cases rF
       ·have h6:=h5
        rw [h5] at rF
        simp only [Value.slice.injEq,oY,Addr.mk.injEq] at rF
        obtain ⟨⟨rfl,_⟩,_,rfl⟩:=rF
        exact ⟨g',cap',b'.length,rfl,h6,lY,by omega,wT⟩
end Go.Proofs.YtdjdjbpnbjdaaaaGreatDoor
