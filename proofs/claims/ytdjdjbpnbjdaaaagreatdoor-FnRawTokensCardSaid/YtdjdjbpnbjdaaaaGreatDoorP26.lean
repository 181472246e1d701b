/- Part of the proof that laws.FnRawTokens returns true for every argument. No conditions. -/
import Derived.Test.YtdjdjbpnbjdaaaaGreatDoorP23
import Derived.Test.YtdjdjbpnbjdaaaaGreatDoorP25
import Derived.Test.YtdjdjbpnbjdaaaaGreatDoorP08
import Derived.Test.YtdjdjbpnbjdaaaaGreatDoorP24
set_option linter.all false
set_option maxHeartbeats 8000000
set_option maxRecDepth 100000
namespace Go.Proofs.YtdjdjbpnbjdaaaaGreatDoor
open Go Go.RowKit Tryz
theorem S6 {x:Cx} (hx:x.Ok) (VX:∃ cs t,aJ x.W0 x.eofA.block cs t) {k:EK} {e:Value} {w:World} (hb:Below x.B x.W0 w) (he:BP x e (some k)) (ho:kU w e k) :
  (binOp .eql 49 e x.eofV).run prog w=.ok (.bool (decide (k=.eof))) w:=by
 cases k with
 | eof=>rw [show e=x.eofV from he];exact IY _ w
 | own=>rw [show e=FD from he];exact IZ _ _ w
 | syn=>obtain ⟨a,he⟩:=he;rw [he];exact Gn _ _ w
 | other=>
  obtain ⟨a,h1,h2⟩:=he
  obtain ⟨a',cs,t,h3,h4⟩:=ho rfl
  rw [h1] at h3
  simp only [Value.iface.injEq,Value.pointer.injEq,oY,true_and] at h3
  subst h3
  obtain ⟨cs2,t2,h5⟩:=VX
  have h6:aJ w x.eofA.block cs2 t2:=by
   unfold aJ at h5 ⊢
   rw [←h5];exact hb.block _ hx.eofL
  rw [h1]
  have q1:=wF
  have q2:=RW
  cases hi:prog.info? 192 with
  | none=>rw [hi] at q1;cases q1
  | some i=>
   cases hj:prog.info? 194 with
   | none=>rw [hj] at q2;cases q2
   | some j=>
    rw [hi] at q1
    rw [hj] at q2
    have cB:a≠x.eofA:=fun e=>by rw [e] at h2;have:=hx.eofL;omega
    refine run_eql_iface_ptr_other w underlying49 underlying192 hi (by simpa using q1) hj ?_ cB h4 h6
    have:j.size=1:=by simpa using q2
    omega
theorem nX.same {x:Cx} {w:World} {c c':DC} {v:DV} {m:Nat} {sb fb:List Nat} {n:Nat} {stk:List mQ} {ns:Bs→Option Bs} (h:nX x w c v m sb fb n stk ns) (hc:uJ c c'):nX x w c' v m sb fb n stk ns:=by
 obtain ⟨_,_,_,rfl⟩:=hc
 exact ⟨h.stk,h.free,h.map,h.ns,h.nodup,h.base,h.s1⟩
theorem nX.next {x:Cx} {w:World} {c:DC} {v:DV} {m:Nat} {sb fb:List Nat} {n:Nat} {stk:List mQ} {ns:Bs→Option Bs} (h:nX x w c v m sb fb n stk ns) (u:Value):nX x w { c with nextTok:=u } v m sb fb n stk ns:=
 ⟨h.stk,h.free,h.map,h.ns,h.nodup,h.base,h.s1⟩
theorem BB.nextTok {x:Cx} {c:DC} (h:BB x c) (u:Value):BB x { c with nextTok:=u }:=⟨⟨h.dc.r,h.dc.strict⟩,⟨h.no.ent,h.no.ents⟩,h.sp,h.auto⟩
theorem TS.raw {x:Cx} (hx:x.All) {c:DC} {w:World} {v:DV} {s:St} {m:Nat} {sb fb:List Nat} {n:Nat} (h:TS x c w v s m sb fb n) (pA:s.next=none) {tk:aP} {s1:St} (hr:fS x.o s=.ok (tk,s1)) {c1:DC} {w1:World} {v1:DV} (hs:cK x w v w1 v1) (hc:uJ c c1) (iH:JR x c1 w1 v1 s1) {t:Value} (ht:jN w1 v1.bufv w.heap.size t tk)
  (JX:(∀ d,tk≠.text d)→s1.ended=false∧∃ b,bX x c1 w1 v1 s1.rest none b):pR x c1 w1 v1 s1 m sb fb n w.heap.size t tk∧s1.next=none∧FR x.T.length tk:=by
 obtain ⟨e0,b0,hR,_,_⟩:=h.rd.rd
 have bF:s.rest.length≤x.T.length:=hR.suf.length_le
 obtain ⟨k1,k2,k3,k4,k5,k6,k7⟩:=mS hr
 obtain ⟨l1,l2⟩:=SA h.cfg.no.ents hr bF h.tcl
 have EY:c.nextTok=.nilIface:=by
  have h9:=h.nxt
  unfold l6 at h9
  rw [pA] at h9;exact h9
 have VY:s1.next=none:=k4.trans pA
 obtain ⟨e1,b1,Tm,_,_⟩:=iH.rd
 refine ⟨⟨h.cfg.same hc.toD,iH,?_,by rw [k2];exact h.sok,by rw [k3];exact h.nok,l2,Or.inl l1,?_,ht,hR.base.size,hs.mod.size,fun g hg=>?_,fun hd=>Or.inl (JX hd),l6.none VY (by rw [hc.toD.next];exact EY)⟩,VY,l1⟩
 ·rw [k2,k3];exact (h.own.step hs).same hc
 ·have h9:=h.bnd
  rw [pA] at h9
  rw [k2,VY]
  rcases k7 with ⟨nm,_,rfl,rfl⟩|⟨_,h8,_⟩
  ·simp only [uN] at h9 ⊢;omega
  ·cases tk with
   | start nm ats=>simp only [aP.wt] at h8;simp only [uN] at h9 ⊢;omega
   | _=>simp only [aP.wt] at h8;simp only [uN] at h9 ⊢;omega
 ·have hgB:=(ht.lt hg).1
  refine ⟨fun hh=>by have:=h.own.lt g hh;omega,?_⟩
  cases tk with
  | start nm ats=>
   obtain ⟨sv,rfl,cB,l7⟩:=ht
   rcases l7.2 with h9|⟨g',cap,cur,rfl,_,SY,_⟩
   ·exact absurd (h9.2▸h9.1) cB
   ·have h9:g=g':=hg
    subst h9
    exact Tm.notRow SY (fun hh=>by have:=hR.s0lt g hh;omega)
  | fin nm=>rw [show t=W2 nm from ht] at hg;exact hg.elim
  | text d=>obtain ⟨sv,rfl,hd⟩:=ht;obtain ⟨_,_,_,rfl⟩:=hd.slice;exact hg.elim
  | comment d=>obtain ⟨sv,rfl,hd⟩:=ht;obtain ⟨_,_,_,rfl⟩:=hd.slice;exact hg.elim
  | dir d=>obtain ⟨sv,rfl,hd⟩:=ht;obtain ⟨_,_,_,rfl⟩:=hd.slice;exact hg.elim
  | proc tg d=>obtain ⟨sv,rfl,hd⟩:=ht;exact hg.elim
theorem pR.below {x:Cx} (hx:x.Ok) {c:DC} {w w':World} {v:DV} {s:St} {m:Nat} {sb fb:List Nat} {n B:Nat} {tv:Value} {tk:aP} (h:pR x c w v s m sb fb n B tv tk) (hb:Below w.heap.size w w'):pR x c w' v s m sb fb n B tv tk:=by
 obtain ⟨e,b,hR,h1,h2⟩:=h.rd.rd
 have hm:aK (fun _=>False) w w':=aH hb _
 exact ⟨h.cfg,⟨⟨e,b,hR.below hx hb,h1,h2⟩,h.rd.nc,h.rd.tc,h.rd.nb⟩,h.own.mod hm (fun _ _=>id) h.own.s1,h.sok,h.nok,h.tcl,h.le,h.bnd,h.tok.mod hm (fun _ _=>id) (fun _ _=>id),h.hB,Nat.le_trans h.hBs hb.size,h.tkd,
  fun hd=>(h.nt hd).imp (fun ⟨h1,b,h2⟩=>⟨h1,b,h2.below hx hb⟩) id,h.nxt.step hm (fun _ _=>id) (fun _ _=>id) rfl rfl rfl (fun b hb=>Or.inl hb)⟩
def oR (o:cU) (tk:aP) (s:St):Except EK (aP×St):=
 if o.strict then eM o tk s
 else match nJ cG o tk s with
  | none=>eM o tk s
  | some nm=>eM o (.fin nm) { s with next:=some tk }
theorem VZ {o:cU} {s:St} {t:aP} (h:s.next=some t):sW cG o s=oR o t { s with next:=none }:=by
 unfold sW oR
 rw [h]
 rfl
theorem Bv {o:cU} {s:St} (h:s.next=none):sW cG o s=match fS o s with|.error e=>.error (if e=.eof∧s.stk≠[] then .syn else e)|.ok (t,s')=>oR o t s':=by
 unfold sW oR
 rw [h]
 cases fS o s with
 | error e=>rfl
 | ok p=>rfl
theorem QV {o:cU} {tk:aP} {s:St} {nm:Bs×Bs} (h:nJ cG o tk s=some nm):∃ e stk',s.stk=e::stk'∧e.kind=0∧nm=(e.space,e.loc):=by
 unfold nJ at h
 split at h
 ·cases h
 ·rename_i e stk' hs
  split at h
  ·cases h
  ·rename_i hk
   split at h
   ·split at h
    ·split at h
     ·cases h
     ·exact ⟨e,stk',hs,by simpa using hk,by simpa using h.symm⟩
    ·exact ⟨e,stk',hs,by simpa using hk,by simpa using h.symm⟩
   ·cases h
def sJ (x:Cx) (w:World) (v:DV) (R:Except EK (aP×St)) (m:Nat) (sb fb:List Nat) (tv:Value) (t e:Value) (w':World):Prop:=
 match R with
 | .error k=>t=.nilIface∧BP x e (some k)∧Below x.B x.W0 w'∧kU w' e k∧aK (fun b=>x.S1 v b∨b∈m::(sb++fb)) w w'
 | .ok (tk,s')=>e=.nilIface∧∃ c' v' sb' fb' n',TS x c' w' v' s' m sb' fb' n'∧(∃ B,jN w' v'.bufv B t tk)∧aK (fun b=>b=x.d∨b∈m::(sb++fb)∨dG tv b) w w' ∧
   (∀ b∈m::(sb'++fb'),b∈m::(sb++fb)∨w.heap.size≤b)∧v'.bufv=v.bufv∧∀ g,dG c'.nextTok g→dG tv g
theorem NC (x:Cx) (hx:x.All) (JW:x.o.auto=[]) (c:DC) (w:World) (v:DV) (s:St) (m:Nat) (sb fb:List Nat) (n B:Nat) (tv:Value) (tk:aP) (h:pR x c w v s m sb fb n B tv tk) (pA:s.next=none) (iK:FR x.T.length tk) (JX:(∀ d,tk≠.text d)→s.ended=false∧v.err=.nilIface) (Q:Exit→Act→World→Prop)
  (hQ:∀ f w' t e,sJ x w v (oR x.o tk s) m sb fb tv t e w'→Q .ret (fr 204 f [(2,t),(3,e)]) w') (f:Nat→Value):(hX 14).wp prog Q (fr 204 f [(0,bS x),(4,tv),(5,.nilIface)]) w:=by
 obtain ⟨e0,b0,hR,Ji,B7⟩:=h.rd.rd
 have EY:c.nextTok=.nilIface:=by
  have h9:=h.nxt
  unfold l6 at h9
  rw [pA] at h9;exact h9
 refine a4L x hx.toOk JW c h.cfg.auto h.cfg.dc.strict w hR.base v hR.dec s h.own.stk h.sok v.bufv B tv tk h.tok (fun nm he=>?_) Q (fun jL f w' hb=>?_) (fun nm dA iE f w' hb=>?_) f
 ·subst he
  have:=hx.len
  have h9:nm.1.length≤x.T.length∧nm.2.length≤x.T.length:=iK
  omega
 ·
  have h':=h.below hx.toOk hb
  have Pc:oR x.o tk s=eM x.o tk s:=by
   unfold oR
   rcases jL with h9|h9
   ·rw [if_pos h9]
   ·rw [h9];split<;>rfl
  have Yo:∀ f w'' t' e,xB x w' v c (eM x.o tk s) m sb fb tv t' e w''→Q .ret (fr 204 f [(2,t'),(3,e)]) w'':=by
   intro f w'' t' e hp
   refine hQ f w'' t' e ?_
   rw [Pc]
   unfold sJ
   unfold xB at hp
   cases hw:eM x.o tk s with
   | error k=>
    rw [hw] at hp
    obtain ⟨p1,p2,p3,p4,p5⟩:=hp
    exact ⟨p1,p2,p3,p4,(aH hb _).trans p5 (fun _ _ hk=>hk)⟩
   | ok p=>
    obtain ⟨tk2,s2⟩:=p
    rw [hw] at hp
    obtain ⟨he,c2,v2,sb2,fb2,n2,g1,g2,g3,g4,g5,g6⟩:=hp
    refine ⟨he,c2,v2,sb2,fb2,n2,g1,g2,(aH hb _).trans g3 (fun _ _ hk=>hk),fun b A8=>?_,g5,fun g hg=>?_⟩
    ·rcases g4 b A8 with h9|h9
     ·exact Or.inl h9
     ·exact Or.inr (Nat.le_trans hb.size h9)
    ·rw [g6,EY] at hg;exact hg.elim
  cases tk with
  | start nm ats=>exact Jx x hx c w' v s m sb fb n B tv nm ats h' pA _ Yo f
  | fin nm=>exact Ov x hx c w' v s m sb fb n B tv nm h' _ Yo f
  | text d=>exact CC x c w' v s m sb fb n B tv _ h' (by simp) (by simp) _ Yo f
  | comment d=>exact CC x c w' v s m sb fb n B tv _ h' (by simp) (by simp) _ Yo f
  | dir d=>exact CC x c w' v s m sb fb n B tv _ h' (by simp) (by simp) _ Yo f
  | proc tg d=>exact CC x c w' v s m sb fb n B tv _ h' (by simp) (by simp) _ Yo f
 ·
  obtain ⟨e1,stk1,q1,q2,q3⟩:=QV iE
  have h':=h.below hx.toOk hb
  obtain ⟨e0',b0',Oh,a4X,a4Y⟩:=h'.rd.rd
  have hm:aK (fun k=>k=x.d) w' (w'.setCell ⟨x.d,17,none⟩ tv):=(aK.refl (fun k=>k=x.d) w').setCell (p:=⟨x.d,17,none⟩) (Or.inl rfl) _
  have hd:bO (w'.setCell ⟨x.d,17,none⟩ tv) x.d { c with nextTok:=tv } v:=(show aJ w' x.d _ _ from Oh.dec).set 17 tv
  have Kn:∀ k,dQ v.bufv k→¬ k=x.d:=fun k hk=>(Oh.bufFar h'.own hk).1
  have W9:∀ g,dG tv g→¬ g=x.d:=fun g hg he=>(h.tkd g hg).2 (he▸Or.inl (Or.inl rfl))
  have iH:JR x { c with nextTok:=tv } (w'.setCell ⟨x.d,17,none⟩ tv) v { s with next:=some tk }:=⟨⟨e0',b0',Oh.turn hx.toOk hd hm,a4X,a4Y⟩,h'.rd.nc,h'.rd.tc,h'.rd.nb⟩
  have eC:=(h'.own.mod hm (fun b hb he=>h'.own.s1 b hb (he▸Or.inl (Or.inl rfl))) h'.own.s1).next tv
  have U9:l6 x (w'.setCell ⟨x.d,17,none⟩ tv) v { c with nextTok:=tv } { s with next:=some tk } (m::(sb++fb)):=by
   unfold l6
   exact ⟨B,h.hB,Nat.le_trans h'.hBs hm.size,h'.tok.mod hm Kn W9,iK,h.tkd,JX⟩
  have fT:pR x { c with nextTok:=tv } (w'.setCell ⟨x.d,17,none⟩ tv) v { s with next:=some tk } m sb fb n B (W2 nm) (.fin nm):=
   ⟨h.cfg.nextTok tv,iH,eC,h.sok,h.nok,h.tcl,Or.inr ⟨nm,e1,stk1,rfl,q1,q2,q3⟩,by have:=h.bnd;rw [pA] at this;simp only [uN] at this ⊢;omega,rfl,h.hB,Nat.le_trans h'.hBs hm.size,fun g hg=>hg.elim,fun _=>Or.inr ⟨nm,e1,stk1,rfl,q1,q2,q3⟩,U9⟩
  refine Ov x hx _ _ v _ m sb fb n B (W2 nm) nm fT Q (fun f w'' t' e hp=>hQ f w'' t' e ?_) f
  have Pc:oR x.o tk s=eM x.o (.fin nm) { s with next:=some tk }:=by
   unfold oR
   rw [if_neg (by rw [dA];simp),iE]
  rw [Pc]
  unfold sJ
  unfold xB at hp
  have wE:aK (fun k=>k=x.d) w (w'.setCell ⟨x.d,17,none⟩ tv):=(aH hb _).trans hm (fun _ _ hk=>hk)
  cases hw:eM x.o (.fin nm) { s with next:=some tk } with
  | error k=>
   rw [hw] at hp
   obtain ⟨p1,p2,p3,p4,p5⟩:=hp
   exact ⟨p1,p2,p3,p4,(wE.mono (fun _ _ hk=>hk▸Or.inl (Or.inl (Or.inl rfl)))).trans p5 (fun _ _ hk=>hk)⟩
  | ok p=>
   obtain ⟨tk2,s2⟩:=p
   rw [hw] at hp
   obtain ⟨he,c2,v2,sb2,fb2,n2,g1,g2,g3,g4,g5,g6⟩:=hp
   refine ⟨he,c2,v2,sb2,fb2,n2,g1,g2,(wE.mono (fun _ _ hk=>Or.inl hk)).trans g3 (fun _ _ hk=>?_),fun b A8=>?_,g5,fun g hg=>?_⟩
   ·rcases hk with hk|hk|hk
    ·exact Or.inl hk
    ·exact Or.inr (Or.inl hk)
    ·exact hk.elim
   ·rcases g4 b A8 with h9|h9
    ·exact Or.inl h9
    ·exact Or.inr (Nat.le_trans wE.size h9)
   ·rw [g6] at hg;exact hg
theorem Uv (x:Cx) (hx:x.Ok) (VX:∃ cs t,aJ x.W0 x.eofA.block cs t) (hg:x.W0.cell? ⟨1,0,none⟩=some (KR 49)) (FA:1<x.B) {k:EK} {e:Value} {w:World} (hb:Below x.B x.W0 w) (he:BP x e (some k)) (ho:kU w e k) :
  Calls prog 14 #[e] w fun en w'=>en=.returned (.int .i64 (EK.code k))∧Below w.heap.size w w':=by
 obtain ⟨wa,jY⟩:∃ wa,wa=w.alloc (.cells #[.pointer none] 109):=⟨_,rfl⟩
 have k8:Below w.heap.size w wa:=by rw [jY];exact (Below.refl _ w).alloc (Nat.le_refl _) _
 have hB:x.B≤w.heap.size:=hb.size
 have dJ:Below x.B x.W0 wa:=hb.trans (k8.mono hB)
 have QC:kU wa e k:=fun hk=>by
  obtain ⟨a,cs,t,h1,h2⟩:=ho hk
  exact ⟨a,cs,t,h1,aJ.mod (S:=fun _=>False) h2 (aH k8 _) id⟩
 have hq:=S6 hx VX dJ he QC
 have tP:wa.cell? ⟨0,0,none⟩=some x.eofV:=by rw [←hx.eof];exact dJ.cell hx.gB
 have lC:aJ wa w.heap.size #[.pointer none] 109:=by rw [jY];exact aJ.new w _ _
 have HG:=Lh (show wa.cell? ⟨1,0,none⟩=some (KR 49) from by rw [dJ.cell (p:=⟨_,0,none⟩) FA];exact hg)
 have XB:=Lh (show 1<wa.heap.size from Nat.lt_of_lt_of_le FA dJ.size)
 have s7:=Lh k8
 have rJ:=Lh lC
 clear hb ho dJ QC hx VX hg FA lC k8 hB
 subst jY
 cases k with
 | eof=>
  rw [show e=x.eofV from he] at hq ⊢
  simp only [decide_true] at hq
  clear he
  refine eJ 21 func14 [_] fun f=>?_
  simp only [aE]
  (refine vg ?_;intro K hK)
  (refine cW ?_)
  exact ⟨rfl,s7.out⟩
 | own=>
  rw [show e=FD from he] at hq ⊢
  rw [decide_eq_false (by decide)] at hq
  have Ng:=Lh (fun w=>VR w)
  clear he
  refine eJ 21 func14 [_] fun f=>?_
  simp only [aE]
  (refine vg ?_;(repeat with_reducible intro K hK))
  refine (Ng.out _).mono ?_
  rintro e1 w1 ⟨rfl,rfl⟩
  ((repeat revert K);refine vS ?_;intro K hK)
  (refine cW ?_)
  exact ⟨rfl,s7.out⟩
 | syn=>
  obtain ⟨a,rfl⟩:=he
  rw [decide_eq_false (by decide)] at hq
  have Ng:=Lh (fun w=>VP (.pointer (some a)) w)
  have has:=Lh (Us a ⟨w.heap.size,0,none⟩ (.pointer none) _ HG.out XB.out (rJ.out.cell 0) (rJ.out.frozen 0))
  refine eJ 21 func14 [_] fun f=>?_
  simp only [aE]
  (refine vg ?_;(repeat with_reducible intro K hK))
  refine (Ng.out _).mono ?_
  rintro e1 w1 ⟨rfl,rfl⟩
  ((repeat revert K);refine vS ?_;(repeat with_reducible intro K hK))
  refine has.out.mono ?_
  rintro e2 w2 ⟨rfl,hm⟩
  have HM:=Lh hm
  clear hm tP hq
  ((repeat revert K);refine vS ?_;intro K hK)
  (refine cW ?_)
  refine ⟨rfl,?_⟩
  exact aK.below s7.out s7.out.size HM.out (fun k hk=>by rw [hk];exact Nat.le_refl _)
 | other=>
  obtain ⟨a,rfl,_⟩:=he
  rw [decide_eq_false (by decide)] at hq
  have Ng:=Lh (fun w=>VQ (.pointer (some a)) w)
  have has:=Lh (Uu (.pointer (some a)) ⟨w.heap.size,0,none⟩ (.pointer none) _ HG.out XB.out (rJ.out.cell 0) (rJ.out.frozen 0))
  refine eJ 21 func14 [_] fun f=>?_
  simp only [aE]
  (refine vg ?_;(repeat with_reducible intro K hK))
  refine (Ng.out _).mono ?_
  rintro e1 w1 ⟨rfl,rfl⟩
  ((repeat revert K);refine vS ?_;(repeat with_reducible intro K hK))
  refine has.out.mono ?_
  rintro e2 w2 ⟨rfl,l9⟩
  have lJ:=Lh l9
  clear l9 tP hq
  ((repeat revert K);refine vS ?_)
  (refine cW ?_)
  exact ⟨rfl,s7.out.trans (lJ.out.mono s7.out.size)⟩
end Go.Proofs.YtdjdjbpnbjdaaaaGreatDoor
namespace Go.Proofs.YtdjdjbpnbjdaaaaGreatDoor
open Go Tryz
def ND:Option aP→Nat
 | none=>0
 | some (.fin _)=>2
 | some t=>4*t.wt+2
def St.mu2 (s:St):Nat:=s.mu+ND s.next
theorem AC {t:aP} (h:∃ nm,t=.fin nm):ND (some t)=2:=by obtain ⟨nm,rfl⟩:=h;rfl
theorem AD {t:aP} (h:¬ ∃ nm,t=.fin nm):ND (some t)=4*t.wt+2:=by
 cases t with
 | fin nm=>exact absurd ⟨nm,rfl⟩ h
 | _=>rfl
theorem vI {o:cU} {t t':aP} {s s':St} (h:eM o t s=.ok (t',s')):s'.rest=s.rest∧s'.next=s.next∧((∃ nm,t=.fin nm)→s'.mu+3≤s.mu)∧((¬ ∃ nm,t=.fin nm)→s'.mu≤s.mu+4*t.wt):=by
 obtain ⟨w1,w2,w3,w4,w5,w6,w7,w8⟩:=xV h
 have h5:=RQ s'
 refine ⟨w1,w3,fun hf=>?_,fun hf=>?_⟩
 ·have:=w7 hf
  unfold St.mu
  rw [w1];omega
 ·have:=w8 hf
  have h6:s'.toClose=s.toClose:=by
   rcases w6 with w6|⟨_,w6⟩
   ·exact w6
   ·exact absurd w6 hf
  unfold St.mu
  rw [w1,h6];omega
theorem mN {s:St} (h:s.next=none):s.mu2=s.mu:=by unfold St.mu2;rw [h];rfl
theorem Bw {fold:Bs → Bs → Bool} {o:cU} {s s':St} {t:aP} (h:l8 fold o s=.ok (t,s')):s'.mu2 < s.mu2∧s'.rest <:+ s.rest∧(o.raw=true → s'.next=s.next):=by
  unfold l8 at h
  split at h
  · have h1:=(mS h).2.2.2.1
    exact ⟨by unfold St.mu2;rw [h1];have:=(y5 h).1;omega,(y5 h).2.2.2,fun _=>h1⟩
  · rename_i fT
    refine ⟨?_,?_,fun hh=>absurd hh fT⟩
    all_goals
      unfold sW at h
      cases hn:s.next with
      | some tk=>
        rw [hn] at h
        simp only at h
        have hmu:St.mu { s with next:=none }=s.mu:=rfl
        split at h
        · obtain ⟨w1,w2,w3,w4⟩:=vI h
          first
            | (rw [w1];exact List.suffix_refl _)
            | (rw [mN w2]
               unfold St.mu2
               rw [hn]
               by_cases hf:∃ nm,tk=.fin nm
               · have:=w3 hf;rw [AC hf];omega
               · have:=w4 hf;rw [AD hf];omega)
        · split at h
          · obtain ⟨w1,w2,w3,w4⟩:=vI h
            first
              | (rw [w1];exact List.suffix_refl _)
              | (rw [mN w2]
                 unfold St.mu2
                 rw [hn]
                 by_cases hf:∃ nm,tk=.fin nm
                 · have:=w3 hf;rw [AC hf];omega
                 · have:=w4 hf;rw [AD hf];omega)
          · rename_i nm iE
            obtain ⟨w1,w2,w3,w4⟩:=vI h
            have h9:=w3 ⟨nm,rfl⟩
            have Uw:St.mu { ({ s with next:=none }:St) with next:=some tk }=s.mu:=rfl
            first
              | (rw [w1];exact List.suffix_refl _)
              | (unfold St.mu2
                 rw [w2,hn]
                 show _ + ND (some tk) < _
                 rw [Uw] at h9
                 omega)
      | none=>
        rw [hn] at h
        simp only at h
        cases hr:fS o s with
        | error e=>rw [hr] at h;cases h
        | ok p=>
          obtain ⟨tk,s1⟩:=p
          rw [hr] at h
          simp only at h
          obtain ⟨m1,m2,m3,m4⟩:=y5 hr
          have iL:s1.next=none:=(mS hr).2.2.2.1.trans hn
          split at h
          · obtain ⟨w1,w2,w3,w4⟩:=vI h
            first
              | (rw [w1];exact m4)
              | (rw [mN (w2.trans iL),mN hn]
                 by_cases hf:∃ nm,tk=.fin nm
                 · have:=w3 hf;omega
                 · have:=w4 hf;have:=m2 hf;omega)
          · split at h
            · obtain ⟨w1,w2,w3,w4⟩:=vI h
              first
                | (rw [w1];exact m4)
                | (rw [mN (w2.trans iL),mN hn]
                   by_cases hf:∃ nm,tk=.fin nm
                   · have:=w3 hf;omega
                   · have:=w4 hf;have:=m2 hf;omega)
            · rename_i nm iE
              obtain ⟨w1,w2,w3,w4⟩:=vI h
              have h9:=w3 ⟨nm,rfl⟩
              have Uw:St.mu { s1 with next:=some tk }=s1.mu:=rfl
              first
                | (rw [w1];exact m4)
                | (rw [mN hn]
                   unfold St.mu2
                   rw [w2]
                   show _ + ND (some tk) < _
                   rw [Uw] at h9
                   by_cases hf:∃ nm,tk=.fin nm
                   · rw [AC hf];omega
                   · have:=m2 hf;rw [AD hf];omega)
theorem BC {o:cU} {t:aP} {s s':St} {nm:Bs×Bs} {ats:List eI} (h:eM o t s=.ok (.start nm ats,s')):∃ nm0 ats0,t=.start nm0 ats0∧ats.length=ats0.length:=by
 cases t with
 | start nm0 ats0=>
  unfold eM at h
  simp only [cI,cC,aP.start.injEq] at h
  obtain ⟨⟨_,rfl⟩,_⟩:=h
  exact ⟨_,_,rfl,by simp⟩
 | fin nm0=>
  have:=(xV h).2.2.2.2.1.1 ⟨_,rfl⟩
  obtain ⟨_,h9⟩:=this
  cases h9
 | text d=>unfold eM at h;simp at h
 | comment d=>unfold eM at h;simp at h
 | dir d=>unfold eM at h;simp at h
 | proc a b=>unfold eM at h;simp at h
theorem GU {fold:Bs→Bs→Bool} {o:cU} (jL:o.ents=none) {s s':St} {nm:Bs×Bs} {ats:List eI} {N:Nat} (h:l8 fold o s=.ok (.start nm ats,s')) (hN:s.rest.length≤N) (hc:∀ nm,s.toClose=some nm→nm.1.length≤N∧nm.2.length≤N) (hp:∀ tk,s.next=some tk→FR N tk):ats.length≤N:=by
 have fT:∀ {t s1},fS o s=.ok (t,s1)→FR N t:=fun h=>(SA jL h hN hc).1
 have dA:∀ {t:aP},FR N t→∀ {nm0 ats0},t=.start nm0 ats0→ats0.length≤N:=by
  rintro t h nm0 ats0 rfl
  exact h.2.2.2
 have Pc:∀ {t:aP} {s1 s2:St},FR N t→eM o t s1=.ok (.start nm ats,s2)→ats.length≤N:=by
  intro t s1 s2 h1 h2
  obtain ⟨nm0,ats0,h3,h4⟩:=BC h2
  rw [h4];exact dA h1 h3
 have a1n:∀ {nm1:Bs×Bs} {s1 s2:St},eM o (.fin nm1) s1=.ok (.start nm ats,s2)→ats.length≤N:=by
  intro nm1 s1 s2 h2
  obtain ⟨nm0,ats0,h3,_⟩:=BC h2
  cases h3
 unfold l8 at h
 split at h
 ·exact dA (fT h) rfl
 ·unfold sW at h
  cases hn:s.next with
  | some tk=>
   rw [hn] at h
   simp only at h
   split at h
   ·exact Pc (hp tk hn) h
   ·split at h
    ·exact Pc (hp tk hn) h
    ·exact a1n h
  | none=>
   rw [hn] at h
   simp only at h
   cases hr:fS o s with
   | error e=>rw [hr] at h;cases h
   | ok p=>
    obtain ⟨tk,s1⟩:=p
    rw [hr] at h
    simp only at h
    split at h
    ·exact Pc (fT hr) h
    ·split at h
     ·exact Pc (fT hr) h
     ·exact a1n h
end Go.Proofs.YtdjdjbpnbjdaaaaGreatDoor
namespace Go.Proofs.YtdjdjbpnbjdaaaaGreatDoor
open Go Go.RowKit Tryz
inductive cS {α:Type} (P:α→List Value→Prop):List α→List Value→Prop
 | nil:cS P [] []
 | snoc {l a xs ys}:cS P l xs→P a ys→cS P (l++[a]) (xs++ys)
theorem cS.mono {α:Type} {P P':α→List Value→Prop} (hm:∀ a ys,P a ys→P' a ys) {l:List α} {xs:List Value} (h:cS P l xs):cS P' l xs:=by
 induction h with
 | nil=>exact .nil
 | snoc _ hp ih=>exact .snoc ih (hm _ _ hp)
theorem cS.len {α:Type} {P:α→List Value→Prop} {n:Nat} (hn:∀ a ys,P a ys→ys.length=n) {l:List α} {xs:List Value} (h:cS P l xs):xs.length=l.length*n:=by
 induction h with
 | nil=>simp
 | snoc _ hp ih=>rw [List.length_append,ih,hn _ _ hp,List.length_append];simp [Nat.add_mul]
theorem cS.get {α:Type} {P:α→List Value→Prop} {n:Nat} (hn:∀ a ys,P a ys→ys.length=n) {l:List α} {xs:List Value} (h:cS P l xs) {i:Nat} {a:α} (ha:l[i]?=some a):∃ ys,P a ys∧∀ j,j<n→xs[i*n+j]?=ys[j]?:=by
 induction h with
 | nil=>simp at ha
 | snoc hr hp ih=>
  rename_i l0 a0 xs0 ys0
  have hl:=hr.len hn
  rcases Nat.lt_or_ge i l0.length with hi|hi
  ·rw [List.getElem?_append_left hi] at ha
   obtain ⟨ys,h1,h2⟩:=ih ha
   refine ⟨ys,h1,fun j hj=>?_⟩
   have:i*n+j<xs0.length:=by
    rw [hl]
    have:(i+1)*n≤l0.length*n:=Nat.mul_le_mul_right n hi
    rw [Nat.add_mul] at this;omega
   rw [List.getElem?_append_left this];exact h2 j hj
  ·have XS:i=l0.length:=by
    have:=(List.getElem?_eq_some_iff.1 ha).1
    simp at this;omega
   subst XS
   rw [List.getElem?_append_right (Nat.le_refl _)] at ha
   simp at ha
   subst ha
   refine ⟨ys0,hp,fun j hj=>?_⟩
   rw [List.getElem?_append_right (by rw [hl];omega),hl]
   congr 1;omega
def qZ (w:World) (base:Nat) (G:Nat→Prop) (T:Bs) (ts:aP×St) (ys:List Value):Prop:=
 ∃ sa sl sc i6 i7,ys=nA (ts.1.itok (T.take (T.length-ts.2.rest.length))).kind (ts.1.itok (T.take (T.length-ts.2.rest.length))).space (ts.1.itok (T.take (T.length-ts.2.rest.length))).loc (.slice sa sl sc) (ts.1.itok (T.take (T.length-ts.2.rest.length))).text (ts.1.itok (T.take (T.length-ts.2.rest.length))).at' i6 i7 ∧
  w.ownsRow base 63 3 (.slice sa sl sc) (ts.1.itok (T.take (T.length-ts.2.rest.length))).attrs.length (aN (ts.1.itok (T.take (T.length-ts.2.rest.length))).attrs)∧(∀ k,(Value.slice sa sl sc).ownBlock=some k→G k)∧i6=((ts.1.itok (T.take (T.length-ts.2.rest.length))).line:Nat)∧i7=((ts.1.itok (T.take (T.length-ts.2.rest.length))).col:Nat)
theorem qZ.len {w:World} {base:Nat} {G:Nat→Prop} {T:Bs} {ts:aP×St} {ys:List Value} (h:qZ w base G T ts ys):ys.length=8:=by
 obtain ⟨_,_,_,_,_,rfl,_⟩:=h
 rfl
theorem qZ.mod {w w':World} {base:Nat} {G G':Nat→Prop} {T:Bs} {ts:aP×St} {ys:List Value} {S:Nat→Prop} (h:qZ w base G T ts ys) (hm:aK S w w') (hG:∀ k,G k→k<w.heap.size→¬ S k∧G' k):qZ w' base G' T ts ys:=by
 obtain ⟨sa,sl,sc,i6,i7,rfl,hr,hg,hi⟩:=h
 refine ⟨sa,sl,sc,i6,i7,rfl,aG hr hm (fun k hk=>(hG k (hg k hk) (aV hr hk).1).1),fun k hk=>(hG k (hg k hk) (aV hr hk).1).2,hi⟩
theorem pR.ts {x:Cx} {c:DC} {w:World} {v:DV} {s:St} {m:Nat} {sb fb:List Nat} {n B:Nat} {tv:Value} {tk:aP} (h:pR x c w v s m sb fb n B tv tk):TS x c w v s m sb fb n:=
 ⟨h.cfg,h.rd,h.own,h.sok,h.nok,h.tcl,by have:=h.bnd;omega,h.nxt⟩
theorem QW (x:Cx) (hx:x.All) (B8:lQ x.W0) (s9:3<x.B) (c:DC) (w:World) (v:DV) (s:St) (m:Nat) (sb fb:List Nat) (n:Nat) (h:TS x c w v s m sb fb n) (pA:s.next=none) :
  Calls prog 12 #[bS x] w fun en w'=>∃ t e,en=.returned (.tuple #[t,e])∧mM x w v c (fS x.o s) m sb fb t e w':=by
 have fT:=Lh (MZ x hx B8 s9 c h.cfg.dc h.cfg.no w v s h.rd)
 have H:=Lh h
 have HX:=Lh hx
 have SX:=Lh pA
 clear h hx B8 s9 pA
 refine eJ 8 func12 [_] fun f=>?_
 simp only [aE]
 (refine vg ?_;(repeat with_reducible intro K hK))
 refine fT.out.mono ?_
 rintro e1 w1 ⟨t,e,rfl,hp⟩
 have HP:=Lh hp
 clear hp fT
 ((repeat revert K);refine vS ?_)
 (refine kX ?_)
 refine ⟨t,e,rfl,?_⟩
 have hp:=HP.out
 unfold cF at hp
 unfold mM
 cases bR:fS x.o s with
 | error k=>
  rw [bR] at hp
  obtain ⟨v',hs,rfl,rfl,hE,hO⟩:=hp
  exact ⟨rfl,hE.err,hE.base,hO,hs.mod.mono (fun _ _ hk=>Or.inl hk)⟩
 | ok p=>
  obtain ⟨tk,s1⟩:=p
  rw [bR] at hp
  obtain ⟨v1,c1,hs,rfl,Ha,iH,ht,JX⟩:=hp
  obtain ⟨dA,_,_⟩:=H.out.raw HX.out SX.out bR hs Ha iH ht JX
  refine ⟨rfl,c1,v1,sb,fb,n,dA.ts,⟨_,ht⟩,hs.mod.mono (fun _ _ hk=>Or.inl hk),fun b hb=>Or.inl hb,fun b hb=>?_,fun g hg=>Or.inl (by rw [←Ha.toD.next];exact hg)⟩
  rcases hb with hb|hb
  ·exact Or.inl (Or.inl hb)
  ·rcases hs.buf b hb with h9|h9
   ·exact Or.inl (Or.inr h9)
   ·exact Or.inr h9
theorem sJ.tk {x:Cx} {w w1:World} {v v1:DV} {c:DC} {R:Except EK (aP×St)} {m:Nat} {sb fb:List Nat} {tv t e:Value} {w':World} (h:sJ x w1 v1 R m sb fb tv t e w') (hs:cK x w v w1 v1) (W9:∀ g,dG tv g→w.heap.size≤g):mM x w v c R m sb fb t e w':=by
 unfold mM
 unfold sJ at h
 cases R with
 | error k=>
  obtain ⟨p1,p2,p3,p4,p5⟩:=h
  exact ⟨p1,p2,p3,p4,(hs.mod.mono (fun _ _ hk=>Or.inl hk)).trans p5 (fun i hi hk=>by
   rcases hk with hk|hk
   ·rcases hk with hk|hk
    ·exact Or.inl (Or.inl hk)
    ·rcases hs.buf i hk with h9|h9
     ·exact Or.inl (Or.inr h9)
     ·omega
   ·exact Or.inr (Or.inl hk))⟩
 | ok p=>
  obtain ⟨tk2,s2⟩:=p
  obtain ⟨he,c2,v2,sb2,fb2,n2,g1,g2,g3,g4,g5,g6⟩:=h
  refine ⟨he,c2,v2,sb2,fb2,n2,g1,g2,?_,fun b hb=>?_,fun b hb=>?_,fun g hg=>Or.inr (W9 g (g6 g hg))⟩
  ·refine (hs.mod.mono (fun _ _ hk=>Or.inl hk)).trans g3 (fun i hi hk=>?_)
   rcases hk with hk|hk|hk
   ·exact Or.inl (Or.inl (Or.inl hk))
   ·exact Or.inr (Or.inl hk)
   ·have:=W9 i hk;omega
  ·rcases g4 b hb with h9|h9
   ·exact Or.inl h9
   ·exact Or.inr (Nat.le_trans hs.mod.size h9)
  ·rcases hb with hb|hb
   ·exact Or.inl (Or.inl hb)
   ·rw [g5] at hb
    rcases hs.buf b hb with h9|h9
    ·exact Or.inl (Or.inr h9)
    ·exact Or.inr h9
theorem Ux (x:Cx) (hx:x.All) (B8:lQ x.W0) (s9:3<x.B) (JW:x.o.auto=[]) (VX:∃ cs t,aJ x.W0 x.eofA.block cs t) (c:DC) (w:World) (v:DV) (s:St) (m:Nat) (sb fb:List Nat) (n:Nat) (h:TS x c w v s m sb fb n) (pA:s.next=none) (Q:Exit→Act→World→Prop)
  (hQ:∀ f w' t e,mM x w v c (sW cG x.o s) m sb fb t e w'→Q .ret (fr 204 f [(2,t),(3,e)]) w') (f:Nat→Value):(hX 5).wp prog Q (fr 204 f [(0,bS x),(5,.nilIface)]) w:=by
 obtain ⟨e0,b0,hR,_,_⟩:=h.rd.rd
 have fT:=Lh (MZ x hx B8 s9 c h.cfg.dc h.cfg.no w v s h.rd)
 have hc:=hR.dec.cell
 have hf:=hR.dec.frozen
 have U9:c.nextTok=.nilIface:=by
  have h9:=h.nxt
  unfold l6 at h9
  rw [pA] at h9;exact h9
 have q1:=fun w=>ZQ w
 have q2:=fun w=>ZR w
 have q3:=fun w=>SK w
 have q4:=fun w=>JI w
 have hgB:=hx.gB
 have tP:x.W0.cell? ⟨0,0,none⟩=some x.eofV:=hx.eof
 have HX:=Lh hx
 have HEB:=Lh VX
 have a4Z:=Lh (show ∀ w',Below x.B x.W0 w'→w'.cell? ⟨0,0,none⟩=some x.eofV from fun w' hb=>by rw [←tP];exact hb.cell hgB)
 have HR:=Lh hR
 have H:=Lh h
 have HFE:=Lh JW
 have SX:=Lh pA
 have HQ:=Lh hQ
 have GP:=Lh (Bv (o:=x.o) pA)
 have a1o:=Lh (h.own.stk.head h.sok)
 clear h hR hx VX B8 s9 tP hgB JW pA hQ
 conv=>arg 2;unfold hX;whnf
 (refine vg ?_;(repeat with_reducible intro K hK))
 refine fT.out.mono ?_
 rintro e1 w1 ⟨t,e,rfl,hp⟩
 clear fT hc hf U9
 cases bR:fS x.o s with
 | error k=>
  unfold cF at hp
  rw [bR] at hp
  obtain ⟨v1,hs,rfl,rfl,hE,hO⟩:=hp
  obtain ⟨t1,u1,oQ⟩:=hE.err.iface
  have hq:=S6 HX.out.toOk HEB.out hE.base hE.err hO
  have tQ:=a4Z.out w1 hE.base
  rw [oQ] at hq ⊢
  have HU:=Lh oQ
  have Bx:=Lh hs
  have u7:=hE.dec.cell
  have KM:=hE.dec.frozen
  have HE:=Lh hE
  have HO:=Lh hO
  have IU:=Lh (show sW cG x.o s=.error (if k=.eof∧s.stk≠[] then .syn else k) by rw [GP.out,bR])
  clear hE oQ hO bR
  by_cases SU:k=.eof
  ·rw [decide_eq_true SU] at hq
   have HKE:=Lh SU
   clear SU
   rcases a1o.out with ⟨jV,gS⟩|⟨q,en,l',nx,ok,jV,gS,hk,hb,hqm⟩
   ·clear hs
    ((repeat revert K);refine vS ?_;(repeat with_reducible intro K hK))
    refine Qk [2,3] fun f=>?_
    refine HQ.out f _ _ _ ?_
    rw [IU.out,if_neg (fun hh=>hh.2 gS)]
    exact ⟨rfl,by rw [←HU.out];exact HE.out.err,HE.out.base,by rw [←HU.out];exact HO.out,Bx.out.mod.mono (fun _ _ hk=>Or.inl hk)⟩
   ·have bP:=(show aJ w q _ _ from hb).mod hs.mod (H.out.own.s1 q (by simp [hqm]))
    have nU:=bP.cell
    have s6:=bP.frozen
    have gH:=Lh gS
    have rE:=Lh (fun msg=>IX x.d c v1 w1 HE.out.dec msg)
    obtain ⟨ek,esp,eloc,eok⟩:=en
    simp only at hk nU
    clear hb hqm gS hs bP
    rcases hk with rfl|rfl
    all_goals
     ((repeat revert K);refine vS ?_;(repeat with_reducible intro K hK))
     refine (rE.out _).mono ?_
     rintro e2 w2 ⟨rfl,rfl⟩
     ((repeat revert K);refine vS ?_;(repeat with_reducible intro K hK))
     refine Qk [2,3] fun f=>?_
     refine HQ.out f _ _ _ ?_
     rw [IU.out,if_pos ⟨HKE.out,by rw [gH.out];simp⟩]
     exact ⟨rfl,⟨_,rfl⟩,aK.below HE.out.base HE.out.base.size (aH ((Below.refl _ w1).alloc (Nat.le_refl _) _) (fun _=>False)) (fun _ h=>h.elim),kU.no (by decide),(Bx.out.mod.mono (fun _ _ hk=>Or.inl hk)).trans (aH ((Below.refl _ w1).alloc (Nat.le_refl _) _) (fun _=>False)) (fun _ _ h=>h.elim)⟩
  ·rw [decide_eq_false SU] at hq
   have HKE:=Lh SU
   clear SU hs
   ((repeat revert K);refine vS ?_;(repeat with_reducible intro K hK))
   refine Qk [2,3] fun f=>?_
   refine HQ.out f _ _ _ ?_
   rw [IU.out,if_neg (fun hh=>HKE.out hh.1)]
   exact ⟨rfl,by rw [←HU.out];exact HE.out.err,HE.out.base,by rw [←HU.out];exact HO.out,Bx.out.mod.mono (fun _ _ hk=>Or.inl hk)⟩
 | ok p=>
  obtain ⟨tk,s1⟩:=p
  unfold cF at hp
  rw [bR] at hp
  obtain ⟨v1,c1,hs,rfl,Ha,iH,ht,JX⟩:=hp
  obtain ⟨dA,VY,iK⟩:=H.out.raw HX.out SX.out bR hs Ha iH ht JX
  have a1p:(∀ d,tk≠.text d)→s1.ended=false∧v1.err=.nilIface:=fun hd=>by
   obtain ⟨h1,b,h2⟩:=JX hd
   exact ⟨h1,h2.err⟩
  have Pd:=Lh (fun Q hQ f=>NC x HX.out HFE.out c1 w1 v1 s1 m sb fb n w.heap.size t tk dA VY iK a1p Q hQ f)
  have Bx:=Lh hs
  have HTB:=Lh (show ∀ g,dG t g→w.heap.size≤g from fun g hg=>(ht.lt hg).1)
  have IU:=Lh (show sW cG x.o s=oR x.o tk s1 by rw [GP.out,bR])
  obtain ⟨ty,u,rfl⟩:=ht.iface
  clear hs Ha iH ht JX bR dA VY iK a1p
  go_simp
  ((repeat revert K);refine vT 14 ?_)
  (refine cJ [0,4,5] fun f=>?_)
  refine aY (Pd.out _ (fun f w' t' e hp=>HQ.out f w' t' e ?_) f) (by kernel_rfl)
  rw [IU.out]
  exact hp.tk Bx.out HTB.out
theorem Ko (x:Cx) (hx:x.All) (JW:x.o.auto=[]) (c:DC) (w:World) (v:DV) (s:St) (m:Nat) (sb fb:List Nat) (n:Nat) (h:TS x c w v s m sb fb n) (tk:aP) (pA:s.next=some tk) (Q:Exit→Act→World→Prop)
  (hQ:∀ f w' t e,mM x w v c (sW cG x.o s) m sb fb t e w'→Q .ret (fr 204 f [(2,t),(3,e)]) w') (f:Nat→Value):(hX 5).wp prog Q (fr 204 f [(0,bS x),(5,.nilIface)]) w:=by
 obtain ⟨e0,b0,hR,Ji,B7⟩:=h.rd.rd
 have U9:=h.nxt
 unfold l6 at U9
 rw [pA] at U9
 obtain ⟨B,n1,n2,n3,n4,n5,n6⟩:=U9
 have hm:aK (fun k=>k=x.d) w (w.setCell ⟨x.d,17,none⟩ .nilIface):=(aK.refl (fun k=>k=x.d) w).setCell (p:=⟨x.d,17,none⟩) (Or.inl rfl) _
 have hd:bO (w.setCell ⟨x.d,17,none⟩ .nilIface) x.d { c with nextTok:=.nilIface } v:=(show aJ w x.d _ _ from hR.dec).set 17 .nilIface
 have Kn:∀ k,dQ v.bufv k→¬ k=x.d:=fun k hk=>(hR.bufFar h.own hk).1
 have W9:∀ g,dG c.nextTok g→¬ g=x.d:=fun g hg he=>(n5 g hg).2 (he▸Or.inl (Or.inl rfl))
 have s8:=hR.turn hx.toOk hd hm
 have fT:pR x { c with nextTok:=.nilIface } (w.setCell ⟨x.d,17,none⟩ .nilIface) v { s with next:=none } m sb fb n B c.nextTok tk:=
  ⟨h.cfg.nextTok _,⟨⟨e0,b0,s8,Ji,B7⟩,h.rd.nc,h.rd.tc,h.rd.nb⟩,(h.own.mod hm (fun b hb he=>h.own.s1 b hb (he▸Or.inl (Or.inl rfl))) h.own.s1).next _,h.sok,h.nok,h.tcl,Or.inl n4,
   by have:=h.bnd;rw [pA] at this;simp only [uN] at this ⊢;omega,n3.mod hm Kn W9,n1,Nat.le_trans n2 hm.size,n5,fun hd=>Or.inl ⟨(n6 hd).1,b0,by
    have h9:=s8
    cases e0 with
    | none=>exact h9
    | some k=>obtain ⟨t1,u1,hu⟩:=hR.err.iface;rw [(n6 hd).2] at hu;cases hu⟩,l6.none rfl rfl⟩
 have Pd:=Lh (fun Q hQ f=>NC x hx JW _ _ v _ m sb fb n B c.nextTok tk fT rfl n4 n6 Q hQ f)
 obtain ⟨ty,u,EY⟩:=n3.iface
 have hc:=hR.dec.cell
 have hf:=hR.dec.frozen
 have q2:=fun w=>ZR w
 have q3:=fun w=>SK w
 have HQ:=Lh hQ
 have IU:=Lh (VZ (o:=x.o) pA)
 have HM:=Lh hm
 clear h hx JW pA hQ hR Ji B7 n1 n2 n3 n4 n5 n6 hm hd Kn W9 s8 fT
 conv=>arg 2;unfold hX;whnf
 refine vT 14 ?_
 (refine cJ [0,4,5] fun f=>?_)
 rw [←EY]
 refine aY (Pd.out _ (fun f w' t' e hp=>HQ.out f w' t' e ?_) f) (by kernel_rfl)
 rw [IU.out]
 unfold mM
 unfold sJ at hp
 cases hw:oR x.o tk { s with next:=none } with
 | error k=>
  rw [hw] at hp
  obtain ⟨p1,p2,p3,p4,p5⟩:=hp
  exact ⟨p1,p2,p3,p4,(HM.out.mono (fun _ _ hk=>hk▸Or.inl (Or.inl (Or.inl rfl)))).trans p5 (fun i hi hk=>hk.imp id Or.inl)⟩
 | ok p=>
  obtain ⟨tk2,s2⟩:=p
  rw [hw] at hp
  obtain ⟨he,c2,v2,sb2,fb2,n2,g1,g2,g3,g4,g5,g6⟩:=hp
  refine ⟨he,c2,v2,sb2,fb2,n2,g1,g2,?_,fun b hb=>?_,fun b hb=>?_,fun g hg=>Or.inl (g6 g hg)⟩
  ·refine (HM.out.mono (fun _ _ hk=>hk▸Or.inl (Or.inl (Or.inl rfl)))).trans g3 (fun i hi hk=>?_)
   rcases hk with hk|hk|hk
   ·exact Or.inl (Or.inl (Or.inl hk))
   ·exact Or.inr (Or.inl hk)
   ·exact Or.inr (Or.inr hk)
  ·rcases g4 b hb with h9|h9
   ·exact Or.inl h9
   ·exact Or.inr (Nat.le_trans HM.out.size h9)
  ·rcases hb with hb|hb
   ·exact Or.inl (Or.inl hb)
   ·rw [g5] at hb;exact Or.inl (Or.inr hb)
theorem Kp (x:Cx) (hx:x.All) (B8:lQ x.W0) (s9:3<x.B) (JW:x.o.auto=[]) (VX:∃ cs t,aJ x.W0 x.eofA.block cs t) (c:DC) (w:World) (v:DV) (s:St) (m:Nat) (sb fb:List Nat) (n:Nat) (h:TS x c w v s m sb fb n) :
  Calls prog 13 #[bS x] w fun en w'=>∃ t e,en=.returned (.tuple #[t,e])∧mM x w v c (sW cG x.o s) m sb fb t e w':=by
 obtain ⟨e0,b0,hR,_,_⟩:=h.rd.rd
 have hc:=hR.dec.cell
 have hf:=hR.dec.frozen
 have q1:=fun w=>ZQ w
 have q4:=fun w=>JI w
 have a1q:=h.own.stk.head h.sok
 have Pd:=Lh (show ∀ f,(hX 5).wp prog (bodyPost prog Tryz.f13 (fun en w'=>∃ t e,en=.returned (.tuple #[t,e])∧mM x w v c (sW cG x.o s) m sb fb t e w')) (fr 204 f [(0,bS x),(5,.nilIface)]) w from fun f=>by
  have hQ:∀ f w' t e,mM x w v c (sW cG x.o s) m sb fb t e w'→bodyPost prog Tryz.f13 (fun en w'=>∃ t e,en=.returned (.tuple #[t,e])∧mM x w v c (sW cG x.o s) m sb fb t e w') .ret (fr 204 f [(2,t),(3,e)]) w':=
   fun f w' t e hp=>IM rfl (by decide) (by decide) (by simp only [aL,aQ,aS,bD,Nat.reduceEqDiff,↓reduceIte]) (by simp only [aL,aQ,aS,bD,Nat.reduceEqDiff,↓reduceIte]) ⟨t,e,rfl,hp⟩
  cases pA:s.next with
  | none=>exact Ux x hx B8 s9 JW VX c w v s m sb fb n h pA _ hQ f
  | some tk=>exact Ko x hx JW c w v s m sb fb n h tk pA _ hQ f)
 clear h hx B8 s9 JW VX hR
 rcases a1q with ⟨jV,gS⟩|⟨q,en,l',nx,ok,jV,gS,hk,hb,hqm⟩
 ·refine eJ 204 func13 [_] fun f=>?_
  simp only [aE]
  refine vT 5 ?_
  (refine cJ [0,5] fun f=>?_)
  exact aY (Pd.out f) (by kernel_rfl)
 ·have nU:=hb.cell
  have s6:=hb.frozen
  obtain ⟨ek,esp,eloc,eok⟩:=en
  simp only at hk nU
  clear hb hqm gS
  rcases hk with rfl|rfl
  all_goals
   refine eJ 204 func13 [_] fun f=>?_
   simp only [aE]
   refine vT 5 ?_
   (refine cJ [0,5] fun f=>?_)
   exact aY (Pd.out f) (by kernel_rfl)
structure NE (w:World):Prop extends Env w where
 af:lQ w
 afB:3<w.heap.size
 et:w.cell? ⟨1,0,none⟩=some (KR 49)
 etB:1<w.heap.size
 eofB:∀ a:Addr,w.cell? ⟨0,0,none⟩=some (pD a)→∃ cs t,aJ w a.block cs t
theorem NE.below {w w':World} (h:NE w) (hb:Below w.heap.size w w'):NE w':=by
 refine ⟨h.toEnv.below hb,h.af.below hb,Nat.lt_of_lt_of_le h.afB hb.size,by rw [hb.cell (p:=⟨_,0,none⟩) h.etB];exact h.et,Nat.lt_of_lt_of_le h.etB hb.size,fun a ha=>?_⟩
 rw [hb.cell (p:=⟨_,0,none⟩) h.gB] at ha
 obtain ⟨cs,t,KQ⟩:=h.eofB a ha
 exact ⟨cs,t,aJ.mod (S:=fun _=>False) KQ (aH hb _) id⟩
theorem l4.of {w:World} {m:Nat} (h:w.heap[m]?=some (.map #[] 0)):l4 w m 0 (fun _=>none):=by
 have hm:m<w.heap.size:=by
  rcases Nat.lt_or_ge m w.heap.size with h'|h'
  ·exact h'
  ·rw [Array.getElem?_eq_none h'] at h;cases h
 obtain ⟨w0,rD⟩:∃ w0:World,w0.heap.size=m:=⟨{ w with heap:=w.heap.extract 0 m },by simp;omega⟩
 have Ar:=l4.made w0
 rw [rD] at Ar
 obtain ⟨D,⟨es,cl,hb,F,hs,hD⟩,h2⟩:=Ar
 have he:(w0.alloc (.map #[] 0)).heap[m]?=some (.map #[] 0):=by
  show (w0.heap.push _)[m]?=_
  rw [←rD];simp
 rw [he] at hb
 exact ⟨D,⟨es,cl,h.trans hb,F,hs,hD⟩,h2⟩
theorem l6.lt {x:Cx} {w:World} {v:DV} {c:DC} {s:St} {own:List Nat} (h:l6 x w v c s own) {g:Nat} (hg:dG c.nextTok g):g<w.heap.size:=by
 unfold l6 at h
 cases hx:s.next with
 | none=>rw [hx] at h;rw [show c.nextTok=.nilIface from h] at hg;exact hg.elim
 | some tk=>rw [hx] at h;obtain ⟨_,_,_,h3,_⟩:=h;exact (h3.lt hg).2
theorem TS.mod {x:Cx} {c:DC} {w w':World} {v:DV} {s:St} {m:Nat} {sb fb:List Nat} {n:Nat} {S:Nat→Prop} (h:TS x c w v s m sb fb n) (hm:aK S w w') (hS:∀ k,S k→¬ x.S1 v k∧k∉m::(sb++fb)∧x.B≤k∧¬ dG c.nextTok k):TS x c w' v s m sb fb n:=by
 obtain ⟨e,b,hR,h1,h2⟩:=h.rd.rd
 exact ⟨h.cfg,⟨⟨e,b,hR.mod hm (fun k hk hs=>(hS k hs).1 hk) (fun k hk=>(hS k hk).2.2.1),h1,h2⟩,h.rd.nc,h.rd.tc,h.rd.nb⟩,h.own.mod hm (fun b hb hs=>(hS b hs).2.1 hb) h.own.s1,h.sok,h.nok,h.tcl,h.bnd,h.nxt.step hm (fun k hk hs=>(hS k hs).1 (Or.inr hk)) (fun g hg hs=>(hS g hs).2.2.2 hg) rfl rfl rfl (fun b hb=>Or.inl hb)⟩
structure JZ (x:Cx) (v:DV) (pv:Value) (m:Nat) (sb fb:List Nat) (w:World) (k:Nat):Prop where
 lt:k<w.heap.size
 s1:¬ x.S1 v k
 own:k∉m::(sb++fb)
 pend:¬ dG pv k
theorem JZ.step {x:Cx} {v v':DV} {pv pv':Value} {m:Nat} {sb fb sb' fb':List Nat} {w w':World} {k:Nat} (h:JZ x v pv m sb fb w k) (hz:w.heap.size≤w'.heap.size) (h1:∀ b∈m::(sb'++fb'),b∈m::(sb++fb)∨w.heap.size≤b) (h2:∀ b,x.S1 v' b→x.S1 v b∨w.heap.size≤b) (h3:∀ g,dG pv' g→dG pv g∨w.heap.size≤g):JZ x v' pv' m sb' fb' w' k:=by
 refine ⟨Nat.lt_of_lt_of_le h.lt hz,fun hk=>?_,fun hk=>?_,fun hk=>?_⟩
 ·rcases h2 k hk with h9|h9
  ·exact h.s1 h9
  ·have:=h.lt;omega
 ·rcases h1 k hk with h9|h9
  ·exact h.own h9
  ·have:=h.lt;omega
 ·rcases h3 k hk with h9|h9
  ·exact h.pend h9
  ·have:=h.lt;omega
theorem JZ.same {x:Cx} {v:DV} {pv:Value} {m:Nat} {sb fb:List Nat} {w w':World} {k:Nat} (h:JZ x v pv m sb fb w k) (hz:w.heap.size≤w'.heap.size):JZ x v pv m sb fb w' k:=⟨Nat.lt_of_lt_of_le h.lt hz,h.s1,h.own,h.pend⟩
theorem TS.new {x:Cx} {c:DC} {w w':World} {v:DV} {s:St} {m:Nat} {sb fb:List Nat} {n:Nat} (h:TS x c w v s m sb fb n) {k:Nat} (h1:w.heap.size≤k) (h2:k<w'.heap.size):JZ x v c.nextTok m sb fb w' k:=by
 obtain ⟨e,b,hR,_,_⟩:=h.rd.rd
 exact ⟨h2,fun hk=>by have:=hR.s1lt k hk;omega,fun hk=>by have:=h.own.lt k hk;omega,fun hk=>by have:=h.nxt.lt hk;omega⟩
theorem NF (w3:World) (base:Nat) (hb:base≤w3.heap.size) (v:Value) (n:Nat) (hn:n≤1000000000) (xs:List Value) (h:w3.ownsRow base 55 8 v n xs) (kind:Int) (space loc:Bs) (attrs:Value) (ha:attrs.oneCell'=true) (text:Bs) (a l c:Int) :
  ∃ v' w4,(Builtin.append_ #[26,26] 26 #[v,.slice (some ⟨w3.heap.size,0,none⟩) 1 1]).run prog (w3.alloc (.cells #[.int .i64 kind,aB space,aB loc,attrs,aB text,.int .i64 a,.int .i64 l,.int .i64 c] 55))=.ok v' w4 ∧
   w4.ownsRow base 55 8 v' (n+1) (xs++nA kind space loc attrs text a l c)∧(w3.alloc (.cells #[.int .i64 kind,aB space,aB loc,attrs,aB text,.int .i64 a,.int .i64 l,.int .i64 c] 55)).grownBy w4 v.ownBlock∧(v'.ownBlock=v.ownBlock∨v'.ownBlock=some (w3.heap.size+1)):=by
 obtain ⟨i,hi,hz,h1,h2⟩:=info_parts Ix
 obtain ⟨v',w4,hr,ho,hg,_,eC⟩:=run_append_own_at (P:=prog) (w3.alloc (.cells #[.int .i64 kind,aB space,aB loc,attrs,aB text,.int .i64 a,.int .i64 l,.int .i64 c] 55)) base 26 26 55 i _ 8 104 underlying26 hi hz h1 h2 rfl (by omega) v n xs (h.alloc _) ⟨w3.heap.size,0,none⟩ 1 1 (nA kind space loc attrs text a l c) rfl
  (by
   intro j u hj
   have hb:=aJ.new w3 #[.int .i64 kind,aB space,aB loc,attrs,aB text,.int .i64 a,.int .i64 l,.int .i64 c] 55
   rw [show ((⟨w3.heap.size,0,none⟩:Addr).add j)=⟨w3.heap.size,j,none⟩ by cases j<;>simp [Addr.add],hb.cell]
   simpa [nA] using hj)
  (by
   intro u hu
   simp only [nA,List.mem_cons,List.not_mem_nil,or_false] at hu
   rcases hu with rfl|rfl|rfl|rfl|rfl|rfl|rfl|rfl<;>first|rfl|exact ha)
  (by unfold maxLen;omega) (by omega) (by simp;omega)
 exact ⟨v',w4,hr,ho,hg,by simpa using eC⟩
end Go.Proofs.YtdjdjbpnbjdaaaaGreatDoor
