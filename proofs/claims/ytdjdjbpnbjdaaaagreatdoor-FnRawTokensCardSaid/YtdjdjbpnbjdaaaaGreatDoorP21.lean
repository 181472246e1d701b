/- Part of the proof that laws.FnRawTokens returns true for every argument. No conditions. -/
import Derived.Test.YtdjdjbpnbjdaaaaGreatDoorP20
import Derived.Test.YtdjdjbpnbjdaaaaGreatDoorP09
import Derived.Test.YtdjdjbpnbjdaaaaGreatDoorP08
set_option linter.all false
set_option maxHeartbeats 8000000
set_option maxRecDepth 100000
namespace Go.Proofs.YtdjdjbpnbjdaaaaGreatDoor
open Go Go.RowKit Tryz
def uL (c c':DC):Prop:=∃ p q dp b t1 t2,c'={ c with stk:=p,free:=q,depth:=dp,needClose:=b,tcs:=t1,tcl:=t2 }
theorem uL.trans {a b c:DC} (h:uL a b) (k:uL b c):uL a c:=by
 obtain ⟨_,_,_,_,_,_,rfl⟩:=h
 obtain ⟨p,q,dp,b,t1,t2,rfl⟩:=k
 exact ⟨p,q,dp,b,t1,t2,rfl⟩
theorem uJ.toD {c c':DC} (h:uJ c c'):uL c c':=by
 obtain ⟨b,p,q,rfl⟩:=h
 exact ⟨c.stk,c.free,c.depth,b,p,q,rfl⟩
theorem dP.same {x:Cx} {c:DC} {w:World} {v:DV} {m:Nat} {sb fb:List Nat} {c':DC} {w':World} {sb' fb':List Nat} (h:dP x c w v m sb fb c' w' sb' fb'):uL c c':=by
 obtain ⟨p,q,dp,rfl⟩:=h.cs
 exact ⟨p,q,dp,c.needClose,c.tcs,c.tcl,rfl⟩
theorem bX.own {x:Cx} (hx:x.Ok) {c c':DC} {w w':World} {v:DV} {rest:Bs} {e:Option EK} {buf:Bs} (h:bX x c w v rest e buf) (hd:bO w' x.d c' v) {S:Nat→Prop} (hm:aK S w w') (hS:∀ k,S k→k=x.d∨(¬ x.S1 v k∧x.B≤k)):bX x c' w' v rest e buf:=by
 obtain ⟨un,iW,hu⟩:=h.inp
 have hn:∀ k,x.S1 v k→k≠x.d→¬ S k:=fun k hk cB hs=>by
  rcases hS k hs with h1|h1
  ·exact cB h1
  ·exact h1.1 hk
 exact ⟨aK.below h.base h.base.size hm (fun k hk=>by rcases hS k hk with h1|h1;exact h1▸hx.d;exact h1.2),hd,
  ⟨un,iW.mod hm (hn _ (Or.inl (Or.inr (Or.inl rfl))) (fun e=>hx.ne1 e.symm)) (hn _ (Or.inl (Or.inr (Or.inr (Or.inl rfl)))) (fun e=>hx.ne2 e.symm)) (hn _ (Or.inl (Or.inr (Or.inr (Or.inr rfl)))) (fun e=>hx.ne3 e.symm)),hu⟩,
  h.pos,h.err,h.fin,h.bf.mod hm (fun k hk=>hn k (Or.inr hk) (fun e=>h.bf.notS0 k hk (Or.inl e)))⟩
theorem Y0.drewN {x:Cx} {c:DC} {w:World} {v:DV} {w':World} {a:Addr} (h:Y0 x c w v w' a) (k:Nat):Y0 x c w v (w'.drewN k) a:=
 ⟨h.dec,show jP x c ((w'.setCell ⟨x.d,20,none⟩ (BR a)).drewN k) { v with err:=BR a } .syn from h.err.drewN k,show cK x w v ((w'.setCell ⟨x.d,20,none⟩ (BR a)).drewN k) { v with err:=BR a } from h.stp.drawn k⟩
theorem DX {x:Cx} {v:DV} {m:Nat} {sb fb:List Nat} {tb:Nat} {w w2 w':World} (h:aK (fun b=>b=x.d∨b∈m::(sb++fb)) w w2) (k:aK (x.S1 v) w2 w'):aK (fun b=>x.S1 v b∨b∈m::(sb++fb)∨b=tb) w w':=
 (h.mono (fun i _ hi=>by
  rcases hi with hi|hi
  ·exact Or.inl (Or.inl (Or.inl hi))
  ·exact Or.inr (Or.inl hi))).trans (k.mono (fun _ _ hi=>Or.inl hi)) (fun _ _ hi=>hi)
def hH (x:Cx) (c:DC) (w:World) (v:DV) (s:St) (nm:Bs×Bs) (m:Nat) (sb fb:List Nat) (n:Nat) (tb:Nat) (en:Ending) (w':World):Prop:=
 match pW x.o nm s with
 | .error k=>en=.returned (.bool false)∧∃ c' v',jP x c' w' v' k∧aK (fun b=>x.S1 v b∨b∈m::(sb++fb)∨b=tb) w w'
 | .ok (tk,s')=>∃ nm',tk=.fin nm'∧en=.returned (.bool true)∧∃ c' sb' fb' n',JR x c' w' v s'∧nX x w' c' v m sb' fb' n' s'.stk s'.ns∧aJ w' tb #[aB nm'.1,aB nm'.2] 106∧uL c c' ∧
   aK (fun b=>b=x.d∨b∈m::(sb++fb)∨b=tb) w w'∧(∀ b∈m::(sb'++fb'),b∈m::(sb++fb)∨w.heap.size≤b)∧n'+s'.stk.length≤n+s.stk.length
structure As (x:Cx) (c:DC) (w:World) (v:DV) (s:St) (m:Nat) (sb fb:List Nat) (n:Nat) (tb:Nat) (nm:Bs×Bs):Prop where
 fit:(s.ended=false∧∃ b,bX x c w v s.rest none b)∨∃ e stk',s.stk=e::stk'∧e.kind=0∧nm=(e.space,e.loc)
 strict:c.strict=x.o.strict
 rts:JR x c w v s
 own:nX x w c v m sb fb n s.stk s.ns
 sok:lS s.stk
 bnd:n+s.stk.length≤100000000000
 sp:c.space=⟨x.o.space.toArray⟩
 tok:aJ w tb #[aB nm.1,aB nm.2] 106
 tS:¬ x.S1 v tb
 tO:tb∉m::(sb++fb)
 tB:x.B≤tb
 l1:nm.1.length≤100000000000
 l2:nm.2.length≤100000000000
theorem At (x:Cx) (hx:x.All) (c:DC) (w:World) (v:DV) (s:St) (m:Nat) (sb fb:List Nat) (n:Nat) (tb:Nat) (nm:Bs×Bs) (h:As x c w v s m sb fb n tb nm) (hs:s.stk=[]) :
  Calls prog 35 #[bS x,.pointer (some ⟨tb,0,none⟩)] w fun en w'=>hH x c w v s nm m sb fb n tb en w':=by
 obtain ⟨e0,b0,hR,_,_⟩:=h.rts.rd
 have vY:c.stk=.pointer none:=by
  have:=h.own.stk
  rw [hs] at this
  rcases this.ptr with ⟨h1,_⟩|⟨_,_,_,_,_,_,h1⟩
  ·exact h1
  ·cases h1
 have GQ:=Lh (Jd x c w v hR.dec vY)
 have B6:=h.tok.cell
 have M7:=h.tok.frozen
 have HR:=Lh hR
 have HX:=Lh hx
 have HP:=Lh (show pW x.o nm s=.error .syn by unfold pW;rw [hs])
 have hl:=h.l2
 have A5:¬ 9223372036854775807<25+nm.2.length:=by omega
 have y8:¬ 9223372036854775807<25+nm.2.length+1:=by omega
 have hl3:¬ 9223372036854775807<25+(nm.2.length+1):=by omega
 have HT:=Lh h.tok
 clear hR hx h hl hs vY
 refine eJ 179 func35 [_,_] fun f=>?_
 simp only [aE]
 (refine vg ?_;(repeat with_reducible intro K hK))
 refine GQ.out.mono ?_
 rintro e1 w1 ⟨rfl,rfl⟩
 clear GQ
 have iE:Below w1.heap.size w1 (w1.alloc (.cells #[aB nm.1,aB nm.2] 85)):=(Below.refl _ w1).alloc (Nat.le_refl _) _
 ((repeat revert K);refine vS ?_;(repeat with_reducible intro K hK))
 have qS:=Lh (fun msg=>g7 HX.out.toOk (HR.out.below HX.out.toOk iE) msg)
 refine (qS.out _).mono ?_
 rintro e3 w3 ⟨a9,rfl,hS⟩
 have tE:=hS.dec.cell
 have sZ:=hS.dec.frozen
 have HS:=Lh hS
 clear hS B6 M7
 ((repeat revert K);refine vS ?_;intro K hK)
 (refine cW ?_)
 unfold hH
 rw [HP.out]
 exact ⟨rfl,c,_,HS.out.err,DX (aH ((Below.refl _ w1).alloc (Nat.le_refl _) _) _) HS.out.stp.mod⟩
theorem Jh (x:Cx) (hx:x.All) (c:DC) (w:World) (v:DV) (s:St) (m:Nat) (sb fb:List Nat) (n:Nat) (tb:Nat) (nm:Bs×Bs) (h:As x c w v s m sb fb n tb nm) (e:mQ) (stk':List mQ) (hs:s.stk=e::stk') (hk:e.kind=1) :
  Calls prog 35 #[bS x,.pointer (some ⟨tb,0,none⟩)] w fun en w'=>hH x c w v s nm m sb fb n tb en w':=by
 obtain ⟨e0,b0,hR,_,_⟩:=h.rts.rd
 have ho:=h.own
 rw [hs] at ho
 obtain ⟨q,e',l',sb',h1,h2,h3⟩:∃ q e' l' sb',c.stk=.pointer (some ⟨q,0,none⟩)∧sb=q::sb'∧e::stk'=e'::l':=by
  rcases ho.stk.ptr with ⟨_,_,h1⟩|⟨q,e',l',sb',h1,h2,h3⟩
  ·cases h1
  ·exact ⟨q,e',l',sb',h1,h2,h3⟩
 obtain ⟨rfl,rfl⟩:=List.cons.inj h3
 subst h2
 obtain ⟨fl,rT⟩:=ho.free
 have xJ:(m::((q::sb')++fb)).Nodup:=ho.nodup
 have M6:=Lh (An x c w v hR.dec q e (Or.inr hk) stk' sb' ho.stk fl fb rT (fun b hb he=>ho.s1 b (List.mem_cons_of_mem _ hb) (Or.inl (Or.inl he))) (List.nodup_cons.1 xJ).2)
 have HP:=Lh (show pW x.o nm s=.error .syn by unfold pW;rw [hs];simp only;rw [if_pos (by rw [hk];decide)])
 have hl:=h.l2
 have A5:¬ 9223372036854775807<25+nm.2.length:=by omega
 have y8:¬ 9223372036854775807<25+nm.2.length+1:=by omega
 have HT:=Lh h.tok
 have HR:=Lh hR
 have HX:=Lh hx
 have HO:=Lh ho
 have HTO:=Lh h.tO
 have Fn:=Lh h.tS
 have HEK:=Lh hk
 clear hR hx h hl hs h3 rT xJ ho hk h1
 refine eJ 179 func35 [_,_] fun f=>?_
 simp only [aE]
 (refine vg ?_;(repeat with_reducible intro K hK))
 refine M6.out.mono ?_
 rintro e1 w1 ⟨rfl,hp⟩
 obtain ⟨c1,jV,BV,nx1,Jg,ok1,bP,xO⟩:=HO.out.popped hp
 have HSM:=Lh jV.mod
 have hmt:¬ (tb=x.d∨tb=q):=by
  rintro (he|he)
  ·exact Fn.out (Or.inl (Or.inl he))
  ·exact HTO.out (by simp [he])
 have Oi:=HT.out.mod hp.mod hmt
 have B6:=Oi.cell
 have M7:=Oi.frozen
 have Tm:=HR.out.own HX.out.toOk jV.dec jV.mod (fun k hk=>by
  rcases hk with hk|hk
  ·exact Or.inl hk
  ·exact Or.inr ⟨HO.out.s1 k hk,HO.out.base k hk⟩)
 have iE:Below w1.heap.size w1 (w1.alloc (.cells #[aB nm.1,aB nm.2] 85)):=(Below.refl _ w1).alloc (Nat.le_refl _) _
 have k8:=bP.alloc (.cells #[aB nm.1,aB nm.2] 85)
 have nU:=k8.cell
 have s6:=k8.frozen
 rw [HEK.out] at nU
 have qS:=Lh (fun msg=>g7 HX.out.toOk (Tm.below HX.out.toOk iE) msg)
 clear hp jV BV bP xO M6 Jg Oi Tm iE k8
 ((repeat revert K);refine vS ?_;(repeat with_reducible intro K hK))
 refine (qS.out _).mono ?_
 rintro e3 w3 ⟨a9,rfl,hS⟩
 have tE:=hS.dec.cell
 have sZ:=hS.dec.frozen
 have HS:=Lh hS
 clear hS B6 M7 nU s6
 ((repeat revert K);refine vS ?_;intro K hK)
 (refine cW ?_)
 unfold hH
 rw [HP.out]
 exact ⟨rfl,c1,_,HS.out.err,DX (HSM.out.trans (aH ((Below.refl _ w1).alloc (Nat.le_refl _) _) (fun b=>b=x.d∨b∈m::((q::sb')++fb))) (fun _ _ h=>h)) HS.out.stp.mod⟩
structure a4D (x:Cx) (c:DC) (w:World) (v:DV) (s:St) (m q:Nat) (sb' fb:List Nat) (n:Nat) (tb:Nat) (nm:Bs×Bs) (e:mQ) (stk':List mQ) (c1:DC) (w1:World) (nx:Value) (ok:Bool) (e0:Option EK):Prop where
 st:dP x c w v m (q::sb') fb c1 w1 sb' (q::fb)
 own:nX x w1 c1 v m sb' (q::fb) n stk' s.ns
 blk:aJ w1 q (kB nx 0 e.space e.loc ok) 91
 rd:∃ b,bX x c1 w1 v s.rest e0 b
 tok:aJ w1 tb #[aB nm.1,aB nm.2] 106
theorem VM (x:Cx) (hx:x.All) (c:DC) (w:World) (v:DV) (s:St) (m:Nat) (sb fb:List Nat) (n:Nat) (tb:Nat) (nm:Bs×Bs) (h:As x c w v s m sb fb n tb nm) (e:mQ) (stk':List mQ) (hs:s.stk=e::stk') (hk:e.kind=0) :
  Calls prog 35 #[bS x,.pointer (some ⟨tb,0,none⟩)] w fun en w'=>hH x c w v s nm m sb fb n tb en w':=by
 obtain ⟨e0,b0,hR,Ji,B7,hE3⟩:∃ e0 b0,bX x c w v s.rest e0 b0∧(s.ended=true→e0≠none)∧(e0≠none→s.toClose=none)∧((s.ended=false∧e0=none)∨nm=(e.space,e.loc)):=by
  rcases h.fit with ⟨h1,b,h2⟩|⟨e',stk2,h1,_,h3⟩
  ·exact ⟨none,b,h2,fun hh=>(by rw [h1] at hh;cases hh),fun hh=>absurd rfl hh,Or.inl ⟨h1,rfl⟩⟩
  ·obtain ⟨e0,b0,hR,h4,h5⟩:=h.rts.rd
   rw [hs] at h1
   obtain ⟨rfl,_⟩:=List.cons.inj h1
   exact ⟨e0,b0,hR,h4,h5,Or.inr h3⟩
 have ho:=h.own
 rw [hs] at ho
 obtain ⟨q,e',l',sb',h1,h2,h3⟩:∃ q e' l' sb',c.stk=.pointer (some ⟨q,0,none⟩)∧sb=q::sb'∧e::stk'=e'::l':=by
  rcases ho.stk.ptr with ⟨_,_,h1⟩|⟨q,e',l',sb',h1,h2,h3⟩
  ·cases h1
  ·exact ⟨q,e',l',sb',h1,h2,h3⟩
 obtain ⟨rfl,rfl⟩:=List.cons.inj h3
 subst h2
 obtain ⟨fl,rT⟩:=ho.free
 have xJ:(m::((q::sb')++fb)).Nodup:=ho.nodup
 have M6:=Lh (An x c w v hR.dec q e (Or.inl hk) stk' sb' ho.stk fl fb rT (fun b hb he=>ho.s1 b (List.mem_cons_of_mem _ hb) (Or.inl (Or.inl he))) (List.nodup_cons.1 xJ).2)
 have W1:=Lh (show ∀ w1,CA x c w v e stk' sb' fl fb w1 q→∃ c1 nx ok,a4D x c w v s m q sb' fb n tb nm e stk' c1 w1 nx ok e0 from fun w1 hp=>by
  obtain ⟨c1,jV,BV,nx1,Jg,ok1,bP,xO⟩:=ho.popped hp
  have hmt:¬ (tb=x.d∨tb=q):=by
   rintro (he|he)
   ·exact h.tS (Or.inl (Or.inl he))
   ·exact h.tO (by simp [he])
  rw [hk] at bP
  exact ⟨c1,nx1,ok1,jV,BV,bP,⟨b0,hR.own hx.toOk jV.dec jV.mod (fun k hk=>by
   rcases hk with hk|hk
   ·exact Or.inl hk
   ·exact Or.inr ⟨ho.s1 k hk,ho.base k hk⟩)⟩,h.tok.mod hp.mod hmt⟩)
 have A7:=Lh h
 have HX:=Lh hx
 have HO:=Lh ho
 have HS:=Lh hs
 have HE:=Lh (show e.space.length≤100000000000∧e.loc.length≤100000000000 from (h.sok e (by rw [hs];simp)).2)
 have VG:=Lh (And.intro Ji (And.intro B7 hE3))
 have HKD:=Lh hk
 have HQT:=Lh (show tb≠q∧tb≠x.d∧tb≠m∧(∀ b∈m::(sb'++q::fb),b≠tb) from by
  have hTO:=h.tO
  refine ⟨fun he=>hTO (by simp [he]),fun he=>h.tS (Or.inl (Or.inl he)),fun he=>hTO (by simp [he]),fun b hb he=>hTO ?_⟩
  subst he
  simp only [List.mem_cons,List.mem_append,List.cons_append] at hb ⊢
  rcases hb with h|h|h|h
  ·exact Or.inl h
  ·exact Or.inr (Or.inr (Or.inl h))
  ·exact Or.inr (Or.inl h)
  ·exact Or.inr (Or.inr (Or.inr h)))
 clear hR hx h hs h3 rT xJ ho hk Ji B7 hE3 h1
 refine eJ 179 func35 [_,_] fun f=>?_
 simp only [aE]
 (refine vg ?_;(repeat with_reducible intro K hK))
 refine M6.out.mono ?_
 rintro e1 w1 ⟨rfl,hp⟩
 obtain ⟨c1,nx1,ok1,hI⟩:=W1.out w1 hp
 have HI:=Lh hI
 obtain ⟨b1,Tm⟩:=hI.rd
 have a5f:=hI.tok.cell
 have a5g:=hI.tok.frozen
 have iE:Below w1.heap.size w1 (w1.alloc (.cells #[aB nm.1,aB nm.2] 85)):=(Below.refl _ w1).alloc (Nat.le_refl _) _
 have kY:aK (fun _=>False) w1 (w1.alloc (.cells #[aB nm.1,aB nm.2] 85)):=aH iE _
 have PJ:=Lh kY
 have s8:=Tm.below HX.out.toOk iE
 have fB:=Lh s8
 have lC:=aJ.new w1 #[aB nm.1,aB nm.2] 85
 have Fo:=hI.blk.mod kY id
 have W9:=hI.tok.mod kY id
 have HQB:=Lh Fo
 have HTB:=Lh W9
 have nU:=Fo.cell
 have s6:=Fo.frozen
 have FG:=Lh hI.st
 have CB:=Lh hI.own
 clear hp M6 W1 Tm iE kY hI Fo W9
 ((repeat revert K);refine vS ?_;(repeat with_reducible intro K hK))
 (refine cJ [0,1,5,6] fun f=>?_)
 have a1D:w1.heap.size≠q∧w1.heap.size≠tb∧w1.heap.size≠x.d:=by
  have h1:=HI.out.blk.lt
  have h2:=HI.out.tok.lt
  have h3:=aJ.lt HI.out.st.dec
  exact ⟨by omega,by omega,by omega⟩
 have a4E:=Lh (show ∀ b∈m::(sb'++q::fb),b≠w1.heap.size from fun b hb he=>by have:=CB.out.lt b hb;omega)
 have rJ:=Lh lC
 obtain ⟨w2,n7⟩:∃ w2,w2=w1.alloc (.cells #[aB nm.1,aB nm.2] 85):=⟨_,rfl⟩
 obtain ⟨nb,Jj⟩:∃ nb,nb=w1.heap.size:=⟨_,rfl⟩
 have Fl:nX x w2 c1 v m sb' (q::fb) n stk' s.ns:=by rw [n7];exact CB.out.mod PJ.out (fun _ _=>id) CB.out.s1
 have Fm:dP x c w v m (q::sb') fb c1 w2 sb' (q::fb):=by
  rw [n7]
  exact FG.out.trans ⟨aJ.mod FG.out.dec PJ.out id,⟨_,_,_,rfl⟩,PJ.out.mono (fun _ _ h=>h.elim),fun _ hb=>Or.inl hb⟩
 have U4:bX x c1 w2 v s.rest e0 b1:=by rw [n7];exact fB.out
 have Tn:aJ w2 q (kB nx1 0 e.space e.loc ok1) 91:=by rw [n7];exact HQB.out
 have hT2:aJ w2 tb #[aB nm.1,aB nm.2] 106:=by rw [n7];exact HTB.out
 have hN2:aJ w2 nb #[aB nm.1,aB nm.2] 85:=by rw [n7,Jj];exact rJ.out
 rw [show w1.alloc (.cells #[.string ⟨nm.1.toArray⟩,.string ⟨nm.2.toArray⟩] 85)=w2 from n7.symm,←Jj]
 rw [←Jj] at a1D a4E
 clear nU s6 lC rJ HQB HTB fB FG CB PJ HI n7 Jj
 have QQ:=Lh Fl
 have gH:=Lh Fm
 have DP:=Lh U4
 have R6:=Lh Tn
 have DW:=Lh hT2
 have yY:=U4.dec.cell
 have hfd:=U4.dec.frozen
 have nU:=Tn.cell
 have s6:=Tn.frozen
 have B6:=hT2.cell
 have M7:=hT2.frozen
 have EY:=hN2.cell
 have Og:=hN2.frozen
 obtain ⟨n1,n2,n3⟩:=a1D
 obtain ⟨t1,t2,t3,_⟩:=HQT.out
 have E5:q≠x.d:=fun he=>HO.out.s1 q (by simp) (Or.inl (Or.inl he))
 clear Fl Fm U4 Tn hT2 hN2
 have a1E:=Lh (show c1.strict=x.o.strict from by
  obtain ⟨p,q2,dp,he⟩:=gH.out.cs
  rw [he];exact A7.out.strict)
 have y8:=A7.out.l2
 have A5:=A7.out.l1
 have iK:=HE.out.1
 have vC:=HE.out.2
 have qS:=Lh (fun k msg=>g7 HX.out.toOk (DP.out.drewN HX.out.toOk k) msg)
 by_cases AA:e.loc=nm.2
 ·rw [AA] at nU vC
  by_cases VN:e.space=nm.1
  ·have M8:=Lh (show pW x.o nm s=.ok (.fin (dF x.o s.ns nm true),{ s with stk:=(jK stk' s.ns).1,ns:=(jK stk' s.ns).2 }) by
    unfold pW
    rw [HS.out]
    simp only
    rw [if_neg (by rw [HKD.out];simp),if_neg (by rw [AA];simp),if_neg (by rw [VN];simp)])
   have R7:=Lh (fun k=>uK x c1 (w2.drewN k) v (DP.out.drewN HX.out.toOk k).dec m n s.ns QQ.out.map (QQ.out.ns.drewN k) (by
    obtain ⟨p,q2,dp,he⟩:=gH.out.cs
    rw [he];exact A7.out.sp) tb #[aB nm.1,aB nm.2] 106 DW.out t2 t3 0 nm rfl rfl A5 true)
   rw [VN] at nU
   clear AA VN A5 y8 iK vC
   go_quiet (fail)
   ((repeat revert K);refine vg ?_;(repeat with_reducible intro K hK))
   (refine cJ [0,1,5,6] fun f=>?_)
   have SN:=Lh (DP.out.drewN HX.out.toOk nq)
   have Jk:∀ o,(w2.drewN nq).cell? ⟨q,o,none⟩=_:=nU
   have Jl:∀ o,(w2.drewN nq).cell? ⟨nb,o,none⟩=_:=EY
   go_quiet (fail)
   ((repeat revert K);refine vg ?_;(repeat with_reducible intro K hK))
   refine (R7.out _).mono ?_
   rintro e5 w5 ⟨rfl,fL,jM,OL⟩
   have Jm:aK (fun k=>k=tb) w2 w5:=((aK.refl _ w2).drewN _).trans fL (fun _ _ h=>h)
   have hO5:nX x w5 c1 v m sb' (q::fb) n stk' s.ns:=QQ.out.mod Jm (fun b hb he=>HQT.out.2.2.2 b hb he) QQ.out.s1
   have Xt:bO w5 x.d c1 v:=aJ.mod DP.out.dec Jm (fun he=>t2 he.symm)
   have a1F:lS stk':=fun e' OK=>A7.out.sok e' (by rw [HS.out];simp [OK])
   have a1G:n+stk'.length≤100000000000:=by have:=A7.out.bnd;rw [HS.out] at this;simp only [List.length_cons] at this;omega
   have To:=Lh Jm
   have vQ:=Lh jM
   clear yY hfd nU s6 B6 M7 EY Og Jk Jl fL OL Jm jM R7
   ((repeat revert K);refine vS ?_;intro K hK)
   (refine cJ [0] fun f=>?_)
   refine Tk x HX.out.toOk c1 w5 v Xt m sb' (q::fb) n stk' s.ns hO5 a1F a1G _ ?_ f _ (by kernel_rfl)
   intro f c9 w9 sb9 fb9 n9 hs9 ho9 Ad
   have W7:=Lh hs9
   have HO9:=Lh ho9
   have Yj:=Lh Ad
   clear hs9 ho9 Ad Xt a1F a1G hO5
   (revert K;refine vg ?_)
   (refine cW ?_)
   unfold hH
   rw [M8.out]
   have Tp:=W7.out.mod
   have a4F:aJ w9 tb _ _:=vQ.out.mod Tp (fun hh=>by
    rcases hh with hh|hh
    ·exact t2 hh
    ·exact HQT.out.2.2.2 tb hh rfl)
   have A9:∀ b,b∈m::(sb'++q::fb)→b∈m::((q::sb')++fb):=by
    intro b hb
    simp only [List.mem_cons,List.mem_append,List.cons_append] at hb ⊢
    rcases hb with h|h|h|h
    ·exact Or.inl h
    ·exact Or.inr (Or.inr (Or.inl h))
    ·exact Or.inr (Or.inl h)
    ·exact Or.inr (Or.inr (Or.inr h))
   have Au:aK (fun b=>b=x.d∨b∈m::((q::sb')++fb)∨b=tb) w w9:=by
    refine (gH.out.mod.mono (fun b _ hb=>?_)).trans ((To.out.mono (S':=fun b=>b=x.d∨b∈m::((q::sb')++fb)∨b=tb) (fun b _ hb=>Or.inr (Or.inr hb))).trans (Tp.mono (S':=fun b=>b=x.d∨b∈m::((q::sb')++fb)∨b=tb) (fun b _ hb=>?_)) (fun _ _ h=>h)) (fun _ _ h=>h)
    ·rcases hb with hb|hb
     ·exact Or.inl hb
     ·exact Or.inr (Or.inl hb)
    ·rcases hb with hb|hb
     ·exact Or.inl hb
     ·exact Or.inr (Or.inl (A9 b hb))
   have Tq:bX x c9 w9 v s.rest e0 b1:=DP.out.own HX.out.toOk W7.out.dec (S:=fun b=>b=x.d∨b∈m::(sb'++q::fb)∨b=tb) ((To.out.mono (fun b _ hb=>Or.inr (Or.inr hb))).trans (Tp.mono (S':=fun b=>b=x.d∨b∈m::(sb'++q::fb)∨b=tb) (fun b _ hb=>by
    rcases hb with hb|hb
    ·exact Or.inl hb
    ·exact Or.inr (Or.inl hb))) (fun _ _ h=>h)) (fun k hk=>by
    rcases hk with hk|hk|hk
    ·exact Or.inl hk
    ·exact Or.inr ⟨HO.out.s1 k (A9 k hk),HO.out.base k (A9 k hk)⟩
    ·exact Or.inr (hk▸⟨A7.out.tS,A7.out.tB⟩))
   have hsd:uL c c9:=gH.out.same.trans W7.out.same
   obtain ⟨pp1,pp2,pp3,a1H⟩:=gH.out.cs
   obtain ⟨pp4,pp5,pp6,a1I⟩:=W7.out.cs
   refine ⟨dF x.o s.ns nm true,rfl,rfl,c9,sb9,fb9,n9,⟨⟨e0,b1,Tq,VG.out.1,VG.out.2.1⟩,?_,?_,A7.out.rts.nb⟩,HO9.out,(by rw [PY];exact a4F),hsd,Au,fun b hb=>?_,?_⟩
   ·rw [a1I,a1H];exact A7.out.rts.nc
   ·intro nm' LS
    rw [a1I,a1H];exact A7.out.rts.tc nm' LS
   ·rcases W7.out.sub b hb with h9|h9
    ·rcases gH.out.sub b h9 with h8|h8
     ·exact Or.inl h8
     ·exact Or.inr h8
    ·exact Or.inr (Nat.le_trans (Nat.le_trans gH.out.mod.size To.out.size) h9)
   ·have:=Yj.out
    rw [HS.out];simp only [List.length_cons];omega
  ·obtain ⟨g1,g2⟩:=vX VN
   have M8:=Lh (show pW x.o nm s=.error .syn by
    unfold pW
    rw [HS.out]
    simp only
    rw [if_neg (by rw [HKD.out];simp),if_neg (by rw [AA];simp),if_pos VN])
   have a1:¬ 9223372036854775807<9+nm.2.length:=by omega
   have a2:¬ 9223372036854775807<9+nm.2.length+11:=by omega
   have a3:¬ 9223372036854775807<9+nm.2.length+11+e.space.length:=by omega
   have a4:¬ 9223372036854775807<9+nm.2.length+11+e.space.length+13:=by omega
   have a5:¬ 9223372036854775807<9+nm.2.length+11+e.space.length+13+nm.2.length:=by omega
   have a6:¬ 9223372036854775807<9+nm.2.length+11+e.space.length+13+nm.2.length+11:=by omega
   have a7:¬ 9223372036854775807<9+nm.2.length+11+e.space.length+13+nm.2.length+11+nm.1.length:=by omega
   have a8:¬ 9223372036854775807<9+nm.2.length+11+e.space.length+13+nm.2.length+11+2:=by omega
   clear AA VN A5 y8 iK vC
   go_quiet (fail)
   ((repeat revert K);refine vg ?_;(repeat with_reducible intro K hK))
   (refine cJ [0,1,5,6] fun f=>?_)
   have Jk:∀ o,(w2.drewN nq).cell? ⟨q,o,none⟩=_:=nU
   have Jl:∀ o,(w2.drewN nq).cell? ⟨nb,o,none⟩=_:=EY
   go_quiet (fail)
   have vO:nm.1=[]∨((nm.1==[])=false∧(nm.1 != [])=true):=by
    by_cases h:nm.1=[]
    ·exact Or.inl h
    ·exact Or.inr (vX h)
   rcases vO with vO|⟨vO,Av⟩
   ·have Av:(nm.1==[])=true:=by rw [vO];rfl
    ((repeat revert K);refine vg ?_;(repeat with_reducible intro K hK))
    (refine cJ [0,1,5,6,7] fun f=>?_)
    (refine aI [0,0,0,0,0,0,1,0,0,0,0,0,0,1,0,0,0,1,0,0,0,0,2,0,0,2] [0,1,2,3,4,5,6,7,8,9,10,11,12,13,14,15,16,17,18,19,20,21,22,23,24,25] (by kernel_rfl) (by kernel_rfl) ?_;refine vP ?_;repeat with_reducible intro nq)
    (refine bK rfl rfl (fun nq K hK=>?_);go_simp)
    refine (qS.out _ _).mono ?_
    rintro e3 w3 ⟨a9,rfl,hS⟩
    have tE:=hS.dec.cell
    have sZ:=hS.dec.frozen
    have Oj:=Lh hS
    clear hS yY hfd nU s6 B6 M7 EY Og Jk Jl
    (go_simp;refine hK.out _ _ ?_;clear hK K)
    (refine vP ?_;repeat with_reducible intro nq)
    ((repeat revert K);refine vg ?_;intro K hK)
    (refine cW ?_)
    unfold hH
    rw [M8.out]
    exact ⟨rfl,c1,_,(Oj.out.drewN _).err.drewN _,DX gH.out.mod (((aK.refl (x.S1 v) w2).drewN _).trans ((Oj.out.drewN _).stp.drawn _).mod (fun _ _ h=>h))⟩
   ·((repeat revert K);refine vg ?_;(repeat with_reducible intro K hK))
    (refine cJ [0,1,5,6,7] fun f=>?_)
    (refine aI [0,0,0,0,0,0,1,0,0,0,0,0,0,1,0,0,0,1,0,0,0,0,2,0,0,2] [0,1,2,3,4,5,6,7,8,9,10,11,12,13,14,15,16,17,18,19,20,21,22,23,24,25] (by kernel_rfl) (by kernel_rfl) ?_;refine vP ?_;repeat with_reducible intro nq)
    (refine bK rfl rfl (fun nq K hK=>?_);go_simp)
    refine (qS.out _ _).mono ?_
    rintro e3 w3 ⟨a9,rfl,hS⟩
    have tE:=hS.dec.cell
    have sZ:=hS.dec.frozen
    have Oj:=Lh hS
    clear hS yY hfd nU s6 B6 M7 EY Og Jk Jl
    (go_simp;refine hK.out _ _ ?_;clear hK K)
    (refine vP ?_;repeat with_reducible intro nq)
    ((repeat revert K);refine vg ?_;intro K hK)
    (refine cW ?_)
    unfold hH
    rw [M8.out]
    exact ⟨rfl,c1,_,(Oj.out.drewN _).err.drewN _,DX gH.out.mod (((aK.refl (x.S1 v) w2).drewN _).trans ((Oj.out.drewN _).stp.drawn _).mod (fun _ _ h=>h))⟩
 ·obtain ⟨g1,g2⟩:=vX AA
  obtain ⟨a1J,he0⟩:s.ended=false∧e0=none:=by
   rcases VG.out.2.2 with h|h
   ·exact h
   ·exact absurd (by rw [h]) AA
  subst he0
  have a4G:=Lh a1J
  clear a1J
  cases dA:c1.strict with
  | true=>
   have M8:=Lh (show pW x.o nm s=.error .syn by
    unfold pW
    rw [HS.out]
    simp only
    rw [if_neg (by rw [HKD.out];simp),if_pos AA,if_pos (by rw [←a1E.out];exact dA)])
   have a1:¬ 9223372036854775807<9+e.loc.length:=by omega
   have a2:¬ 9223372036854775807<9+e.loc.length+14:=by omega
   have a3:¬ 9223372036854775807<9+e.loc.length+14+nm.2.length:=by omega
   have a4:¬ 9223372036854775807<9+e.loc.length+14+nm.2.length+1:=by omega
   clear AA A5 y8 iK vC
   go_quiet (fail)
   ((repeat revert K);refine vg ?_;(repeat with_reducible intro K hK))
   (refine aI [0,0,0,0,0,0,1,0,0,0,1,0,0,2,0,0,2] [0,1,2,3,4,5,6,7,8,9,10,11,12,13,14,15,16] (by kernel_rfl) (by kernel_rfl) ?_;refine vP ?_;repeat with_reducible intro nq)
   (refine bK rfl rfl (fun nq K hK=>?_);go_simp)
   refine (qS.out _ _).mono ?_
   rintro e3 w3 ⟨a9,rfl,hS⟩
   have tE:=hS.dec.cell
   have sZ:=hS.dec.frozen
   have Oj:=Lh hS
   clear hS yY hfd nU s6 B6 M7 EY Og
   (go_simp;refine hK.out _ _ ?_;clear hK K)
   (refine vP ?_;repeat with_reducible intro nq)
   ((repeat revert K);refine vg ?_;intro K hK)
   (refine cW ?_)
   unfold hH
   rw [M8.out]
   exact ⟨rfl,c1,_,(Oj.out.drewN _).err.drewN _,DX gH.out.mod (((aK.refl (x.S1 v) w2).drewN _).trans ((Oj.out.drewN _).stp.drawn _).mod (fun _ _ h=>h))⟩
  | false=>
   have M8:=Lh (show pW x.o nm s=.ok (.fin (e.space,e.loc),{ s with stk:=stk',toClose:=some nm }) by
    unfold pW
    rw [HS.out]
    simp only
    rw [if_neg (by rw [HKD.out];simp),if_pos AA,if_neg (by rw [←a1E.out,dA];simp)])
   clear AA A5 y8 iK vC
   go_quiet (fail)
   ((repeat revert K);refine vg ?_;(repeat with_reducible intro K hK))
   (refine cW ?_)
   unfold hH
   rw [M8.out]
   have A9:∀ b,b∈m::(sb'++q::fb)→b∈m::((q::sb')++fb):=by
    intro b hb
    simp only [List.mem_cons,List.mem_append,List.cons_append] at hb ⊢
    rcases hb with h|h|h|h
    ·exact Or.inl h
    ·exact Or.inr (Or.inr (Or.inl h))
    ·exact Or.inr (Or.inl h)
    ·exact Or.inr (Or.inr (Or.inr h))
   have hm:aK (fun b=>b=x.d∨b=tb) w2 ((((((w2.drewN nq).setCell ⟨x.d,14,none⟩ (.bool true)).setCell ⟨x.d,15,none⟩ (aB nm.1)).setCell ⟨x.d,16,none⟩ (aB nm.2)).setCell ⟨tb,0,none⟩ (aB e.space)).setCell ⟨tb,1,none⟩ (aB e.loc)):=
    ((((((aK.refl (fun b=>b=x.d∨b=tb) w2).drewN nq).setCell (p:=⟨x.d,14,none⟩) (Or.inl (Or.inl rfl)) _).setCell (p:=⟨x.d,15,none⟩) (Or.inl (Or.inl rfl)) _).setCell (p:=⟨x.d,16,none⟩) (Or.inl (Or.inl rfl)) _).setCell (p:=⟨tb,0,none⟩) (Or.inl (Or.inr rfl)) _).setCell (p:=⟨tb,1,none⟩) (Or.inl (Or.inr rfl)) _
   have LD:bO ((((((w2.drewN nq).setCell ⟨x.d,14,none⟩ (.bool true)).setCell ⟨x.d,15,none⟩ (aB nm.1)).setCell ⟨x.d,16,none⟩ (aB nm.2)).setCell ⟨tb,0,none⟩ (aB e.space)).setCell ⟨tb,1,none⟩ (aB e.loc)) x.d { c1 with needClose:=true,tcs:=⟨nm.1.toArray⟩,tcl:=⟨nm.2.toArray⟩ } v:=
    ((((show aJ (w2.drewN nq) x.d _ _ from DP.out.dec).set 14 (.bool true)).set 15 (aB nm.1)).set 16 (aB nm.2)).set_ne (a:=⟨tb,0,none⟩) (fun he=>t2 he.symm) (aB e.space) |>.set_ne (a:=⟨tb,1,none⟩) (fun he=>t2 he.symm) (aB e.loc)
   have ht9:aJ ((((((w2.drewN nq).setCell ⟨x.d,14,none⟩ (.bool true)).setCell ⟨x.d,15,none⟩ (aB nm.1)).setCell ⟨x.d,16,none⟩ (aB nm.2)).setCell ⟨tb,0,none⟩ (aB e.space)).setCell ⟨tb,1,none⟩ (aB e.loc)) tb #[aB e.space,aB e.loc] 106:=
    (((((show aJ (w2.drewN nq) tb _ _ from DW.out).set_ne (a:=⟨x.d,14,none⟩) t2 (.bool true)).set_ne (a:=⟨x.d,15,none⟩) t2 (aB nm.1)).set_ne (a:=⟨x.d,16,none⟩) t2 (aB nm.2)).set 0 (aB e.space)).set 1 (aB e.loc)
   have Tq:bX x { c1 with needClose:=true,tcs:=⟨nm.1.toArray⟩,tcl:=⟨nm.2.toArray⟩ } _ v s.rest none b1:=DP.out.own HX.out.toOk LD hm (fun k hk=>by
    rcases hk with hk|hk
    ·exact Or.inl hk
    ·exact Or.inr (hk▸⟨A7.out.tS,A7.out.tB⟩))
   have Ts:=QQ.out.mod hm (fun b hb hh=>by
    rcases hh with hh|hh
    ·exact QQ.out.s1 b hb (Or.inl (Or.inl hh))
    ·exact HQT.out.2.2.2 b hb hh) QQ.out.s1
   have Au:=(gH.out.mod.mono (S':=fun b=>b=x.d∨b∈m::((q::sb')++fb)∨b=tb) (fun b _ hb=>by
    rcases hb with hb|hb
    ·exact Or.inl hb
    ·exact Or.inr (Or.inl hb))).trans (hm.mono (S':=fun b=>b=x.d∨b∈m::((q::sb')++fb)∨b=tb) (fun b _ hb=>by
    rcases hb with hb|hb
    ·exact Or.inl hb
    ·exact Or.inr (Or.inr hb))) (fun _ _ h=>h)
   refine ⟨(e.space,e.loc),rfl,rfl,_,sb',q::fb,n,⟨⟨none,b1,Tq,fun hh=>(by have:=a4G.out;rw [show s.ended=true from hh] at this;cases this),fun hh=>absurd rfl hh⟩,rfl,fun nm' LS=>?_,A7.out.rts.nb⟩,⟨Ts.stk,Ts.free,Ts.map,Ts.ns,Ts.nodup,Ts.base,Ts.s1⟩,ht9,gH.out.same.trans ⟨c1.stk,c1.free,c1.depth,true,⟨nm.1.toArray⟩,⟨nm.2.toArray⟩,rfl⟩,Au,gH.out.sub,?_⟩
   ·simp only [oY] at LS
    subst LS
    exact ⟨rfl,rfl⟩
   ·rw [HS.out];simp only [List.length_cons];omega
noncomputable def hX (n:Nat):Code:=((Tryz.f13.body).bind (Code.partAt n)).getD .skip
def pQ (a:eI) (p:List mQ×(Bs→Option Bs)):List mQ×(Bs→Option Bs):=
 if a.1=kH then ({ kind:=1,space:=(p.2 a.2.1).getD [],loc:=a.2.1,ok:=(p.2 a.2.1).isSome }::p.1,kL p.2 a.2.1 (some a.2.2))
 else if a.1=[]∧a.2.1=kH then ({ kind:=1,space:=(p.2 []).getD [],loc:=[],ok:=(p.2 []).isSome }::p.1,kL p.2 [] (some a.2.2))
 else p
theorem xA (a:eI) (l:List eI) (stk:List mQ) (ns:Bs→Option Bs):f0 (a::l) stk ns=f0 l (pQ a (stk,ns)).1 (pQ a (stk,ns)).2:=by
 obtain ⟨sp,loc,v⟩:=a
 conv=>lhs;unfold f0
 unfold pQ
 simp only
 by_cases h1:sp=kH
 ·have Hr:sp=f9:=h1
  have h2:¬ (sp=[]∧loc=f9):=by rintro ⟨h,_⟩;rw [h1] at h;cases h
  simp only [if_pos Hr,if_neg h2,if_pos h1]
 ·have Hr:¬ sp=f9:=h1
  by_cases h2:sp=[]∧loc=kH
  ·have Rv:sp=[]∧loc=f9:=h2
   simp only [if_neg Hr,if_pos Rv,if_neg h1,if_pos h2]
  ·have Rv:¬ (sp=[]∧loc=f9):=h2
   simp only [if_neg Hr,if_neg Rv,if_neg h1,if_neg h2]
theorem DY (a:eI):∀ (l:List eI) (stk:List mQ) (ns:Bs→Option Bs),f0 (l++[a]) stk ns=pQ a (f0 l stk ns)
 | [],stk,ns=>by rw [List.nil_append,xA];rfl
 | b::l,stk,ns=>by
  rw [List.cons_append,xA,DY a l,←xA]
def vZ (ns:Bs→Option Bs):Prop:=∀ k u,ns k=some u→u.length≤100000000000
theorem vZ.set {ns:Bs→Option Bs} (h:vZ ns) (k v:Bs) (hv:v.length≤100000000000):vZ (kL ns k (some v)):=by
 intro k' u hu
 unfold kL at hu
 split at hu
 ·simp only [oY] at hu;rw [←hu];exact hv
 ·exact h k' u hu
theorem vZ.get {ns:Bs→Option Bs} (h:vZ ns) (k:Bs):((ns k).getD []).length≤100000000000:=by
 cases hk:ns k with
 | none=>simp
 | some u=>exact h k u hk
theorem Aw {N:Nat} {a:eI} (ha:FQ 1000000000 a) {p:List mQ×(Bs→Option Bs)} (hs:lS p.1) (hn:vZ p.2):lS (pQ a p).1∧vZ (pQ a p).2∧(pQ a p).1.length≤p.1.length+1:=by
 obtain ⟨h1,h2,h3⟩:=ha
 unfold pQ
 split
 ·refine ⟨fun e he=>?_,hn.set _ _ (by omega),by simp⟩
  rcases List.mem_cons.1 he with rfl|he
  ·exact ⟨Or.inr rfl,by have:=hn.get a.2.1;simp only;omega,by simp only;omega⟩
  ·exact hs e he
 ·split
  ·refine ⟨fun e he=>?_,hn.set _ _ (by omega),by simp⟩
   rcases List.mem_cons.1 he with rfl|he
   ·exact ⟨Or.inr rfl,by have:=hn.get [];simp only;omega,by simp⟩
   ·exact hs e he
  ·exact ⟨hs,hn,by omega⟩
theorem dP.more {x:Cx} {c:DC} {w:World} {v:DV} {m:Nat} {sb fb:List Nat} {c':DC} {w' w'':World} {sb' fb':List Nat} {S:Nat→Prop} (h:dP x c w v m sb fb c' w' sb' fb') (hm:aK S w' w'') (hS:∀ k,S k→k∈m::(sb'++fb')∧k≠x.d):dP x c w v m sb fb c' w'' sb' fb':=by
 refine ⟨aJ.mod h.dec hm (fun hh=>(hS _ hh).2 rfl),h.cs,h.mod.trans hm (fun i hi hs=>?_),h.sub⟩
 rcases h.sub i (hS i hs).1 with h9|h9
 ·exact Or.inr h9
 ·omega
theorem nX.drewN {x:Cx} {w:World} {c:DC} {v:DV} {m:Nat} {sb fb:List Nat} {n:Nat} {stk:List mQ} {ns:Bs→Option Bs} (h:nX x w c v m sb fb n stk ns) (k:Nat):nX x (w.drewN k) c v m sb fb n stk ns:=h.mod ((aK.refl (fun _=>False) w).drewN k) (fun _ _=>id) h.s1
theorem yD {cur:Array Value} {ats:List eI} (h:cur.toList.take (ats.length*3)=aN ats) {i:Nat} {a:eI} (ha:ats[i]?=some a):cur[i*3]?=some (aB a.1)∧cur[i*3+1]?=some (aB a.2.1)∧cur[i*3+2]?=some (aB a.2.2):=by
 have hi:=(List.getElem?_eq_some_iff.1 ha).1
 have key:∀ (l:List eI) (i:Nat) (a:eI),l[i]?=some a→(aN l)[i*3]?=some (aB a.1)∧(aN l)[i*3+1]?=some (aB a.2.1)∧(aN l)[i*3+2]?=some (aB a.2.2):=by
  intro l
  induction l with
  | nil=>intro i a h;simp at h
  | cons b l ih=>
   intro i a h
   have e:aN (b::l)=[aB b.1,aB b.2.1,aB b.2.2]++aN l:=rfl
   cases i with
   | zero=>
    simp only [List.getElem?_cons_zero,oY] at h
    subst h
    rw [e];exact ⟨rfl,rfl,rfl⟩
   | succ i=>
    simp only [List.getElem?_cons_succ] at h
    obtain ⟨h1,h2,h3⟩:=ih i a h
    rw [e]
    refine ⟨?_,?_,?_⟩
    ·rw [List.getElem?_append_right (by simp;omega)];simpa [Nat.succ_mul] using h1
    ·rw [List.getElem?_append_right (by simp;omega)];simpa [Nat.succ_mul] using h2
    ·rw [List.getElem?_append_right (by simp;omega)];simpa [Nat.succ_mul] using h3
 obtain ⟨k1,k2,k3⟩:=key ats i a ha
 rw [←h] at k1 k2 k3
 rw [List.getElem?_take,if_pos (by omega),Array.getElem?_toList] at k1
 rw [List.getElem?_take,if_pos (by omega),Array.getElem?_toList] at k2
 rw [List.getElem?_take,if_pos (by omega),Array.getElem?_toList] at k3
 exact ⟨k1,k2,k3⟩
def a1K (x:Cx) (c0:DC) (w0:World) (v:DV) (m:Nat) (sb0 fb0:List Nat) (n0:Nat) (stk0:List mQ) (ns0:Bs→Option Bs) (t8:Nat) (sv:Value) (ats:List eI) (k:Nat) (a:Act) (w:World):Prop:=
 ∃ f c sb fb n i,a=fr 204 f [(0,bS x),(5,.nilIface),(8,.pointer (some ⟨t8,0,none⟩)),(101,sv),(102,.int .i64 ats.length),(103,.int .i64 (i:Nat))]∧dP x c0 w0 v m sb0 fb0 c w sb fb ∧
  nX x w c v m sb fb n (f0 (ats.take i) stk0 ns0).1 (f0 (ats.take i) stk0 ns0).2∧k=ats.length-i∧i≤ats.length∧n+(f0 (ats.take i) stk0 ns0).1.length≤n0+stk0.length+2*i∧lS (f0 (ats.take i) stk0 ns0).1∧vZ (f0 (ats.take i) stk0 ns0).2
theorem Tt (x:Cx) (hx:x.Ok) (c0:DC) (w0:World) (v:DV) (hd:bO w0 x.d c0 v) (jV:∀ k,x.S1 v k→k<w0.heap.size) (hB:x.B≤w0.heap.size) (m:Nat) (sb0 fb0:List Nat) (n0:Nat) (stk0:List mQ) (ns0:Bs→Option Bs) (h:nX x w0 c0 v m sb0 fb0 n0 stk0 ns0) (pB:lS stk0) (sM:vZ ns0)
  (ats:List eI) (JS:∀ a∈ats,FQ 1000000000 a) (bF:ats.length≤1000000000) (hn:n0+stk0.length≤10000000000) (t8 g cap:Nat) (cur:Array Value) (hg:aJ w0 g cur 99) (kD:cur.toList.take (ats.length*3)=aN ats) (hgn:g≠x.d∧g∉m::(sb0++fb0)) (Q:Exit→Act→World→Prop)
  (hQ:∀ f c w sb fb n,dP x c0 w0 v m sb0 fb0 c w sb fb→nX x w c v m sb fb n (f0 ats stk0 ns0).1 (f0 ats stk0 ns0).2→n+(f0 ats stk0 ns0).1.length≤n0+stk0.length+2*ats.length→lS (f0 ats stk0 ns0).1→vZ (f0 ats stk0 ns0).2→Q .normal (fr 204 f [(0,bS x),(5,.nilIface),(8,.pointer (some ⟨t8,0,none⟩))]) w) (f:Nat→Value) (c1:Code) (u7:c1=.loop (hX 23)) :
  c1.wp prog (Exit.inBlock 1 Q) (fr 204 f [(0,bS x),(5,.nilIface),(8,.pointer (some ⟨t8,0,none⟩)),(101,.slice (some ⟨g,0,none⟩) ats.length cap),(102,.int .i64 ats.length),(103,.int .i64 0)]) w0:=by
 subst u7
 have HX:=Lh hx
 have HQ:=Lh hQ
 have HN:=Lh hn
 have Ax:=Lh JS
 have cL:=Lh bF
 have HG:=Lh hg
 have JT:=Lh kD
 have Ol:=Lh hgn
 have iS:=Lh jV
 have HB:=Lh hB
 refine wp_loop_ghost_k (a1K x c0 w0 v m sb0 fb0 n0 stk0 ns0 t8 (.slice (some ⟨g,0,none⟩) ats.length cap) ats) ats.length ⟨f,c0,sb0,fb0,n0,0,rfl,dP.refl hd m sb0 fb0,h,by simp,Nat.zero_le _,by simp [f0],pB,sM⟩ ?_
 clear h pB hd hx hQ hn sM JS bF hg kD hgn jV hB
 rintro k _ w ⟨f,c,sb,fb,n,i,rfl,hs,ho,hk,hi,o4,pB,sM⟩ J K2 hJ cY
 have HJ:=Lh hJ
 have dN:=Lh cY
 have HS:=Lh hs
 have HO:=Lh ho
 have HK:=Lh hk
 have nC:=Lh o4
 have DL:=Lh pB
 have W8:=Lh sM
 clear hJ cY hs hk o4 pB sM ho
 unfold hX
 conv=>arg 2;whnf
 by_cases bB:i<ats.length
 ·have h1:(i:Int)<(ats.length:Int):=by omega
  have h0:(0:Int)≤(i:Int):=by omega
  have qF:IntKind.i64.wrap ((i:Int)+1)=((i+1:Nat):Int):=by rw [IntKind.wrap_i64];have:=cL.out;omega
  obtain ⟨a,ha⟩:∃ a,ats[i]?=some a:=⟨ats[i],by simp [bB]⟩
  obtain ⟨k1,k2,k3⟩:=yD JT.out ha
  have E7:aJ w g cur 99:=HG.out.mod HS.out.mod (fun hh=>by
   rcases hh with hh|hh
   ·exact Ol.out.1 hh
   ·exact Ol.out.2 hh)
  have z7:w.cell? ⟨g,i*3,none⟩=some (aB a.1):=(E7.cell _).trans k1
  have z8:w.cell? ⟨g,i*3+1,none⟩=some (aB a.2.1):=(E7.cell _).trans k2
  have JU:w.cell? ⟨g,i*3+2,none⟩=some (aB a.2.2):=(E7.cell _).trans k3
  have uM:ats.take (i+1)=ats.take i++[a]:=by
   rw [List.take_succ,ha];rfl
  have pA:=DY a (ats.take i) stk0 ns0
  rw [←uM] at pA
  have Tu:=Ax.out a (List.mem_of_getElem? ha)
  obtain ⟨b1,b2,b3⟩:=Aw (N:=0) Tu DL.out W8.out
  rw [←pA] at b1 b2 b3
  have SX:=Lh pA
  have fV:=Lh b1
  have nK:=Lh b2
  have lJ:=Lh b3
  have Jn:=Lh Tu
  obtain ⟨stk,vY⟩:∃ stk,stk=(f0 (ats.take i) stk0 ns0).1:=⟨_,rfl⟩
  obtain ⟨ns,a1L⟩:∃ ns,ns=(f0 (ats.take i) stk0 ns0).2:=⟨_,rfl⟩
  rw [show f0 (ats.take i) stk0 ns0=(stk,ns) from by rw [vY,a1L]] at SX HO nC DL W8 lJ
  simp only at SX HO nC DL W8 lJ
  clear b1 b2 b3 pA uM k1 k2 k3 ha vY a1L Tu E7
  obtain ⟨sp,loc,val⟩:=a
  simp only at z7 z8 JU
  obtain ⟨wa,jY⟩:∃ wa,wa=w.alloc (.cells #[aB sp,aB loc,aB val] 99):=⟨_,rfl⟩
  have iE:aK (fun _=>False) w wa:=by rw [jY];exact aH ((Below.refl _ w).alloc (Nat.le_refl _) _) _
  have k8:aJ wa w.heap.size #[aB sp,aB loc,aB val] 99:=by rw [jY];exact aJ.new w _ _
  have hoa:nX x wa c v m sb fb n stk ns:=HO.out.mod iE (fun _ _=>id) HO.out.s1
  have Om:=HS.out.more iE (fun _ h=>h.elim)
  have gE:w.heap.size+1=wa.heap.size:=by rw [jY];exact (Array.size_push _).symm
  have s7:=Lh k8
  have HOA:=Lh hoa
  have Tv:=Lh Om
  have X7:=Om.dec
  have hc:=X7.cell
  have hf:=X7.frozen
  have wG:=k8.cell
  have FJ:=k8.frozen
  have Ym:=hoa.map
  obtain ⟨d1,d2,d3,d4,d5,d6,d7,d8,d9,d10,d11,d12,d13⟩:=c
  simp only at Ym
  subst Ym
  clear k8 hoa Om iE
  by_cases e1:sp=kH
  ·subst e1
   (refine vg ?_;(repeat with_reducible intro K hK))
   rw [show w.alloc (.cells #[.string ⟨List.toArray kH⟩,.string ⟨List.toArray loc⟩,.string ⟨List.toArray val⟩] 99)=wa from jY.symm]
   clear jY z7 z8 JU
   have M4:=fun k=>(HOA.out.ns.drewN k).look loc (by have:=Jn.out.2.1;unfold maxLen;simp only at this;omega)
   (refine cJ [0,5,8,10,101,102,103] fun f=>?_)
   go_quiet (fail)
   have LN:=Lh (M2 x HX.out _ (wa.drewN nq) v (show bO (wa.drewN nq) x.d _ v from X7) (fun k hk=>Nat.lt_of_lt_of_le (iS.out k hk) Tv.out.mod.size) (Nat.le_trans HB.out Tv.out.mod.size) m sb fb n stk ns (HOA.out.drewN nq) loc ((ns loc).getD []) (ns loc).isSome)
   clear M4
   ((repeat revert K);refine vg ?_;(repeat with_reducible intro K hK))
   refine LN.out.mono ?_
   rintro e1 w1 ⟨rfl,c1,sb1,fb1,jV,BV⟩
   have OT:w.heap.size≠x.d∧w.heap.size∉m::(sb++fb):=⟨fun e=>by have:=iS.out x.d (Or.inl (Or.inl rfl));have h9:=HS.out.mod.size;omega,fun hh=>Nat.lt_irrefl _ (HO.out.lt _ hh)⟩
   have bP:=(show aJ (wa.drewN nq) w.heap.size _ _ from s7.out).mod jV.mod (fun hh=>by rcases hh with hh|hh;exact OT.1 hh;exact OT.2 hh)
   have Ay:=BV.map
   have CB:=Lh BV
   have HSB:=Lh ((Tv.out.more (S:=fun _=>False) ((aK.refl _ wa).drewN nq) (fun _ h=>h.elim)).trans jV)
   obtain ⟨p1,p2,p3,p4,p5,p6,p7,p8,p9,p10,p11,p12,p13⟩:=c1
   simp only at Ay
   subst Ay
   have u7:=jV.dec.cell
   have KM:=jV.dec.frozen
   have nU:=bP.cell
   have QP:=Lh bP
   have s6:=bP.frozen
   clear LN jV BV bP hc hf wG FJ X7
   ((repeat revert K);refine vS ?_;(repeat with_reducible intro K hK))
   (refine cJ [0,5,8,10,101,102,103] fun f=>?_)
   (refine aI [0,0,0,1,0,0,1,0,1,2] [0,1,2,3,4,5,6,7,8,9] (by kernel_rfl) (by kernel_rfl) ?_;refine vP ?_;repeat with_reducible intro nq)
   refine bK rfl rfl (fun nq2 K hK=>?_)
   obtain ⟨w2,wD,gK,JH⟩:=(CB.out.ns.drewN nq2).store (by have h9:n+stk.length≤n0+stk0.length+2*i:=nC.out;have:=HN.out;have:=cL.out;unfold maxLen;omega) loc val (by have:=Jn.out.2.1;unfold maxLen;simp only at this;omega) (by have:=Jn.out.2.2;unfold maxLen;simp only at this;omega)
   have dJ:=(show aJ (w1.drewN nq2) w.heap.size _ _ from QP.out).mod (mL JH) (fun hh=>OT.2 (by rw [hh];exact List.mem_cons_self))
   have a4H:=dJ.cell
   have a4I:=dJ.frozen
   have mH:=Lh gK
   have DW:=Lh JH
   clear gK JH dJ nU s6
   go_simp
   refine hK.out _ _ ?_
   clear hK K
   (refine vP ?_;repeat with_reducible intro nq)
   (try ((repeat revert K);refine vg ?_))
   have iA:aK (fun k=>k=m) w1 (w2.drewN nq):=((show aK (fun k=>k=m) w1 (w1.drewN _) from (aK.refl _ w1).drewN _).trans (mL DW.out) (fun _ _ h=>h)).drewN nq
   have Fl:=CB.out.turned iA (mH.out.drewN nq)
   have Fm:=HSB.out.more iA (fun k hk=>by subst hk;exact ⟨List.mem_cons_self,fun e=>CB.out.s1 _ List.mem_cons_self (Or.inl (Or.inl e))⟩)
   (refine Kk [0,5,8,101,102,103] fun f=>?_)
   refine dN.out _ _ ⟨ats.length-(i+1),by rw [HK.out];omega,HJ.out _ _ _ ⟨f,_,sb1,fb1,n+1,i+1,rfl,Fm,?_,rfl,bB,?_,fV.out,nK.out⟩⟩
   ·rw [SX.out,show pQ (kH,loc,val) (stk,ns)=({ kind:=1,space:=(ns loc).getD [],loc:=loc,ok:=(ns loc).isSome }::stk,kL ns loc (some val)) from rfl];exact Fl
   ·have h9:n+stk.length≤n0+stk0.length+2*i:=nC.out
    rw [SX.out,show pQ (kH,loc,val) (stk,ns)=({ kind:=1,space:=(ns loc).getD [],loc:=loc,ok:=(ns loc).isSome }::stk,kL ns loc (some val)) from rfl]
    simp only [List.length_cons]
    omega
  ·obtain ⟨a1,a2⟩:=vX e1
   by_cases e2:sp=[]∧loc=kH
   ·obtain ⟨rfl,rfl⟩:=e2
    have M4:=HOA.out.ns.look [] (by simp)
    (refine vT 30 ?_;intro K hK)
    rw [show w.alloc (.cells #[.string ⟨#[]⟩,.string ⟨List.toArray kH⟩,.string ⟨List.toArray val⟩] 99)=wa from jY.symm]
    clear jY z7 z8 JU
    have LN:=Lh (M2 x HX.out _ wa v (show bO wa x.d _ v from X7) (fun k hk=>Nat.lt_of_lt_of_le (iS.out k hk) Tv.out.mod.size) (Nat.le_trans HB.out Tv.out.mod.size) m sb fb n stk ns (HOA.out) [] ((ns []).getD []) (ns []).isSome)
    (revert K;refine vg ?_;(repeat with_reducible intro K hK))
    refine LN.out.mono ?_
    rintro e1 w1 ⟨rfl,c1,sb1,fb1,jV,BV⟩
    have OT:w.heap.size≠x.d∧w.heap.size∉m::(sb++fb):=⟨fun e=>by have:=iS.out x.d (Or.inl (Or.inl rfl));have h9:=HS.out.mod.size;omega,fun hh=>Nat.lt_irrefl _ (HO.out.lt _ hh)⟩
    have bP:=(show aJ wa w.heap.size _ _ from s7.out).mod jV.mod (fun hh=>by rcases hh with hh|hh;exact OT.1 hh;exact OT.2 hh)
    have Ay:=BV.map
    have CB:=Lh BV
    have HSB:=Lh ((Tv.out).trans jV)
    obtain ⟨p1,p2,p3,p4,p5,p6,p7,p8,p9,p10,p11,p12,p13⟩:=c1
    simp only at Ay
    subst Ay
    have u7:=jV.dec.cell
    have KM:=jV.dec.frozen
    have nU:=bP.cell
    have QP:=Lh bP
    have s6:=bP.frozen
    clear LN jV BV bP hc hf wG FJ X7
    ((repeat revert K);refine vS ?_;intro K hK)
    (refine cJ [0,5,8,10,101,102,103] fun f=>?_)
    (refine aI [0,0,0,1,0,1,2] [0,1,2,3,4,5,6] (by kernel_rfl) (by kernel_rfl) ?_;refine vP ?_;repeat with_reducible intro nq)
    refine bK rfl rfl (fun nq2 K hK=>?_)
    obtain ⟨w2,wD,gK,JH⟩:=(CB.out.ns.drewN nq2).store (by have h9:n+stk.length≤n0+stk0.length+2*i:=nC.out;have:=HN.out;have:=cL.out;unfold maxLen;omega) [] val (by simp) (by have:=Jn.out.2.2;unfold maxLen;simp only at this;omega)
    have dJ:=(show aJ (w1.drewN nq2) w.heap.size _ _ from QP.out).mod (mL JH) (fun hh=>OT.2 (by rw [hh];exact List.mem_cons_self))
    have a4H:=dJ.cell
    have a4I:=dJ.frozen
    have mH:=Lh gK
    have DW:=Lh JH
    clear gK JH dJ nU s6
    go_simp
    refine hK.out _ _ ?_
    clear hK K
    (refine vP ?_;repeat with_reducible intro nq)
    (try (revert K;refine vg ?_))
    have iA:aK (fun k=>k=m) w1 (w2.drewN nq):=((show aK (fun k=>k=m) w1 (w1.drewN _) from (aK.refl _ w1).drewN _).trans (mL DW.out) (fun _ _ h=>h)).drewN nq
    have Fl:=CB.out.turned iA (mH.out.drewN nq)
    have Fm:=HSB.out.more iA (fun k hk=>by subst hk;exact ⟨List.mem_cons_self,fun e=>CB.out.s1 _ List.mem_cons_self (Or.inl (Or.inl e))⟩)
    (refine Kk [0,5,8,101,102,103] fun f=>?_)
    refine dN.out _ _ ⟨ats.length-(i+1),by rw [HK.out];omega,HJ.out _ _ _ ⟨f,_,sb1,fb1,n+1,i+1,rfl,Fm,?_,rfl,bB,?_,fV.out,nK.out⟩⟩
    ·rw [SX.out,show pQ ([],kH,val) (stk,ns)=({ kind:=1,space:=(ns []).getD [],loc:=[],ok:=(ns []).isSome }::stk,kL ns [] (some val)) from rfl];exact Fl
    ·have h9:n+stk.length≤n0+stk0.length+2*i:=nC.out
     rw [SX.out,show pQ ([],kH,val) (stk,ns)=({ kind:=1,space:=(ns []).getD [],loc:=[],ok:=(ns []).isSome }::stk,kL ns [] (some val)) from rfl]
     simp only [List.length_cons]
     omega
   ·have hZ:(sp==[])=false∨((sp==[])=true∧(loc==kH)=false):=by
     by_cases h3:sp=[]
     ·refine Or.inr ⟨by rw [h3];rfl,(vX (fun h4=>e2 ⟨h3,h4⟩)).1⟩
     ·exact Or.inl (vX h3).1
    have e9:pQ (sp,loc,val) (stk,ns)=(stk,ns):=by
     unfold pQ
     rw [if_neg e1,if_neg e2]
    have E9:=Lh e9
    clear e9 e2 e1
    rcases hZ with hZ|⟨hZ,rU⟩
    all_goals
     refine vg ?_
     rw [show w.alloc (.cells #[.string ⟨List.toArray sp⟩,.string ⟨List.toArray loc⟩,.string ⟨List.toArray val⟩] 99)=wa from jY.symm]
     (refine Kk [0,5,8,101,102,103] fun f=>?_)
     refine dN.out _ _ ⟨ats.length-(i+1),by rw [HK.out];omega,HJ.out _ _ _ ⟨f,_,sb,fb,n,i+1,rfl,Tv.out,?_,rfl,bB,?_,fV.out,nK.out⟩⟩
     ·rw [SX.out,E9.out];exact HOA.out
     ·have h9:n+stk.length≤n0+stk0.length+2*i:=nC.out
      rw [SX.out,E9.out]
      simp only
      omega
 ·have sX:i=ats.length:=by omega
  subst sX
  have h1:¬ ((ats.length:Int)<(ats.length:Int)):=by omega
  (refine vg ?_;intro K hK)
  refine Qk [0,5,8] fun f=>?_
  have h2:=HO.out
  have h3:=nC.out
  have h4:=DL.out
  have h5:=W8.out
  rw [List.take_length] at h2 h3 h4 h5
  exact HQ.out f c w sb fb n HS.out h2 h3 h4 h5
end Go.Proofs.YtdjdjbpnbjdaaaaGreatDoor
