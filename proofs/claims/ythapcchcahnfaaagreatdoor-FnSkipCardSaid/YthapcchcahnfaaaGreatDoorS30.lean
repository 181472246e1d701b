/- Part of the proof that laws.FnSkip returns true for every argument. No conditions. -/
import Derived.Test.YthapcchcahnfaaaGreatDoorS28
import Derived.Test.YthapcchcahnfaaaGreatDoorS13
import Derived.Test.YthapcchcahnfaaaGreatDoorS26
import Derived.Test.YthapcchcahnfaaaGreatDoorS23
import Derived.Test.YthapcchcahnfaaaGreatDoorS29
set_option linter.all false
set_option maxHeartbeats 8000000
set_option maxRecDepth 100000
namespace Go.Proofs.YthapcchcahnfaaaGreatDoor
open Go Go.RowKit Go.Proofs.Tryz
def qG (c a:DC):Prop:=∃ p q d b e f,a={ c with stk:=p,free:=q,depth:=d,needClose:=b,tcs:=e,tcl:=f }
theorem qG.trans {a b c:DC} (h:qG a b) (k:qG b c):qG a c:=by
 obtain ⟨_,_,_,_,_,_,rfl⟩:=h;obtain ⟨p,q,d,b,e,f,rfl⟩:=k;exact ⟨p,q,d,b,e,f,rfl⟩
theorem qE.toD {c a:DC} (h:qE c a):qG c a:=by
 obtain ⟨b,p,q,rfl⟩:=h;exact ⟨c.stk,c.free,c.depth,b,p,q,rfl⟩
theorem dR.same {x:Cx} {c:DC} {w:World} {v:DV} {m:Nat} {g f:List Nat} {d:DC} {w':World} {b a:List Nat} (h:dR x c w v m g f d w' b a):qG c d:=by
 obtain ⟨p,q,e,rfl⟩:=h.cs;exact ⟨p,q,e,c.needClose,c.tcs,c.tcl,rfl⟩
theorem cA.own {x:Cx} (g:x.Ok) {c m:DC} {w w':World} {v:DV} {rest:Bs} {e:Option EK} {d:Bs} (h:cA x c w v rest e d) (o:bR w' x.d m v) {S:Nat→Prop} (i:aJ S w w') (n:∀ k,S k→k=x.d∨(¬ x.S1 v k∧x.B≤k)):cA x m w' v rest e d:=by
 obtain ⟨r,l,q⟩:=h.inp;have f:∀ k,x.S1 v k→k≠x.d→¬ S k:=fun k b j p=>by
  rcases n k p with a|a
  ·exact j a
  ·exact a.1 b
 exact ⟨aJ.below h.base h.base.size i (fun k b=>by rcases n k b with a|a;exact a▸g.d;exact a.2),o,
  ⟨r,l.mod i (f _ (aG (aU (aG rfl))) (fun e=>g.ne1 e.symm)) (f _ (aG (aU (aU (aG rfl)))) (fun e=>g.ne2 e.symm)) (f _ (aG (aU (aU (aU rfl)))) (fun e=>g.ne3 e.symm)),q⟩,
  h.pos,h.err,h.fin,h.bf.mod i (fun k b=>f k (aU b) (fun e=>h.bf.notS0 k b (aG e)))⟩
theorem NZ.drewN {x:Cx} {c:DC} {w:World} {v:DV} {w':World} {a:Addr} (h:NZ x c w v w' a) (k:Nat):NZ x c w v (w'.drewN k) a:=
 ⟨h.dec,show iQ x c ((w'.setCell ⟨x.d,20,none⟩ (vZ a)).drewN k) { v with err:=vZ a } .syn from h.err.drewN k,show cN x w v ((w'.setCell ⟨x.d,20,none⟩ (vZ a)).drewN k) { v with err:=vZ a } from h.stp.drawn k⟩
theorem x1 {x:Cx} {v:DV} {m:Nat} {d c:List Nat} {f:Nat} {w e w':World} (h:aJ (fun b=>b=x.d∨b∈m::(d++c)) w e) (k:aJ (x.S1 v) e w'):aJ (fun b=>x.S1 v b∨b∈m::(d++c)∨b=f) w w':=
 (h.mono (fun i _ a=>by
  rcases a with a|a
  ·exact aG (aG (aG a))
  ·exact aU (aG a))).trans (k.mono (fun _ _ a=>aG a)) (fun _ _ a=>a)
def gJ (x:Cx) (c:DC) (w:World) (v:DV) (s:St) (nm:Bs×Bs) (m:Nat) (h g:List Nat) (n:Nat) (i:Nat) (j:Ending) (w':World):Prop:=
 match lG x.o nm s with
 | .error k=>j=.returned (.bool false)∧∃ d v',iQ x d w' v' k∧aJ (fun b=>x.S1 v b∨b∈m::(h++g)∨b=i) w w'
 | .ok (tk,s')=>∃ a,tk=.fin a∧j=.returned (.bool true)∧∃ d f e l,B5 x d w' v s'∧mC x w' d v m f e l s'.stk s'.ns∧aL w' i #[aB a.1,aB a.2] 110∧qG c d ∧
   aJ (fun b=>b=x.d∨b∈m::(h++g)∨b=i) w w'∧(∀ b∈m::(f++e),b∈m::(h++g)∨w.heap.size≤b)∧l+s'.stk.length≤n+s.stk.length
structure OR (x:Cx) (c:DC) (w:World) (v:DV) (s:St) (m:Nat) (g f:List Nat) (n:Nat) (d:Nat) (nm:Bs×Bs):Prop where
 fit:(s.ended=false∧∃ b,cA x c w v s.rest none b)∨∃ e a,s.stk=e::a∧e.kind=0∧nm=(e.space,e.loc)
 strict:c.strict=x.o.strict
 rts:B5 x c w v s
 own:mC x w c v m g f n s.stk s.ns
 sok:kN s.stk
 bnd:n+s.stk.length≤100000000000
 sp:c.space=⟨x.o.space.toArray⟩
 tok:aL w d #[aB nm.1,aB nm.2] 110
 tS:¬ x.S1 v d
 tO:d∉m::(g++f)
 tB:x.B≤d
 l1:nm.1.length≤100000000000
 l2:nm.2.length≤100000000000
theorem OS (x:Cx) (y:x.All) (c:DC) (w:World) (v:DV) (s:St) (m:Nat) (z u:List Nat) (n:Nat) (q:Nat) (nm:Bs×Bs) (h:OR x c w v s m z u n q nm) (o:s.stk=[]) :
  Calls prog 41 #[bT x,.pointer (some ⟨q,0,none⟩)] w fun C w'=>gJ x c w v s nm m z u n q C w':=by
 obtain ⟨M,b0,i,_,_⟩:=h.rts.rd;have a:c.stk=.pointer none:=by
  have:=h.own.stk;rw [o] at this;rcases this.ptr with ⟨g,_⟩|⟨_,_,_,_,_,_,g⟩
  ·exact g
  ·cases g
 have b:=Lh (SI x c w v i.dec a);have k:=h.tok.cell;have l:=h.tok.frozen;have ⟨B,t⟩:=cB i y;have A:=Lh (show lG x.o nm s=.error .syn by unfold lG;rw [o]);have F:=h.l2;have G:¬ 9223372036854775807<25+nm.2.length:=by omega
 have H:¬ 9223372036854775807<25+nm.2.length+1:=by omega
 have I:¬ 9223372036854775807<25+(nm.2.length+1):=by omega
 have J:=Lh h.tok;clear i y h F o a;refine eL 179 func41 [_,_] fun f=>?_;simp only [aF];refine vg ?_;intro K hK K hK;refine b.o.mono ?_;rintro N w1 ⟨rfl,rfl⟩;clear b;have j:Below w1.heap.size w1 (w1.alloc (.cells #[aB nm.1,aB nm.2] 89)):=(Below.refl _ w1).alloc (dF _) _;(repeat revert K);refine vS ?_;intro K hK K hK K hK;have e:=Lh (fun p=>gH t.o.toOk (B.o.below t.o.toOk j) p);refine (e.o _).mono ?_;rintro O P ⟨L,rfl,d⟩;have D:=d.dec.cell;have E:=d.dec.frozen;have r:=Lh d;clear d k l;(repeat revert K);refine vS ?_;intro K hK;refine cM ?_;unfold gJ;rw [A.o];exact ⟨rfl,c,_,r.o.err,x1 (aH ((Below.refl _ w1).alloc (dF _) _) _) r.o.stp.mod⟩
theorem SJ (x:Cx) (hx:x.All) (c:DC) (w:World) (v:DV) (s:St) (m:Nat) (sb r:List Nat) (n:Nat) (F:Nat) (nm:Bs×Bs) (h:OR x c w v s m sb r n F nm) (e:iH) (g:List iH) (hs:s.stk=e::g) (d:e.kind=1) :
  Calls prog 41 #[bT x,.pointer (some ⟨F,0,none⟩)] w fun en w'=>gJ x c w v s nm m sb r n F en w':=by
 obtain ⟨e0,b0,S,_,_⟩:=h.rts.rd;have j:=h.own;rw [hs] at j;obtain ⟨q,G,l',a,t,R,H⟩:∃ q G l' a,c.stk=.pointer (some ⟨q,0,none⟩)∧sb=q::a∧e::g=G::l':=by
  rcases j.stk.ptr with ⟨_,_,t⟩|⟨q,G,l',a,t,R,H⟩
  ·cases t
  ·exact ⟨q,G,l',a,t,R,H⟩
 obtain ⟨rfl,rfl⟩:=List.cons.inj H;subst R;obtain ⟨fl,C⟩:=j.free;have E:(m::((q::a)++r)).Nodup:=j.nodup;have l:=Lh (ON x c w v S.dec q e (aU d) g a j.stk fl r C (fun b hb B=>j.s1 b (List.mem_cons_of_mem _ hb) (aG (aG B))) (List.nodup_cons.1 E).2);have HP:=Lh (show lG x.o nm s=.error .syn by unfold lG;rw [hs];simp only;rw [aY (by rw [d];decide)]);have hl:=h.l2;have a1:¬ 9223372036854775807<25+nm.2.length:=by omega
 have a2:¬ 9223372036854775807<25+nm.2.length+1:=by omega
 have HT:=Lh h.tok;have ⟨HR,Q,L⟩:=kV S hx j;have O:=Lh h.tO;have P:=Lh h.tS;have J:=Lh d;clear S hx h hl hs H C E j d t;refine eL 179 func41 [_,_] fun f=>?_;simp only [aF];refine vg ?_;intro K hK K hK;refine l.o.mono ?_;rintro e1 w1 ⟨rfl,Z⟩;obtain ⟨c1,i,Y,a3,D,a4,z,W⟩:=L.o.popped Z;have M:=Lh i.mod;have X:¬ (F=x.d∨F=q):=by
  rintro (B|B)
  ·exact P.o (aG (aG B))
  ·exact O.o (by simp [B])
 have p:=HT.o.mod Z.mod X;have T:=p.cell;have V:=p.frozen;have u:=HR.o.own Q.o.toOk i.dec i.mod (fun k d=>by
  rcases d with d|d
  ·exact aG d
  ·exact aU ⟨L.o.s1 k d,L.o.base k d⟩)
 have y:Below w1.heap.size w1 (w1.alloc (.cells #[aB nm.1,aB nm.2] 89)):=(Below.refl _ w1).alloc (dF _) _;have o:=z.alloc (.cells #[aB nm.1,aB nm.2] 89);have A:=o.cell;have U:=o.frozen;rw [J.o] at A;have N:=Lh (fun aA=>gH Q.o.toOk (u.below Q.o.toOk y) aA);clear Z i Y z W l D p u y o;(repeat revert K);refine vS ?_;intro K hK K hK K hK;refine (N.o _).mono ?_;rintro e3 w3 ⟨a9,rfl,I⟩;have aC:=I.dec.cell;have a0:=I.dec.frozen;have HS:=Lh I;clear I T V A U;(repeat revert K);refine vS ?_;intro K hK;refine cM ?_;unfold gJ;rw [HP.o];exact ⟨rfl,c1,_,HS.o.err,x1 (M.o.trans (aH ((Below.refl _ w1).alloc (dF _) _) (fun b=>b=x.d∨b∈m::((q::a)++r))) (fun _ _ h=>h)) HS.o.stp.mod⟩
structure At (x:Cx) (c:DC) (w:World) (v:DV) (s:St) (m q:Nat) (a g:List Nat) (n:Nat) (j:Nat) (nm:Bs×Bs) (e:iH) (d:List iH) (f:DC) (w1:World) (i:Value) (ok:Bool) (h:Option EK):Prop where
 st:dR x c w v m (q::a) g f w1 a (q::g)
 own:mC x w1 f v m a (q::g) n d s.ns
 blk:aL w1 q (jA i 0 e.space e.loc ok) 95
 rd:∃ b,cA x f w1 v s.rest h b
 tok:aL w1 j #[aB nm.1,aB nm.2] 110
theorem LB (x:Cx) (hx:x.All) (c:DC) (w:World) (v:DV) (s:St) (m:Nat) (sb A:List Nat) (n:Nat) (j:Nat) (nm:Bs×Bs) (h:OR x c w v s m sb A n j nm) (e:iH) (i:List iH) (hs:s.stk=e::i) (z:e.kind=0) :
  Calls prog 41 #[bT x,.pointer (some ⟨j,0,none⟩)] w fun en w'=>gJ x c w v s nm m sb A n j en w':=by
 obtain ⟨Z,b0,hR,g3,g4,g5⟩:∃ Z b0,cA x c w v s.rest Z b0∧(s.ended=true→Z≠none)∧(Z≠none→s.toClose=none)∧((s.ended=false∧Z=none)∨nm=(e.space,e.loc)):=by
  rcases h.fit with ⟨h1,b,h2⟩|⟨e',stk2,h1,_,h3⟩
  ·exact ⟨none,b,h2,fun E=>(by rw [h1] at E;cases E),fun E=>absurd rfl E,aG ⟨h1,rfl⟩⟩
  ·obtain ⟨Z,b0,hR,h4,h5⟩:=h.rts.rd;rw [hs] at h1;obtain ⟨rfl,_⟩:=List.cons.inj h1;exact ⟨Z,b0,hR,h4,h5,aU h3⟩
 have ho:=h.own;rw [hs] at ho;obtain ⟨q,e',l',g,h1,h2,h3⟩:∃ q e' l' g,c.stk=.pointer (some ⟨q,0,none⟩)∧sb=q::g∧e::i=e'::l':=by
  rcases ho.stk.ptr with ⟨_,_,h1⟩|⟨q,e',l',g,h1,h2,h3⟩
  ·cases h1
  ·exact ⟨q,e',l',g,h1,h2,h3⟩
 obtain ⟨rfl,rfl⟩:=List.cons.inj h3;subst h2;obtain ⟨fl,hJ⟩:=ho.free;have hO:(m::((q::g)++A)).Nodup:=ho.nodup;have d4:=Lh (ON x c w v hR.dec q e (aG z) i g ho.stk fl A hJ (fun b d t=>ho.s1 b (List.mem_cons_of_mem _ d) (aG (aG t))) (List.nodup_cons.1 hO).2);have f2:=Lh (show ∀ w1,wH x c w v e i g fl A w1 q→∃ C nx ok,At x c w v s m q g A n j nm e i C w1 nx ok Z from fun w1 hp=>by
  obtain ⟨C,e7,i6,e8,j3,e9,hA,j7⟩:=ho.popped hp;have i5:¬ (j=x.d∨j=q):=by
   rintro (t|t)
   ·exact h.tS (aG (aG t))
   ·exact h.tO (by simp [t])
  rw [z] at hA;exact ⟨C,e8,e9,e7,i6,hA,⟨b0,hR.own hx.toOk e7.dec e7.mod (fun k z=>by
   rcases z with z|z
   ·exact aG z
   ·exact aU ⟨ho.s1 k z,ho.base k z⟩)⟩,h.tok.mod hp.mod i5⟩)
 have ⟨r,HX,HO,HS⟩:=kS h hx ho hs;have HE:=Lh (show e.space.length≤100000000000∧e.loc.length≤100000000000 from (h.sok e (by rw [hs];simp)).2);have d7:=Lh (And.intro g3 (And.intro g4 g5));have b2:=Lh z;have b4:=Lh (show j≠q∧j≠x.d∧j≠m∧(∀ b∈m::(g++q::A),b≠j) from by
  have e4:=h.tO;refine ⟨fun t=>e4 (by simp [t]),fun t=>h.tS (aG (aG t)),fun t=>e4 (by simp [t]),fun b d t=>e4 ?_⟩;subst t;simp only [mF,List.mem_append,rH] at d ⊢;rcases d with h|h|h|h
  ·exact aG h
  ·exact aU (aU (aG h))
  ·exact aU (aG h)
  ·exact aU (aU (aU h)))
 clear hR hx h hs h3 hJ hO ho z g3 g4 g5 h1;refine eL 179 func41 [_,_] fun f=>?_;simp only [aF];refine vg ?_;intro K hK K hK;refine d4.o.mono ?_;rintro e1 w1 ⟨rfl,hp⟩;obtain ⟨C,e8,e9,hI⟩:=f2.o w1 hp;have HI:=Lh hI;obtain ⟨b1,g8⟩:=hI.rd;have j2:=hI.tok.cell;have j4:=hI.tok.frozen;have e6:Below w1.heap.size w1 (w1.alloc (.cells #[aB nm.1,aB nm.2] 89)):=(Below.refl _ w1).alloc (dF _) _;have T:aJ (fun _=>False) w1 (w1.alloc (.cells #[aB nm.1,aB nm.2] 89)):=aH e6 _;have O:=Lh T;have i1:=g8.below HX.o.toOk e6;have f7:=Lh i1;have hN:=aL.new w1 #[aB nm.1,aB nm.2] 89;have c8:=hI.blk.mod T id;have hU:=hI.tok.mod T id;have ⟨f6,g0⟩:=cB c8 hU;have D:=c8.cell;have Y:=c8.frozen;have d6:=Lh hI.st;have b3:=Lh hI.own;clear hp d4 f2 g8 e6 T hI c8 hU;(repeat revert K);refine vS ?_;intro K hK K hK;refine cG [0,1,5,6] fun f=>?_;have d3:w1.heap.size≠q∧w1.heap.size≠j∧w1.heap.size≠x.d:=by
  have h1:=HI.o.blk.lt;have h2:=HI.o.tok.lt;have h3:=aL.lt HI.o.st.dec;exact ⟨by omega,by omega,by omega⟩
 have f4:=Lh (show ∀ b∈m::(g++q::A),b≠w1.heap.size from fun b d t=>by have:=b3.o.lt b d;omega);have f3:=Lh hN;obtain ⟨B,I⟩:=cK (w1.alloc (.cells #[aB nm.1,aB nm.2] 89));obtain ⟨nb,V⟩:=cK w1.heap.size;have g6:mC x B C v m g (q::A) n i s.ns:=by rw [I];exact b3.o.mod O.o (fun _ _=>id) b3.o.s1
 have g9:dR x c w v m (q::g) A C B g (q::A):=by
  rw [I];exact d6.o.trans ⟨aL.mod d6.o.dec O.o id,⟨_,_,_,rfl⟩,O.o.mono (fun _ _ h=>h.elim),fun _ d=>aG d⟩
 have b6:cA x C B v s.rest Z b1:=by rw [I];exact f7.o
 have b5:aL B q (jA e8 0 e.space e.loc e9) 95:=by rw [I];exact f6.o
 have b7:aL B j #[aB nm.1,aB nm.2] 110:=by rw [I];exact g0.o
 have d9:aL B nb #[aB nm.1,aB nm.2] 89:=by rw [I,V];exact f3.o
 rw [show w1.alloc (.cells #[.string ⟨nm.1.toArray⟩,.string ⟨nm.2.toArray⟩] 89)=B from I.symm,←V];rw [←V] at d3 f4;clear D Y hN f3 f6 g0 f7 d6 b3 O HI I V;have ⟨J,u,L,j5,gB⟩:=pM g6 g9 b6 b5 b7;have b9:=b6.dec.cell;have c3:=b6.dec.frozen;have D:=b5.cell;have Y:=b5.frozen;have c2:=b7.cell;have c5:=b7.frozen;have X:=d9.cell;have c4:=d9.frozen;obtain ⟨n1,n2,n3⟩:=d3;obtain ⟨t1,t2,t3,_⟩:=b4.o;have j8:q≠x.d:=fun t=>HO.o.s1 q (by simp) (aG (aG t));clear g6 g9 b6 b5 b7 d9;have dI:=Lh (show C.strict=x.o.strict from by
  obtain ⟨p,q2,dp,t⟩:=u.o.cs;rw [t];exact r.o.strict)
 have c6:=r.o.l2;have a0:=r.o.l1;have c7:=HE.o.1;have bA:=HE.o.2;have d8:=Lh (fun k j0=>gH HX.o.toOk (L.o.drewN HX.o.toOk k) j0);by_cases l:e.loc=nm.2
 ·rw [l] at D bA;by_cases F:e.space=nm.1
  ·have y:=Lh (show lG x.o nm s=.ok (.fin (cR x.o s.ns nm true),{ s with stk:=(fD i s.ns).1,ns:=(fD i s.ns).2 }) by
    unfold lG;rw [HS.o];simp only;rw [aQ (by rw [b2.o];simp),aQ (by rw [l];simp),aQ (by rw [F];simp)])
   have hW:=Lh (fun k=>qF x C (B.drewN k) v (L.o.drewN HX.o.toOk k).dec m n s.ns J.o.map (J.o.ns.drewN k) (by
    obtain ⟨p,q2,dp,t⟩:=u.o.cs;rw [t];exact r.o.sp) j #[aB nm.1,aB nm.2] 110 gB.o t2 t3 0 nm rfl rfl a0 true)
   rw [F] at D;clear l F a0 c6 c7 bA;go_quiet (fail);(repeat revert K);refine vg ?_;intro K hK K hK;refine cG [0,1,5,6] fun f=>?_;have j6:=Lh (L.o.drewN HX.o.toOk nq);have R:∀ o,(B.drewN nq).cell? ⟨q,o,none⟩=_:=D;have Q:∀ o,(B.drewN nq).cell? ⟨nb,o,none⟩=_:=X;go_quiet (fail);(repeat revert K);refine vg ?_;intro K hK K hK;refine (hW.o _).mono ?_;rintro e5 w5 ⟨rfl,hL,hB,i9⟩;have U:aJ (fun k=>k=j) B w5:=((aJ.refl _ B).drewN _).trans hL (fun _ _ h=>h);have g7:mC x w5 C v m g (q::A) n i s.ns:=J.o.mod U (fun b d t=>b4.o.2.2.2 b d t) J.o.s1;have hE:bR w5 x.d C v:=aL.mod L.o.dec U (fun t=>t2 t.symm);have d5:kN i:=fun e' i3=>r.o.sok e' (by rw [HS.o];simp [i3]);have dT:n+i.length≤100000000000:=by have:=r.o.bnd;rw [HS.o] at this;simp only [f5] at this;omega
   have ⟨aA,h0⟩:=cB U hB;clear b9 c3 D Y c2 c5 X c4 R Q hL i9 U hB hW;(repeat revert K);refine vS ?_;intro K hK;refine cG [0] fun f=>?_;refine V9 x HX.o.toOk C w5 v hE m g (q::A) n i s.ns g7 d5 dT _ ?_ f _ (by kernel_rfl);intro f c9 w9 j1 i0 n9 hQ hP hM;have ⟨aC,h7,h6⟩:=kV hQ hP hM;clear hQ hP hM hE d5 dT g7;revert K;refine vg ?_;refine cM ?_;unfold gJ;rw [y.o];have bC:=aC.o.mod;have hV:aL w9 j _ _:=h0.o.mod bC (fun E=>by
    rcases E with E|E
    ·exact t2 E
    ·exact b4.o.2.2.2 j E rfl)
   have G:∀ b,b∈m::(g++q::A)→b∈m::((q::g)++A):=by
    intro b d;simp only [mF,List.mem_append,rH] at d ⊢;rcases d with h|h|h|h
    ·exact aG h
    ·exact aU (aU (aG h))
    ·exact aU (aG h)
    ·exact aU (aU (aU h))
   have N:aJ (fun b=>b=x.d∨b∈m::((q::g)++A)∨b=j) w w9:=by
    refine (u.o.mod.mono (fun b _ d=>?_)).trans ((aA.o.mono (S':=fun b=>b=x.d∨b∈m::((q::g)++A)∨b=j) (fun b _ d=>aU (aU d))).trans (bC.mono (S':=fun b=>b=x.d∨b∈m::((q::g)++A)∨b=j) (fun b _ d=>?_)) (fun _ _ h=>h)) (fun _ _ h=>h)
    ·rcases d with d|d
     ·exact aG d
     ·exact aU (aG d)
    ·rcases d with d|d
     ·exact aG d
     ·exact aU (aG (G b d))
   have e2:cA x c9 w9 v s.rest Z b1:=L.o.own HX.o.toOk aC.o.dec (S:=fun b=>b=x.d∨b∈m::(g++q::A)∨b=j) ((aA.o.mono (fun b _ d=>aU (aU d))).trans (bC.mono (S':=fun b=>b=x.d∨b∈m::(g++q::A)∨b=j) (fun b _ d=>by
    rcases d with d|d
    ·exact aG d
    ·exact aU (aG d))) (fun _ _ h=>h)) (fun k z=>by
    rcases z with z|z|z
    ·exact aG z
    ·exact aU ⟨HO.o.s1 k (G k z),HO.o.base k (G k z)⟩
    ·exact aU (z▸⟨r.o.tS,r.o.tB⟩))
   have i7:qG c c9:=u.o.same.trans aC.o.same;obtain ⟨k0,k1,k2,d0⟩:=u.o.cs;obtain ⟨k3,k4,k5,d1⟩:=aC.o.cs;refine ⟨cR x.o s.ns nm true,rfl,rfl,c9,j1,i0,n9,⟨⟨Z,b1,e2,d7.o.1,d7.o.2.1⟩,?_,?_,r.o.rts.nb⟩,h7.o,(by rw [r8];exact hV),i7,N,fun b d=>?_,?_⟩
   ·rw [d1,d0];exact r.o.rts.nc
   ·intro hX W;rw [d1,d0];exact r.o.rts.tc hX W
   ·rcases aC.o.sub b d with h9|h9
    ·rcases u.o.sub b h9 with h8|h8
     ·exact aG h8
     ·exact aU h8
    ·exact aU (fQ (fQ u.o.mod.size aA.o.size) h9)
   ·have:=h6.o;rw [HS.o];simp only [f5];omega
  ·obtain ⟨g1,g2⟩:=rM F;have y:=Lh (show lG x.o nm s=.error .syn by
    unfold lG;rw [HS.o];simp only;rw [aQ (by rw [b2.o];simp),aQ (by rw [l];simp),aY F])
   have a1:¬ 9223372036854775807<9+nm.2.length:=by omega
   have a2:¬ 9223372036854775807<9+nm.2.length+11:=by omega
   have a3:¬ 9223372036854775807<9+nm.2.length+11+e.space.length:=by omega
   have a4:¬ 9223372036854775807<9+nm.2.length+11+e.space.length+13:=by omega
   have a5:¬ 9223372036854775807<9+nm.2.length+11+e.space.length+13+nm.2.length:=by omega
   have a6:¬ 9223372036854775807<9+nm.2.length+11+e.space.length+13+nm.2.length+11:=by omega
   have a7:¬ 9223372036854775807<9+nm.2.length+11+e.space.length+13+nm.2.length+11+nm.1.length:=by omega
   have a8:¬ 9223372036854775807<9+nm.2.length+11+e.space.length+13+nm.2.length+11+2:=by omega
   clear l F a0 c6 c7 bA;go_quiet (fail);(repeat revert K);refine vg ?_;intro K hK K hK;refine cG [0,1,5,6] fun f=>?_;have R:∀ o,(B.drewN nq).cell? ⟨q,o,none⟩=_:=D;have Q:∀ o,(B.drewN nq).cell? ⟨nb,o,none⟩=_:=X;go_quiet (fail);have cT:nm.1=[]∨((nm.1==[])=false∧(nm.1 != [])=true):=by
    by_cases h:nm.1=[]
    ·exact aG h
    ·exact aU (rM h)
   rcases cT with cT|⟨cT,hD⟩
   ·have hD:(nm.1==[])=true:=by rw [cT];rfl
    (repeat revert K);refine vg ?_;intro K hK K hK;refine cG [0,1,5,6,7] fun f=>?_;(refine lD [0,0,0,0,0,0,1,0,0,0,0,0,0,1,0,0,0,1,0,0,0,0,2,0,0,2] [0,1,2,3,4,5,6,7,8,9,10,11,12,13,14,15,16,17,18,19,20,21,22,23,24,25] ?_;refine vP ?_;repeat with_reducible intro nq)
    refine bI rfl rfl (fun nq K hK=>?_);go_simp;refine (d8.o _ _).mono ?_;rintro e3 w3 ⟨a9,rfl,P⟩;have hC:=P.dec.cell;have hG:=P.dec.frozen;have H:=Lh P;clear P b9 c3 D Y c2 c5 X c4 R Q;go_simp;refine hK.out _ _ ?_;clear hK K;(refine vP ?_;repeat with_reducible intro nq)
    (repeat revert K);refine vg ?_;intro K hK;refine cM ?_;unfold gJ;rw [y.o];exact ⟨rfl,C,_,(H.o.drewN _).err.drewN _,x1 u.o.mod (((aJ.refl (x.S1 v) B).drewN _).trans ((H.o.drewN _).stp.drawn _).mod (fun _ _ h=>h))⟩
   ·(repeat revert K);refine vg ?_;intro K hK K hK;refine cG [0,1,5,6,7] fun f=>?_;(refine lD [0,0,0,0,0,0,1,0,0,0,0,0,0,1,0,0,0,1,0,0,0,0,2,0,0,2] [0,1,2,3,4,5,6,7,8,9,10,11,12,13,14,15,16,17,18,19,20,21,22,23,24,25] ?_;refine vP ?_;repeat with_reducible intro nq)
    refine bI rfl rfl (fun nq K hK=>?_);go_simp;refine (d8.o _ _).mono ?_;rintro e3 w3 ⟨a9,rfl,P⟩;have hC:=P.dec.cell;have hG:=P.dec.frozen;have H:=Lh P;clear P b9 c3 D Y c2 c5 X c4 R Q;go_simp;refine hK.out _ _ ?_;clear hK K;(refine vP ?_;repeat with_reducible intro nq)
    (repeat revert K);refine vg ?_;intro K hK;refine cM ?_;unfold gJ;rw [y.o];exact ⟨rfl,C,_,(H.o.drewN _).err.drewN _,x1 u.o.mod (((aJ.refl (x.S1 v) B).drewN _).trans ((H.o.drewN _).stp.drawn _).mod (fun _ _ h=>h))⟩
 ·obtain ⟨g1,g2⟩:=rM l;obtain ⟨d2,i4⟩:s.ended=false∧Z=none:=by
   rcases d7.o.2.2 with h|h
   ·exact h
   ·exact absurd (by rw [h]) l
  subst i4;have f1:=Lh d2;clear d2;cases hT:C.strict with
  | true=>
   have y:=Lh (show lG x.o nm s=.error .syn by
    unfold lG;rw [HS.o];simp only;rw [aQ (by rw [b2.o];simp),aY l,aY (by rw [←dI.o];exact hT)])
   have a1:¬ 9223372036854775807<9+e.loc.length:=by omega
   have a2:¬ 9223372036854775807<9+e.loc.length+14:=by omega
   have a3:¬ 9223372036854775807<9+e.loc.length+14+nm.2.length:=by omega
   have a4:¬ 9223372036854775807<9+e.loc.length+14+nm.2.length+1:=by omega
   clear l a0 c6 c7 bA;go_quiet (fail);(repeat revert K);refine vg ?_;intro K hK K hK;(refine lD [0,0,0,0,0,0,1,0,0,0,1,0,0,2,0,0,2] [0,1,2,3,4,5,6,7,8,9,10,11,12,13,14,15,16] ?_;refine vP ?_;repeat with_reducible intro nq)
   refine bI rfl rfl (fun nq K hK=>?_);go_simp;refine (d8.o _ _).mono ?_;rintro e3 w3 ⟨a9,rfl,P⟩;have hC:=P.dec.cell;have hG:=P.dec.frozen;have H:=Lh P;clear P b9 c3 D Y c2 c5 X c4;go_simp;refine hK.out _ _ ?_;clear hK K;(refine vP ?_;repeat with_reducible intro nq)
   (repeat revert K);refine vg ?_;intro K hK;refine cM ?_;unfold gJ;rw [y.o];exact ⟨rfl,C,_,(H.o.drewN _).err.drewN _,x1 u.o.mod (((aJ.refl (x.S1 v) B).drewN _).trans ((H.o.drewN _).stp.drawn _).mod (fun _ _ h=>h))⟩
  | false=>
   have y:=Lh (show lG x.o nm s=.ok (.fin (e.space,e.loc),{ s with stk:=i,toClose:=some nm }) by
    unfold lG;rw [HS.o];simp only;rw [aQ (by rw [b2.o];simp),aY l,aQ (by rw [←dI.o,hT];simp)])
   clear l a0 c6 c7 bA;go_quiet (fail);(repeat revert K);refine vg ?_;intro K hK K hK;refine cM ?_;unfold gJ;rw [y.o];have G:∀ b,b∈m::(g++q::A)→b∈m::((q::g)++A):=by
    intro b d;simp only [mF,List.mem_append,rH] at d ⊢;rcases d with h|h|h|h
    ·exact aG h
    ·exact aU (aU (aG h))
    ·exact aU (aG h)
    ·exact aU (aU (aU h))
   have hm:aJ (fun b=>b=x.d∨b=j) B ((((((B.drewN nq).setCell ⟨x.d,14,none⟩ (.bool true)).setCell ⟨x.d,15,none⟩ (aB nm.1)).setCell ⟨x.d,16,none⟩ (aB nm.2)).setCell ⟨j,0,none⟩ (aB e.space)).setCell ⟨j,1,none⟩ (aB e.loc)):=
    ((((((aJ.refl (fun b=>b=x.d∨b=j) B).drewN nq).setCell (p:=⟨x.d,14,none⟩) (aG (aG rfl)) _).setCell (p:=⟨x.d,15,none⟩) (aG (aG rfl)) _).setCell (p:=⟨x.d,16,none⟩) (aG (aG rfl)) _).setCell (p:=⟨j,0,none⟩) (aG (aU rfl)) _).setCell (p:=⟨j,1,none⟩) (aG (aU rfl)) _
   have i2:bR ((((((B.drewN nq).setCell ⟨x.d,14,none⟩ (.bool true)).setCell ⟨x.d,15,none⟩ (aB nm.1)).setCell ⟨x.d,16,none⟩ (aB nm.2)).setCell ⟨j,0,none⟩ (aB e.space)).setCell ⟨j,1,none⟩ (aB e.loc)) x.d { C with needClose:=true,tcs:=⟨nm.1.toArray⟩,tcl:=⟨nm.2.toArray⟩ } v:=
    ((((show aL (B.drewN nq) x.d _ _ from L.o.dec).set 14 (.bool true)).set 15 (aB nm.1)).set 16 (aB nm.2)).set_ne (a:=⟨j,0,none⟩) (fun t=>t2 t.symm) (aB e.space) |>.set_ne (a:=⟨j,1,none⟩) (fun t=>t2 t.symm) (aB e.loc)
   have i8:aL ((((((B.drewN nq).setCell ⟨x.d,14,none⟩ (.bool true)).setCell ⟨x.d,15,none⟩ (aB nm.1)).setCell ⟨x.d,16,none⟩ (aB nm.2)).setCell ⟨j,0,none⟩ (aB e.space)).setCell ⟨j,1,none⟩ (aB e.loc)) j #[aB e.space,aB e.loc] 110:=
    (((((show aL (B.drewN nq) j _ _ from gB.o).set_ne (a:=⟨x.d,14,none⟩) t2 (.bool true)).set_ne (a:=⟨x.d,15,none⟩) t2 (aB nm.1)).set_ne (a:=⟨x.d,16,none⟩) t2 (aB nm.2)).set 0 (aB e.space)).set 1 (aB e.loc)
   have e2:cA x { C with needClose:=true,tcs:=⟨nm.1.toArray⟩,tcl:=⟨nm.2.toArray⟩ } _ v s.rest none b1:=L.o.own HX.o.toOk i2 hm (fun k z=>by
    rcases z with z|z
    ·exact aG z
    ·exact aU (z▸⟨r.o.tS,r.o.tB⟩))
   have M:=J.o.mod hm (fun b d E=>by
    rcases E with E|E
    ·exact J.o.s1 b d (aG (aG E))
    ·exact b4.o.2.2.2 b d E) J.o.s1
   have N:=(u.o.mod.mono (S':=fun b=>b=x.d∨b∈m::((q::g)++A)∨b=j) (fun b _ d=>by
    rcases d with d|d
    ·exact aG d
    ·exact aU (aG d))).trans (hm.mono (S':=fun b=>b=x.d∨b∈m::((q::g)++A)∨b=j) (fun b _ d=>by
    rcases d with d|d
    ·exact aG d
    ·exact aU (aU d))) (fun _ _ h=>h)
   refine ⟨(e.space,e.loc),rfl,rfl,_,g,q::A,n,⟨⟨none,b1,e2,fun E=>(by have:=f1.o;rw [show s.ended=true from E] at this;cases this),fun E=>absurd rfl E⟩,rfl,fun hX W=>?_,r.o.rts.nb⟩,⟨M.stk,M.free,M.map,M.ns,M.nodup,M.base,M.s1⟩,i8,u.o.same.trans ⟨C.stk,C.free,C.depth,true,⟨nm.1.toArray⟩,⟨nm.2.toArray⟩,rfl⟩,N,u.o.sub,?_⟩
   ·simp only [jW] at W;subst W;exact ⟨rfl,rfl⟩
   ·rw [HS.o];simp only [f5];omega
noncomputable def gK (n:Nat):Code:=((Tryz.f18.body).bind (Code.partAt n)).getD .skip
def nJ (a:cO) (p:List iH×(Bs→Option Bs)):List iH×(Bs→Option Bs):=
 if a.1=jF then ({ kind:=1,space:=(p.2 a.2.1).getD [],loc:=a.2.1,ok:=(p.2 a.2.1).isSome }::p.1,gO p.2 a.2.1 (some a.2.2))
 else if a.1=[]∧a.2.1=jF then ({ kind:=1,space:=(p.2 []).getD [],loc:=[],ok:=(p.2 []).isSome }::p.1,gO p.2 [] (some a.2.2))
 else p
theorem sE (a:cO) (l:List cO) (f:List iH) (j:Bs→Option Bs):dH (a::l) f j=dH l (nJ a (f,j)).1 (nJ a (f,j)).2:=by
 obtain ⟨e,c,v⟩:=a;conv=>lhs;unfold dH
 unfold nJ;simp only;by_cases g:e=jF
 ·have b:e=bD:=g;have i:¬ (e=[]∧c=bD):=by rintro ⟨h,_⟩;rw [g] at h;cases h
  simp only [aY b,aQ i,aY g]
 ·have b:¬ e=bD:=g;by_cases i:e=[]∧c=jF
  ·have d:e=[]∧c=bD:=i;simp only [aQ b,aY d,aQ g,aY i]
  ·have d:¬ (e=[]∧c=bD):=i;simp only [aQ b,aQ d,aQ g,aQ i]
theorem x2 (a:cO):∀ (l:List cO) (c:List iH) (d:Bs→Option Bs),dH (l++[a]) c d=nJ a (dH l c d)
 | [],c,d=>by rw [List.nil_append,sE];rfl
 | b::l,c,d=>by
  rw [rH,sE,x2 a l,←sE]
def rN (a:Bs→Option Bs):Prop:=∀ k u,a k=some u→u.length≤100000000000
theorem rN.set {b:Bs→Option Bs} (h:rN b) (k v:Bs) (c:v.length≤100000000000):rN (gO b k (some v)):=by
 intro d u a;unfold gO at a;split at a
 ·simp only [jW] at a;rw [←a];exact c
 ·exact h d u a
theorem rN.get {a:Bs→Option Bs} (h:rN a) (k:Bs):((a k).getD []).length≤100000000000:=by
 cases b:a k with
 | none=>simp
 | some u=>exact h k u b
theorem OT {N:Nat} {a:cO} (f:zJ 1000000000 a) {p:List iH×(Bs→Option Bs)} (d:kN p.1) (c:rN p.2):kN (nJ a p).1∧rN (nJ a p).2∧(nJ a p).1.length≤p.1.length+1:=by
 obtain ⟨g,h,i⟩:=f;unfold nJ;split
 ·refine ⟨fun e b=>?_,c.set _ _ (by omega),by simp⟩;rcases mF.1 b with rfl|b
  ·exact ⟨aU rfl,by have:=c.get a.2.1;simp only;omega,by simp only;omega⟩
  ·exact d e b
 ·split
  ·refine ⟨fun e b=>?_,c.set _ _ (by omega),by simp⟩;rcases mF.1 b with rfl|b
   ·exact ⟨aU rfl,by have:=c.get [];simp only;omega,by simp⟩
   ·exact d e b
  ·exact ⟨d,c,by omega⟩
theorem dR.more {x:Cx} {c:DC} {w:World} {v:DV} {m:Nat} {n f:List Nat} {e:DC} {w' d:World} {b a:List Nat} {S:Nat→Prop} (h:dR x c w v m n f e w' b a) (l:aJ S w' d) (j:∀ k,S k→k∈m::(b++a)∧k≠x.d):dR x c w v m n f e d b a:=by
 refine ⟨aL.mod h.dec l (fun o=>(j _ o).2 rfl),h.cs,h.mod.trans l (fun i q p=>?_),h.sub⟩;rcases h.sub i (j i p).1 with g|g
 ·exact aU g
 ·omega
theorem mC.drewN {x:Cx} {w:World} {c:DC} {v:DV} {m:Nat} {e b:List Nat} {n:Nat} {a:List iH} {d:Bs→Option Bs} (h:mC x w c v m e b n a d) (k:Nat):mC x (w.drewN k) c v m e b n a d:=h.mod ((aJ.refl (fun _=>False) w).drewN k) (fun _ _=>id) h.s1
theorem s8 {d:Array Value} {c:List cO} (h:d.toList.take (c.length*3)=aN c) {i:Nat} {a:cO} (m:c[i]?=some a):d[i*3]?=some (aB a.1)∧d[i*3+1]?=some (aB a.2.1)∧d[i*3+2]?=some (aB a.2.2):=by
 have q:=(A9.1 m).1;have k:∀ (l:List cO) (i:Nat) (a:cO),l[i]?=some a→(aN l)[i*3]?=some (aB a.1)∧(aN l)[i*3+1]?=some (aB a.2.1)∧(aN l)[i*3+2]?=some (aB a.2.2):=by
  intro l;induction l with
  | nil=>intro i a h;simp at h
  | cons b l ih=>
   intro i a h;have e:aN (b::l)=[aB b.1,aB b.2.1,aB b.2.2]++aN l:=rfl;cases i with
   | zero=>
    simp only [List.getElem?_cons_zero,jW] at h;subst h;rw [e];exact ⟨rfl,rfl,rfl⟩
   | succ i=>
    simp only [List.getElem?_cons_succ] at h;obtain ⟨n,o,p⟩:=ih i a h;rw [e];refine ⟨?_,?_,?_⟩
    ·rw [CQ (by simp;omega)];simpa [Nat.succ_mul] using n
    ·rw [CQ (by simp;omega)];simpa [Nat.succ_mul] using o
    ·rw [CQ (by simp;omega)];simpa [Nat.succ_mul] using p
 obtain ⟨f,g,j⟩:=k c i a m;rw [←h] at f g j;rw [List.getElem?_take,aY (by omega),Array.getElem?_toList] at f;rw [List.getElem?_take,aY (by omega),Array.getElem?_toList] at g;rw [List.getElem?_take,aY (by omega),Array.getElem?_toList] at j;exact ⟨f,g,j⟩
def YT (x:Cx) (c0:DC) (w0:World) (v:DV) (m:Nat) (h g:List Nat) (o:Nat) (b:List iH) (e:Bs→Option Bs) (q:Nat) (p:Value) (d:List cO) (k:Nat) (a:Act) (w:World):Prop:=
 ∃ f c l j n i,a=fr 204 f [(0,bT x),(5,.nilIface),(8,.pointer (some ⟨q,0,none⟩)),(101,p),(102,.int .i64 d.length),(103,.int .i64 (i:Nat))]∧dR x c0 w0 v m h g c w l j ∧
  mC x w c v m l j n (dH (d.take i) b e).1 (dH (d.take i) b e).2∧k=d.length-i∧i≤d.length∧n+(dH (d.take i) b e).1.length≤o+b.length+2*i∧kN (dH (d.take i) b e).1∧rN (dH (d.take i) b e).2
theorem WB (x:Cx) (hx:x.Ok) (c0:DC) (w0:World) (v:DV) (hd:bR w0 x.d c0 v) (p:∀ k,x.S1 v k→k<w0.heap.size) (hB:x.B≤w0.heap.size) (m:Nat) (O L:List Nat) (n0:Nat) (d:List iH) (s:Bs→Option Bs) (h:mC x w0 c0 v m O L n0 d s) (aA:kN d) (Z:rN s)
  (b:List cO) (bC:∀ a∈b,zJ 1000000000 a) (b4:b.length≤1000000000) (hn:n0+d.length≤10000000000) (t8 g f4:Nat) (c6:Array Value) (hg:aL w0 g c6 103) (b0:c6.toList.take (b.length*3)=aN b) (g2:g≠x.d∧g∉m::(O++L)) (Q:Exit→Act→World→Prop)
  (hQ:∀ f c w sb fb n,dR x c0 w0 v m O L c w sb fb→mC x w c v m sb fb n (dH b d s).1 (dH b d s).2→n+(dH b d s).1.length≤n0+d.length+2*b.length→kN (dH b d s).1→rN (dH b d s).2→Q .normal (fr 204 f [(0,bT x),(5,.nilIface),(8,.pointer (some ⟨t8,0,none⟩))]) w) (f:Nat→Value) (c1:Code) (d0:c1=.loop (gK 23)) :
  c1.wp prog (Exit.inBlock 1 Q) (fr 204 f [(0,bT x),(5,.nilIface),(8,.pointer (some ⟨t8,0,none⟩)),(101,.slice (some ⟨g,0,none⟩) b.length f4),(102,.int .i64 b.length),(103,.int .i64 0)]) w0:=by
 subst d0;have ⟨HX,HQ,HN,e7,P,HG⟩:=gT hx hQ hn bC b4 hg;have ⟨f2,f3,a6,HB⟩:=kS b0 g2 p hB;refine wp_loop_ghost_k (YT x c0 w0 v m O L n0 d s t8 (.slice (some ⟨g,0,none⟩) b.length f4) b) b.length ⟨f,c0,O,L,n0,0,rfl,dR.refl hd m O L,h,by simp,jU _,by simp [dH],aA,Z⟩ ?_;clear h aA hd hx hQ hn Z bC b4 hg b0 g2 p hB;rintro k _ w ⟨f,c,sb,fb,n,i,rfl,hs,ho,hk,hi,g5,aA,Z⟩ J K2 hJ f6;have ⟨HJ,c2,HS,HO,HK,u⟩:=gT hJ f6 hs ho hk g5;have ⟨a5,a4⟩:=cB aA Z;clear hJ f6 hs hk g5 aA Z ho;unfold gK;conv=>arg 2;whnf
 by_cases a9:i<b.length
 ·have h1:(i:Int)<(b.length:Int):=by omega
  have h0:(0:Int)≤(i:Int):=by omega
  have hO:IntKind.i64.wrap ((i:Int)+1)=((i+1:Nat):Int):=by rw [IntKind.wrap_i64];have:=P.o;omega
  obtain ⟨a,ha⟩:∃ a,b[i]?=some a:=⟨b[i],by simp [a9]⟩;obtain ⟨k1,k2,k3⟩:=s8 f2.o ha;have a8:aL w g c6 103:=HG.o.mod HS.o.mod (fun r=>by
   rcases r with r|r
   ·exact f3.o.1 r
   ·exact f3.o.2 r)
  have U:w.cell? ⟨g,i*3,none⟩=some (aB a.1):=(a8.cell _).trans k1;have V:w.cell? ⟨g,i*3+1,none⟩=some (aB a.2.1):=(a8.cell _).trans k2;have W:w.cell? ⟨g,i*3+2,none⟩=some (aB a.2.2):=(a8.cell _).trans k3;have a0:b.take (i+1)=b.take i++[a]:=by
   rw [List.take_succ,ha];rfl
  have bA:=x2 a (b.take i) d s;rw [←a0] at bA;have T:=e7.o a (List.mem_of_getElem? ha);obtain ⟨b1,b2,b3⟩:=OT (N:=0) T a5.o a4.o;rw [←bA] at b1 b2 b3;have ⟨y,b7,b9,e8,H⟩:=pM bA b1 b2 b3 T;obtain ⟨l,b6⟩:=cK ((dH (b.take i) d s).1);obtain ⟨q,b5⟩:=cK ((dH (b.take i) d s).2);rw [show dH (b.take i) d s=(l,q) from by rw [b6,b5]] at y HO u a5 a4 e8;simp only at y HO u a5 a4 e8;clear b1 b2 b3 bA a0 k1 k2 k3 ha b6 b5 T a8;obtain ⟨sp,j,o⟩:=a;simp only at U V W;obtain ⟨I,A⟩:=cK (w.alloc (.cells #[aB sp,aB j,aB o] 103));have dI:aJ (fun _=>False) w I:=by rw [A];exact aH ((Below.refl _ w).alloc (dF _) _) _
  have a7:aL I w.heap.size #[aB sp,aB j,aB o] 103:=by rw [A];exact aL.new w _ _
  have e4:mC x I c v m sb fb n l q:=HO.o.mod dI (fun _ _=>id) HO.o.s1;have e5:=HS.o.more dI (fun _ h=>h.elim);have hN:w.heap.size+1=I.heap.size:=by rw [A];exact (Array.size_push _).symm
  have ⟨f1,R,C⟩:=kV a7 e4 e5;have M:=e5.dec;have hc:=M.cell;have hf:=M.frozen;have f7:=a7.cell;have g0:=a7.frozen;have g4:=e4.map;obtain ⟨d1,d2,d3,d4,d5,d6,d7,d8,d9,hG,hI,hL,hM⟩:=c;simp only at g4;subst g4;clear a7 e4 e5 dI;by_cases e1:sp=jF
  ·subst e1;refine vg ?_;intro K hK K hK K hK;rw [show w.alloc (.cells #[.string ⟨List.toArray jF⟩,.string ⟨List.toArray j⟩,.string ⟨List.toArray o⟩] 103)=I from A.symm];clear A U V W;have g3:=fun k=>(R.o.ns.drewN k).look j (by have:=H.o.2.1;unfold maxLen;simp only at this;omega);refine cG [0,5,8,10,101,102,103] fun f=>?_;go_quiet (fail);have aC:=Lh (D4 x HX.o _ (I.drewN nq) v (show bR (I.drewN nq) x.d _ v from M) (fun k hk=>pL (a6.o k hk) C.o.mod.size) (fQ HB.o C.o.mod.size) m sb fb n l q (R.o.drewN nq) j ((q j).getD []) (q j).isSome);clear g3;(repeat revert K);refine vg ?_;intro K hK K hK K hK K hK;refine aC.o.mono ?_;rintro e1 w1 ⟨rfl,c1,e6,c7,p,F⟩;have E:w.heap.size≠x.d∧w.heap.size∉m::(sb++fb):=⟨fun e=>by have:=a6.o x.d (aG (aG rfl));have h9:=HS.o.mod.size;omega,fun r=>Nat.lt_irrefl _ (HO.o.lt _ r)⟩;have t:=(show aL (I.drewN nq) w.heap.size _ _ from f1.o).mod p.mod (fun r=>by rcases r with r|r;exact E.1 r;exact E.2 r);have z:=F.map;have B:=Lh F;have c4:=Lh ((C.o.more (S:=fun _=>False) ((aJ.refl _ I).drewN nq) (fun _ h=>h.elim)).trans p);obtain ⟨p1,p2,p3,p4,p5,p6,p7,p8,p9,g9,hA,hC,hD⟩:=c1;simp only at z;subst z;have d0:=p.dec.cell;have g6:=p.dec.frozen;have e0:=t.cell;have cT:=Lh t;have e3:=t.frozen;clear aC p F t hc hf f7 g0 M;(repeat revert K);refine vS ?_;intro K hK K hK;refine cG [0,5,8,10,101,102,103] fun f=>?_;(refine lD [0,0,0,1,0,0,1,0,1,2] [0,1,2,3,4,5,6,7,8,9] ?_;refine vP ?_;repeat with_reducible intro nq)
   refine bI rfl rfl (fun a3 K hK=>?_);obtain ⟨w2,g8,Y,G⟩:=(B.o.ns.drewN a3).store (by have h9:n+l.length≤n0+d.length+2*i:=u.o;have:=HN.o;have:=P.o;unfold maxLen;omega) j o (by have:=H.o.2.1;unfold maxLen;simp only at this;omega) (by have:=H.o.2.2;unfold maxLen;simp only at this;omega);have D:=(show aL (w1.drewN a3) w.heap.size _ _ from cT.o).mod (kZ G) (fun r=>E.2 (by rw [r];exact List.mem_cons_self));have gB:=D.cell;have g1:=D.frozen;have ⟨c3,c5⟩:=cB Y G;clear Y G D e0 e3;go_simp;refine hK.out _ _ ?_;clear hK K;(refine vP ?_;repeat with_reducible intro nq)
   (try ((repeat revert K);refine vg ?_))
   have X:aJ (fun k=>k=m) w1 (w2.drewN nq):=((show aJ (fun k=>k=m) w1 (w1.drewN _) from (aJ.refl _ w1).drewN _).trans (kZ c5.o) (fun _ _ h=>h)).drewN nq;have c8:=B.o.turned X (c3.o.drewN nq);have c9:=c4.o.more X (fun k hk=>by subst hk;exact ⟨List.mem_cons_self,fun e=>B.o.s1 _ List.mem_cons_self (aG (aG e))⟩);refine Kk [0,5,8,101,102,103] fun f=>?_;refine c2.o _ _ ⟨b.length-(i+1),by rw [HK.o];omega,HJ.o _ _ _ ⟨f,_,e6,c7,n+1,i+1,rfl,c9,?_,rfl,a9,?_,b7.o,b9.o⟩⟩
   ·rw [y.o,show nJ (jF,j,o) (l,q)=({ kind:=1,space:=(q j).getD [],loc:=j,ok:=(q j).isSome }::l,gO q j (some o)) from rfl];exact c8
   ·have h9:n+l.length≤n0+d.length+2*i:=u.o;rw [y.o,show nJ (jF,j,o) (l,q)=({ kind:=1,space:=(q j).getD [],loc:=j,ok:=(q j).isSome }::l,gO q j (some o)) from rfl];simp only [f5];omega
  ·obtain ⟨a1,a2⟩:=rM e1;by_cases e2:sp=[]∧j=jF
   ·obtain ⟨rfl,rfl⟩:=e2;have g3:=R.o.ns.look [] (by simp);refine vT 30 ?_;intro K hK;rw [show w.alloc (.cells #[.string ⟨#[]⟩,.string ⟨List.toArray jF⟩,.string ⟨List.toArray o⟩] 103)=I from A.symm];clear A U V W;have aC:=Lh (D4 x HX.o _ I v (show bR I x.d _ v from M) (fun k hk=>pL (a6.o k hk) C.o.mod.size) (fQ HB.o C.o.mod.size) m sb fb n l q (R.o) [] ((q []).getD []) (q []).isSome);revert K;refine vg ?_;intro K hK K hK K hK;refine aC.o.mono ?_;rintro e1 w1 ⟨rfl,c1,e6,c7,p,F⟩;have E:w.heap.size≠x.d∧w.heap.size∉m::(sb++fb):=⟨fun e=>by have:=a6.o x.d (aG (aG rfl));have h9:=HS.o.mod.size;omega,fun r=>Nat.lt_irrefl _ (HO.o.lt _ r)⟩;have t:=(show aL I w.heap.size _ _ from f1.o).mod p.mod (fun r=>by rcases r with r|r;exact E.1 r;exact E.2 r);have z:=F.map;have B:=Lh F;have c4:=Lh ((C.o).trans p);obtain ⟨p1,p2,p3,p4,p5,p6,p7,p8,p9,g9,hA,hC,hD⟩:=c1;simp only at z;subst z;have d0:=p.dec.cell;have g6:=p.dec.frozen;have e0:=t.cell;have cT:=Lh t;have e3:=t.frozen;clear aC p F t hc hf f7 g0 M;(repeat revert K);refine vS ?_;intro K hK;refine cG [0,5,8,10,101,102,103] fun f=>?_;(refine lD [0,0,0,1,0,1,2] [0,1,2,3,4,5,6] ?_;refine vP ?_;repeat with_reducible intro nq)
    refine bI rfl rfl (fun a3 K hK=>?_);obtain ⟨w2,g8,Y,G⟩:=(B.o.ns.drewN a3).store (by have h9:n+l.length≤n0+d.length+2*i:=u.o;have:=HN.o;have:=P.o;unfold maxLen;omega) [] o (by simp) (by have:=H.o.2.2;unfold maxLen;simp only at this;omega);have D:=(show aL (w1.drewN a3) w.heap.size _ _ from cT.o).mod (kZ G) (fun r=>E.2 (by rw [r];exact List.mem_cons_self));have gB:=D.cell;have g1:=D.frozen;have ⟨c3,c5⟩:=cB Y G;clear Y G D e0 e3;go_simp;refine hK.out _ _ ?_;clear hK K;(refine vP ?_;repeat with_reducible intro nq)
    (try (revert K;refine vg ?_))
    have X:aJ (fun k=>k=m) w1 (w2.drewN nq):=((show aJ (fun k=>k=m) w1 (w1.drewN _) from (aJ.refl _ w1).drewN _).trans (kZ c5.o) (fun _ _ h=>h)).drewN nq;have c8:=B.o.turned X (c3.o.drewN nq);have c9:=c4.o.more X (fun k hk=>by subst hk;exact ⟨List.mem_cons_self,fun e=>B.o.s1 _ List.mem_cons_self (aG (aG e))⟩);refine Kk [0,5,8,101,102,103] fun f=>?_;refine c2.o _ _ ⟨b.length-(i+1),by rw [HK.o];omega,HJ.o _ _ _ ⟨f,_,e6,c7,n+1,i+1,rfl,c9,?_,rfl,a9,?_,b7.o,b9.o⟩⟩
    ·rw [y.o,show nJ ([],jF,o) (l,q)=({ kind:=1,space:=(q []).getD [],loc:=[],ok:=(q []).isSome }::l,gO q [] (some o)) from rfl];exact c8
    ·have h9:n+l.length≤n0+d.length+2*i:=u.o;rw [y.o,show nJ ([],jF,o) (l,q)=({ kind:=1,space:=(q []).getD [],loc:=[],ok:=(q []).isSome }::l,gO q [] (some o)) from rfl];simp only [f5];omega
   ·have dT:(sp==[])=false∨((sp==[])=true∧(j==jF)=false):=by
     by_cases h3:sp=[]
     ·refine aU ⟨by rw [h3];rfl,(rM (fun h4=>e2 ⟨h3,h4⟩)).1⟩
     ·exact aG (rM h3).1
    have e9:nJ (sp,j,o) (l,q)=(l,q):=by
     unfold nJ;rw [aQ e1,aQ e2]
    have E9:=Lh e9;clear e9 e2 e1;rcases dT with dT|⟨dT,hE⟩
    all_goals
     refine vg ?_;rw [show w.alloc (.cells #[.string ⟨List.toArray sp⟩,.string ⟨List.toArray j⟩,.string ⟨List.toArray o⟩] 103)=I from A.symm];refine Kk [0,5,8,101,102,103] fun f=>?_;refine c2.o _ _ ⟨b.length-(i+1),by rw [HK.o];omega,HJ.o _ _ _ ⟨f,_,sb,fb,n,i+1,rfl,C.o,?_,rfl,a9,?_,b7.o,b9.o⟩⟩
     ·rw [y.o,E9.o];exact R.o
     ·have h9:n+l.length≤n0+d.length+2*i:=u.o;rw [y.o,E9.o];simp only;omega
 ·have g7:i=b.length:=by omega
  subst g7;have h1:¬ ((b.length:Int)<(b.length:Int)):=by omega
  refine vg ?_;intro K hK;refine Qk [0,5,8] fun f=>?_;have h2:=HO.o;have h3:=u.o;have h4:=a5.o;have h5:=a4.o;rw [List.take_length] at h2 h3 h4 h5;exact HQ.o f c w sb fb n HS.o h2 h3 h4 h5
theorem x3 (o:cV) (c:Bs→Option Bs) (nm:Bs×Bs) (d:Bool):(cR o c nm d).2=nm.2:=by
 unfold cR;split
 ·rfl
 split
 ·rfl
 split
 ·rfl
 have b:∀ a:Bs,(match c a with|some v=>(v,nm.2)|none=>if a=[] then (o.space,nm.2) else (a,nm.2):Bs×Bs).2=nm.2:=by
  intro a;cases c a with
  | some v=>rfl
  | none=>simp only;split<;>rfl
 exact b _
def WC (o:cV) (b:Bs→Option Bs) (a:cO):cO:=let q:=cR o b (a.1,a.2.1) false;(q.1,q.2,a.2.2)
theorem WE (o:cV) (b:Bs→Option Bs) (a:cO):WC o b a=((cR o b (a.1,a.2.1) false).1,a.2):=by
 unfold WC;simp only [x3]
theorem vG (s:Bs):∀ (l:List cO) (i:Nat) (a:cO),l[i]?=some a→(aN l).set (i*3) (aB s)=aN (l.set i (s,a.2))
 | [],i,a,h=>by simp at h
 | b::l,0,a,h=>by
  simp only [List.getElem?_cons_zero,jW] at h;subst h;rfl
 | b::l,i+1,a,h=>by
  simp only [List.getElem?_cons_succ] at h;have ih:=vG s l i a h;have e:∀ (b:cO) (l:List cO),aN (b::l)=[aB b.1,aB b.2.1,aB b.2.2]++aN l:=fun _ _=>rfl;rw [e,List.set_cons_succ,e,←ih,List.set_append_right _ _ (by simp;omega)]
  congr 2
  simp;omega
theorem WF {b:Array Value} {l:List cO} {n:Nat} (d:n=l.length) (h:b.toList.take (n*3)=aN l) {i:Nat} {a:cO} (c:l[i]?=some a) (s:Bs):(b.setIfInBounds (i*3) (aB s)).toList.take (n*3)=aN (l.set i (s,a.2)):=by
 rw [Array.toList_setIfInBounds,List.take_set,h,vG s l i a c]
theorem SK (f:cO→cO) (b:List cO) (i:Nat) (a:cO) (c:b[i]?=some a):((b.take i).map f++b.drop i)[i]?=some a∧((b.take i).map f++b.drop i).set i (f a)=(b.take (i+1)).map f++b.drop (i+1):=by
 obtain ⟨h,g⟩:=A9.1 c;have d:b.drop i=a::b.drop (i+1):=by rw [←g];exact CN h
 have e:((b.take i).map f).length=i:=by simp;omega
 have j:b.take (i+1)=b.take i++[a]:=by rw [List.take_succ,c];rfl
 constructor
 ·rw [CQ (by omega),e,d];simp
 ·rw [List.set_append_right _ _ (by omega),e,d,j];simp
def YU (x:Cx) (w0:World) (e:Bs→Option Bs) (j g:Nat) (h:Nat) (c:List cO) (k:Nat) (a:Act) (w:World):Prop:=
 ∃ f i d,a=fr 204 f [(0,bT x),(5,.nilIface),(8,.pointer (some ⟨j,0,none⟩)),(176,.int .i64 c.length),(177,.int .i64 (i:Nat))]∧aJ (fun b=>b=g) w0 w ∧
  aL w g d 103∧d.size=h∧d.toList.take (c.length*3)=aN ((c.take i).map (WC x.o e)++c.drop i)∧k=c.length-i∧i≤c.length
theorem SL (x:Cx) (hx:x.Ok) (c:DC) (w0:World) (v:DV) (hd:bR w0 x.d c v) (m n:Nat) (A:Bs→Option Bs) (y:c.ns=.map (some m)) (O:kU w0 m n A) (P:c.space=⟨x.o.space.toArray⟩)
  (d:List cO) (t:∀ a∈d,zJ 1000000000 a) (u:d.length≤1000000000) (U g aA:Nat) (nm:Bs×Bs) (o:Array Value) (I:aL w0 g o 103) (e:o.toList.take (d.length*3)=aN d) (L:g≠x.d∧g≠m∧g≠U)
  (S:aL w0 U #[aB nm.1,aB nm.2,.slice (some ⟨g,0,none⟩) d.length aA] 101) (Q:Exit→Act→World→Prop)
  (hQ:∀ f w p,aJ (fun b=>b=g) w0 w→aL w g p 103→p.size=o.size→p.toList.take (d.length*3)=aN (d.map (WC x.o A))→Q .normal (fr 204 f [(0,bT x),(5,.nilIface),(8,.pointer (some ⟨U,0,none⟩))]) w) (f:Nat→Value) (c1:Code) (a0:c1=.loop (gK 37)) :
  c1.wp prog (Exit.inBlock 3 Q) (fr 204 f [(0,bT x),(5,.nilIface),(8,.pointer (some ⟨U,0,none⟩)),(176,.int .i64 d.length),(177,.int .i64 0)]) w0:=by
 subst a0;have ⟨HX,HQ,B,C,l,HD⟩:=gT hx hQ t u L hd;have ⟨X,Y,W,Z⟩:=kS O P y S;refine wp_loop_ghost_k (YU x w0 A U g o.size d) d.length ⟨f,0,o,rfl,aJ.refl _ _,I,rfl,by simpa using e,by simp,jU _⟩ ?_;clear hd hx hQ t u I e L O P y S;rintro k _ w ⟨f,i,s,rfl,hm,I,R,e,hk,hi⟩ J K2 hJ G;have ⟨HJ,V,D,HG,F,j⟩:=gT hJ G hm I R e;have HK:=Lh hk;clear hJ G hm I R e hk;unfold gK;conv=>arg 2;whnf
 by_cases N:i<d.length
 ·have h1:(i:Int)<(d.length:Int):=by omega
  have h0:(0:Int)≤(i:Int):=by omega
  have a5:IntKind.i64.wrap ((i:Int)+1)=((i+1:Nat):Int):=by rw [IntKind.wrap_i64];have:=C.o;omega
  obtain ⟨a,ha⟩:∃ a,d[i]?=some a:=⟨d[i],by simp [N]⟩;obtain ⟨k0,k9⟩:=SK (WC x.o A) d i a ha;have z:((d.take i).map (WC x.o A)++d.drop i).length=d.length:=by simp;omega
  have e:=j.o;rw [←z] at e;obtain ⟨k1,k2,k3⟩:=s8 e k0;have q:=WF z.symm j.o k0 (cR x.o A (a.1,a.2.1) false).1;rw [←WE,k9] at q;have E:=Lh q;have r:=Z.o.mod D.o (fun M=>l.o.2.2 M.symm);have a1:=r.cell;have a2:=r.frozen;have H:bR w x.d c v:=aL.mod HD.o D.o (fun M=>l.o.1 M.symm);have T:=Lh (qF x c w v H m n A W.o (X.o.mod D.o (fun M=>l.o.2.1 M.symm)) Y.o g s _ HG.o l.o.1 l.o.2.1 (i*3) (a.1,a.2.1) k1 k2 (fQ (B.o a (List.mem_of_getElem? ha)).1 (by decide)) false);clear q k0 k1 k2 k3 k9 e r H z;refine vg ?_;intro K hK K hK;refine T.o.mono ?_;rintro e1 w1 ⟨rfl,a4,aC,a6⟩;clear a1 a2 T;(repeat revert K);refine vS ?_;refine Kk [0,5,8,176,177] fun f=>?_;exact V.o _ _ ⟨d.length-(i+1),by rw [HK.o];omega,HJ.o _ _ _ ⟨f,i+1,_,rfl,D.o.trans a4 (fun _ _ h=>h),aC,by simpa using F.o,E.o,rfl,N⟩⟩
 ·have a3:i=d.length:=by omega
  subst a3;have h1:¬ ((d.length:Int)<(d.length:Int)):=by omega
  refine vg ?_;intro K hK;refine Qk [0,5,8] fun f=>?_;refine HQ.o f w s D.o HG.o F.o ?_;have:=j.o;simpa using this
theorem B6 (x:Cx) (i:x.All) (c:DC) (w:World) (v:DV) (s:St) (m:Nat) (d b:List Nat) (n:Nat) (a:Nat) (nm:Bs×Bs) (h:OR x c w v s m d b n a nm) :
  Calls prog 41 #[bT x,.pointer (some ⟨a,0,none⟩)] w fun j w'=>gJ x c w v s nm m d b n a j w':=by
 cases f:s.stk with
 | nil=>exact OS x i c w v s m d b n a nm h f
 | cons e stk'=>
  rcases (h.sok e (by rw [f];simp)).1 with g|g
  ·exact LB x i c w v s m d b n a nm h e stk' f g
  ·exact SJ x i c w v s m d b n a nm h e stk' f g
theorem iA.head {w:World} {p:Value} {l:List iH} {d:List Nat} (h:iA w p l d) (a:kN l) :
  (p=.pointer none∧l=[])∨∃ q e l' b c,p=.pointer (some ⟨q,0,none⟩)∧l=e::l'∧(e.kind=0∨e.kind=1)∧aL w q (jA b e.kind e.space e.loc c) 95∧q∈d:=by
 rcases h.ptr with ⟨f,_,g⟩|⟨q,e,l',bs',rfl,rfl,rfl⟩
 ·exact aG ⟨f,g⟩
 ·obtain ⟨_,b,c,i,_,_⟩:=h;exact aU ⟨q,e,l',b,c,rfl,rfl,(a e (by simp)).1,i,by simp⟩
def GK (x:Cx) (v:Value):Prop:=∃ A N C,v=.slice A N C∧N=x.o.auto.length∧N≤1000000000000∧N≤C∧(0<N→∃ b o,A=some ⟨b,o,none⟩∧b<x.B∧∀ j a,x.o.auto[j]?=some a→x.W0.cell? ⟨b,o+j,none⟩=some (aB a)∧a.length≤1000000000000)
structure vH (x:Cx) (c:DC):Prop where
 dc:hY x c
 no:rS x c
 sp:c.space=⟨x.o.space.toArray⟩
 auto:GK x c.auto
theorem vH.same {x:Cx} {c a:DC} (h:vH x c) (k:qG c a):vH x a:=by
 obtain ⟨p,q,d,b,e,f,rfl⟩:=k;exact ⟨⟨h.dc.r,h.dc.strict⟩,⟨h.no.ent,h.no.ents⟩,h.sp,h.auto⟩
def dM:Value→Nat→Prop
 | .iface _ (.agg #[_,_,.slice (some a) _ _]),k=>k=a.block
 | _,_=>False
theorem mV.slice {w:World} {b s:Value} {d:Bs} (h:mV w b s d):∃ a l c,s=.slice (some a) l c:=by
 obtain ⟨g,e,n,h,_⟩:=h.ex;exact ⟨_,_,_,h⟩
theorem bJ.mod {w w':World} {g o:Nat} {d:Bs} {S:Nat→Prop} (h:bJ w g o d) (f:aJ S w w') (b:¬ S g):bJ w' g o d:=by
 intro j c;have a:=h j c;have e:=World.block_lt_of_cell? w _ a;rw [←a];exact World.cell?_of_block (w:=w) (f.block g e b)
theorem iB.mod {w w':World} {c:Value} {B:Nat} {m:Value} {l:aP} {S:Nat→Prop} (h:iB w c B m l) (o:aJ S w w') (q:∀ k,dU c k→¬ S k) (t:∀ g,dM m g→¬ S g):iB w' c B m l:=by
 have j:∀ {s:Value} {d:Bs},mV w c s d→mV w' c s d:=by
  rintro s d ⟨g,e,n,b,a,i,f,p⟩;exact ⟨g,e,n,b,a,i.mod o (q g (by rw [a];rfl)),f,p⟩
 cases l with
 | text d=>obtain ⟨s,b,a⟩:=h;exact ⟨s,b,j a⟩
 | comment d=>obtain ⟨s,b,a⟩:=h;exact ⟨s,b,j a⟩
 | dir d=>obtain ⟨s,b,a⟩:=h;exact ⟨s,b,j a⟩
 | proc tg d=>obtain ⟨s,b,a⟩:=h;exact ⟨s,b,j a⟩
 | fin nm=>exact h
 | start nm ats=>
  obtain ⟨s,rfl,a,i⟩:=h;refine ⟨s,rfl,a,aE i o (fun k r=>?_)⟩;rcases i.2 with ⟨f,_⟩|⟨g,e,cur,f,_⟩
  ·exact absurd f a
  ·subst f;have:g=k:=by simpa [Value.ownBlock] using r
   subst this;exact t g rfl
theorem iB.lt {w:World} {k:Value} {B:Nat} {f:Value} {j:aP} (h:iB w k B f j) {g:Nat} (a:dM f g):B≤g∧g<w.heap.size:=by
 cases j with
 | start nm ats=>
  obtain ⟨c,rfl,e,n,i⟩:=h;rcases i with ⟨rfl,i⟩|⟨g',cap,cur,rfl,l,m,_⟩
  ·exact absurd rfl e
  ·have:g=g':=a;subst this;exact ⟨l,(show aL w g cur 103 from m).lt⟩
 | fin nm=>rw [show f=KW nm from h] at a;exact a.elim
 | text d=>obtain ⟨c,rfl,b⟩:=h;obtain ⟨_,_,_,rfl⟩:=b.slice;exact a.elim
 | comment d=>obtain ⟨c,rfl,b⟩:=h;obtain ⟨_,_,_,rfl⟩:=b.slice;exact a.elim
 | dir d=>obtain ⟨c,rfl,b⟩:=h;obtain ⟨_,_,_,rfl⟩:=b.slice;exact a.elim
 | proc tg d=>obtain ⟨c,rfl,b⟩:=h;exact a.elim
def qH:Option aP→Nat
 | some (.start _ ats)=>1+ats.length
 | _=>0
def lA (x:Cx) (w:World) (v:DV) (c:DC) (s:St) (own:List Nat):Prop:=
 match s.next with
 | none=>c.nextTok=.nilIface
 | some tk=>∃ B,x.B≤B∧B≤w.heap.size∧iB w v.bufv B c.nextTok tk∧zM x.T.length tk∧(∀ g,dM c.nextTok g→g∉own∧¬ x.S1 v g)∧((∀ d,tk≠.text d)→s.ended=false∧v.err=.nilIface)
theorem lA.step {x:Cx} {w w':World} {v:DV} {c i:DC} {s f:St} {own a:List Nat} {S:Nat→Prop} (h:lA x w v c s own) (n:aJ S w w') (u:∀ k,dU v.bufv k→¬ S k) (D:∀ g,dM c.nextTok g→¬ S g) (C:f.next=s.next) (y:i.nextTok=c.nextTok) (z:f.ended=s.ended)
  (d:∀ b∈a,b∈own∨w.heap.size≤b):lA x w' v i f a:=by
 unfold lA at h ⊢;rw [C,y,z];cases o:s.next with
 | none=>rw [o] at h;exact h
 | some tk=>
  rw [o] at h;obtain ⟨B,p,q,j,r,l,t⟩:=h;refine ⟨B,p,fQ q n.size,j.mod n u D,r,fun g e=>⟨fun A=>?_,(l g e).2⟩,t⟩;rcases d g A with m|m
  ·exact (l g e).1 m
  ·have:=(j.lt e).2;omega
theorem lA.none {x:Cx} {w:World} {v:DV} {c:DC} {s:St} {own:List Nat} (a:s.next=none) (b:c.nextTok=.nilIface):lA x w v c s own:=by
 unfold lA;rw [a];exact b
structure TS (x:Cx) (c:DC) (w:World) (v:DV) (s:St) (m:Nat) (b a:List Nat) (n:Nat):Prop where
 cfg:vH x c
 rd:B5 x c w v s
 own:mC x w c v m b a n s.stk s.ns
 sok:kN s.stk
 nok:rN s.ns
 tcl:∀ nm,s.toClose=some nm→nm.1.length≤x.T.length∧nm.2.length≤x.T.length
 bnd:n+s.stk.length+2*s.rest.length+2*qH s.next≤2*x.T.length
 nxt:lA x w v c s (m::(b++a))
def lU (x:Cx) (w:World) (v:DV) (c:DC) (R:Except EK (aP×St)) (m:Nat) (h f:List Nat) (t e:Value) (w':World):Prop:=
 match R with
 | .error k=>t=.nilIface∧wZ x e (some k)∧Below x.B x.W0 w'∧kL w' e k∧aJ (fun b=>x.S1 v b∨b∈m::(h++f)∨dM c.nextTok b) w w'
 | .ok (tk,s')=>e=.nilIface∧∃ i v' d a j,TS x i w' v' s' m d a j∧(∃ B,iB w' v'.bufv B t tk)∧aJ (fun b=>x.S1 v b∨b∈m::(h++f)∨dM c.nextTok b) w w' ∧
   (∀ b∈m::(d++a),b∈m::(h++f)∨w.heap.size≤b)∧(∀ b,x.S1 v' b→x.S1 v b∨w.heap.size≤b)∧∀ g,dM i.nextTok g→dM c.nextTok g∨w.heap.size≤g
theorem OU (v:Value) (w:World):(Instr.typeAssert (XY v) 57 101 true).run prog w=.ok (.tuple #[.agg #[mW,mW,.slice none 0 0],.bool false]) w:=by kernel_rfl
theorem I6 (v:Value) (w:World):(Instr.typeAssert (XY v) 57 110 true).run prog w=.ok (.tuple #[.agg #[mW,mW],.bool false]) w:=by kernel_rfl
theorem OV (v:Value) (w:World):(Instr.typeAssert (US v) 57 101 true).run prog w=.ok (.tuple #[.agg #[mW,mW,.slice none 0 0],.bool false]) w:=by kernel_rfl
theorem I7 (v:Value) (w:World):(Instr.typeAssert (US v) 57 110 true).run prog w=.ok (.tuple #[.agg #[mW,mW],.bool false]) w:=by kernel_rfl
theorem OW (a:Bs) (v:Value) (w:World):(Instr.typeAssert (UT a v) 57 101 true).run prog w=.ok (.tuple #[.agg #[mW,mW,.slice none 0 0],.bool false]) w:=by kernel_rfl
theorem I8 (a:Bs) (v:Value) (w:World):(Instr.typeAssert (UT a v) 57 110 true).run prog w=.ok (.tuple #[.agg #[mW,mW],.bool false]) w:=by kernel_rfl
theorem OX (a b:Value) (w:World):(Instr.typeAssert (.iface 110 (.agg #[a,b])) 57 101 true).run prog w=.ok (.tuple #[.agg #[mW,mW,.slice none 0 0],.bool false]) w:=by kernel_rfl
theorem I9 (a b:Value) (w:World):(Instr.typeAssert (.iface 110 (.agg #[a,b])) 57 110 true).run prog w=.ok (.tuple #[.agg #[a,b],.bool true]) w:=by kernel_rfl
theorem OY (a b s:Value) (w:World):(Instr.typeAssert (.iface 101 (.agg #[a,b,s])) 57 101 true).run prog w=.ok (.tuple #[.agg #[a,b,s],.bool true]) w:=by kernel_rfl
theorem YV (a b s:Value) (w:World):(Instr.typeAssert (.iface 101 (.agg #[a,b,s])) 57 110 true).run prog w=.ok (.tuple #[.agg #[mW,mW],.bool false]) w:=by kernel_rfl
theorem iB.iface {w:World} {e:Value} {B:Nat} {c:Value} {b:aP} (h:iB w e B c b):∃ ty u,c=.iface ty u:=by
 cases b with
 | start nm ats=>obtain ⟨a,rfl,_⟩:=h;exact ⟨_,_,rfl⟩
 | fin nm=>exact ⟨_,_,h⟩
 | text d=>obtain ⟨a,rfl,_⟩:=h;exact ⟨_,_,rfl⟩
 | comment d=>obtain ⟨a,rfl,_⟩:=h;exact ⟨_,_,rfl⟩
 | dir d=>obtain ⟨a,rfl,_⟩:=h;exact ⟨_,_,rfl⟩
 | proc tg d=>obtain ⟨a,rfl,_⟩:=h;exact ⟨_,_,rfl⟩
theorem iB.assertE {w:World} {f:Value} {B:Nat} {e:Value} {c:aP} (h:iB w f B e c) :
  (∃ nm,c=.fin nm∧∀ w,(Instr.typeAssert e 57 110 true).run prog w=.ok (.tuple #[.agg #[aB nm.1,aB nm.2],.bool true]) w) ∨
  ((∀ nm,c≠.fin nm)∧∀ w,(Instr.typeAssert e 57 110 true).run prog w=.ok (.tuple #[.agg #[mW,mW],.bool false]) w):=by
 cases c with
 | start nm ats=>obtain ⟨b,rfl,_⟩:=h;exact aU ⟨fun _ a=>(by cases a),fun w=>YV _ _ _ w⟩
 | fin nm=>rw [show e=KW nm from h];exact aG ⟨nm,rfl,fun w=>I9 _ _ w⟩
 | text d=>obtain ⟨b,rfl,_⟩:=h;exact aU ⟨fun _ a=>(by cases a),fun w=>IZ _ w⟩
 | comment d=>obtain ⟨b,rfl,_⟩:=h;exact aU ⟨fun _ a=>(by cases a),fun w=>I6 _ w⟩
 | dir d=>obtain ⟨b,rfl,_⟩:=h;exact aU ⟨fun _ a=>(by cases a),fun w=>I7 _ w⟩
 | proc tg d=>obtain ⟨b,rfl,_⟩:=h;exact aU ⟨fun _ a=>(by cases a),fun w=>I8 _ _ w⟩
def OZ (r:Option (Bs×Bs)):Value:=
 match r with
 | none=>.tuple #[.nilIface,.bool false]
 | some nm=>.tuple #[KW nm,.bool true]
def YW (x:Cx) (d c:Value) (b:Bs) (w0:World) (k:Nat) (a:Act) (w:World):Prop:=
 ∃ f i,a=fr 76 f [(0,bT x),(1,d),(4,.nilIface),(5,.bool false),(28,c),(29,.int .i64 x.o.auto.length),(30,.int .i64 (i:Nat))]∧Below w0.heap.size w0 w∧k=x.o.auto.length-i∧i≤x.o.auto.length∧(x.o.auto.take i).any (fun a=>bZ a b)=false
theorem WG (x:Cx) (hx:x.Ok) (g:x.o.auto=[]) (c:DC) (m:GK x c.auto) (w:World) (O:Below x.B x.W0 w) (v:DV) (h:bR w x.d c v) (s:St) {sb:List Nat} (P:iA w c.stk s.stk sb) (b:kN s.stk) (bv:Value) (B:Nat) (V:Value) (u:aP) (Q:iB w bv B V u) (j:∀ nm,u=.fin nm→nm.2.length≤1000000000000) :
  Calls prog 37 #[bT x,V] w fun en w'=>en=.returned (OZ (jY bZ x.o u s))∧Below w.heap.size w w':=by
 have Z:=h.cell;have hf:=h.frozen;have q1:=fun w=>B0 w;rcases P.head b with ⟨h1,t⟩|⟨q,e,l',nx,ok,h1,t,hk,M,_⟩
 ·have z:=Lh (show jY bZ x.o u s=none by unfold jY;rw [t]);clear h P b m g O Q j;refine eL 76 func37 [_,_] fun f=>?_;simp only [aF];refine vg ?_;intro K hK;refine kW ?_;exact ⟨by rw [z.o];rfl,Below.refl _ _⟩
 have n:=M.cell;have G:=M.frozen;obtain ⟨_,I,p⟩:=b e (by rw [t];simp);obtain ⟨ek,a2,D,a1⟩:=e;simp only at hk n I p;rcases hk with rfl|rfl
 ·
  obtain ⟨A,N,C,F,rfl,hN,a3,a⟩:=m;have Y:c.auto=.slice A x.o.auto.length C:=F;have ⟨HH,HQ,HB,T,HC,HL⟩:=gT h M O g a p;have ⟨HN,HS⟩:=cB hN t;have aA:=Lh Q.assertE;have a0:=Lh j;have h0:¬ (9223372036854775807:Int)<0:=by omega
  clear h P b g O Q j M a I p t F;refine eL 76 func37 [_,_] fun f=>?_;simp only [aF];refine vg ?_;intro K hK;refine cG [0,1,4,5,28,29,30] fun f=>?_;refine wp_loop_ghost_k (YW x V (.slice A x.o.auto.length C) D w) x.o.auto.length ⟨f,0,rfl,Below.refl _ w,by simp,jU _,rfl⟩ ?_;rintro k _ w2 ⟨f,i,rfl,d,H,hi,l⟩ J K2 X E;have ⟨HJ,aC,R,HK,y⟩:=pM X E d H l;clear X E H l;have o:bR w2 x.d c v:=aL.mod (S:=fun _=>False) HH.o (aH d _) id;have r:=aL.mod (S:=fun _=>False) HQ.o (aH d _) id;clear Z hf n G d;have Z:=o.cell;have hf:=o.frozen;have n:=r.cell;have G:=r.frozen;clear o r;by_cases L:i<x.o.auto.length
  ·rw [T.o] at L;exact absurd L (by simp)
  ·have U:i=x.o.auto.length:=by omega
   subst U;have t1:¬ ((x.o.auto.length:Int)<(x.o.auto.length:Int)):=by omega
   have z:=Lh (show jY bZ x.o u s=none by
    have W:=y.o;rw [List.take_length] at W;unfold jY;rw [HS.o];simp only;rw [aQ (by simp),aQ (by rw [W];simp)])
   revert K;refine vg ?_;refine kW ?_;exact ⟨by rw [z.o];rfl,R.o⟩
 ·have z:=Lh (show jY bZ x.o u s=none by
   unfold jY;rw [t];simp)
  clear h P b m g O Q j M;refine eL 76 func37 [_,_] fun f=>?_;simp only [aF];refine vg ?_;intro K hK;refine kW ?_;exact ⟨by rw [z.o];rfl,Below.refl _ _⟩
theorem Au (x:Cx) (L:x.Ok) (r:x.o.auto=[]) (c:DC) (q:GK x c.auto) (a:c.strict=x.o.strict) (w:World) (G:Below x.B x.W0 w) (v:DV) (h:bR w x.d c v) (s:St) {N:List Nat} (J:iA w c.stk s.stk N) (y:kN s.stk) (F:Value) (B:Nat) (z:Value) (l:aP) (C:iB w F B z l) (t:∀ nm,l=.fin nm→nm.2.length≤1000000000000) (Q:Exit→Act→World→Prop)
  (o:(x.o.strict=true∨jY bZ x.o l s=none)→∀ f w',Below w.heap.size w w'→(gK 19).wp prog Q (fr 204 f [(0,bT x),(4,z),(5,.nilIface)]) w')
  (p:∀ nm,x.o.strict=false→jY bZ x.o l s=some nm→∀ f w',Below w.heap.size w w'→(gK 19).wp prog Q (fr 204 f [(0,bT x),(4,KW nm),(5,.nilIface)]) (w'.setCell ⟨x.d,17,none⟩ z))
  (f:Nat→Value):(gK 14).wp prog Q (fr 204 f [(0,bT x),(4,z),(5,.nilIface)]) w:=by
 have H:=h.cell;have I:=h.frozen;have E:=Lh (WG x L r c q w G v h s J y F B z l C t);obtain ⟨ty,u,rfl⟩:=C.iface;have ⟨n,A,M⟩:=kV o p h;clear h J y o p q r G C t L;have i:c.strict=true∨c.strict=false:=by cases c.strict<;>simp
 conv=>arg 2;unfold gK;whnf
 rcases i with k|k
 ·have e:=Lh (show x.o.strict=true by rw [←a];exact k);clear a;refine vT 19 ?_;refine cG [0,4,5] fun f=>?_;exact bB (n.o (aG e.o) f w (Below.refl _ w)) (by kernel_rfl)
 ·have e:=Lh (show x.o.strict=false by rw [←a];exact k);clear a;refine vg ?_;intro K hK K hK K hK;refine E.o.mono ?_;rintro O D ⟨rfl,g⟩;have m:=Lh g;have j:bR D x.d c v:=aL.mod (S:=fun _=>False) M.o (aH g _) id;clear g E H I;have H:=j.cell;have I:=j.frozen;clear j;cases b:jY bZ x.o l s with
  | none=>
   have d:=Lh b;clear b;simp only [OZ];go_simp;(repeat revert K);refine vT 19 ?_;refine cG [0,4,5] fun f=>?_;exact bB (n.o (aU d.o) f D m.o) (by kernel_rfl)
  | some nm=>
   have d:=Lh b;clear b;simp only [OZ];go_simp;(repeat revert K);refine vT 19 ?_;refine cG [0,4,5] fun f=>?_;exact bB (A.o nm e.o d.o f D m.o) (by kernel_rfl)
theorem x4:∀ (a:List iH) (d:Bs→Option Bs),kN a→rN d→kN (fD a d).1∧rN (fD a d).2
 | [],d,c,f=>⟨c,f⟩
 | e::a,d,c,f=>by
  unfold fD;split
  ·exact ⟨c,f⟩
  ·refine x4 a _ (fun g h=>c g (List.mem_cons_of_mem _ h)) (fun k u b=>?_);unfold gO at b;split at b
   ·split at b
    ·simp only [jW] at b;rw [←b];exact (c e List.mem_cons_self).2.1
    ·cases b
   ·exact f k u b
theorem LC {o:cV} {nm:Bs×Bs} {s b:St} {t:aP} (h:lG o nm s=.ok (t,b)) (f:kN s.stk) (g:rN s.ns) :
  b.rest=s.rest∧kN b.stk∧rN b.ns∧(b.toClose=s.toClose∨(b.toClose=some nm∧∃ e a,s.stk=e::a∧e.loc≠nm.2))∧b.next=s.next∧b.ended=s.ended:=by
 unfold lG at h;split at h
 ·cases h
 ·rename_i e a i;rw [i] at f;have c:kN a:=fun j k=>f j (List.mem_cons_of_mem _ k);split at h
  ·cases h
  ·split at h
   ·rename_i d;split at h
    ·cases h
    ·simp only [cD,b8] at h;obtain ⟨rfl,rfl⟩:=h;exact ⟨rfl,c,g,aU ⟨rfl,e,a,i,d⟩,rfl,rfl⟩
   ·split at h
    ·cases h
    ·simp only [cD,b8] at h;obtain ⟨rfl,rfl⟩:=h;obtain ⟨l,m⟩:=x4 a s.ns c g;exact ⟨rfl,l,m,aG rfl,rfl,rfl⟩
theorem SM (o:cV) (nm:Bs×Bs) (s:St):sJ (lG o nm s):=by
 unfold lG;split
 ·(first|exact aX _|exact bE|exact bO _)
 ·split
  ·(first|exact aX _|exact bE|exact bO _)
  ·split
   ·split<;>(first|exact aX _|exact bE|exact bO _)
   ·split<;>(first|exact aX _|exact bE|exact bO _)
def GL (s:St) (b:aP):Prop:=∃ nm e a,b=.fin nm∧s.stk=e::a∧e.kind=0∧nm=(e.space,e.loc)
structure pE (x:Cx) (c:DC) (w:World) (v:DV) (s:St) (m:Nat) (e a:List Nat) (n:Nat) (B:Nat) (f:Value) (tk:aP):Prop where
 cfg:vH x c
 rd:B5 x c w v s
 own:mC x w c v m e a n s.stk s.ns
 sok:kN s.stk
 nok:rN s.ns
 tcl:∀ nm,s.toClose=some nm→nm.1.length≤x.T.length∧nm.2.length≤x.T.length
 le:zM x.T.length tk∨GL s tk
 bnd:n+s.stk.length+2*s.rest.length+2*qH s.next+2*qH (some tk)≤2*x.T.length
 tok:iB w v.bufv B f tk
 hB:x.B≤B
 hBs:B≤w.heap.size
 tkd:∀ g,dM f g→g∉m::(e++a)∧¬ x.S1 v g
 nt:(∀ d,tk≠.text d)→(s.ended=false∧∃ b,cA x c w v s.rest none b)∨GL s tk
 nxt:lA x w v c s (m::(e++a))
def sF (x:Cx) (w:World) (v:DV) (c:DC) (R:Except EK (aP×St)) (m:Nat) (g f:List Nat) (j:Value) (t e:Value) (w':World):Prop:=
 match R with
 | .error k=>t=.nilIface∧wZ x e (some k)∧Below x.B x.W0 w'∧kL w' e k∧aJ (fun b=>x.S1 v b∨b∈m::(g++f)) w w'
 | .ok (tk,s')=>e=.nilIface∧∃ h v' d a i,TS x h w' v' s' m d a i∧(∃ B,iB w' v'.bufv B t tk)∧aJ (fun b=>b=x.d∨b∈m::(g++f)∨dM j b) w w' ∧
   (∀ b∈m::(d++a),b∈m::(g++f)∨w.heap.size≤b)∧v'.bufv=v.bufv∧h.nextTok=c.nextTok
theorem qG.next {c a:DC} (h:qG c a):a.nextTok=c.nextTok:=by
 obtain ⟨_,_,_,_,_,_,rfl⟩:=h;rfl
theorem lA.far {x:Cx} {w:World} {v:DV} {c:DC} {s:St} {own:List Nat} (h:lA x w v c s own) {g:Nat} (a:dM c.nextTok g):g∉own∧¬ x.S1 v g:=by
 unfold lA at h;cases b:s.next with
 | none=>rw [b] at h;rw [show c.nextTok=.nilIface from h] at a;exact a.elim
 | some tk=>rw [b] at h;obtain ⟨_,_,_,_,_,d,_⟩:=h;exact d g a
theorem cA.bufFar {x:Cx} {c:DC} {w:World} {v:DV} {rest:Bs} {e:Option EK} {b:Bs} {m:Nat} {g d:List Nat} {n:Nat} {i:DC} {a:List iH} {p:Bs→Option Bs} (h:cA x c w v rest e b) (o:mC x w i v m g d n a p) {k:Nat} (f:dU v.bufv k):k≠x.d∧k∉m::(g++d):=
 ⟨fun j=>h.bf.notS0 k f (aG j),fun l=>o.s1 k l (aU f)⟩
theorem pE.plain {x:Cx} {c:DC} {w:World} {v:DV} {s:St} {m:Nat} {g f:List Nat} {n B:Nat} {i:Value} {a:aP} (h:pE x c w v s m g f n B i a) (j:∀ nm d,a≠.start nm d) (k:∀ nm,a≠.fin nm):sF x w v c (cI x.o a s) m g f i i .nilIface w:=by
 have e:cI x.o a s=.ok (a,s):=by
  unfold cI;split
  ·exact absurd rfl (j _ _)
  ·exact absurd rfl (k _)
  ·rfl
 rw [e];exact ⟨rfl,c,v,g,f,n,⟨h.cfg,h.rd,h.own,h.sok,h.nok,h.tcl,by have:=h.bnd;omega,h.nxt⟩,⟨B,h.tok⟩,aJ.refl _ _,fun b l=>aG l,rfl,rfl⟩
theorem wI (x:Cx) (c:DC) (w:World) (v:DV) (s:St) (m:Nat) (A u:List Nat) (n B:Nat) (r:Value) (j:aP) (h:pE x c w v s m A u n B r j) (g:∀ nm b,j≠.start nm b) (i:∀ nm,j≠.fin nm) (Q:Exit→Act→World→Prop)
  (y:∀ f w' t e,sF x w v c (cI x.o j s) m A u r t e w'→Q .ret (fr 204 f [(2,t),(3,e)]) w') (f:Nat→Value):(gK 19).wp prog Q (fr 204 f [(0,bT x),(4,r),(5,.nilIface)]) w:=by
 have ⟨k,H⟩:=cB y h;have l:=h.tok;clear y h;conv=>arg 2;unfold gK;whnf
 cases j with
 | start nm b=>exact absurd rfl (g _ _)
 | fin nm=>exact absurd rfl (i _)
 | text d=>
  obtain ⟨q,rfl,⟨g0,a,z,rfl,_⟩⟩:=l;have o:=fun v w=>OA v w;have p:=fun v w=>IZ v w;clear g i;refine vg ?_;refine Qk [2,3] fun f=>?_;exact k.o f _ _ _ (H.o.plain (by simp) (by simp))
 | comment d=>
  obtain ⟨q,rfl,⟨g0,a,z,rfl,_⟩⟩:=l;have o:=fun v w=>OU v w;have p:=fun v w=>I6 v w;clear g i;refine vg ?_;refine Qk [2,3] fun f=>?_;exact k.o f _ _ _ (H.o.plain (by simp) (by simp))
 | dir d=>
  obtain ⟨q,rfl,⟨g0,a,z,rfl,_⟩⟩:=l;have o:=fun v w=>OV v w;have p:=fun v w=>I7 v w;clear g i;refine vg ?_;refine Qk [2,3] fun f=>?_;exact k.o f _ _ _ (H.o.plain (by simp) (by simp))
 | proc tg d=>
  obtain ⟨q,rfl,_⟩:=l;have o:=fun v w=>OW tg v w;have p:=fun v w=>I8 tg v w;clear g i;refine vg ?_;refine Qk [2,3] fun f=>?_;exact k.o f _ _ _ (H.o.plain (by simp) (by simp))
theorem UV (x:Cx) (N:x.All) (c:DC) (w:World) (v:DV) (s:St) (m:Nat) (O J:List Nat) (n B:Nat) (tv:Value) (nm:Bs × Bs) (h:pE x c w v s m O J n B tv (.fin nm)) (Q:Exit → Act → World → Prop)
    (hQ:∀ f w' t e,sF x w v c (cI x.o (.fin nm) s) m O J tv t e w' → Q .ret (fr 204 f [(2,t),(3,e)]) w') (f:Nat → Value):(gK 19).wp prog Q (fr 204 f [(0,bT x),(4,tv),(5,.nilIface)]) w:=by
  have ht:tv=KW nm:=h.tok;subst ht;have q3:=fun a b w=>OX a b w;have q4:=fun a b w=>I9 a b w;obtain ⟨e0,b0,V,T,U⟩:=h.rd.rd;obtain ⟨wt,u⟩:=cK (w.alloc (.cells #[aB nm.1,aB nm.2] 110));have r:Below w.heap.size w wt:=by rw [u];exact (Below.refl _ w).alloc (dF _) _
  have E:aJ (fun _=>False) w wt:=aH r _;have W:=V.below N.toOk r;have a3:∀ k ∈ m :: (O ++ J),k < w.heap.size:=h.own.lt;have b5:x.d < w.heap.size:=V.dec.lt;have Z:=N.len;have G:nm.1.length ≤ 100000000000∧nm.2.length ≤ 100000000000:=by
    rcases h.le with ⟨k1,k2⟩|⟨I,e,stk',D,y,_,R⟩
    · omega
    · cases D
      have:=h.sok e (by rw [y];simp);rw [R];exact this.2
  have Y:(nm.1.length ≤ x.T.length∧nm.2.length ≤ x.T.length) ∨ GL s (.fin nm):=h.le
  have a4:OR x c wt v s m O J n w.heap.size nm:=
    { fit:=by
        rcases h.nt (by simp) with ⟨D,b,y⟩|⟨I,e,stk',D,y,R,h4⟩
        · exact aG ⟨D,b,y.below N.toOk r⟩
        · cases D;exact aU ⟨e,stk',y,R,h4⟩
      strict:=h.cfg.dc.strict,rts:=⟨⟨e0,b0,W,T,U⟩,h.rd.nc,h.rd.tc,h.rd.nb⟩,own:=h.own.mod E (fun _ _=>id) h.own.s1,sok:=h.sok,
      bnd:=by have:=h.bnd;omega,sp:=h.cfg.sp,tok:=by rw [u];exact aL.new w _ _,tS:=V.newS1,tO:=fun j=>Nat.lt_irrefl _ (a3 _ j),tB:=fQ h.hB h.hBs,l1:=G.1,l2:=G.2 }
  have C:=Lh (B6 x N c wt v s m O J n w.heap.size nm a4);have ⟨HQ,H,z,a8,b2,HX⟩:=gT hQ h E Y V N;clear hQ h V W a4 E r a3 b5 G Y Z T U N;conv=>arg 2;unfold gK;whnf
  refine vg ?_;intro K hK K hK K hK K hK;rw [← u];refine C.o.mono ?_;rintro e1 w1 M;have HW:=Lh (show cI x.o (.fin nm) s=lG x.o nm s from rfl);cases d:lG x.o nm s with
  | error k=>
    unfold gJ at M;rw [d] at M;obtain ⟨rfl,c2,v2,S,a0⟩:=M;have bA:=Lh a0;obtain ⟨t1,u1,b6⟩:=S.err.iface;have HE:=Lh S;have hc:=S.dec.cell;have hf:=S.dec.frozen;have ⟨HU,l⟩:=cB b6 d;clear S C u d a0;(repeat revert K);refine vS ?_;intro K hK K hK K hK
    ((refine cG [0] fun f=>?_);go_quiet (fail);((repeat revert K);refine vg ?_;intro K hK K hK);refine Qk [2,3] fun f=>?_)
    refine HQ.o f _ _ _ ?_;rw [HW.o,l.o];refine ⟨rfl,by rw [← HU.o];exact HE.o.err,(HE.o.drewN _).base,kL.no (fun j=>by subst j;exact SM _ _ _ l.o),?_⟩;refine (z.o.mono (fun _ _ h=>h.elim)).trans (bA.o.drewN _) (fun i hi q=>?_);rcases q with q|q|q
    · exact aG q
    · exact aU q
    · omega
  | ok p=>
    obtain ⟨tk,s'⟩:=p;unfold gJ at M;rw [d] at M;obtain ⟨I,rfl,rfl,c2,b9,b4,n2,a5,a2,F,X,aA,a6,a1⟩:=M;have l:=Lh d;have cT:=F.cell;have c1:=F.frozen;have ⟨b3,b1,A,a9,P,bC⟩:=gT a5 a2 X aA a6 a1;clear a5 a2 X aA a6 a1 F C d;(repeat revert K);refine vS ?_;refine Qk [2,3] fun f=>?_;refine HQ.o f _ _ _ ?_;rw [HW.o,l.o];obtain ⟨j1,j2,j3,j4,j5,j6⟩:=LC l.o H.o.sok H.o.nok;have a7:w.heap.size ≤ wt.heap.size:=z.o.size;have aC:aJ (fun b=>b=x.d ∨ b ∈ m :: (O ++ J) ∨ dM (KW nm) b) w _:=(z.o.mono (fun _ _ h=>h.elim)).trans a9.o (fun i hi q=>by
      rcases q with q|q|q
      · exact aG q
      · exact aU (aG q)
      · omega)
    refine ⟨rfl,c2,v,b9,b4,n2,⟨H.o.cfg.same A.o,b3.o,b1.o,j2,j3,?_,?_,?_⟩,⟨0,rfl⟩,aC,fun b hb=>?_,rfl,A.o.next⟩
    · intro b7 o
      rcases j4 with j4|⟨j4,e,stk,j7,j8⟩
      · exact H.o.tcl b7 (by rw [← j4];exact o)
      · rw [j4] at o
        simp only [jW] at o;subst o;rcases a8.o with L|⟨I,e',stk',D,y,_,R⟩
        · exact L
        · cases D
          rw [j7] at y;obtain ⟨rfl,_⟩:=List.cons.inj y;exact absurd (by rw [R]) j8
    · rw [j1,j5]
      have L:=bC.o;have o:=H.o.bnd;omega
    · refine H.o.nxt.step aC (fun k hk j=>?_) (fun g hg j=>?_) j5 A.o.next j6 (fun b hb=>?_)
      · obtain ⟨h7,L⟩:=b2.o.bufFar H.o.own hk
        rcases j with j|j|j
        · exact h7 j
        · exact L j
        · exact j.elim
      · obtain ⟨h7,L⟩:=H.o.nxt.far hg
        rcases j with j|j|j
        · exact L (j ▸ aG (aG rfl))
        · exact h7 j
        · exact j.elim
      · rcases P.o b hb with o|o
        · exact aG o
        · exact aU (fQ a7 o)
    · rcases P.o b hb with o|o
      · exact aG o
      · exact aU (fQ a7 o)
noncomputable def iD (n:Nat):Code:=((Tryz.f20.body).bind (Code.partAt n)).getD .skip
abbrev lV:Array Value:=#[.int .i64 0,.string ⟨#[]⟩,.string ⟨#[]⟩,.slice none 0 0,.string ⟨#[]⟩,.int .i64 0,.int .i64 0,.int .i64 0]
abbrev qJ (R:Ending→World→Prop):Exit→Act→World→Prop:=bodyPost prog Tryz.f20 R
theorem SN (x:Cx) (c:DC) (w:World) (v:DV) (h:bR w x.d c v) (s:-1000000000000≤v.off-v.lstart) (t:v.off-v.lstart≤1000000000000) (y:Value) (R:Ending→World→Prop)
  (u:∀ f w',Below w.heap.size w w'→aL w' w.heap.size lV 38→aL w' (w.heap.size+1) #[.int .i64 0,.string ⟨#[]⟩,.string ⟨#[]⟩,.slice none 0 0,.string ⟨#[]⟩,.int .i64 v.off,.int .i64 v.line,.int .i64 (v.off-v.lstart+1)] 38→w.heap.size+2≤w'.heap.size →
   (iD 3).wp prog (qJ R) (fr 104 f [(0,y),(4,.pointer (some ⟨w.heap.size,0,none⟩)),(5,.pointer (some ⟨w.heap.size+1,0,none⟩))]) w') :
  Calls prog 20 #[y,bT x] w R:=by
 have m:=Lh (fun (w':World) (h:bR w' x.d c v)=>y9 x c w' v h);have o:=Lh (fun (w':World) (h:bR w' x.d c v)=>FW x c w' v h s t);have ⟨r,z⟩:=cB h u;clear h s t u;refine eL 104 func20 [_,_] fun f=>?_;simp only [aF];refine vg ?_;intro K hK K hK;refine (m.o _ (show aL _ x.d _ _ from aL.alloc r.o _)).mono ?_;rintro E w1 ⟨rfl,rfl⟩;(repeat revert K);refine vS ?_;intro K hK K hK;obtain ⟨d,b⟩:=cK ((w.alloc (.cells lV 38)).alloc (.cells #[.int .i64 0,.string ⟨#[]⟩,.string ⟨#[]⟩,.slice none 0 0,.string ⟨#[]⟩,.int .i64 v.off,.int .i64 0,.int .i64 0] 38));have k:=Lh (show Below w.heap.size w d by rw [b];exact ((Below.refl _ w).alloc (dF _) _).alloc (by simp) _);have i:=Lh (show aL d w.heap.size lV 38 by rw [b];exact (aL.new w _ _).alloc _);have j:=Lh (show aL d (w.heap.size+1) #[.int .i64 0,.string ⟨#[]⟩,.string ⟨#[]⟩,.slice none 0 0,.string ⟨#[]⟩,.int .i64 v.off,.int .i64 0,.int .i64 0] 38 by
  have:=aL.new (w.alloc (.cells lV 38)) #[.int .i64 0,.string ⟨#[]⟩,.string ⟨#[]⟩,.slice none 0 0,.string ⟨#[]⟩,.int .i64 v.off,.int .i64 0,.int .i64 0] 38;rw [b];simpa using this)
 have q:=Lh (show w.heap.size+2≤d.heap.size by rw [b];simp);have p:=Lh (show bR d x.d c v from aL.mod (S:=fun _=>False) r.o (aH k.o _) id);rw [←b];clear b m;refine (o.o _ p.o).mono ?_;rintro F G ⟨rfl,n,rfl⟩;clear o;have g:aL (d.drewN n) (w.heap.size+1) _ _:=j.o;have B:=g.cell;have D:=g.frozen;have e:aL (d.drewN n) w.heap.size _ _:=i.o;have A:=e.cell;have C:=e.frozen;clear g e;go_simp;(repeat revert K);refine vT 3 ?_;refine cG [0,4,5] fun f=>?_;have l:w.heap.size≠w.heap.size+1:=by omega
 refine bB (z.o f _ ?_ ?_ ?_ ?_) (by kernel_rfl)
 ·refine Below.setCell ?_ (by simp) _;refine Below.setCell ?_ (by simp) _;exact bM k.o n
 ·exact ((show aL (d.drewN n) w.heap.size _ _ from i.o).set_ne (a:=⟨w.heap.size+1,6,none⟩) l (.int .i64 v.line)).set_ne (a:=⟨w.heap.size+1,7,none⟩) l (.int .i64 (v.off-v.lstart+1))
 ·exact ((show aL (d.drewN n) (w.heap.size+1) _ _ from j.o).set 6 (.int .i64 v.line)).set 7 (.int .i64 (v.off-v.lstart+1))
 ·have:=q.o;simpa [World.setCell,World.drewN] using this
theorem AM (w:World) (b:Nat) (k:Int) (g h j:Bs) (l:Option Addr) (n m:Nat) (c d e:Int) (a:aL w b lV 38) (o:aL w (b+1) #[.int .i64 k,aB g,aB h,.slice l n m,aB j,.int .i64 c,.int .i64 d,.int .i64 e] 38)
  (R:Ending→World→Prop) (r:∀ w',aJ (fun i=>i=b) w w'→R (.returned (.agg #[.int .i64 k,aB g,aB h,.slice l n m,aB j,.int .i64 c,.int .i64 d,.int .i64 e])) w') (f:Nat→Value) :
  (iD 27).wp prog (qJ R) (fr 104 f [(4,.pointer (some ⟨b,0,none⟩)),(5,.pointer (some ⟨b+1,0,none⟩))]) w:=by
 have y:=o.cell;have z:=o.frozen;have u:=a.cell;have x:=a.frozen;have ⟨t,s⟩:=cB a r;clear o a r;conv=>arg 2;unfold iD;whnf
 refine vg ?_;refine bodyPost_ret (v:=.agg #[.int .i64 k,aB g,aB h,.slice l n m,aB j,.int .i64 c,.int .i64 d,.int .i64 e]) ?_ (iI _ _ _) ?_
 ·refine results_cell_row (fn:=Tryz.f20) (p:=4) (ty:=38) (by rfl) _ _ b 38 _ (0,0) _ (by rw [gQ (by decide)];simp only [aK,aO,aR,aW,Nat.reduceEqDiff,↓reduceIte]) ?_ underlying38 rfl (by kernel_rfl);have q:=((((((((show aL w b _ _ from t.o).set 0 (.int .i64 k)).set 1 (aB g)).set 2 (aB h)).set 3 (.slice l n m)).set 4 (aB j)).set 5 (.int .i64 c)).set 6 (.int .i64 d)).set 7 (.int .i64 e);simp only [List.setIfInBounds_toArray,List.set_cons_zero,List.set_cons_succ] at q;exact q
 ·refine s.o _ ?_;repeat (refine aJ.setCell (S:=fun i=>i=b) ?_ (aG rfl) _)
  exact aJ.refl _ _
theorem YX (v:Value) (w:World):(Instr.typeAssert (XY v) 57 122 true).run prog w=.ok (.tuple #[.slice none 0 0,.bool false]) w:=by kernel_rfl
theorem YY (v:Value) (w:World):(Instr.typeAssert (XY v) 57 123 true).run prog w=.ok (.tuple #[v,.bool true]) w:=by kernel_rfl
theorem YZ (a:Bs) (v:Value) (w:World):(Instr.typeAssert (UT a v) 57 122 true).run prog w=.ok (.tuple #[.slice none 0 0,.bool false]) w:=by kernel_rfl
theorem Y0 (a:Bs) (v:Value) (w:World):(Instr.typeAssert (UT a v) 57 123 true).run prog w=.ok (.tuple #[.slice none 0 0,.bool false]) w:=by kernel_rfl
theorem Y1 (a:Bs) (v:Value) (w:World):(Instr.typeAssert (UT a v) 57 125 true).run prog w=.ok (.tuple #[.agg #[aB a,v],.bool true]) w:=by kernel_rfl
theorem Y2 (v:Value) (w:World):(Instr.typeAssert (US v) 57 122 true).run prog w=.ok (.tuple #[.slice none 0 0,.bool false]) w:=by kernel_rfl
theorem Y3 (v:Value) (w:World):(Instr.typeAssert (US v) 57 123 true).run prog w=.ok (.tuple #[.slice none 0 0,.bool false]) w:=by kernel_rfl
theorem Y4 (v:Value) (w:World):(Instr.typeAssert (US v) 57 125 true).run prog w=.ok (.tuple #[.agg #[mW,.slice none 0 0],.bool false]) w:=by kernel_rfl
theorem Y5 (v:Value) (w:World):(Instr.typeAssert (US v) 57 126 true).run prog w=.ok (.tuple #[v,.bool true]) w:=by kernel_rfl
theorem SO (l:Bs) (w:World) (b a c:Nat) (h:bJ w b a l):(convert 123 9 (.slice (some ⟨b,a,none⟩) l.length c)).run prog w=.ok (aB l) w:=
 Lib.run_convert_whole (P:=prog) w 123 5 9 underlying123 underlying5 underlying9 b a ⟨l.toArray⟩ h.toBytes c
theorem SP (l:Bs) (w:World) (b a c:Nat) (h:bJ w b a l):(convert 126 9 (.slice (some ⟨b,a,none⟩) l.length c)).run prog w=.ok (aB l) w:=
 Lib.run_convert_whole (P:=prog) w 126 5 9 underlying126 underlying5 underlying9 b a ⟨l.toArray⟩ h.toBytes c
theorem SQ (l:Bs) (w:World) (b a c:Nat) (h:bJ w b a l):(convert 81 9 (.slice (some ⟨b,a,none⟩) l.length c)).run prog w=.ok (aB l) w:=
 Lib.run_convert_whole (P:=prog) w 81 5 9 underlying81 underlying5 underlying9 b a ⟨l.toArray⟩ h.toBytes c
structure x5 (w0:World) (p:bS) (e f:Int) (d:Ending) (w':World):Prop where
 ex:∃ a c b,d=.returned (.agg #[.int .i64 p.kind,aB p.space,aB p.loc,.slice a c b,aB p.text,.int .i64 p.at',.int .i64 e,.int .i64 f])∧w'.ownsRow w0.heap.size 67 3 (.slice a c b) p.attrs.length (aN p.attrs)
 below:Below w0.heap.size w0 w'
theorem AN (w:World) (b:Nat):w.ownsRow b 67 3 (.slice none 0 0) ([]:List cO).length (aN []):=⟨rfl,aG ⟨rfl,rfl⟩⟩
theorem WH {y t:Nat} (w0 w:World) (l:Nat) (m n:Int) (e:Below w0.heap.size w0 w) (p:aL w w0.heap.size lV 38) (i:aL w (w0.heap.size+1) #[.int .i64 0,.string ⟨#[]⟩,.string ⟨#[]⟩,.slice none 0 0,.string ⟨#[]⟩,.int .i64 l,.int .i64 m,.int .i64 n] 38)
  (d:Bs) (g b:Nat) (h:bJ w g 0 d) (C:g<w0.heap.size) (f:Nat→Value):(iD 3).wp prog (qJ (x5 w0 ⟨3,[],[],[],d,l,y,t⟩ m n)) (fr 104 f [(0,XX (.slice (some ⟨g,0,none⟩) d.length b)),(4,.pointer (some ⟨w0.heap.size,0,none⟩)),(5,.pointer (some ⟨w0.heap.size+1,0,none⟩))]) w:=by
 have D:=fun v w=>OA v w;have E:=fun v w=>IZ v w;have F:=fun v w=>YL v w;have j:g≠w0.heap.size+1:=by omega
 have z:=i.cell;have A:=i.frozen;have ⟨q,s,o,r⟩:=kS i p e h;have c:w0.heap.size≠w0.heap.size+1:=by omega
 clear e p i h;conv=>arg 2;unfold iD;whnf
 refine vg ?_;intro K hK;refine cG [4,5,10] fun f=>?_
 go_region_held3 (fun w'=>(convert 122 9 (.slice (some ⟨g,0,none⟩) d.length b)).run prog w'=.ok (aB d) w')
  (exact R4 d _ g 0 b (by repeat (first|exact r.o|refine bJ.setCell ?_ j _|refine bJ.drew ?_)))
  (fail)
 revert K;refine vT 27 ?_;refine cG [4,5] fun f=>?_;refine bB (AM _ w0.heap.size 3 [] [] d none 0 0 l m n ?_ ?_ _ (fun w' x=>⟨⟨none,0,0,rfl,AN _ _⟩,?_⟩) f) (by kernel_rfl)
 ·exact (((show aL w w0.heap.size _ _ from s.o).set_ne (a:=⟨w0.heap.size+1,0,none⟩) c (.int .i64 3)).set_ne (a:=⟨w0.heap.size+1,4,none⟩) c (aB d)).drew
 ·exact (((show aL w (w0.heap.size+1) _ _ from q.o).set 0 (.int .i64 3)).set 4 (aB d)).drew
 ·refine aJ.below (B:=w0.heap.size) ?_ ?_ x (fun k u=>by rw [u];exact dF _)
  ·refine Below.drew ?_;repeat (refine Below.setCell ?_ (by simp) _)
   exact o.o
  ·have:=o.o.size;simpa [World.setCell,World.drew] using this
theorem Y6 {y t:Nat} (w0 w:World) (l:Nat) (m n:Int) (e:Below w0.heap.size w0 w) (p:aL w w0.heap.size lV 38) (i:aL w (w0.heap.size+1) #[.int .i64 0,.string ⟨#[]⟩,.string ⟨#[]⟩,.slice none 0 0,.string ⟨#[]⟩,.int .i64 l,.int .i64 m,.int .i64 n] 38)
  (d:Bs) (g b:Nat) (h:bJ w g 0 d) (C:g<w0.heap.size) (f:Nat→Value):(iD 3).wp prog (qJ (x5 w0 ⟨4,[],[],[],d,l,y,t⟩ m n)) (fr 104 f [(0,XY (.slice (some ⟨g,0,none⟩) d.length b)),(4,.pointer (some ⟨w0.heap.size,0,none⟩)),(5,.pointer (some ⟨w0.heap.size+1,0,none⟩))]) w:=by
 have D:=fun v w=>OU v w;have E:=fun v w=>I6 v w;have F:=fun v w=>YX v w;have G:=fun v w=>YY v w;have j:g≠w0.heap.size+1:=by omega
 have z:=i.cell;have A:=i.frozen;have ⟨q,s,o,r⟩:=kS i p e h;have c:w0.heap.size≠w0.heap.size+1:=by omega
 clear e p i h;conv=>arg 2;unfold iD;whnf
 refine vg ?_;intro K hK;refine cG [4,5,11] fun f=>?_
 go_region_held3 (fun w'=>(convert 123 9 (.slice (some ⟨g,0,none⟩) d.length b)).run prog w'=.ok (aB d) w')
  (exact SO d _ g 0 b (by repeat (first|exact r.o|refine bJ.setCell ?_ j _|refine bJ.drew ?_)))
  (fail)
 revert K;refine vT 27 ?_;refine cG [4,5] fun f=>?_;refine bB (AM _ w0.heap.size 4 [] [] d none 0 0 l m n ?_ ?_ _ (fun w' x=>⟨⟨none,0,0,rfl,AN _ _⟩,?_⟩) f) (by kernel_rfl)
 ·exact (((show aL w w0.heap.size _ _ from s.o).set_ne (a:=⟨w0.heap.size+1,0,none⟩) c (.int .i64 4)).set_ne (a:=⟨w0.heap.size+1,4,none⟩) c (aB d)).drew
 ·exact (((show aL w (w0.heap.size+1) _ _ from q.o).set 0 (.int .i64 4)).set 4 (aB d)).drew
 ·refine aJ.below (B:=w0.heap.size) ?_ ?_ x (fun k u=>by rw [u];exact dF _)
  ·refine Below.drew ?_;repeat (refine Below.setCell ?_ (by simp) _)
   exact o.o
  ·have:=o.o.size;simpa [World.setCell,World.drew] using this
theorem Y7 {y t:Nat} (w0 w:World) (l:Nat) (m n:Int) (e:Below w0.heap.size w0 w) (p:aL w w0.heap.size lV 38) (i:aL w (w0.heap.size+1) #[.int .i64 0,.string ⟨#[]⟩,.string ⟨#[]⟩,.slice none 0 0,.string ⟨#[]⟩,.int .i64 l,.int .i64 m,.int .i64 n] 38)
  (d:Bs) (g b:Nat) (h:bJ w g 0 d) (C:g<w0.heap.size) (f:Nat→Value):(iD 3).wp prog (qJ (x5 w0 ⟨6,[],[],[],d,l,y,t⟩ m n)) (fr 104 f [(0,US (.slice (some ⟨g,0,none⟩) d.length b)),(4,.pointer (some ⟨w0.heap.size,0,none⟩)),(5,.pointer (some ⟨w0.heap.size+1,0,none⟩))]) w:=by
 have D:=fun v w=>OV v w;have E:=fun v w=>I7 v w;have F:=fun v w=>Y2 v w;have G:=fun v w=>Y3 v w;have H:=fun v w=>Y4 v w;have I:=fun v w=>Y5 v w;have j:g≠w0.heap.size+1:=by omega
 have z:=i.cell;have A:=i.frozen;have ⟨q,s,o,r⟩:=kS i p e h;have c:w0.heap.size≠w0.heap.size+1:=by omega
 clear e p i h;conv=>arg 2;unfold iD;whnf
 refine vg ?_;intro K hK;refine cG [4,5,13] fun f=>?_
 go_region_held3 (fun w'=>(convert 126 9 (.slice (some ⟨g,0,none⟩) d.length b)).run prog w'=.ok (aB d) w')
  (exact SP d _ g 0 b (by repeat (first|exact r.o|refine bJ.setCell ?_ j _|refine bJ.drew ?_)))
  (fail)
 revert K;refine vT 27 ?_;refine cG [4,5] fun f=>?_;refine bB (AM _ w0.heap.size 6 [] [] d none 0 0 l m n ?_ ?_ _ (fun w' x=>⟨⟨none,0,0,rfl,AN _ _⟩,?_⟩) f) (by kernel_rfl)
 ·exact (((show aL w w0.heap.size _ _ from s.o).set_ne (a:=⟨w0.heap.size+1,0,none⟩) c (.int .i64 6)).set_ne (a:=⟨w0.heap.size+1,4,none⟩) c (aB d)).drew
 ·exact (((show aL w (w0.heap.size+1) _ _ from q.o).set 0 (.int .i64 6)).set 4 (aB d)).drew
 ·refine aJ.below (B:=w0.heap.size) ?_ ?_ x (fun k u=>by rw [u];exact dF _)
  ·refine Below.drew ?_;repeat (refine Below.setCell ?_ (by simp) _)
   exact o.o
  ·have:=o.o.size;simpa [World.setCell,World.drew] using this
theorem Y8 {L E:Nat} (w0 w:World) (s:Nat) (t u:Int) (l:Below w0.heap.size w0 w) (r:w0.heap.size+2≤w.heap.size) (z:aL w w0.heap.size lV 38) (y:aL w (w0.heap.size+1) #[.int .i64 0,.string ⟨#[]⟩,.string ⟨#[]⟩,.slice none 0 0,.string ⟨#[]⟩,.int .i64 s,.int .i64 t,.int .i64 u] 38)
  (b d:Bs) (g c:Nat) (m:bJ w g 0 d) (O:g<w0.heap.size) (f:Nat→Value):(iD 3).wp prog (qJ (x5 w0 ⟨5,[],b,[],d,s,L,E⟩ t u)) (fr 104 f [(0,UT b (.slice (some ⟨g,0,none⟩) d.length c)),(4,.pointer (some ⟨w0.heap.size,0,none⟩)),(5,.pointer (some ⟨w0.heap.size+1,0,none⟩))]) w:=by
 have P:=fun b v w=>OW b v w;have Q:=fun b v w=>I8 b v w;have R:=fun b v w=>YZ b v w;have T:=fun b v w=>Y0 b v w;have U:=fun b v w=>Y1 b v w;have q:g≠w0.heap.size+1:=by omega
 have I:w.heap.size≠w0.heap.size+1:=by omega
 have J:w0.heap.size+1≠w.heap.size:=by omega
 have e:Below w.heap.size w (w.alloc (.cells #[aB b,.slice (some ⟨g,0,none⟩) d.length c] 125)):=(Below.refl _ w).alloc (dF _) _;obtain ⟨p,i⟩:=cK (w.alloc (.cells #[aB b,.slice (some ⟨g,0,none⟩) d.length c] 125));have n:aL p w.heap.size #[aB b,.slice (some ⟨g,0,none⟩) d.length c] 125:=by rw [i];exact aL.new w _ _
 rw [←i] at e;have h:aL p (w0.heap.size+1) _ _:=aL.mod (S:=fun _=>False) y (aH e _) id;have o:aL p w0.heap.size _ _:=aL.mod (S:=fun _=>False) z (aH e _) id;have ⟨A,D⟩:=cB h o;have x:=Lh (l.trans (e.mono l.size));have C:=Lh (m.below e);have j:w0.heap.size≠w0.heap.size+1:=by omega
 have M:=h.cell;have N:=h.frozen;have F:=n.cell;clear l z y m n e h o r;conv=>arg 2;unfold iD;whnf
 refine vT 23 ?_;intro K hK;rw [←i];clear i;refine cG [4,5,12] fun f=>?_
 go_region_held3 (fun w'=>w'.cell? ⟨w.heap.size,0,none⟩=some (aB b)∧w'.cell? ⟨w.heap.size,1,none⟩=some (.slice (some ⟨g,0,none⟩) d.length c)∧(convert 81 9 (.slice (some ⟨g,0,none⟩) d.length c)).run prog w'=.ok (aB d) w')
  (refine ⟨?_,?_,?_⟩<;>first|(exact SQ d _ g 0 c (by repeat (first|exact C.o|refine bJ.setCell ?_ q _|refine bJ.drew ?_)))|go_keep)
  (fail)
 revert K;refine vT 27 ?_;refine cG [4,5] fun f=>?_;refine bB (AM _ w0.heap.size 5 [] b d none 0 0 s t u ?_ ?_ _ (fun w' H=>⟨⟨none,0,0,rfl,AN _ _⟩,?_⟩) f) (by kernel_rfl)
 ·exact ((((show aL p w0.heap.size _ _ from D.o).set_ne (a:=⟨w0.heap.size+1,0,none⟩) j (.int .i64 5)).set_ne (a:=⟨w0.heap.size+1,2,none⟩) j (aB b)).set_ne (a:=⟨w0.heap.size+1,4,none⟩) j (aB d)).drew
 ·exact ((((show aL p (w0.heap.size+1) _ _ from A.o).set 0 (.int .i64 5)).set 2 (aB b)).set 4 (aB d)).drew
 ·refine aJ.below (B:=w0.heap.size) ?_ ?_ H (fun k G=>by rw [G];exact dF _)
  ·refine Below.drew ?_;repeat (refine Below.setCell ?_ (by simp) _)
   exact x.o
  ·have:=x.o.size;simpa [World.setCell,World.drew] using this
theorem Y9 {D v:Nat} (w0 w:World) (n:Nat) (o p:Int) (h:Below w0.heap.size w0 w) (m:w0.heap.size+2≤w.heap.size) (s:aL w w0.heap.size lV 38) (r:aL w (w0.heap.size+1) #[.int .i64 0,.string ⟨#[]⟩,.string ⟨#[]⟩,.slice none 0 0,.string ⟨#[]⟩,.int .i64 n,.int .i64 o,.int .i64 p] 38)
  (nm:Bs×Bs) (f:Nat→Value):(iD 3).wp prog (qJ (x5 w0 ⟨2,nm.1,nm.2,[],[],n,D,v⟩ o p)) (fr 104 f [(0,KW nm),(4,.pointer (some ⟨w0.heap.size,0,none⟩)),(5,.pointer (some ⟨w0.heap.size+1,0,none⟩))]) w:=by
 have G:=fun a b w=>OX a b w;have H:=fun a b w=>I9 a b w;have A:w.heap.size≠w0.heap.size+1:=by omega
 have C:w0.heap.size+1≠w.heap.size:=by omega
 have c:Below w.heap.size w (w.alloc (.cells #[aB nm.1,aB nm.2] 110)):=(Below.refl _ w).alloc (dF _) _;obtain ⟨l,e⟩:=cK (w.alloc (.cells #[aB nm.1,aB nm.2] 110));have i:aL l w.heap.size #[aB nm.1,aB nm.2] 110:=by rw [e];exact aL.new w _ _
 rw [←e] at c;have d:aL l (w0.heap.size+1) _ _:=aL.mod (S:=fun _=>False) r (aH c _) id;have j:aL l w0.heap.size _ _:=aL.mod (S:=fun _=>False) s (aH c _) id;have ⟨t,u⟩:=cB d j;have q:=Lh (h.trans (c.mono h.size));have g:w0.heap.size≠w0.heap.size+1:=by omega
 have E:=d.cell;have F:=d.frozen;have x:=i.cell;clear h s r i c d j m;conv=>arg 2;unfold iD;whnf
 refine vT 14 ?_;intro K hK;rw [←e];clear e;refine cG [4,5,9] fun f=>?_
 go_region_held3 (fun w'=>w'.cell? ⟨w.heap.size,0,none⟩=some (aB nm.1)∧w'.cell? ⟨w.heap.size,1,none⟩=some (aB nm.2))
  (go_keep)
  (fail)
 revert K;refine vT 27 ?_;refine cG [4,5] fun f=>?_;refine bB (AM _ w0.heap.size 2 nm.1 nm.2 [] none 0 0 n o p ?_ ?_ _ (fun w' z=>⟨⟨none,0,0,rfl,AN _ _⟩,?_⟩) f) (by kernel_rfl)
 ·exact ((((show aL l w0.heap.size _ _ from u.o).set_ne (a:=⟨w0.heap.size+1,0,none⟩) g (.int .i64 2)).set_ne (a:=⟨w0.heap.size+1,1,none⟩) g (aB nm.1)).set_ne (a:=⟨w0.heap.size+1,2,none⟩) g (aB nm.2)).drew
 ·exact ((((show aL l (w0.heap.size+1) _ _ from t.o).set 0 (.int .i64 2)).set 1 (aB nm.1)).set 2 (aB nm.2)).drew
 ·refine aJ.below (B:=w0.heap.size) ?_ ?_ z (fun k y=>by rw [y];exact dF _)
  ·refine Below.drew ?_;repeat (refine Below.setCell ?_ (by simp) _)
   exact q.o
  ·have:=q.o.size;simpa [World.setCell,World.drew] using this
end Go.Proofs.YthapcchcahnfaaaGreatDoor
