/- Part of the proof that laws.FnStrictIsLoose, laws.FnUnclosed, laws.FnReaderFails, laws.FnWithin, laws.FnSkip returns true for every argument. No conditions. -/
import Derived.Test.YthapcchcahnfaaaGreatDoorP26
import Derived.Test.YthapcchcahnfaaaGreatDoorP16
import Derived.Test.YthapcchcahnfaaaGreatDoorP28
import Derived.Test.YthapcchcahnfaaaGreatDoorP24
import Derived.Test.YthapcchcahnfaaaGreatDoorP27
set_option linter.all false
set_option maxHeartbeats 8000000
set_option maxRecDepth 100000
namespace Go.Proofs.YthapcchcahnfaaaGreatDoor
open Go Go.RowKit Tryz
structure Fp (x:Cx) (c:DC) (w:World) (v:DV) (s:St) (m q:Nat) (a g:List Nat) (n:Nat) (j:Nat) (nm:Bs×Bs) (e:gT) (d:List gT) (f:DC) (w1:World) (i:Value) (ok:Bool) (h:Option EK):Prop where
 st:eL x c w v m (q::a) g f w1 a (q::g)
 own:m5 x w1 f v m a (q::g) n d s.ns
 blk:aJ w1 q (jX i 0 e.space e.loc ok) 95
 rd:∃ b,cK x f w1 v s.rest h b
 tok:aJ w1 j #[aB nm.1,aB nm.2] 110
theorem NO (x:Cx) (hx:x.All) (c:DC) (w:World) (v:DV) (s:St) (m:Nat) (sb A:List Nat) (n:Nat) (j:Nat) (nm:Bs×Bs) (h:RI x c w v s m sb A n j nm) (e:gT) (i:List gT) (hs:s.stk=e::i) (z:e.kind=0) :
  Calls prog 41 #[cB x,.pointer (some ⟨j,0,none⟩)] w fun en w'=>gY x c w v s nm m sb A n j en w':=by
 obtain ⟨Z,b0,hR,f5,f6,f7⟩:∃ Z b0,cK x c w v s.rest Z b0∧(s.ended=true→Z≠none)∧(Z≠none→s.toClose=none)∧((s.ended=false∧Z=none)∨nm=(e.space,e.loc)):=by
  rcases h.fit with ⟨h1,b,h2⟩|⟨e',stk2,h1,_,h3⟩
  ·exact ⟨none,b,h2,fun E=>(by rw [h1] at E;cases E),fun E=>absurd rfl E,aH ⟨h1,rfl⟩⟩
  ·obtain ⟨Z,b0,hR,h4,h5⟩:=h.rts.rd;rw [hs] at h1;obtain ⟨rfl,_⟩:=List.cons.inj h1;exact ⟨Z,b0,hR,h4,h5,aW h3⟩
 have ho:=h.own;rw [hs] at ho;obtain ⟨q,e',l',g,h1,h2,h3⟩:∃ q e' l' g,c.stk=.pointer (some ⟨q,0,none⟩)∧sb=q::g∧e::i=e'::l':=by
  rcases ho.stk.ptr with ⟨_,_,h1⟩|⟨q,e',l',g,h1,h2,h3⟩
  ·cases h1
  ·exact ⟨q,e',l',g,h1,h2,h3⟩
 obtain ⟨rfl,rfl⟩:=List.cons.inj h3;subst h2;obtain ⟨fl,hA⟩:=ho.free;have hE:(m::((q::g)++A)).Nodup:=ho.nodup;have d1:=Lh (RF x c w v hR.dec q e (aH z) i g ho.stk fl A hA (fun b d t=>ho.s1 b (List.mem_cons_of_mem _ d) (aH (aH t))) (List.nodup_cons.1 hE).2);have e8:=Lh (show ∀ w1,x6 x c w v e i g fl A w1 q→∃ C nx ok,Fp x c w v s m q g A n j nm e i C w1 nx ok Z from fun w1 hp=>by
  obtain ⟨C,e2,i0,e4,i7,e6,g4,j1⟩:=ho.popped hp;have h7:¬ (j=x.d∨j=q):=by
   rintro (t|t)
   ·exact h.tS (aH (aH t))
   ·exact h.tO (by simp [t])
  rw [z] at g4;exact ⟨C,e4,e6,e2,i0,g4,⟨b0,hR.own hx.toOk e2.dec e2.mod (fun k z=>by
   rcases z with z|z
   ·exact aH z
   ·exact aW ⟨ho.s1 k z,ho.base k z⟩)⟩,h.tok.mod hp.mod h7⟩)
 have ⟨r,HX,HO,HS⟩:=kV h hx ho hs;have HE:=Lh (show e.space.length≤100000000000∧e.loc.length≤100000000000 from (h.sok e (by rw [hs];simp)).2);have d4:=Lh (And.intro f5 (And.intro f6 f7));have bC:=Lh z;have b2:=Lh (show j≠q∧j≠x.d∧j≠m∧(∀ b∈m::(g++q::A),b≠j) from by
  have d8:=h.tO;refine ⟨fun t=>d8 (by simp [t]),fun t=>h.tS (aH (aH t)),fun t=>d8 (by simp [t]),fun b d t=>d8 ?_⟩;subst t;simp only [mH,List.mem_append,jJ] at d ⊢;rcases d with h|h|h|h
  ·exact aH h
  ·exact aW (aW (aH h))
  ·exact aW (aH h)
  ·exact aW (aW (aW h)))
 clear hR hx h hs h3 hA hE ho z f5 f6 f7 h1;refine eI 179 func41 [_,_] fun f=>?_;simp only [aF];refine vg ?_;intro K hK K hK;refine d1.o.mono ?_;rintro e1 w1 ⟨rfl,hp⟩;obtain ⟨C,e4,e6,hI⟩:=e8.o w1 hp;have HI:=Lh hI;obtain ⟨b1,g0⟩:=hI.rd;have i6:=hI.tok.cell;have i8:=hI.tok.frozen;have d9:Below w1.heap.size w1 (w1.alloc (.cells #[aB nm.1,aB nm.2] 89)):=(Below.refl _ w1).alloc (dD _) _;have T:aM (fun _=>False) w1 (w1.alloc (.cells #[aB nm.1,aB nm.2] 89)):=aG d9 _;have O:=Lh T;have hW:=g0.below HX.o.toOk d9;have f2:=Lh hW;have hD:=aJ.new w1 #[aB nm.1,aB nm.2] 89;have c5:=hI.blk.mod T id;have hM:=hI.tok.mod T id;have ⟨f1,f4⟩:=cN c5 hM;have D:=c5.cell;have Y:=c5.frozen;have d3:=Lh hI.st;have bL:=Lh hI.own;clear hp d1 e8 g0 d9 T hI c5 hM;(repeat revert K);refine vS ?_;intro K hK K hK;refine cP [0,1,5,6] fun f=>?_;have d0:w1.heap.size≠q∧w1.heap.size≠j∧w1.heap.size≠x.d:=by
  have h1:=HI.o.blk.lt;have h2:=HI.o.tok.lt;have h3:=aJ.lt HI.o.st.dec;exact ⟨by omega,by omega,by omega⟩
 have f0:=Lh (show ∀ b∈m::(g++q::A),b≠w1.heap.size from fun b d t=>by have:=bL.o.lt b d;omega);have e9:=Lh hD;obtain ⟨B,I⟩:=cY (w1.alloc (.cells #[aB nm.1,aB nm.2] 89));obtain ⟨nb,V⟩:=cY w1.heap.size;have f9:m5 x B C v m g (q::A) n i s.ns:=by rw [I];exact bL.o.mod O.o (fun _ _=>id) bL.o.s1
 have g3:eL x c w v m (q::g) A C B g (q::A):=by
  rw [I];exact d3.o.trans ⟨aJ.mod d3.o.dec O.o id,⟨_,_,_,rfl⟩,O.o.mono (fun _ _ h=>h.elim),fun _ d=>aH d⟩
 have b4:cK x C B v s.rest Z b1:=by rw [I];exact f2.o
 have b3:aJ B q (jX e4 0 e.space e.loc e6) 95:=by rw [I];exact f1.o
 have b5:aJ B j #[aB nm.1,aB nm.2] 110:=by rw [I];exact f4.o
 have d6:aJ B nb #[aB nm.1,aB nm.2] 89:=by rw [I,V];exact e9.o
 rw [show w1.alloc (.cells #[.string ⟨nm.1.toArray⟩,.string ⟨nm.2.toArray⟩] 89)=B from I.symm,←V];rw [←V] at d0 f0;clear D Y hD e9 f1 f4 f2 d3 bL O HI I V;have ⟨J,u,L,i9,f3⟩:=o4 f9 g3 b4 b3 b5;have b6:=b4.dec.cell;have b9:=b4.dec.frozen;have D:=b3.cell;have Y:=b3.frozen;have b8:=b5.cell;have c2:=b5.frozen;have X:=d6.cell;have cT:=d6.frozen;obtain ⟨n1,n2,n3⟩:=d0;obtain ⟨t1,t2,t3,_⟩:=b2.o;have j2:q≠x.d:=fun t=>HO.o.s1 q (by simp) (aH (aH t));clear f9 g3 b4 b3 b5 d6;have c6:=Lh (show C.strict=x.o.strict from by
  obtain ⟨p,q2,dp,t⟩:=u.o.cs;rw [t];exact r.o.strict)
 have c3:=r.o.l2;have aL:=r.o.l1;have c4:=HE.o.1;have a0:=HE.o.2;have d5:=Lh (fun k i4=>gV HX.o.toOk (L.o.drewN HX.o.toOk k) i4);by_cases l:e.loc=nm.2
 ·rw [l] at D a0;by_cases F:e.space=nm.1
  ·have y:=Lh (show kR x.o nm s=.ok (.fin (cX x.o s.ns nm true),{ s with stk:=(fA i s.ns).1,ns:=(fA i s.ns).2 }) by
    unfold kR;rw [HS.o];simp only;rw [aN (by rw [bC.o];simp),aN (by rw [l];simp),aN (by rw [F];simp)])
   have hO:=Lh (fun k=>rL x C (B.drewN k) v (L.o.drewN HX.o.toOk k).dec m n s.ns J.o.map (J.o.ns.drewN k) (by
    obtain ⟨p,q2,dp,t⟩:=u.o.cs;rw [t];exact r.o.sp) j #[aB nm.1,aB nm.2] 110 f3.o t2 t3 0 nm rfl rfl aL true)
   rw [F] at D;clear l F aL c3 c4 a0;go_quiet (fail);(repeat revert K);refine vg ?_;intro K hK K hK;refine cP [0,1,5,6] fun f=>?_;have j0:=Lh (L.o.drewN HX.o.toOk nq);have R:∀ o,(B.drewN nq).cell? ⟨q,o,none⟩=_:=D;have Q:∀ o,(B.drewN nq).cell? ⟨nb,o,none⟩=_:=X;go_quiet (fail);(repeat revert K);refine vg ?_;intro K hK K hK;refine (hO.o _).mono ?_;rintro e5 w5 ⟨rfl,hB,g5,i3⟩;have U:aM (fun k=>k=j) B w5:=((aM.refl _ B).drewN _).trans hB (fun _ _ h=>h);have gB:m5 x w5 C v m g (q::A) n i s.ns:=J.o.mod U (fun b d t=>b2.o.2.2.2 b d t) J.o.s1;have g8:bX w5 x.d C v:=aJ.mod L.o.dec U (fun t=>t2 t.symm);have d2:lH i:=fun e' h0=>r.o.sok e' (by rw [HS.o];simp [h0]);have c7:n+i.length≤100000000000:=by have:=r.o.bnd;rw [HS.o] at this;simp only [gN] at this;omega
   have ⟨aA,hQ⟩:=cN U g5;clear b6 b9 D Y b8 c2 X cT R Q hB i3 U g5 hO;(repeat revert K);refine vS ?_;intro K hK;refine cP [0] fun f=>?_;refine ZH x HX.o.toOk C w5 v g8 m g (q::A) n i s.ns gB d2 c7 _ ?_ f _ (by kernel_rfl);intro f c9 w9 i5 hV n9 hJ hG hC;have ⟨aC,hU,hT⟩:=mJ hJ hG hC;clear hJ hG hC g8 d2 c7 gB;revert K;refine vg ?_;refine cO ?_;unfold gY;rw [y.o];have bA:=aC.o.mod;have hN:aJ w9 j _ _:=hQ.o.mod bA (fun E=>by
    rcases E with E|E
    ·exact t2 E
    ·exact b2.o.2.2.2 j E rfl)
   have G:∀ b,b∈m::(g++q::A)→b∈m::((q::g)++A):=by
    intro b d;simp only [mH,List.mem_append,jJ] at d ⊢;rcases d with h|h|h|h
    ·exact aH h
    ·exact aW (aW (aH h))
    ·exact aW (aH h)
    ·exact aW (aW (aW h))
   have N:aM (fun b=>b=x.d∨b∈m::((q::g)++A)∨b=j) w w9:=by
    refine (u.o.mod.mono (fun b _ d=>?_)).trans ((aA.o.mono (S':=fun b=>b=x.d∨b∈m::((q::g)++A)∨b=j) (fun b _ d=>aW (aW d))).trans (bA.mono (S':=fun b=>b=x.d∨b∈m::((q::g)++A)∨b=j) (fun b _ d=>?_)) (fun _ _ h=>h)) (fun _ _ h=>h)
    ·rcases d with d|d
     ·exact aH d
     ·exact aW (aH d)
    ·rcases d with d|d
     ·exact aH d
     ·exact aW (aH (G b d))
   have d7:cK x c9 w9 v s.rest Z b1:=L.o.own HX.o.toOk aC.o.dec (S:=fun b=>b=x.d∨b∈m::(g++q::A)∨b=j) ((aA.o.mono (fun b _ d=>aW (aW d))).trans (bA.mono (S':=fun b=>b=x.d∨b∈m::(g++q::A)∨b=j) (fun b _ d=>by
    rcases d with d|d
    ·exact aH d
    ·exact aW (aH d))) (fun _ _ h=>h)) (fun k z=>by
    rcases z with z|z|z
    ·exact aH z
    ·exact aW ⟨HO.o.s1 k (G k z),HO.o.base k (G k z)⟩
    ·exact aW (z▸⟨r.o.tS,r.o.tB⟩))
   have i1:rM c c9:=u.o.same.trans aC.o.same;obtain ⟨j3,j4,j5,c8⟩:=u.o.cs;obtain ⟨j6,j7,j8,dI⟩:=aC.o.cs;refine ⟨cX x.o s.ns nm true,rfl,rfl,c9,i5,hV,n9,⟨⟨Z,b1,d7,d4.o.1,d4.o.2.1⟩,?_,?_,r.o.rts.nb⟩,hU.o,(by rw [tK];exact hN),i1,N,fun b d=>?_,?_⟩
   ·rw [dI,c8];exact r.o.rts.nc
   ·intro hP W;rw [dI,c8];exact r.o.rts.tc hP W
   ·rcases aC.o.sub b d with h9|h9
    ·rcases u.o.sub b h9 with h8|h8
     ·exact aH h8
     ·exact aW h8
    ·exact aW (fX (fX u.o.mod.size aA.o.size) h9)
   ·have:=hT.o;rw [HS.o];simp only [gN];omega
  ·obtain ⟨g1,g2⟩:=sY F;have y:=Lh (show kR x.o nm s=.error .syn by
    unfold kR;rw [HS.o];simp only;rw [aN (by rw [bC.o];simp),aN (by rw [l];simp),aV F])
   have a1:¬ 9223372036854775807<9+nm.2.length:=by omega
   have a2:¬ 9223372036854775807<9+nm.2.length+11:=by omega
   have a3:¬ 9223372036854775807<9+nm.2.length+11+e.space.length:=by omega
   have a4:¬ 9223372036854775807<9+nm.2.length+11+e.space.length+13:=by omega
   have a5:¬ 9223372036854775807<9+nm.2.length+11+e.space.length+13+nm.2.length:=by omega
   have a6:¬ 9223372036854775807<9+nm.2.length+11+e.space.length+13+nm.2.length+11:=by omega
   have a7:¬ 9223372036854775807<9+nm.2.length+11+e.space.length+13+nm.2.length+11+nm.1.length:=by omega
   have a8:¬ 9223372036854775807<9+nm.2.length+11+e.space.length+13+nm.2.length+11+2:=by omega
   clear l F aL c3 c4 a0;go_quiet (fail);(repeat revert K);refine vg ?_;intro K hK K hK;refine cP [0,1,5,6] fun f=>?_;have R:∀ o,(B.drewN nq).cell? ⟨q,o,none⟩=_:=D;have Q:∀ o,(B.drewN nq).cell? ⟨nb,o,none⟩=_:=X;go_quiet (fail);have b7:nm.1=[]∨((nm.1==[])=false∧(nm.1 != [])=true):=by
    by_cases h:nm.1=[]
    ·exact aH h
    ·exact aW (sY h)
   rcases b7 with b7|⟨b7,g7⟩
   ·have g7:(nm.1==[])=true:=by rw [b7];rfl
    (repeat revert K);refine vg ?_;intro K hK K hK;refine cP [0,1,5,6,7] fun f=>?_;(refine lX [0,0,0,0,0,0,1,0,0,0,0,0,0,1,0,0,0,1,0,0,0,0,2,0,0,2] [0,1,2,3,4,5,6,7,8,9,10,11,12,13,14,15,16,17,18,19,20,21,22,23,24,25] ?_;refine vP ?_;repeat with_reducible intro nq)
    refine bK rfl rfl (fun nq K hK=>?_);go_simp;refine (d5.o _ _).mono ?_;rintro e3 w3 ⟨a9,rfl,P⟩;have g6:=P.dec.cell;have g9:=P.dec.frozen;have H:=Lh P;clear P b6 b9 D Y b8 c2 X cT R Q;go_simp;refine hK.out _ _ ?_;clear hK K;(refine vP ?_;repeat with_reducible intro nq)
    (repeat revert K);refine vg ?_;intro K hK;refine cO ?_;unfold gY;rw [y.o];exact ⟨rfl,C,_,(H.o.drewN _).err.drewN _,AG u.o.mod (((aM.refl (x.S1 v) B).drewN _).trans ((H.o.drewN _).stp.drawn _).mod (fun _ _ h=>h))⟩
   ·(repeat revert K);refine vg ?_;intro K hK K hK;refine cP [0,1,5,6,7] fun f=>?_;(refine lX [0,0,0,0,0,0,1,0,0,0,0,0,0,1,0,0,0,1,0,0,0,0,2,0,0,2] [0,1,2,3,4,5,6,7,8,9,10,11,12,13,14,15,16,17,18,19,20,21,22,23,24,25] ?_;refine vP ?_;repeat with_reducible intro nq)
    refine bK rfl rfl (fun nq K hK=>?_);go_simp;refine (d5.o _ _).mono ?_;rintro e3 w3 ⟨a9,rfl,P⟩;have g6:=P.dec.cell;have g9:=P.dec.frozen;have H:=Lh P;clear P b6 b9 D Y b8 c2 X cT R Q;go_simp;refine hK.out _ _ ?_;clear hK K;(refine vP ?_;repeat with_reducible intro nq)
    (repeat revert K);refine vg ?_;intro K hK;refine cO ?_;unfold gY;rw [y.o];exact ⟨rfl,C,_,(H.o.drewN _).err.drewN _,AG u.o.mod (((aM.refl (x.S1 v) B).drewN _).trans ((H.o.drewN _).stp.drawn _).mod (fun _ _ h=>h))⟩
 ·obtain ⟨g1,g2⟩:=sY l;obtain ⟨dT,h6⟩:s.ended=false∧Z=none:=by
   rcases d4.o.2.2 with h|h
   ·exact h
   ·exact absurd (by rw [h]) l
  subst h6;have e7:=Lh dT;clear dT;cases hL:C.strict with
  | true=>
   have y:=Lh (show kR x.o nm s=.error .syn by
    unfold kR;rw [HS.o];simp only;rw [aN (by rw [bC.o];simp),aV l,aV (by rw [←c6.o];exact hL)])
   have a1:¬ 9223372036854775807<9+e.loc.length:=by omega
   have a2:¬ 9223372036854775807<9+e.loc.length+14:=by omega
   have a3:¬ 9223372036854775807<9+e.loc.length+14+nm.2.length:=by omega
   have a4:¬ 9223372036854775807<9+e.loc.length+14+nm.2.length+1:=by omega
   clear l aL c3 c4 a0;go_quiet (fail);(repeat revert K);refine vg ?_;intro K hK K hK;(refine lX [0,0,0,0,0,0,1,0,0,0,1,0,0,2,0,0,2] [0,1,2,3,4,5,6,7,8,9,10,11,12,13,14,15,16] ?_;refine vP ?_;repeat with_reducible intro nq)
   refine bK rfl rfl (fun nq K hK=>?_);go_simp;refine (d5.o _ _).mono ?_;rintro e3 w3 ⟨a9,rfl,P⟩;have g6:=P.dec.cell;have g9:=P.dec.frozen;have H:=Lh P;clear P b6 b9 D Y b8 c2 X cT;go_simp;refine hK.out _ _ ?_;clear hK K;(refine vP ?_;repeat with_reducible intro nq)
   (repeat revert K);refine vg ?_;intro K hK;refine cO ?_;unfold gY;rw [y.o];exact ⟨rfl,C,_,(H.o.drewN _).err.drewN _,AG u.o.mod (((aM.refl (x.S1 v) B).drewN _).trans ((H.o.drewN _).stp.drawn _).mod (fun _ _ h=>h))⟩
  | false=>
   have y:=Lh (show kR x.o nm s=.ok (.fin (e.space,e.loc),{ s with stk:=i,toClose:=some nm }) by
    unfold kR;rw [HS.o];simp only;rw [aN (by rw [bC.o];simp),aV l,aN (by rw [←c6.o,hL];simp)])
   clear l aL c3 c4 a0;go_quiet (fail);(repeat revert K);refine vg ?_;intro K hK K hK;refine cO ?_;unfold gY;rw [y.o];have G:∀ b,b∈m::(g++q::A)→b∈m::((q::g)++A):=by
    intro b d;simp only [mH,List.mem_append,jJ] at d ⊢;rcases d with h|h|h|h
    ·exact aH h
    ·exact aW (aW (aH h))
    ·exact aW (aH h)
    ·exact aW (aW (aW h))
   have hm:aM (fun b=>b=x.d∨b=j) B ((((((B.drewN nq).setCell ⟨x.d,14,none⟩ (.bool true)).setCell ⟨x.d,15,none⟩ (aB nm.1)).setCell ⟨x.d,16,none⟩ (aB nm.2)).setCell ⟨j,0,none⟩ (aB e.space)).setCell ⟨j,1,none⟩ (aB e.loc)):=
    ((((((aM.refl (fun b=>b=x.d∨b=j) B).drewN nq).setCell (p:=⟨x.d,14,none⟩) (aH (aH rfl)) _).setCell (p:=⟨x.d,15,none⟩) (aH (aH rfl)) _).setCell (p:=⟨x.d,16,none⟩) (aH (aH rfl)) _).setCell (p:=⟨j,0,none⟩) (aH (aW rfl)) _).setCell (p:=⟨j,1,none⟩) (aH (aW rfl)) _
   have hX:bX ((((((B.drewN nq).setCell ⟨x.d,14,none⟩ (.bool true)).setCell ⟨x.d,15,none⟩ (aB nm.1)).setCell ⟨x.d,16,none⟩ (aB nm.2)).setCell ⟨j,0,none⟩ (aB e.space)).setCell ⟨j,1,none⟩ (aB e.loc)) x.d { C with needClose:=true,tcs:=⟨nm.1.toArray⟩,tcl:=⟨nm.2.toArray⟩ } v:=
    ((((show aJ (B.drewN nq) x.d _ _ from L.o.dec).set 14 (.bool true)).set 15 (aB nm.1)).set 16 (aB nm.2)).set_ne (a:=⟨j,0,none⟩) (fun t=>t2 t.symm) (aB e.space) |>.set_ne (a:=⟨j,1,none⟩) (fun t=>t2 t.symm) (aB e.loc)
   have i2:aJ ((((((B.drewN nq).setCell ⟨x.d,14,none⟩ (.bool true)).setCell ⟨x.d,15,none⟩ (aB nm.1)).setCell ⟨x.d,16,none⟩ (aB nm.2)).setCell ⟨j,0,none⟩ (aB e.space)).setCell ⟨j,1,none⟩ (aB e.loc)) j #[aB e.space,aB e.loc] 110:=
    (((((show aJ (B.drewN nq) j _ _ from f3.o).set_ne (a:=⟨x.d,14,none⟩) t2 (.bool true)).set_ne (a:=⟨x.d,15,none⟩) t2 (aB nm.1)).set_ne (a:=⟨x.d,16,none⟩) t2 (aB nm.2)).set 0 (aB e.space)).set 1 (aB e.loc)
   have d7:cK x { C with needClose:=true,tcs:=⟨nm.1.toArray⟩,tcl:=⟨nm.2.toArray⟩ } _ v s.rest none b1:=L.o.own HX.o.toOk hX hm (fun k z=>by
    rcases z with z|z
    ·exact aH z
    ·exact aW (z▸⟨r.o.tS,r.o.tB⟩))
   have M:=J.o.mod hm (fun b d E=>by
    rcases E with E|E
    ·exact J.o.s1 b d (aH (aH E))
    ·exact b2.o.2.2.2 b d E) J.o.s1
   have N:=(u.o.mod.mono (S':=fun b=>b=x.d∨b∈m::((q::g)++A)∨b=j) (fun b _ d=>by
    rcases d with d|d
    ·exact aH d
    ·exact aW (aH d))).trans (hm.mono (S':=fun b=>b=x.d∨b∈m::((q::g)++A)∨b=j) (fun b _ d=>by
    rcases d with d|d
    ·exact aH d
    ·exact aW (aW d))) (fun _ _ h=>h)
   refine ⟨(e.space,e.loc),rfl,rfl,_,g,q::A,n,⟨⟨none,b1,d7,fun E=>(by have:=e7.o;rw [show s.ended=true from E] at this;cases this),fun E=>absurd rfl E⟩,rfl,fun hP W=>?_,r.o.rts.nb⟩,⟨M.stk,M.free,M.map,M.ns,M.nodup,M.base,M.s1⟩,i2,u.o.same.trans ⟨C.stk,C.free,C.depth,true,⟨nm.1.toArray⟩,⟨nm.2.toArray⟩,rfl⟩,N,u.o.sub,?_⟩
   ·simp only [kD] at W;subst W;exact ⟨rfl,rfl⟩
   ·rw [HS.o];simp only [gN];omega
noncomputable def gZ (n:Nat):Code:=((Tryz.f18.body).bind (Code.partAt n)).getD .skip
def oE (a:cZ) (p:List gT×(Bs→Option Bs)):List gT×(Bs→Option Bs):=
 if a.1=kA then ({ kind:=1,space:=(p.2 a.2.1).getD [],loc:=a.2.1,ok:=(p.2 a.2.1).isSome }::p.1,iA p.2 a.2.1 (some a.2.2))
 else if a.1=[]∧a.2.1=kA then ({ kind:=1,space:=(p.2 []).getD [],loc:=[],ok:=(p.2 []).isSome }::p.1,iA p.2 [] (some a.2.2))
 else p
theorem tP (a:cZ) (l:List cZ) (f:List gT) (j:Bs→Option Bs):dK (a::l) f j=dK l (oE a (f,j)).1 (oE a (f,j)).2:=by
 obtain ⟨e,c,v⟩:=a;conv=>lhs;unfold dK
 unfold oE;simp only;by_cases g:e=kA
 ·have b:e=bF:=g;have i:¬ (e=[]∧c=bF):=by rintro ⟨h,_⟩;rw [g] at h;cases h
  simp only [aV b,aN i,aV g]
 ·have b:¬ e=bF:=g;by_cases i:e=[]∧c=kA
  ·have d:e=[]∧c=bF:=i;simp only [aN b,aV d,aN g,aV i]
  ·have d:¬ (e=[]∧c=bF):=i;simp only [aN b,aN d,aN g,aN i]
theorem AH (a:cZ):∀ (l:List cZ) (c:List gT) (d:Bs→Option Bs),dK (l++[a]) c d=oE a (dK l c d)
 | [],c,d=>by rw [List.nil_append,tP];rfl
 | b::l,c,d=>by
  rw [jJ,tP,AH a l,←tP]
def sZ (a:Bs→Option Bs):Prop:=∀ k u,a k=some u→u.length≤100000000000
theorem sZ.set {b:Bs→Option Bs} (h:sZ b) (k v:Bs) (c:v.length≤100000000000):sZ (iA b k (some v)):=by
 intro d u a;unfold iA at a;split at a
 ·simp only [kD] at a;rw [←a];exact c
 ·exact h d u a
theorem sZ.get {a:Bs→Option Bs} (h:sZ a) (k:Bs):((a k).getD []).length≤100000000000:=by
 cases b:a k with
 | none=>simp
 | some u=>exact h k u b
theorem RM {N:Nat} {a:cZ} (f:BC 1000000000 a) {p:List gT×(Bs→Option Bs)} (d:lH p.1) (c:sZ p.2):lH (oE a p).1∧sZ (oE a p).2∧(oE a p).1.length≤p.1.length+1:=by
 obtain ⟨g,h,i⟩:=f;unfold oE;split
 ·refine ⟨fun e b=>?_,c.set _ _ (by omega),by simp⟩;rcases mH.1 b with rfl|b
  ·exact ⟨aW rfl,by have:=c.get a.2.1;simp only;omega,by simp only;omega⟩
  ·exact d e b
 ·split
  ·refine ⟨fun e b=>?_,c.set _ _ (by omega),by simp⟩;rcases mH.1 b with rfl|b
   ·exact ⟨aW rfl,by have:=c.get [];simp only;omega,by simp⟩
   ·exact d e b
  ·exact ⟨d,c,by omega⟩
theorem eL.more {x:Cx} {c:DC} {w:World} {v:DV} {m:Nat} {n f:List Nat} {e:DC} {w' d:World} {b a:List Nat} {S:Nat→Prop} (h:eL x c w v m n f e w' b a) (l:aM S w' d) (j:∀ k,S k→k∈m::(b++a)∧k≠x.d):eL x c w v m n f e d b a:=by
 refine ⟨aJ.mod h.dec l (fun o=>(j _ o).2 rfl),h.cs,h.mod.trans l (fun i q p=>?_),h.sub⟩;rcases h.sub i (j i p).1 with g|g
 ·exact aW g
 ·omega
theorem m5.drewN {x:Cx} {w:World} {c:DC} {v:DV} {m:Nat} {e b:List Nat} {n:Nat} {a:List gT} {d:Bs→Option Bs} (h:m5 x w c v m e b n a d) (k:Nat):m5 x (w.drewN k) c v m e b n a d:=h.mod ((aM.refl (fun _=>False) w).drewN k) (fun _ _=>id) h.s1
theorem uU {d:Array Value} {c:List cZ} (h:d.toList.take (c.length*3)=aR c) {i:Nat} {a:cZ} (m:c[i]?=some a):d[i*3]?=some (aB a.1)∧d[i*3+1]?=some (aB a.2.1)∧d[i*3+2]?=some (aB a.2.2):=by
 have q:=(A1.1 m).1;have k:∀ (l:List cZ) (i:Nat) (a:cZ),l[i]?=some a→(aR l)[i*3]?=some (aB a.1)∧(aR l)[i*3+1]?=some (aB a.2.1)∧(aR l)[i*3+2]?=some (aB a.2.2):=by
  intro l;induction l with
  | nil=>intro i a h;simp at h
  | cons b l ih=>
   intro i a h;have e:aR (b::l)=[aB b.1,aB b.2.1,aB b.2.2]++aR l:=rfl;cases i with
   | zero=>
    simp only [List.getElem?_cons_zero,kD] at h;subst h;rw [e];exact ⟨rfl,rfl,rfl⟩
   | succ i=>
    simp only [List.getElem?_cons_succ] at h;obtain ⟨n,o,p⟩:=ih i a h;rw [e];refine ⟨?_,?_,?_⟩
    ·rw [EG (by simp;omega)];simpa [Nat.succ_mul] using n
    ·rw [EG (by simp;omega)];simpa [Nat.succ_mul] using o
    ·rw [EG (by simp;omega)];simpa [Nat.succ_mul] using p
 obtain ⟨f,g,j⟩:=k c i a m;rw [←h] at f g j;rw [List.getElem?_take,aV (by omega),Array.getElem?_toList] at f;rw [List.getElem?_take,aV (by omega),Array.getElem?_toList] at g;rw [List.getElem?_take,aV (by omega),Array.getElem?_toList] at j;exact ⟨f,g,j⟩
def Ch (x:Cx) (c0:DC) (w0:World) (v:DV) (m:Nat) (h g:List Nat) (o:Nat) (b:List gT) (e:Bs→Option Bs) (q:Nat) (p:Value) (d:List cZ) (k:Nat) (a:Act) (w:World):Prop:=
 ∃ f c l j n i,a=fr 204 f [(0,cB x),(5,.nilIface),(8,.pointer (some ⟨q,0,none⟩)),(101,p),(102,.int .i64 d.length),(103,.int .i64 (i:Nat))]∧eL x c0 w0 v m h g c w l j ∧
  m5 x w c v m l j n (dK (d.take i) b e).1 (dK (d.take i) b e).2∧k=d.length-i∧i≤d.length∧n+(dK (d.take i) b e).1.length≤o+b.length+2*i∧lH (dK (d.take i) b e).1∧sZ (dK (d.take i) b e).2
theorem ZJ (x:Cx) (hx:x.Ok) (c0:DC) (w0:World) (v:DV) (hd:bX w0 x.d c0 v) (p:∀ k,x.S1 v k→k<w0.heap.size) (hB:x.B≤w0.heap.size) (m:Nat) (O L:List Nat) (n0:Nat) (d:List gT) (s:Bs→Option Bs) (h:m5 x w0 c0 v m O L n0 d s) (aA:lH d) (Z:sZ s)
  (b:List cZ) (bA:∀ a∈b,BC 1000000000 a) (bL:b.length≤1000000000) (hn:n0+d.length≤10000000000) (t8 g f0:Nat) (c3:Array Value) (hg:aJ w0 g c3 103) (bC:c3.toList.take (b.length*3)=aR b) (f6:g≠x.d∧g∉m::(O++L)) (Q:Exit→Act→World→Prop)
  (hQ:∀ f c w sb fb n,eL x c0 w0 v m O L c w sb fb→m5 x w c v m sb fb n (dK b d s).1 (dK b d s).2→n+(dK b d s).1.length≤n0+d.length+2*b.length→lH (dK b d s).1→sZ (dK b d s).2→Q .normal (fr 204 f [(0,cB x),(5,.nilIface),(8,.pointer (some ⟨t8,0,none⟩))]) w) (f:Nat→Value) (c1:Code) (c9:c1=.loop (gZ 23)) :
  c1.wp prog (Exit.inBlock 1 Q) (fr 204 f [(0,cB x),(5,.nilIface),(8,.pointer (some ⟨t8,0,none⟩)),(101,.slice (some ⟨g,0,none⟩) b.length f0),(102,.int .i64 b.length),(103,.int .i64 0)]) w0:=by
 subst c9;have ⟨HX,HQ,HN,e4,P,HG⟩:=iH hx hQ hn bA bL hg;have ⟨e7,e8,a5,HB⟩:=kV bC f6 p hB;refine wp_loop_ghost_k (Ch x c0 w0 v m O L n0 d s t8 (.slice (some ⟨g,0,none⟩) b.length f0) b) b.length ⟨f,c0,O,L,n0,0,rfl,eL.refl hd m O L,h,by simp,iW _,by simp [dK],aA,Z⟩ ?_;clear h aA hd hx hQ hn Z bA bL hg bC f6 p hB;rintro k _ w ⟨f,c,sb,fb,n,i,rfl,hs,ho,hk,hi,gB,aA,Z⟩ J K2 hJ f1;have ⟨HJ,b8,HS,HO,HK,u⟩:=iH hJ f1 hs ho hk gB;have ⟨a4,a3⟩:=cN aA Z;clear hJ f1 hs hk gB aA Z ho;unfold gZ;conv=>arg 2;whnf
 by_cases a8:i<b.length
 ·have h1:(i:Int)<(b.length:Int):=by omega
  have h0:(0:Int)≤(i:Int):=by omega
  have hE:IntKind.i64.wrap ((i:Int)+1)=((i+1:Nat):Int):=by rw [IntKind.wrap_i64];have:=P.o;omega
  obtain ⟨a,ha⟩:∃ a,b[i]?=some a:=⟨b[i],by simp [a8]⟩;obtain ⟨k1,k2,k3⟩:=uU e7.o ha;have a7:aJ w g c3 103:=HG.o.mod HS.o.mod (fun r=>by
   rcases r with r|r
   ·exact e8.o.1 r
   ·exact e8.o.2 r)
  have U:w.cell? ⟨g,i*3,none⟩=some (aB a.1):=(a7.cell _).trans k1;have V:w.cell? ⟨g,i*3+1,none⟩=some (aB a.2.1):=(a7.cell _).trans k2;have W:w.cell? ⟨g,i*3+2,none⟩=some (aB a.2.2):=(a7.cell _).trans k3;have aL:b.take (i+1)=b.take i++[a]:=by
   rw [List.take_succ,ha];rfl
  have a9:=AH a (b.take i) d s;rw [←aL] at a9;have T:=e4.o a (List.mem_of_getElem? ha);obtain ⟨b1,b2,b3⟩:=RM (N:=0) T a4.o a3.o;rw [←a9] at b1 b2 b3;have ⟨y,b5,b6,e5,H⟩:=o4 a9 b1 b2 b3 T;obtain ⟨l,b4⟩:=cY ((dK (b.take i) d s).1);obtain ⟨q,b0⟩:=cY ((dK (b.take i) d s).2);rw [show dK (b.take i) d s=(l,q) from by rw [b4,b0]] at y HO u a4 a3 e5;simp only at y HO u a4 a3 e5;clear b1 b2 b3 a9 aL k1 k2 k3 ha b4 b0 T a7;obtain ⟨sp,j,o⟩:=a;simp only at U V W;obtain ⟨I,A⟩:=cY (w.alloc (.cells #[aB sp,aB j,aB o] 103));have c7:aM (fun _=>False) w I:=by rw [A];exact aG ((Below.refl _ w).alloc (dD _) _) _
  have a6:aJ I w.heap.size #[aB sp,aB j,aB o] 103:=by rw [A];exact aJ.new w _ _
  have d0:m5 x I c v m sb fb n l q:=HO.o.mod c7 (fun _ _=>id) HO.o.s1;have e0:=HS.o.more c7 (fun _ h=>h.elim);have hD:w.heap.size+1=I.heap.size:=by rw [A];exact (Array.size_push _).symm
  have ⟨e6,R,C⟩:=mJ a6 d0 e0;have M:=e0.dec;have hc:=M.cell;have hf:=M.frozen;have f2:=a6.cell;have f4:=a6.frozen;have f9:=d0.map;obtain ⟨d1,d2,d3,d4,d5,d6,d7,d8,d9,g8,g9,hA,hC⟩:=c;simp only at f9;subst f9;clear a6 d0 e0 c7;by_cases e1:sp=kA
  ·subst e1;refine vg ?_;intro K hK K hK K hK;rw [show w.alloc (.cells #[.string ⟨List.toArray kA⟩,.string ⟨List.toArray j⟩,.string ⟨List.toArray o⟩] 103)=I from A.symm];clear A U V W;have f7:=fun k=>(R.o.ns.drewN k).look j (by have:=H.o.2.1;unfold maxLen;simp only at this;omega);refine cP [0,5,8,10,101,102,103] fun f=>?_;go_quiet (fail);have aC:=Lh (F7 x HX.o _ (I.drewN nq) v (show bX (I.drewN nq) x.d _ v from M) (fun k hk=>oX (a5.o k hk) C.o.mod.size) (fX HB.o C.o.mod.size) m sb fb n l q (R.o.drewN nq) j ((q j).getD []) (q j).isSome);clear f7;(repeat revert K);refine vg ?_;intro K hK K hK K hK K hK;refine aC.o.mono ?_;rintro e1 w1 ⟨rfl,c1,e3,c4,p,F⟩;have E:w.heap.size≠x.d∧w.heap.size∉m::(sb++fb):=⟨fun e=>by have:=a5.o x.d (aH (aH rfl));have h9:=HS.o.mod.size;omega,fun r=>Nat.lt_irrefl _ (HO.o.lt _ r)⟩;have t:=(show aJ (I.drewN nq) w.heap.size _ _ from e6.o).mod p.mod (fun r=>by rcases r with r|r;exact E.1 r;exact E.2 r);have z:=F.map;have B:=Lh F;have cT:=Lh ((C.o.more (S:=fun _=>False) ((aM.refl _ I).drewN nq) (fun _ h=>h.elim)).trans p);obtain ⟨p1,p2,p3,p4,p5,p6,p7,p8,p9,g3,g4,g5,g6⟩:=c1;simp only at z;subst z;have c9:=p.dec.cell;have g0:=p.dec.frozen;have dI:=t.cell;have b7:=Lh t;have dT:=t.frozen;clear aC p F t hc hf f2 f4 M;(repeat revert K);refine vS ?_;intro K hK K hK;refine cP [0,5,8,10,101,102,103] fun f=>?_;(refine lX [0,0,0,1,0,0,1,0,1,2] [0,1,2,3,4,5,6,7,8,9] ?_;refine vP ?_;repeat with_reducible intro nq)
   refine bK rfl rfl (fun a0 K hK=>?_);obtain ⟨w2,g2,Y,G⟩:=(B.o.ns.drewN a0).store (by have h9:n+l.length≤n0+d.length+2*i:=u.o;have:=HN.o;have:=P.o;unfold maxLen;omega) j o (by have:=H.o.2.1;unfold maxLen;simp only at this;omega) (by have:=H.o.2.2;unfold maxLen;simp only at this;omega);have D:=(show aJ (w1.drewN a0) w.heap.size _ _ from b7.o).mod (lR G) (fun r=>E.2 (by rw [r];exact List.mem_cons_self));have f3:=D.cell;have f5:=D.frozen;have ⟨b9,c2⟩:=cN Y G;clear Y G D dI dT;go_simp;refine hK.out _ _ ?_;clear hK K;(refine vP ?_;repeat with_reducible intro nq)
   (try ((repeat revert K);refine vg ?_))
   have X:aM (fun k=>k=m) w1 (w2.drewN nq):=((show aM (fun k=>k=m) w1 (w1.drewN _) from (aM.refl _ w1).drewN _).trans (lR c2.o) (fun _ _ h=>h)).drewN nq;have c5:=B.o.turned X (b9.o.drewN nq);have c6:=cT.o.more X (fun k hk=>by subst hk;exact ⟨List.mem_cons_self,fun e=>B.o.s1 _ List.mem_cons_self (aH (aH e))⟩);refine Kk [0,5,8,101,102,103] fun f=>?_;refine b8.o _ _ ⟨b.length-(i+1),by rw [HK.o];omega,HJ.o _ _ _ ⟨f,_,e3,c4,n+1,i+1,rfl,c6,?_,rfl,a8,?_,b5.o,b6.o⟩⟩
   ·rw [y.o,show oE (kA,j,o) (l,q)=({ kind:=1,space:=(q j).getD [],loc:=j,ok:=(q j).isSome }::l,iA q j (some o)) from rfl];exact c5
   ·have h9:n+l.length≤n0+d.length+2*i:=u.o;rw [y.o,show oE (kA,j,o) (l,q)=({ kind:=1,space:=(q j).getD [],loc:=j,ok:=(q j).isSome }::l,iA q j (some o)) from rfl];simp only [gN];omega
  ·obtain ⟨a1,a2⟩:=sY e1;by_cases e2:sp=[]∧j=kA
   ·obtain ⟨rfl,rfl⟩:=e2;have f7:=R.o.ns.look [] (by simp);refine vT 30 ?_;intro K hK;rw [show w.alloc (.cells #[.string ⟨#[]⟩,.string ⟨List.toArray kA⟩,.string ⟨List.toArray o⟩] 103)=I from A.symm];clear A U V W;have aC:=Lh (F7 x HX.o _ I v (show bX I x.d _ v from M) (fun k hk=>oX (a5.o k hk) C.o.mod.size) (fX HB.o C.o.mod.size) m sb fb n l q (R.o) [] ((q []).getD []) (q []).isSome);revert K;refine vg ?_;intro K hK K hK K hK;refine aC.o.mono ?_;rintro e1 w1 ⟨rfl,c1,e3,c4,p,F⟩;have E:w.heap.size≠x.d∧w.heap.size∉m::(sb++fb):=⟨fun e=>by have:=a5.o x.d (aH (aH rfl));have h9:=HS.o.mod.size;omega,fun r=>Nat.lt_irrefl _ (HO.o.lt _ r)⟩;have t:=(show aJ I w.heap.size _ _ from e6.o).mod p.mod (fun r=>by rcases r with r|r;exact E.1 r;exact E.2 r);have z:=F.map;have B:=Lh F;have cT:=Lh ((C.o).trans p);obtain ⟨p1,p2,p3,p4,p5,p6,p7,p8,p9,g3,g4,g5,g6⟩:=c1;simp only at z;subst z;have c9:=p.dec.cell;have g0:=p.dec.frozen;have dI:=t.cell;have b7:=Lh t;have dT:=t.frozen;clear aC p F t hc hf f2 f4 M;(repeat revert K);refine vS ?_;intro K hK;refine cP [0,5,8,10,101,102,103] fun f=>?_;(refine lX [0,0,0,1,0,1,2] [0,1,2,3,4,5,6] ?_;refine vP ?_;repeat with_reducible intro nq)
    refine bK rfl rfl (fun a0 K hK=>?_);obtain ⟨w2,g2,Y,G⟩:=(B.o.ns.drewN a0).store (by have h9:n+l.length≤n0+d.length+2*i:=u.o;have:=HN.o;have:=P.o;unfold maxLen;omega) [] o (by simp) (by have:=H.o.2.2;unfold maxLen;simp only at this;omega);have D:=(show aJ (w1.drewN a0) w.heap.size _ _ from b7.o).mod (lR G) (fun r=>E.2 (by rw [r];exact List.mem_cons_self));have f3:=D.cell;have f5:=D.frozen;have ⟨b9,c2⟩:=cN Y G;clear Y G D dI dT;go_simp;refine hK.out _ _ ?_;clear hK K;(refine vP ?_;repeat with_reducible intro nq)
    (try (revert K;refine vg ?_))
    have X:aM (fun k=>k=m) w1 (w2.drewN nq):=((show aM (fun k=>k=m) w1 (w1.drewN _) from (aM.refl _ w1).drewN _).trans (lR c2.o) (fun _ _ h=>h)).drewN nq;have c5:=B.o.turned X (b9.o.drewN nq);have c6:=cT.o.more X (fun k hk=>by subst hk;exact ⟨List.mem_cons_self,fun e=>B.o.s1 _ List.mem_cons_self (aH (aH e))⟩);refine Kk [0,5,8,101,102,103] fun f=>?_;refine b8.o _ _ ⟨b.length-(i+1),by rw [HK.o];omega,HJ.o _ _ _ ⟨f,_,e3,c4,n+1,i+1,rfl,c6,?_,rfl,a8,?_,b5.o,b6.o⟩⟩
    ·rw [y.o,show oE ([],kA,o) (l,q)=({ kind:=1,space:=(q []).getD [],loc:=[],ok:=(q []).isSome }::l,iA q [] (some o)) from rfl];exact c5
    ·have h9:n+l.length≤n0+d.length+2*i:=u.o;rw [y.o,show oE ([],kA,o) (l,q)=({ kind:=1,space:=(q []).getD [],loc:=[],ok:=(q []).isSome }::l,iA q [] (some o)) from rfl];simp only [gN];omega
   ·have c8:(sp==[])=false∨((sp==[])=true∧(j==kA)=false):=by
     by_cases h3:sp=[]
     ·refine aW ⟨by rw [h3];rfl,(sY (fun h4=>e2 ⟨h3,h4⟩)).1⟩
     ·exact aH (sY h3).1
    have e9:oE (sp,j,o) (l,q)=(l,q):=by
     unfold oE;rw [aN e1,aN e2]
    have E9:=Lh e9;clear e9 e2 e1;rcases c8 with c8|⟨c8,g7⟩
    all_goals
     refine vg ?_;rw [show w.alloc (.cells #[.string ⟨List.toArray sp⟩,.string ⟨List.toArray j⟩,.string ⟨List.toArray o⟩] 103)=I from A.symm];refine Kk [0,5,8,101,102,103] fun f=>?_;refine b8.o _ _ ⟨b.length-(i+1),by rw [HK.o];omega,HJ.o _ _ _ ⟨f,_,sb,fb,n,i+1,rfl,C.o,?_,rfl,a8,?_,b5.o,b6.o⟩⟩
     ·rw [y.o,E9.o];exact R.o
     ·have h9:n+l.length≤n0+d.length+2*i:=u.o;rw [y.o,E9.o];simp only;omega
 ·have g1:i=b.length:=by omega
  subst g1;have h1:¬ ((b.length:Int)<(b.length:Int)):=by omega
  refine vg ?_;intro K hK;refine Qk [0,5,8] fun f=>?_;have h2:=HO.o;have h3:=u.o;have h4:=a4.o;have h5:=a3.o;rw [List.take_length] at h2 h3 h4 h5;exact HQ.o f c w sb fb n HS.o h2 h3 h4 h5
theorem AI (o:cM) (c:Bs→Option Bs) (nm:Bs×Bs) (d:Bool):(cX o c nm d).2=nm.2:=by
 unfold cX;split
 ·rfl
 split
 ·rfl
 split
 ·rfl
 have b:∀ a:Bs,(match c a with|some v=>(v,nm.2)|none=>if a=[] then (o.space,nm.2) else (a,nm.2):Bs×Bs).2=nm.2:=by
  intro a;cases c a with
  | some v=>rfl
  | none=>simp only;split<;>rfl
 exact b _
def ZK (o:cM) (b:Bs→Option Bs) (a:cZ):cZ:=let q:=cX o b (a.1,a.2.1) false;(q.1,q.2,a.2.2)
theorem ZL (o:cM) (b:Bs→Option Bs) (a:cZ):ZK o b a=((cX o b (a.1,a.2.1) false).1,a.2):=by
 unfold ZK;simp only [AI]
theorem xK (s:Bs):∀ (l:List cZ) (i:Nat) (a:cZ),l[i]?=some a→(aR l).set (i*3) (aB s)=aR (l.set i (s,a.2))
 | [],i,a,h=>by simp at h
 | b::l,0,a,h=>by
  simp only [List.getElem?_cons_zero,kD] at h;subst h;rfl
 | b::l,i+1,a,h=>by
  simp only [List.getElem?_cons_succ] at h;have ih:=xK s l i a h;have e:∀ (b:cZ) (l:List cZ),aR (b::l)=[aB b.1,aB b.2.1,aB b.2.2]++aR l:=fun _ _=>rfl;rw [e,List.set_cons_succ,e,←ih,List.set_append_right _ _ (by simp;omega)]
  congr 2
  simp;omega
theorem ZM {b:Array Value} {l:List cZ} {n:Nat} (d:n=l.length) (h:b.toList.take (n*3)=aR l) {i:Nat} {a:cZ} (c:l[i]?=some a) (s:Bs):(b.setIfInBounds (i*3) (aB s)).toList.take (n*3)=aR (l.set i (s,a.2)):=by
 rw [Array.toList_setIfInBounds,List.take_set,h,xK s l i a c]
theorem VL (f:cZ→cZ) (b:List cZ) (i:Nat) (a:cZ) (c:b[i]?=some a):((b.take i).map f++b.drop i)[i]?=some a∧((b.take i).map f++b.drop i).set i (f a)=(b.take (i+1)).map f++b.drop (i+1):=by
 obtain ⟨h,g⟩:=A1.1 c;have d:b.drop i=a::b.drop (i+1):=by rw [←g];exact EF h
 have e:((b.take i).map f).length=i:=by simp;omega
 have j:b.take (i+1)=b.take i++[a]:=by rw [List.take_succ,c];rfl
 constructor
 ·rw [EG (by omega),e,d];simp
 ·rw [List.set_append_right _ _ (by omega),e,d,j];simp
def Ci (x:Cx) (w0:World) (e:Bs→Option Bs) (j g:Nat) (h:Nat) (c:List cZ) (k:Nat) (a:Act) (w:World):Prop:=
 ∃ f i d,a=fr 204 f [(0,cB x),(5,.nilIface),(8,.pointer (some ⟨j,0,none⟩)),(176,.int .i64 c.length),(177,.int .i64 (i:Nat))]∧aM (fun b=>b=g) w0 w ∧
  aJ w g d 103∧d.size=h∧d.toList.take (c.length*3)=aR ((c.take i).map (ZK x.o e)++c.drop i)∧k=c.length-i∧i≤c.length
theorem VM (x:Cx) (hx:x.Ok) (c:DC) (w0:World) (v:DV) (hd:bX w0 x.d c v) (m n:Nat) (A:Bs→Option Bs) (y:c.ns=.map (some m)) (O:kO w0 m n A) (P:c.space=⟨x.o.space.toArray⟩)
  (d:List cZ) (t:∀ a∈d,BC 1000000000 a) (u:d.length≤1000000000) (U g aA:Nat) (nm:Bs×Bs) (o:Array Value) (I:aJ w0 g o 103) (e:o.toList.take (d.length*3)=aR d) (L:g≠x.d∧g≠m∧g≠U)
  (S:aJ w0 U #[aB nm.1,aB nm.2,.slice (some ⟨g,0,none⟩) d.length aA] 101) (Q:Exit→Act→World→Prop)
  (hQ:∀ f w p,aM (fun b=>b=g) w0 w→aJ w g p 103→p.size=o.size→p.toList.take (d.length*3)=aR (d.map (ZK x.o A))→Q .normal (fr 204 f [(0,cB x),(5,.nilIface),(8,.pointer (some ⟨U,0,none⟩))]) w) (f:Nat→Value) (c1:Code) (aL:c1=.loop (gZ 37)) :
  c1.wp prog (Exit.inBlock 3 Q) (fr 204 f [(0,cB x),(5,.nilIface),(8,.pointer (some ⟨U,0,none⟩)),(176,.int .i64 d.length),(177,.int .i64 0)]) w0:=by
 subst aL;have ⟨HX,HQ,B,C,l,HD⟩:=iH hx hQ t u L hd;have ⟨X,Y,W,Z⟩:=kV O P y S;refine wp_loop_ghost_k (Ci x w0 A U g o.size d) d.length ⟨f,0,o,rfl,aM.refl _ _,I,rfl,by simpa using e,by simp,iW _⟩ ?_;clear hd hx hQ t u I e L O P y S;rintro k _ w ⟨f,i,s,rfl,hm,I,R,e,hk,hi⟩ J K2 hJ G;have ⟨HJ,V,D,HG,F,j⟩:=iH hJ G hm I R e;have HK:=Lh hk;clear hJ G hm I R e hk;unfold gZ;conv=>arg 2;whnf
 by_cases N:i<d.length
 ·have h1:(i:Int)<(d.length:Int):=by omega
  have h0:(0:Int)≤(i:Int):=by omega
  have a4:IntKind.i64.wrap ((i:Int)+1)=((i+1:Nat):Int):=by rw [IntKind.wrap_i64];have:=C.o;omega
  obtain ⟨a,ha⟩:∃ a,d[i]?=some a:=⟨d[i],by simp [N]⟩;obtain ⟨k0,k9⟩:=VL (ZK x.o A) d i a ha;have z:((d.take i).map (ZK x.o A)++d.drop i).length=d.length:=by simp;omega
  have e:=j.o;rw [←z] at e;obtain ⟨k1,k2,k3⟩:=uU e k0;have q:=ZM z.symm j.o k0 (cX x.o A (a.1,a.2.1) false).1;rw [←ZL,k9] at q;have E:=Lh q;have r:=Z.o.mod D.o (fun M=>l.o.2.2 M.symm);have a0:=r.cell;have a1:=r.frozen;have H:bX w x.d c v:=aJ.mod HD.o D.o (fun M=>l.o.1 M.symm);have T:=Lh (rL x c w v H m n A W.o (X.o.mod D.o (fun M=>l.o.2.1 M.symm)) Y.o g s _ HG.o l.o.1 l.o.2.1 (i*3) (a.1,a.2.1) k1 k2 (fX (B.o a (List.mem_of_getElem? ha)).1 (by decide)) false);clear q k0 k1 k2 k3 k9 e r H z;refine vg ?_;intro K hK K hK;refine T.o.mono ?_;rintro e1 w1 ⟨rfl,a3,aC,a5⟩;clear a0 a1 T;(repeat revert K);refine vS ?_;refine Kk [0,5,8,176,177] fun f=>?_;exact V.o _ _ ⟨d.length-(i+1),by rw [HK.o];omega,HJ.o _ _ _ ⟨f,i+1,_,rfl,D.o.trans a3 (fun _ _ h=>h),aC,by simpa using F.o,E.o,rfl,N⟩⟩
 ·have a2:i=d.length:=by omega
  subst a2;have h1:¬ ((d.length:Int)<(d.length:Int)):=by omega
  refine vg ?_;intro K hK;refine Qk [0,5,8] fun f=>?_;refine HQ.o f w s D.o HG.o F.o ?_;have:=j.o;simpa using this
theorem DY (x:Cx) (i:x.All) (c:DC) (w:World) (v:DV) (s:St) (m:Nat) (d b:List Nat) (n:Nat) (a:Nat) (nm:Bs×Bs) (h:RI x c w v s m d b n a nm) :
  Calls prog 41 #[cB x,.pointer (some ⟨a,0,none⟩)] w fun j w'=>gY x c w v s nm m d b n a j w':=by
 cases f:s.stk with
 | nil=>exact RJ x i c w v s m d b n a nm h f
 | cons e stk'=>
  rcases (h.sok e (by rw [f];simp)).1 with g|g
  ·exact NO x i c w v s m d b n a nm h e stk' f g
  ·exact VK x i c w v s m d b n a nm h e stk' f g
theorem iY.head {w:World} {p:Value} {l:List gT} {d:List Nat} (h:iY w p l d) (a:lH l) :
  (p=.pointer none∧l=[])∨∃ q e l' b c,p=.pointer (some ⟨q,0,none⟩)∧l=e::l'∧(e.kind=0∨e.kind=1)∧aJ w q (jX b e.kind e.space e.loc c) 95∧q∈d:=by
 rcases h.ptr with ⟨f,_,g⟩|⟨q,e,l',bs',rfl,rfl,rfl⟩
 ·exact aH ⟨f,g⟩
 ·obtain ⟨_,b,c,i,_,_⟩:=h;exact aW ⟨q,e,l',b,c,rfl,rfl,(a e (by simp)).1,i,by simp⟩
def JH (x:Cx) (v:Value):Prop:=∃ A N C,v=.slice A N C∧N=x.o.auto.length∧N≤1000000000000∧N≤C∧(0<N→∃ b o,A=some ⟨b,o,none⟩∧b<x.B∧∀ j a,x.o.auto[j]?=some a→x.W0.cell? ⟨b,o+j,none⟩=some (aB a)∧a.length≤1000000000000)
structure xL (x:Cx) (c:DC):Prop where
 dc:iU x c
 no:tC x c
 sp:c.space=⟨x.o.space.toArray⟩
 auto:JH x c.auto
theorem xL.same {x:Cx} {c a:DC} (h:xL x c) (k:rM c a):xL x a:=by
 obtain ⟨p,q,d,b,e,f,rfl⟩:=k;exact ⟨⟨h.dc.r,h.dc.strict⟩,⟨h.no.ent,h.no.ents⟩,h.sp,h.auto⟩
def cU:Value→Nat→Prop
 | .iface _ (.agg #[_,_,.slice (some a) _ _]),k=>k=a.block
 | _,_=>False
theorem nK.slice {w:World} {b s:Value} {d:Bs} (h:nK w b s d):∃ a l c,s=.slice (some a) l c:=by
 obtain ⟨g,e,n,h,_⟩:=h.ex;exact ⟨_,_,_,h⟩
theorem bN.mod {w w':World} {g o:Nat} {d:Bs} {S:Nat→Prop} (h:bN w g o d) (f:aM S w w') (b:¬ S g):bN w' g o d:=by
 intro j c;have a:=h j c;have e:=World.block_lt_of_cell? w _ a;rw [←a];exact World.cell?_of_block (w:=w) (f.block g e b)
theorem iR.mod {w w':World} {c:Value} {B:Nat} {m:Value} {l:aO} {S:Nat→Prop} (h:iR w c B m l) (o:aM S w w') (q:∀ k,eM c k→¬ S k) (t:∀ g,cU m g→¬ S g):iR w' c B m l:=by
 have j:∀ {s:Value} {d:Bs},nK w c s d→nK w' c s d:=by
  rintro s d ⟨g,e,n,b,a,i,f,p⟩;exact ⟨g,e,n,b,a,i.mod o (q g (by rw [a];rfl)),f,p⟩
 cases l with
 | text d=>obtain ⟨s,b,a⟩:=h;exact ⟨s,b,j a⟩
 | comment d=>obtain ⟨s,b,a⟩:=h;exact ⟨s,b,j a⟩
 | dir d=>obtain ⟨s,b,a⟩:=h;exact ⟨s,b,j a⟩
 | proc tg d=>obtain ⟨s,b,a⟩:=h;exact ⟨s,b,j a⟩
 | fin nm=>exact h
 | start nm ats=>
  obtain ⟨s,rfl,a,i⟩:=h;refine ⟨s,rfl,a,aE i o (fun k r=>?_)⟩;rcases i.2 with ⟨f,_⟩|⟨g,e,cur,f,_⟩
  ·exact absurd f a
  ·subst f;have:g=k:=by simpa [Value.ownBlock] using r
   subst this;exact t g rfl
theorem iR.lt {w:World} {k:Value} {B:Nat} {f:Value} {j:aO} (h:iR w k B f j) {g:Nat} (a:cU f g):B≤g∧g<w.heap.size:=by
 cases j with
 | start nm ats=>
  obtain ⟨c,rfl,e,n,i⟩:=h;rcases i with ⟨rfl,i⟩|⟨g',cap,cur,rfl,l,m,_⟩
  ·exact absurd rfl e
  ·have:g=g':=a;subst this;exact ⟨l,(show aJ w g cur 103 from m).lt⟩
 | fin nm=>rw [show f=M7 nm from h] at a;exact a.elim
 | text d=>obtain ⟨c,rfl,b⟩:=h;obtain ⟨_,_,_,rfl⟩:=b.slice;exact a.elim
 | comment d=>obtain ⟨c,rfl,b⟩:=h;obtain ⟨_,_,_,rfl⟩:=b.slice;exact a.elim
 | dir d=>obtain ⟨c,rfl,b⟩:=h;obtain ⟨_,_,_,rfl⟩:=b.slice;exact a.elim
 | proc tg d=>obtain ⟨c,rfl,b⟩:=h;exact a.elim
def qL:Option aO→Nat
 | some (.start _ ats)=>1+ats.length
 | _=>0
def kP (x:Cx) (w:World) (v:DV) (c:DC) (s:St) (own:List Nat):Prop:=
 match s.next with
 | none=>c.nextTok=.nilIface
 | some tk=>∃ B,x.B≤B∧B≤w.heap.size∧iR w v.bufv B c.nextTok tk∧BD x.T.length tk∧(∀ g,cU c.nextTok g→g∉own∧¬ x.S1 v g)∧((∀ d,tk≠.text d)→s.ended=false∧v.err=.nilIface)
theorem kP.step {x:Cx} {w w':World} {v:DV} {c i:DC} {s f:St} {own a:List Nat} {S:Nat→Prop} (h:kP x w v c s own) (n:aM S w w') (u:∀ k,eM v.bufv k→¬ S k) (D:∀ g,cU c.nextTok g→¬ S g) (C:f.next=s.next) (y:i.nextTok=c.nextTok) (z:f.ended=s.ended)
  (d:∀ b∈a,b∈own∨w.heap.size≤b):kP x w' v i f a:=by
 unfold kP at h ⊢;rw [C,y,z];cases o:s.next with
 | none=>rw [o] at h;exact h
 | some tk=>
  rw [o] at h;obtain ⟨B,p,q,j,r,l,t⟩:=h;refine ⟨B,p,fX q n.size,j.mod n u D,r,fun g e=>⟨fun A=>?_,(l g e).2⟩,t⟩;rcases d g A with m|m
  ·exact (l g e).1 m
  ·have:=(j.lt e).2;omega
theorem kP.none {x:Cx} {w:World} {v:DV} {c:DC} {s:St} {own:List Nat} (a:s.next=none) (b:c.nextTok=.nilIface):kP x w v c s own:=by
 unfold kP;rw [a];exact b
structure TS (x:Cx) (c:DC) (w:World) (v:DV) (s:St) (m:Nat) (b a:List Nat) (n:Nat):Prop where
 cfg:xL x c
 rd:DW x c w v s
 own:m5 x w c v m b a n s.stk s.ns
 sok:lH s.stk
 nok:sZ s.ns
 tcl:∀ nm,s.toClose=some nm→nm.1.length≤x.T.length∧nm.2.length≤x.T.length
 bnd:n+s.stk.length+2*s.rest.length+2*qL s.next≤2*x.T.length
 nxt:kP x w v c s (m::(b++a))
def jO (x:Cx) (w:World) (v:DV) (c:DC) (R:Except EK (aO×St)) (m:Nat) (h f:List Nat) (t e:Value) (w':World):Prop:=
 match R with
 | .error k=>t=.nilIface∧xW x e (some k)∧Below x.B x.W0 w'∧kL w' e k∧aM (fun b=>x.S1 v b∨b∈m::(h++f)∨cU c.nextTok b) w w'
 | .ok (tk,s')=>e=.nilIface∧∃ i v' d a j,TS x i w' v' s' m d a j∧(∃ B,iR w' v'.bufv B t tk)∧aM (fun b=>x.S1 v b∨b∈m::(h++f)∨cU c.nextTok b) w w' ∧
   (∀ b∈m::(d++a),b∈m::(h++f)∨w.heap.size≤b)∧(∀ b,x.S1 v' b→x.S1 v b∨w.heap.size≤b)∧∀ g,cU i.nextTok g→cU c.nextTok g∨w.heap.size≤g
theorem RN (v:Value) (w:World):(Instr.typeAssert (Ba v) 57 101 true).run prog w=.ok (.tuple #[.agg #[nL,nL,.slice none 0 0],.bool false]) w:=by kernel_rfl
theorem LD (v:Value) (w:World):(Instr.typeAssert (Ba v) 57 110 true).run prog w=.ok (.tuple #[.agg #[nL,nL],.bool false]) w:=by kernel_rfl
theorem RO (v:Value) (w:World):(Instr.typeAssert (XX v) 57 101 true).run prog w=.ok (.tuple #[.agg #[nL,nL,.slice none 0 0],.bool false]) w:=by kernel_rfl
theorem LE (v:Value) (w:World):(Instr.typeAssert (XX v) 57 110 true).run prog w=.ok (.tuple #[.agg #[nL,nL],.bool false]) w:=by kernel_rfl
theorem RP (a:Bs) (v:Value) (w:World):(Instr.typeAssert (XY a v) 57 101 true).run prog w=.ok (.tuple #[.agg #[nL,nL,.slice none 0 0],.bool false]) w:=by kernel_rfl
theorem LF (a:Bs) (v:Value) (w:World):(Instr.typeAssert (XY a v) 57 110 true).run prog w=.ok (.tuple #[.agg #[nL,nL],.bool false]) w:=by kernel_rfl
theorem RQ (a b:Value) (w:World):(Instr.typeAssert (.iface 110 (.agg #[a,b])) 57 101 true).run prog w=.ok (.tuple #[.agg #[nL,nL,.slice none 0 0],.bool false]) w:=by kernel_rfl
theorem LG (a b:Value) (w:World):(Instr.typeAssert (.iface 110 (.agg #[a,b])) 57 110 true).run prog w=.ok (.tuple #[.agg #[a,b],.bool true]) w:=by kernel_rfl
theorem RR (a b s:Value) (w:World):(Instr.typeAssert (.iface 101 (.agg #[a,b,s])) 57 101 true).run prog w=.ok (.tuple #[.agg #[a,b,s],.bool true]) w:=by kernel_rfl
theorem Cj (a b s:Value) (w:World):(Instr.typeAssert (.iface 101 (.agg #[a,b,s])) 57 110 true).run prog w=.ok (.tuple #[.agg #[nL,nL],.bool false]) w:=by kernel_rfl
theorem iR.iface {w:World} {e:Value} {B:Nat} {c:Value} {b:aO} (h:iR w e B c b):∃ ty u,c=.iface ty u:=by
 cases b with
 | start nm ats=>obtain ⟨a,rfl,_⟩:=h;exact ⟨_,_,rfl⟩
 | fin nm=>exact ⟨_,_,h⟩
 | text d=>obtain ⟨a,rfl,_⟩:=h;exact ⟨_,_,rfl⟩
 | comment d=>obtain ⟨a,rfl,_⟩:=h;exact ⟨_,_,rfl⟩
 | dir d=>obtain ⟨a,rfl,_⟩:=h;exact ⟨_,_,rfl⟩
 | proc tg d=>obtain ⟨a,rfl,_⟩:=h;exact ⟨_,_,rfl⟩
theorem iR.assertE {w:World} {f:Value} {B:Nat} {e:Value} {c:aO} (h:iR w f B e c) :
  (∃ nm,c=.fin nm∧∀ w,(Instr.typeAssert e 57 110 true).run prog w=.ok (.tuple #[.agg #[aB nm.1,aB nm.2],.bool true]) w) ∨
  ((∀ nm,c≠.fin nm)∧∀ w,(Instr.typeAssert e 57 110 true).run prog w=.ok (.tuple #[.agg #[nL,nL],.bool false]) w):=by
 cases c with
 | start nm ats=>obtain ⟨b,rfl,_⟩:=h;exact aW ⟨fun _ a=>(by cases a),fun w=>Cj _ _ _ w⟩
 | fin nm=>rw [show e=M7 nm from h];exact aH ⟨nm,rfl,fun w=>LG _ _ w⟩
 | text d=>obtain ⟨b,rfl,_⟩:=h;exact aW ⟨fun _ a=>(by cases a),fun w=>K6 _ w⟩
 | comment d=>obtain ⟨b,rfl,_⟩:=h;exact aW ⟨fun _ a=>(by cases a),fun w=>LD _ w⟩
 | dir d=>obtain ⟨b,rfl,_⟩:=h;exact aW ⟨fun _ a=>(by cases a),fun w=>LE _ w⟩
 | proc tg d=>obtain ⟨b,rfl,_⟩:=h;exact aW ⟨fun _ a=>(by cases a),fun w=>LF _ _ w⟩
def RS (r:Option (Bs×Bs)):Value:=
 match r with
 | none=>.tuple #[.nilIface,.bool false]
 | some nm=>.tuple #[M7 nm,.bool true]
def Ck (x:Cx) (d c:Value) (b:Bs) (w0:World) (k:Nat) (a:Act) (w:World):Prop:=
 ∃ f i,a=fr 76 f [(0,cB x),(1,d),(4,.nilIface),(5,.bool false),(28,c),(29,.int .i64 x.o.auto.length),(30,.int .i64 (i:Nat))]∧Below w0.heap.size w0 w∧k=x.o.auto.length-i∧i≤x.o.auto.length∧(x.o.auto.take i).any (fun a=>bG a b)=false
theorem ZN (x:Cx) (hx:x.Ok) (g:x.o.auto=[]) (c:DC) (m:JH x c.auto) (w:World) (O:Below x.B x.W0 w) (v:DV) (h:bX w x.d c v) (s:St) {sb:List Nat} (P:iY w c.stk s.stk sb) (b:lH s.stk) (bv:Value) (B:Nat) (V:Value) (u:aO) (Q:iR w bv B V u) (j:∀ nm,u=.fin nm→nm.2.length≤1000000000000) :
  Calls prog 37 #[cB x,V] w fun en w'=>en=.returned (RS (kS bG x.o u s))∧Below w.heap.size w w':=by
 have Z:=h.cell;have hf:=h.frozen;have q1:=fun w=>DT w;rcases P.head b with ⟨h1,t⟩|⟨q,e,l',nx,ok,h1,t,hk,M,_⟩
 ·have z:=Lh (show kS bG x.o u s=none by unfold kS;rw [t]);clear h P b m g O Q j;refine eI 76 func37 [_,_] fun f=>?_;simp only [aF];refine vg ?_;intro K hK;refine kN ?_;exact ⟨by rw [z.o];rfl,Below.refl _ _⟩
 have n:=M.cell;have G:=M.frozen;obtain ⟨_,I,p⟩:=b e (by rw [t];simp);obtain ⟨ek,a1,D,a0⟩:=e;simp only at hk n I p;rcases hk with rfl|rfl
 ·
  obtain ⟨A,N,C,F,rfl,hN,a2,a⟩:=m;have Y:c.auto=.slice A x.o.auto.length C:=F;have ⟨HH,HQ,HB,T,HC,HL⟩:=iH h M O g a p;have ⟨HN,HS⟩:=cN hN t;have aA:=Lh Q.assertE;have aL:=Lh j;have h0:¬ (9223372036854775807:Int)<0:=by omega
  clear h P b g O Q j M a I p t F;refine eI 76 func37 [_,_] fun f=>?_;simp only [aF];refine vg ?_;intro K hK;refine cP [0,1,4,5,28,29,30] fun f=>?_;refine wp_loop_ghost_k (Ck x V (.slice A x.o.auto.length C) D w) x.o.auto.length ⟨f,0,rfl,Below.refl _ w,by simp,iW _,rfl⟩ ?_;rintro k _ w2 ⟨f,i,rfl,d,H,hi,l⟩ J K2 X E;have ⟨HJ,aC,R,HK,y⟩:=o4 X E d H l;clear X E H l;have o:bX w2 x.d c v:=aJ.mod (S:=fun _=>False) HH.o (aG d _) id;have r:=aJ.mod (S:=fun _=>False) HQ.o (aG d _) id;clear Z hf n G d;have Z:=o.cell;have hf:=o.frozen;have n:=r.cell;have G:=r.frozen;clear o r;by_cases L:i<x.o.auto.length
  ·rw [T.o] at L;exact absurd L (by simp)
  ·have U:i=x.o.auto.length:=by omega
   subst U;have t1:¬ ((x.o.auto.length:Int)<(x.o.auto.length:Int)):=by omega
   have z:=Lh (show kS bG x.o u s=none by
    have W:=y.o;rw [List.take_length] at W;unfold kS;rw [HS.o];simp only;rw [aN (by simp),aN (by rw [W];simp)])
   revert K;refine vg ?_;refine kN ?_;exact ⟨by rw [z.o];rfl,R.o⟩
 ·have z:=Lh (show kS bG x.o u s=none by
   unfold kS;rw [t];simp)
  clear h P b m g O Q j M;refine eI 76 func37 [_,_] fun f=>?_;simp only [aF];refine vg ?_;intro K hK;refine kN ?_;exact ⟨by rw [z.o];rfl,Below.refl _ _⟩
theorem Fq (x:Cx) (L:x.Ok) (r:x.o.auto=[]) (c:DC) (q:JH x c.auto) (a:c.strict=x.o.strict) (w:World) (G:Below x.B x.W0 w) (v:DV) (h:bX w x.d c v) (s:St) {N:List Nat} (J:iY w c.stk s.stk N) (y:lH s.stk) (F:Value) (B:Nat) (z:Value) (l:aO) (C:iR w F B z l) (t:∀ nm,l=.fin nm→nm.2.length≤1000000000000) (Q:Exit→Act→World→Prop)
  (o:(x.o.strict=true∨kS bG x.o l s=none)→∀ f w',Below w.heap.size w w'→(gZ 19).wp prog Q (fr 204 f [(0,cB x),(4,z),(5,.nilIface)]) w')
  (p:∀ nm,x.o.strict=false→kS bG x.o l s=some nm→∀ f w',Below w.heap.size w w'→(gZ 19).wp prog Q (fr 204 f [(0,cB x),(4,M7 nm),(5,.nilIface)]) (w'.setCell ⟨x.d,17,none⟩ z))
  (f:Nat→Value):(gZ 14).wp prog Q (fr 204 f [(0,cB x),(4,z),(5,.nilIface)]) w:=by
 have H:=h.cell;have I:=h.frozen;have E:=Lh (ZN x L r c q w G v h s J y F B z l C t);obtain ⟨ty,u,rfl⟩:=C.iface;have ⟨n,A,M⟩:=mJ o p h;clear h J y o p q r G C t L;have i:c.strict=true∨c.strict=false:=by cases c.strict<;>simp
 conv=>arg 2;unfold gZ;whnf
 rcases i with k|k
 ·have e:=Lh (show x.o.strict=true by rw [←a];exact k);clear a;refine vT 19 ?_;refine cP [0,4,5] fun f=>?_;exact bB (n.o (aH e.o) f w (Below.refl _ w)) (by kernel_rfl)
 ·have e:=Lh (show x.o.strict=false by rw [←a];exact k);clear a;refine vg ?_;intro K hK K hK K hK;refine E.o.mono ?_;rintro O D ⟨rfl,g⟩;have m:=Lh g;have j:bX D x.d c v:=aJ.mod (S:=fun _=>False) M.o (aG g _) id;clear g E H I;have H:=j.cell;have I:=j.frozen;clear j;cases b:kS bG x.o l s with
  | none=>
   have d:=Lh b;clear b;simp only [RS];go_simp;(repeat revert K);refine vT 19 ?_;refine cP [0,4,5] fun f=>?_;exact bB (n.o (aW d.o) f D m.o) (by kernel_rfl)
  | some nm=>
   have d:=Lh b;clear b;simp only [RS];go_simp;(repeat revert K);refine vT 19 ?_;refine cP [0,4,5] fun f=>?_;exact bB (A.o nm e.o d.o f D m.o) (by kernel_rfl)
theorem AJ:∀ (a:List gT) (d:Bs→Option Bs),lH a→sZ d→lH (fA a d).1∧sZ (fA a d).2
 | [],d,c,f=>⟨c,f⟩
 | e::a,d,c,f=>by
  unfold fA;split
  ·exact ⟨c,f⟩
  ·refine AJ a _ (fun g h=>c g (List.mem_cons_of_mem _ h)) (fun k u b=>?_);unfold iA at b;split at b
   ·split at b
    ·simp only [kD] at b;rw [←b];exact (c e List.mem_cons_self).2.1
    ·cases b
   ·exact f k u b
theorem NP {o:cM} {nm:Bs×Bs} {s b:St} {t:aO} (h:kR o nm s=.ok (t,b)) (f:lH s.stk) (g:sZ s.ns) :
  b.rest=s.rest∧lH b.stk∧sZ b.ns∧(b.toClose=s.toClose∨(b.toClose=some nm∧∃ e a,s.stk=e::a∧e.loc≠nm.2))∧b.next=s.next∧b.ended=s.ended:=by
 unfold kR at h;split at h
 ·cases h
 ·rename_i e a i;rw [i] at f;have c:lH a:=fun j k=>f j (List.mem_cons_of_mem _ k);split at h
  ·cases h
  ·split at h
   ·rename_i d;split at h
    ·cases h
    ·simp only [bT,bR] at h;obtain ⟨rfl,rfl⟩:=h;exact ⟨rfl,c,g,aW ⟨rfl,e,a,i,d⟩,rfl,rfl⟩
   ·split at h
    ·cases h
    ·simp only [bT,bR] at h;obtain ⟨rfl,rfl⟩:=h;obtain ⟨l,m⟩:=AJ a s.ns c g;exact ⟨rfl,l,m,aH rfl,rfl,rfl⟩
theorem VN (o:cM) (nm:Bs×Bs) (s:St):tX (kR o nm s):=by
 unfold kR;split
 ·(first|exact aZ _|exact bH|exact bU _)
 ·split
  ·(first|exact aZ _|exact bH|exact bU _)
  ·split
   ·split<;>(first|exact aZ _|exact bH|exact bU _)
   ·split<;>(first|exact aZ _|exact bH|exact bU _)
def JI (s:St) (b:aO):Prop:=∃ nm e a,b=.fin nm∧s.stk=e::a∧e.kind=0∧nm=(e.space,e.loc)
structure oF (x:Cx) (c:DC) (w:World) (v:DV) (s:St) (m:Nat) (e a:List Nat) (n:Nat) (B:Nat) (f:Value) (tk:aO):Prop where
 cfg:xL x c
 rd:DW x c w v s
 own:m5 x w c v m e a n s.stk s.ns
 sok:lH s.stk
 nok:sZ s.ns
 tcl:∀ nm,s.toClose=some nm→nm.1.length≤x.T.length∧nm.2.length≤x.T.length
 le:BD x.T.length tk∨JI s tk
 bnd:n+s.stk.length+2*s.rest.length+2*qL s.next+2*qL (some tk)≤2*x.T.length
 tok:iR w v.bufv B f tk
 hB:x.B≤B
 hBs:B≤w.heap.size
 tkd:∀ g,cU f g→g∉m::(e++a)∧¬ x.S1 v g
 nt:(∀ d,tk≠.text d)→(s.ended=false∧∃ b,cK x c w v s.rest none b)∨JI s tk
 nxt:kP x w v c s (m::(e++a))
def tQ (x:Cx) (w:World) (v:DV) (c:DC) (R:Except EK (aO×St)) (m:Nat) (g f:List Nat) (j:Value) (t e:Value) (w':World):Prop:=
 match R with
 | .error k=>t=.nilIface∧xW x e (some k)∧Below x.B x.W0 w'∧kL w' e k∧aM (fun b=>x.S1 v b∨b∈m::(g++f)) w w'
 | .ok (tk,s')=>e=.nilIface∧∃ h v' d a i,TS x h w' v' s' m d a i∧(∃ B,iR w' v'.bufv B t tk)∧aM (fun b=>b=x.d∨b∈m::(g++f)∨cU j b) w w' ∧
   (∀ b∈m::(d++a),b∈m::(g++f)∨w.heap.size≤b)∧v'.bufv=v.bufv∧h.nextTok=c.nextTok
theorem rM.next {c a:DC} (h:rM c a):a.nextTok=c.nextTok:=by
 obtain ⟨_,_,_,_,_,_,rfl⟩:=h;rfl
theorem kP.far {x:Cx} {w:World} {v:DV} {c:DC} {s:St} {own:List Nat} (h:kP x w v c s own) {g:Nat} (a:cU c.nextTok g):g∉own∧¬ x.S1 v g:=by
 unfold kP at h;cases b:s.next with
 | none=>rw [b] at h;rw [show c.nextTok=.nilIface from h] at a;exact a.elim
 | some tk=>rw [b] at h;obtain ⟨_,_,_,_,_,d,_⟩:=h;exact d g a
theorem cK.bufFar {x:Cx} {c:DC} {w:World} {v:DV} {rest:Bs} {e:Option EK} {b:Bs} {m:Nat} {g d:List Nat} {n:Nat} {i:DC} {a:List gT} {p:Bs→Option Bs} (h:cK x c w v rest e b) (o:m5 x w i v m g d n a p) {k:Nat} (f:eM v.bufv k):k≠x.d∧k∉m::(g++d):=
 ⟨fun j=>h.bf.notS0 k f (aH j),fun l=>o.s1 k l (aW f)⟩
theorem oF.plain {x:Cx} {c:DC} {w:World} {v:DV} {s:St} {m:Nat} {g f:List Nat} {n B:Nat} {i:Value} {a:aO} (h:oF x c w v s m g f n B i a) (j:∀ nm d,a≠.start nm d) (k:∀ nm,a≠.fin nm):tQ x w v c (bW x.o a s) m g f i i .nilIface w:=by
 have e:bW x.o a s=.ok (a,s):=by
  unfold bW;split
  ·exact absurd rfl (j _ _)
  ·exact absurd rfl (k _)
  ·rfl
 rw [e];exact ⟨rfl,c,v,g,f,n,⟨h.cfg,h.rd,h.own,h.sok,h.nok,h.tcl,by have:=h.bnd;omega,h.nxt⟩,⟨B,h.tok⟩,aM.refl _ _,fun b l=>aH l,rfl,rfl⟩
theorem x7 (x:Cx) (c:DC) (w:World) (v:DV) (s:St) (m:Nat) (A u:List Nat) (n B:Nat) (r:Value) (j:aO) (h:oF x c w v s m A u n B r j) (g:∀ nm b,j≠.start nm b) (i:∀ nm,j≠.fin nm) (Q:Exit→Act→World→Prop)
  (y:∀ f w' t e,tQ x w v c (bW x.o j s) m A u r t e w'→Q .ret (fr 204 f [(2,t),(3,e)]) w') (f:Nat→Value):(gZ 19).wp prog Q (fr 204 f [(0,cB x),(4,r),(5,.nilIface)]) w:=by
 have ⟨k,H⟩:=cN y h;have l:=h.tok;clear y h;conv=>arg 2;unfold gZ;whnf
 cases j with
 | start nm b=>exact absurd rfl (g _ _)
 | fin nm=>exact absurd rfl (i _)
 | text d=>
  obtain ⟨q,rfl,⟨g0,a,z,rfl,_⟩⟩:=l;have o:=fun v w=>Q7 v w;have p:=fun v w=>K6 v w;clear g i;refine vg ?_;refine Qk [2,3] fun f=>?_;exact k.o f _ _ _ (H.o.plain (by simp) (by simp))
 | comment d=>
  obtain ⟨q,rfl,⟨g0,a,z,rfl,_⟩⟩:=l;have o:=fun v w=>RN v w;have p:=fun v w=>LD v w;clear g i;refine vg ?_;refine Qk [2,3] fun f=>?_;exact k.o f _ _ _ (H.o.plain (by simp) (by simp))
 | dir d=>
  obtain ⟨q,rfl,⟨g0,a,z,rfl,_⟩⟩:=l;have o:=fun v w=>RO v w;have p:=fun v w=>LE v w;clear g i;refine vg ?_;refine Qk [2,3] fun f=>?_;exact k.o f _ _ _ (H.o.plain (by simp) (by simp))
 | proc tg d=>
  obtain ⟨q,rfl,_⟩:=l;have o:=fun v w=>RP tg v w;have p:=fun v w=>LF tg v w;clear g i;refine vg ?_;refine Qk [2,3] fun f=>?_;exact k.o f _ _ _ (H.o.plain (by simp) (by simp))
theorem X0 (x:Cx) (N:x.All) (c:DC) (w:World) (v:DV) (s:St) (m:Nat) (O J:List Nat) (n B:Nat) (tv:Value) (nm:Bs × Bs) (h:oF x c w v s m O J n B tv (.fin nm)) (Q:Exit → Act → World → Prop)
    (hQ:∀ f w' t e,tQ x w v c (bW x.o (.fin nm) s) m O J tv t e w' → Q .ret (fr 204 f [(2,t),(3,e)]) w') (f:Nat → Value):(gZ 19).wp prog Q (fr 204 f [(0,cB x),(4,tv),(5,.nilIface)]) w:=by
  have ht:tv=M7 nm:=h.tok;subst ht;have q3:=fun a b w=>RQ a b w;have q4:=fun a b w=>LG a b w;obtain ⟨e0,b0,V,T,U⟩:=h.rd.rd;obtain ⟨wt,u⟩:=cY (w.alloc (.cells #[aB nm.1,aB nm.2] 110));have r:Below w.heap.size w wt:=by rw [u];exact (Below.refl _ w).alloc (dD _) _
  have E:aM (fun _=>False) w wt:=aG r _;have W:=V.below N.toOk r;have a2:∀ k ∈ m :: (O ++ J),k < w.heap.size:=h.own.lt;have b3:x.d < w.heap.size:=V.dec.lt;have Z:=N.len;have G:nm.1.length ≤ 100000000000∧nm.2.length ≤ 100000000000:=by
    rcases h.le with ⟨k1,k2⟩|⟨I,e,stk',D,y,_,R⟩
    · omega
    · cases D
      have:=h.sok e (by rw [y];simp);rw [R];exact this.2
  have Y:(nm.1.length ≤ x.T.length∧nm.2.length ≤ x.T.length) ∨ JI s (.fin nm):=h.le
  have a3:RI x c wt v s m O J n w.heap.size nm:=
    { fit:=by
        rcases h.nt (by simp) with ⟨D,b,y⟩|⟨I,e,stk',D,y,R,h4⟩
        · exact aH ⟨D,b,y.below N.toOk r⟩
        · cases D;exact aW ⟨e,stk',y,R,h4⟩
      strict:=h.cfg.dc.strict,rts:=⟨⟨e0,b0,W,T,U⟩,h.rd.nc,h.rd.tc,h.rd.nb⟩,own:=h.own.mod E (fun _ _=>id) h.own.s1,sok:=h.sok,
      bnd:=by have:=h.bnd;omega,sp:=h.cfg.sp,tok:=by rw [u];exact aJ.new w _ _,tS:=V.newS1,tO:=fun j=>Nat.lt_irrefl _ (a2 _ j),tB:=fX h.hB h.hBs,l1:=G.1,l2:=G.2 }
  have C:=Lh (DY x N c wt v s m O J n w.heap.size nm a3);have ⟨HQ,H,z,a7,bL,HX⟩:=iH hQ h E Y V N;clear hQ h V W a3 E r a2 b3 G Y Z T U N;conv=>arg 2;unfold gZ;whnf
  refine vg ?_;intro K hK K hK K hK K hK;rw [← u];refine C.o.mono ?_;rintro e1 w1 M;have HW:=Lh (show bW x.o (.fin nm) s=kR x.o nm s from rfl);cases d:kR x.o nm s with
  | error k=>
    unfold gY at M;rw [d] at M;obtain ⟨rfl,c2,v2,S,aL⟩:=M;have a9:=Lh aL;obtain ⟨t1,u1,b4⟩:=S.err.iface;have HE:=Lh S;have hc:=S.dec.cell;have hf:=S.dec.frozen;have ⟨HU,l⟩:=cN b4 d;clear S C u d aL;(repeat revert K);refine vS ?_;intro K hK K hK K hK
    ((refine cP [0] fun f=>?_);go_quiet (fail);((repeat revert K);refine vg ?_;intro K hK K hK);refine Qk [2,3] fun f=>?_)
    refine HQ.o f _ _ _ ?_;rw [HW.o,l.o];refine ⟨rfl,by rw [← HU.o];exact HE.o.err,(HE.o.drewN _).base,kL.no (fun j=>by subst j;exact VN _ _ _ l.o),?_⟩;refine (z.o.mono (fun _ _ h=>h.elim)).trans (a9.o.drewN _) (fun i hi q=>?_);rcases q with q|q|q
    · exact aH q
    · exact aW q
    · omega
  | ok p=>
    obtain ⟨tk,s'⟩:=p;unfold gY at M;rw [d] at M;obtain ⟨I,rfl,rfl,c2,b6,b2,n2,a4,a1,F,X,aA,a5,a0⟩:=M;have l:=Lh d;have b7:=F.cell;have b8:=F.frozen;have ⟨b1,bC,A,a8,P,bA⟩:=iH a4 a1 X aA a5 a0;clear a4 a1 X aA a5 a0 F C d;(repeat revert K);refine vS ?_;refine Qk [2,3] fun f=>?_;refine HQ.o f _ _ _ ?_;rw [HW.o,l.o];obtain ⟨j1,j2,j3,j4,j5,j6⟩:=NP l.o H.o.sok H.o.nok;have a6:w.heap.size ≤ wt.heap.size:=z.o.size;have aC:aM (fun b=>b=x.d ∨ b ∈ m :: (O ++ J) ∨ cU (M7 nm) b) w _:=(z.o.mono (fun _ _ h=>h.elim)).trans a8.o (fun i hi q=>by
      rcases q with q|q|q
      · exact aH q
      · exact aW (aH q)
      · omega)
    refine ⟨rfl,c2,v,b6,b2,n2,⟨H.o.cfg.same A.o,b1.o,bC.o,j2,j3,?_,?_,?_⟩,⟨0,rfl⟩,aC,fun b hb=>?_,rfl,A.o.next⟩
    · intro b5 o
      rcases j4 with j4|⟨j4,e,stk,j7,j8⟩
      · exact H.o.tcl b5 (by rw [← j4];exact o)
      · rw [j4] at o
        simp only [kD] at o;subst o;rcases a7.o with L|⟨I,e',stk',D,y,_,R⟩
        · exact L
        · cases D
          rw [j7] at y;obtain ⟨rfl,_⟩:=List.cons.inj y;exact absurd (by rw [R]) j8
    · rw [j1,j5]
      have L:=bA.o;have o:=H.o.bnd;omega
    · refine H.o.nxt.step aC (fun k hk j=>?_) (fun g hg j=>?_) j5 A.o.next j6 (fun b hb=>?_)
      · obtain ⟨h7,L⟩:=bL.o.bufFar H.o.own hk
        rcases j with j|j|j
        · exact h7 j
        · exact L j
        · exact j.elim
      · obtain ⟨h7,L⟩:=H.o.nxt.far hg
        rcases j with j|j|j
        · exact L (j ▸ aH (aH rfl))
        · exact h7 j
        · exact j.elim
      · rcases P.o b hb with o|o
        · exact aH o
        · exact aW (fX a6 o)
    · rcases P.o b hb with o|o
      · exact aH o
      · exact aW (fX a6 o)
noncomputable def iZ (n:Nat):Code:=((Tryz.f20.body).bind (Code.partAt n)).getD .skip
abbrev mO:Array Value:=#[.int .i64 0,.string ⟨#[]⟩,.string ⟨#[]⟩,.slice none 0 0,.string ⟨#[]⟩,.int .i64 0,.int .i64 0,.int .i64 0]
abbrev rN (R:Ending→World→Prop):Exit→Act→World→Prop:=bodyPost prog Tryz.f20 R
theorem VO (x:Cx) (c:DC) (w:World) (v:DV) (h:bX w x.d c v) (s:-1000000000000≤v.off-v.lstart) (t:v.off-v.lstart≤1000000000000) (y:Value) (R:Ending→World→Prop)
  (u:∀ f w',Below w.heap.size w w'→aJ w' w.heap.size mO 38→aJ w' (w.heap.size+1) #[.int .i64 0,.string ⟨#[]⟩,.string ⟨#[]⟩,.slice none 0 0,.string ⟨#[]⟩,.int .i64 v.off,.int .i64 v.line,.int .i64 (v.off-v.lstart+1)] 38→w.heap.size+2≤w'.heap.size →
   (iZ 3).wp prog (rN R) (fr 104 f [(0,y),(4,.pointer (some ⟨w.heap.size,0,none⟩)),(5,.pointer (some ⟨w.heap.size+1,0,none⟩))]) w') :
  Calls prog 20 #[y,cB x] w R:=by
 have m:=Lh (fun (w':World) (h:bX w' x.d c v)=>A7 x c w' v h);have o:=Lh (fun (w':World) (h:bX w' x.d c v)=>IZ x c w' v h s t);have ⟨r,z⟩:=cN h u;clear h s t u;refine eI 104 func20 [_,_] fun f=>?_;simp only [aF];refine vg ?_;intro K hK K hK;refine (m.o _ (show aJ _ x.d _ _ from aJ.alloc r.o _)).mono ?_;rintro E w1 ⟨rfl,rfl⟩;(repeat revert K);refine vS ?_;intro K hK K hK;obtain ⟨d,b⟩:=cY ((w.alloc (.cells mO 38)).alloc (.cells #[.int .i64 0,.string ⟨#[]⟩,.string ⟨#[]⟩,.slice none 0 0,.string ⟨#[]⟩,.int .i64 v.off,.int .i64 0,.int .i64 0] 38));have k:=Lh (show Below w.heap.size w d by rw [b];exact ((Below.refl _ w).alloc (dD _) _).alloc (by simp) _);have i:=Lh (show aJ d w.heap.size mO 38 by rw [b];exact (aJ.new w _ _).alloc _);have j:=Lh (show aJ d (w.heap.size+1) #[.int .i64 0,.string ⟨#[]⟩,.string ⟨#[]⟩,.slice none 0 0,.string ⟨#[]⟩,.int .i64 v.off,.int .i64 0,.int .i64 0] 38 by
  have:=aJ.new (w.alloc (.cells mO 38)) #[.int .i64 0,.string ⟨#[]⟩,.string ⟨#[]⟩,.slice none 0 0,.string ⟨#[]⟩,.int .i64 v.off,.int .i64 0,.int .i64 0] 38;rw [b];simpa using this)
 have q:=Lh (show w.heap.size+2≤d.heap.size by rw [b];simp);have p:=Lh (show bX d x.d c v from aJ.mod (S:=fun _=>False) r.o (aG k.o _) id);rw [←b];clear b m;refine (o.o _ p.o).mono ?_;rintro F G ⟨rfl,n,rfl⟩;clear o;have g:aJ (d.drewN n) (w.heap.size+1) _ _:=j.o;have B:=g.cell;have D:=g.frozen;have e:aJ (d.drewN n) w.heap.size _ _:=i.o;have A:=e.cell;have C:=e.frozen;clear g e;go_simp;(repeat revert K);refine vT 3 ?_;refine cP [0,4,5] fun f=>?_;have l:w.heap.size≠w.heap.size+1:=by omega
 refine bB (z.o f _ ?_ ?_ ?_ ?_) (by kernel_rfl)
 ·refine Below.setCell ?_ (by simp) _;refine Below.setCell ?_ (by simp) _;exact bP k.o n
 ·exact ((show aJ (d.drewN n) w.heap.size _ _ from i.o).set_ne (a:=⟨w.heap.size+1,6,none⟩) l (.int .i64 v.line)).set_ne (a:=⟨w.heap.size+1,7,none⟩) l (.int .i64 (v.off-v.lstart+1))
 ·exact ((show aJ (d.drewN n) (w.heap.size+1) _ _ from j.o).set 6 (.int .i64 v.line)).set 7 (.int .i64 (v.off-v.lstart+1))
 ·have:=q.o;simpa [World.setCell,World.drewN] using this
theorem CA (w:World) (b:Nat) (k:Int) (g h j:Bs) (l:Option Addr) (n m:Nat) (c d e:Int) (a:aJ w b mO 38) (o:aJ w (b+1) #[.int .i64 k,aB g,aB h,.slice l n m,aB j,.int .i64 c,.int .i64 d,.int .i64 e] 38)
  (R:Ending→World→Prop) (r:∀ w',aM (fun i=>i=b) w w'→R (.returned (.agg #[.int .i64 k,aB g,aB h,.slice l n m,aB j,.int .i64 c,.int .i64 d,.int .i64 e])) w') (f:Nat→Value) :
  (iZ 27).wp prog (rN R) (fr 104 f [(4,.pointer (some ⟨b,0,none⟩)),(5,.pointer (some ⟨b+1,0,none⟩))]) w:=by
 have y:=o.cell;have z:=o.frozen;have u:=a.cell;have x:=a.frozen;have ⟨t,s⟩:=cN a r;clear o a r;conv=>arg 2;unfold iZ;whnf
 refine vg ?_;refine bodyPost_ret (v:=.agg #[.int .i64 k,aB g,aB h,.slice l n m,aB j,.int .i64 c,.int .i64 d,.int .i64 e]) ?_ (jC _ _ _) ?_
 ·refine results_cell_row (fn:=Tryz.f20) (p:=4) (ty:=38) (by rfl) _ _ b 38 _ (0,0) _ (by rw [iC (by decide)];simp only [aK,aQ,aS,aX,Nat.reduceEqDiff,↓reduceIte]) ?_ underlying38 rfl (by kernel_rfl);have q:=((((((((show aJ w b _ _ from t.o).set 0 (.int .i64 k)).set 1 (aB g)).set 2 (aB h)).set 3 (.slice l n m)).set 4 (aB j)).set 5 (.int .i64 c)).set 6 (.int .i64 d)).set 7 (.int .i64 e);simp only [List.setIfInBounds_toArray,List.set_cons_zero,List.set_cons_succ] at q;exact q
 ·refine s.o _ ?_;repeat (refine aM.setCell (S:=fun i=>i=b) ?_ (aH rfl) _)
  exact aM.refl _ _
theorem Cl (v:Value) (w:World):(Instr.typeAssert (Ba v) 57 122 true).run prog w=.ok (.tuple #[.slice none 0 0,.bool false]) w:=by kernel_rfl
theorem Cm (v:Value) (w:World):(Instr.typeAssert (Ba v) 57 123 true).run prog w=.ok (.tuple #[v,.bool true]) w:=by kernel_rfl
theorem Cn (a:Bs) (v:Value) (w:World):(Instr.typeAssert (XY a v) 57 122 true).run prog w=.ok (.tuple #[.slice none 0 0,.bool false]) w:=by kernel_rfl
theorem Co (a:Bs) (v:Value) (w:World):(Instr.typeAssert (XY a v) 57 123 true).run prog w=.ok (.tuple #[.slice none 0 0,.bool false]) w:=by kernel_rfl
theorem Cp (a:Bs) (v:Value) (w:World):(Instr.typeAssert (XY a v) 57 125 true).run prog w=.ok (.tuple #[.agg #[aB a,v],.bool true]) w:=by kernel_rfl
theorem Cq (v:Value) (w:World):(Instr.typeAssert (XX v) 57 122 true).run prog w=.ok (.tuple #[.slice none 0 0,.bool false]) w:=by kernel_rfl
theorem Cr (v:Value) (w:World):(Instr.typeAssert (XX v) 57 123 true).run prog w=.ok (.tuple #[.slice none 0 0,.bool false]) w:=by kernel_rfl
theorem Cs (v:Value) (w:World):(Instr.typeAssert (XX v) 57 125 true).run prog w=.ok (.tuple #[.agg #[nL,.slice none 0 0],.bool false]) w:=by kernel_rfl
theorem Ct (v:Value) (w:World):(Instr.typeAssert (XX v) 57 126 true).run prog w=.ok (.tuple #[v,.bool true]) w:=by kernel_rfl
theorem VP (l:Bs) (w:World) (b a c:Nat) (h:bN w b a l):(convert 123 9 (.slice (some ⟨b,a,none⟩) l.length c)).run prog w=.ok (aB l) w:=
 Lib.run_convert_whole (P:=prog) w 123 5 9 underlying123 underlying5 underlying9 b a ⟨l.toArray⟩ h.toBytes c
theorem VQ (l:Bs) (w:World) (b a c:Nat) (h:bN w b a l):(convert 126 9 (.slice (some ⟨b,a,none⟩) l.length c)).run prog w=.ok (aB l) w:=
 Lib.run_convert_whole (P:=prog) w 126 5 9 underlying126 underlying5 underlying9 b a ⟨l.toArray⟩ h.toBytes c
theorem VR (l:Bs) (w:World) (b a c:Nat) (h:bN w b a l):(convert 81 9 (.slice (some ⟨b,a,none⟩) l.length c)).run prog w=.ok (aB l) w:=
 Lib.run_convert_whole (P:=prog) w 81 5 9 underlying81 underlying5 underlying9 b a ⟨l.toArray⟩ h.toBytes c
structure AK (w0:World) (p:cD) (e f:Int) (d:Ending) (w':World):Prop where
 ex:∃ a c b,d=.returned (.agg #[.int .i64 p.kind,aB p.space,aB p.loc,.slice a c b,aB p.text,.int .i64 p.at',.int .i64 e,.int .i64 f])∧w'.ownsRow w0.heap.size 67 3 (.slice a c b) p.attrs.length (aR p.attrs)
 below:Below w0.heap.size w0 w'
theorem CB (w:World) (b:Nat):w.ownsRow b 67 3 (.slice none 0 0) ([]:List cZ).length (aR []):=⟨rfl,aH ⟨rfl,rfl⟩⟩
theorem ZO {y t:Nat} (w0 w:World) (l:Nat) (m n:Int) (e:Below w0.heap.size w0 w) (p:aJ w w0.heap.size mO 38) (i:aJ w (w0.heap.size+1) #[.int .i64 0,.string ⟨#[]⟩,.string ⟨#[]⟩,.slice none 0 0,.string ⟨#[]⟩,.int .i64 l,.int .i64 m,.int .i64 n] 38)
  (d:Bs) (g b:Nat) (h:bN w g 0 d) (C:g<w0.heap.size) (f:Nat→Value):(iZ 3).wp prog (rN (AK w0 ⟨3,[],[],[],d,l,y,t⟩ m n)) (fr 104 f [(0,Az (.slice (some ⟨g,0,none⟩) d.length b)),(4,.pointer (some ⟨w0.heap.size,0,none⟩)),(5,.pointer (some ⟨w0.heap.size+1,0,none⟩))]) w:=by
 have D:=fun v w=>Q7 v w;have E:=fun v w=>K6 v w;have F:=fun v w=>Cd v w;have j:g≠w0.heap.size+1:=by omega
 have z:=i.cell;have A:=i.frozen;have ⟨q,s,o,r⟩:=kV i p e h;have c:w0.heap.size≠w0.heap.size+1:=by omega
 clear e p i h;conv=>arg 2;unfold iZ;whnf
 refine vg ?_;intro K hK;refine cP [4,5,10] fun f=>?_
 go_region_held3 (fun w'=>(convert 122 9 (.slice (some ⟨g,0,none⟩) d.length b)).run prog w'=.ok (aB d) w')
  (exact VC d _ g 0 b (by repeat (first|exact r.o|refine bN.setCell ?_ j _|refine bN.drew ?_)))
  (fail)
 revert K;refine vT 27 ?_;refine cP [4,5] fun f=>?_;refine bB (CA _ w0.heap.size 3 [] [] d none 0 0 l m n ?_ ?_ _ (fun w' x=>⟨⟨none,0,0,rfl,CB _ _⟩,?_⟩) f) (by kernel_rfl)
 ·exact (((show aJ w w0.heap.size _ _ from s.o).set_ne (a:=⟨w0.heap.size+1,0,none⟩) c (.int .i64 3)).set_ne (a:=⟨w0.heap.size+1,4,none⟩) c (aB d)).drew
 ·exact (((show aJ w (w0.heap.size+1) _ _ from q.o).set 0 (.int .i64 3)).set 4 (aB d)).drew
 ·refine aM.below (B:=w0.heap.size) ?_ ?_ x (fun k u=>by rw [u];exact dD _)
  ·refine Below.drew ?_;repeat (refine Below.setCell ?_ (by simp) _)
   exact o.o
  ·have:=o.o.size;simpa [World.setCell,World.drew] using this
theorem Cu {y t:Nat} (w0 w:World) (l:Nat) (m n:Int) (e:Below w0.heap.size w0 w) (p:aJ w w0.heap.size mO 38) (i:aJ w (w0.heap.size+1) #[.int .i64 0,.string ⟨#[]⟩,.string ⟨#[]⟩,.slice none 0 0,.string ⟨#[]⟩,.int .i64 l,.int .i64 m,.int .i64 n] 38)
  (d:Bs) (g b:Nat) (h:bN w g 0 d) (C:g<w0.heap.size) (f:Nat→Value):(iZ 3).wp prog (rN (AK w0 ⟨4,[],[],[],d,l,y,t⟩ m n)) (fr 104 f [(0,Ba (.slice (some ⟨g,0,none⟩) d.length b)),(4,.pointer (some ⟨w0.heap.size,0,none⟩)),(5,.pointer (some ⟨w0.heap.size+1,0,none⟩))]) w:=by
 have D:=fun v w=>RN v w;have E:=fun v w=>LD v w;have F:=fun v w=>Cl v w;have G:=fun v w=>Cm v w;have j:g≠w0.heap.size+1:=by omega
 have z:=i.cell;have A:=i.frozen;have ⟨q,s,o,r⟩:=kV i p e h;have c:w0.heap.size≠w0.heap.size+1:=by omega
 clear e p i h;conv=>arg 2;unfold iZ;whnf
 refine vg ?_;intro K hK;refine cP [4,5,11] fun f=>?_
 go_region_held3 (fun w'=>(convert 123 9 (.slice (some ⟨g,0,none⟩) d.length b)).run prog w'=.ok (aB d) w')
  (exact VP d _ g 0 b (by repeat (first|exact r.o|refine bN.setCell ?_ j _|refine bN.drew ?_)))
  (fail)
 revert K;refine vT 27 ?_;refine cP [4,5] fun f=>?_;refine bB (CA _ w0.heap.size 4 [] [] d none 0 0 l m n ?_ ?_ _ (fun w' x=>⟨⟨none,0,0,rfl,CB _ _⟩,?_⟩) f) (by kernel_rfl)
 ·exact (((show aJ w w0.heap.size _ _ from s.o).set_ne (a:=⟨w0.heap.size+1,0,none⟩) c (.int .i64 4)).set_ne (a:=⟨w0.heap.size+1,4,none⟩) c (aB d)).drew
 ·exact (((show aJ w (w0.heap.size+1) _ _ from q.o).set 0 (.int .i64 4)).set 4 (aB d)).drew
 ·refine aM.below (B:=w0.heap.size) ?_ ?_ x (fun k u=>by rw [u];exact dD _)
  ·refine Below.drew ?_;repeat (refine Below.setCell ?_ (by simp) _)
   exact o.o
  ·have:=o.o.size;simpa [World.setCell,World.drew] using this
theorem Cv {y t:Nat} (w0 w:World) (l:Nat) (m n:Int) (e:Below w0.heap.size w0 w) (p:aJ w w0.heap.size mO 38) (i:aJ w (w0.heap.size+1) #[.int .i64 0,.string ⟨#[]⟩,.string ⟨#[]⟩,.slice none 0 0,.string ⟨#[]⟩,.int .i64 l,.int .i64 m,.int .i64 n] 38)
  (d:Bs) (g b:Nat) (h:bN w g 0 d) (C:g<w0.heap.size) (f:Nat→Value):(iZ 3).wp prog (rN (AK w0 ⟨6,[],[],[],d,l,y,t⟩ m n)) (fr 104 f [(0,XX (.slice (some ⟨g,0,none⟩) d.length b)),(4,.pointer (some ⟨w0.heap.size,0,none⟩)),(5,.pointer (some ⟨w0.heap.size+1,0,none⟩))]) w:=by
 have D:=fun v w=>RO v w;have E:=fun v w=>LE v w;have F:=fun v w=>Cq v w;have G:=fun v w=>Cr v w;have H:=fun v w=>Cs v w;have I:=fun v w=>Ct v w;have j:g≠w0.heap.size+1:=by omega
 have z:=i.cell;have A:=i.frozen;have ⟨q,s,o,r⟩:=kV i p e h;have c:w0.heap.size≠w0.heap.size+1:=by omega
 clear e p i h;conv=>arg 2;unfold iZ;whnf
 refine vg ?_;intro K hK;refine cP [4,5,13] fun f=>?_
 go_region_held3 (fun w'=>(convert 126 9 (.slice (some ⟨g,0,none⟩) d.length b)).run prog w'=.ok (aB d) w')
  (exact VQ d _ g 0 b (by repeat (first|exact r.o|refine bN.setCell ?_ j _|refine bN.drew ?_)))
  (fail)
 revert K;refine vT 27 ?_;refine cP [4,5] fun f=>?_;refine bB (CA _ w0.heap.size 6 [] [] d none 0 0 l m n ?_ ?_ _ (fun w' x=>⟨⟨none,0,0,rfl,CB _ _⟩,?_⟩) f) (by kernel_rfl)
 ·exact (((show aJ w w0.heap.size _ _ from s.o).set_ne (a:=⟨w0.heap.size+1,0,none⟩) c (.int .i64 6)).set_ne (a:=⟨w0.heap.size+1,4,none⟩) c (aB d)).drew
 ·exact (((show aJ w (w0.heap.size+1) _ _ from q.o).set 0 (.int .i64 6)).set 4 (aB d)).drew
 ·refine aM.below (B:=w0.heap.size) ?_ ?_ x (fun k u=>by rw [u];exact dD _)
  ·refine Below.drew ?_;repeat (refine Below.setCell ?_ (by simp) _)
   exact o.o
  ·have:=o.o.size;simpa [World.setCell,World.drew] using this
theorem Cw {L E:Nat} (w0 w:World) (s:Nat) (t u:Int) (l:Below w0.heap.size w0 w) (r:w0.heap.size+2≤w.heap.size) (z:aJ w w0.heap.size mO 38) (y:aJ w (w0.heap.size+1) #[.int .i64 0,.string ⟨#[]⟩,.string ⟨#[]⟩,.slice none 0 0,.string ⟨#[]⟩,.int .i64 s,.int .i64 t,.int .i64 u] 38)
  (b d:Bs) (g c:Nat) (m:bN w g 0 d) (O:g<w0.heap.size) (f:Nat→Value):(iZ 3).wp prog (rN (AK w0 ⟨5,[],b,[],d,s,L,E⟩ t u)) (fr 104 f [(0,XY b (.slice (some ⟨g,0,none⟩) d.length c)),(4,.pointer (some ⟨w0.heap.size,0,none⟩)),(5,.pointer (some ⟨w0.heap.size+1,0,none⟩))]) w:=by
 have P:=fun b v w=>RP b v w;have Q:=fun b v w=>LF b v w;have R:=fun b v w=>Cn b v w;have T:=fun b v w=>Co b v w;have U:=fun b v w=>Cp b v w;have q:g≠w0.heap.size+1:=by omega
 have I:w.heap.size≠w0.heap.size+1:=by omega
 have J:w0.heap.size+1≠w.heap.size:=by omega
 have e:Below w.heap.size w (w.alloc (.cells #[aB b,.slice (some ⟨g,0,none⟩) d.length c] 125)):=(Below.refl _ w).alloc (dD _) _;obtain ⟨p,i⟩:=cY (w.alloc (.cells #[aB b,.slice (some ⟨g,0,none⟩) d.length c] 125));have n:aJ p w.heap.size #[aB b,.slice (some ⟨g,0,none⟩) d.length c] 125:=by rw [i];exact aJ.new w _ _
 rw [←i] at e;have h:aJ p (w0.heap.size+1) _ _:=aJ.mod (S:=fun _=>False) y (aG e _) id;have o:aJ p w0.heap.size _ _:=aJ.mod (S:=fun _=>False) z (aG e _) id;have ⟨A,D⟩:=cN h o;have x:=Lh (l.trans (e.mono l.size));have C:=Lh (m.below e);have j:w0.heap.size≠w0.heap.size+1:=by omega
 have M:=h.cell;have N:=h.frozen;have F:=n.cell;clear l z y m n e h o r;conv=>arg 2;unfold iZ;whnf
 refine vT 23 ?_;intro K hK;rw [←i];clear i;refine cP [4,5,12] fun f=>?_
 go_region_held3 (fun w'=>w'.cell? ⟨w.heap.size,0,none⟩=some (aB b)∧w'.cell? ⟨w.heap.size,1,none⟩=some (.slice (some ⟨g,0,none⟩) d.length c)∧(convert 81 9 (.slice (some ⟨g,0,none⟩) d.length c)).run prog w'=.ok (aB d) w')
  (refine ⟨?_,?_,?_⟩<;>first|(exact VR d _ g 0 c (by repeat (first|exact C.o|refine bN.setCell ?_ q _|refine bN.drew ?_)))|go_keep)
  (fail)
 revert K;refine vT 27 ?_;refine cP [4,5] fun f=>?_;refine bB (CA _ w0.heap.size 5 [] b d none 0 0 s t u ?_ ?_ _ (fun w' H=>⟨⟨none,0,0,rfl,CB _ _⟩,?_⟩) f) (by kernel_rfl)
 ·exact ((((show aJ p w0.heap.size _ _ from D.o).set_ne (a:=⟨w0.heap.size+1,0,none⟩) j (.int .i64 5)).set_ne (a:=⟨w0.heap.size+1,2,none⟩) j (aB b)).set_ne (a:=⟨w0.heap.size+1,4,none⟩) j (aB d)).drew
 ·exact ((((show aJ p (w0.heap.size+1) _ _ from A.o).set 0 (.int .i64 5)).set 2 (aB b)).set 4 (aB d)).drew
 ·refine aM.below (B:=w0.heap.size) ?_ ?_ H (fun k G=>by rw [G];exact dD _)
  ·refine Below.drew ?_;repeat (refine Below.setCell ?_ (by simp) _)
   exact x.o
  ·have:=x.o.size;simpa [World.setCell,World.drew] using this
theorem Cy {D v:Nat} (w0 w:World) (n:Nat) (o p:Int) (h:Below w0.heap.size w0 w) (m:w0.heap.size+2≤w.heap.size) (s:aJ w w0.heap.size mO 38) (r:aJ w (w0.heap.size+1) #[.int .i64 0,.string ⟨#[]⟩,.string ⟨#[]⟩,.slice none 0 0,.string ⟨#[]⟩,.int .i64 n,.int .i64 o,.int .i64 p] 38)
  (nm:Bs×Bs) (f:Nat→Value):(iZ 3).wp prog (rN (AK w0 ⟨2,nm.1,nm.2,[],[],n,D,v⟩ o p)) (fr 104 f [(0,M7 nm),(4,.pointer (some ⟨w0.heap.size,0,none⟩)),(5,.pointer (some ⟨w0.heap.size+1,0,none⟩))]) w:=by
 have G:=fun a b w=>RQ a b w;have H:=fun a b w=>LG a b w;have A:w.heap.size≠w0.heap.size+1:=by omega
 have C:w0.heap.size+1≠w.heap.size:=by omega
 have c:Below w.heap.size w (w.alloc (.cells #[aB nm.1,aB nm.2] 110)):=(Below.refl _ w).alloc (dD _) _;obtain ⟨l,e⟩:=cY (w.alloc (.cells #[aB nm.1,aB nm.2] 110));have i:aJ l w.heap.size #[aB nm.1,aB nm.2] 110:=by rw [e];exact aJ.new w _ _
 rw [←e] at c;have d:aJ l (w0.heap.size+1) _ _:=aJ.mod (S:=fun _=>False) r (aG c _) id;have j:aJ l w0.heap.size _ _:=aJ.mod (S:=fun _=>False) s (aG c _) id;have ⟨t,u⟩:=cN d j;have q:=Lh (h.trans (c.mono h.size));have g:w0.heap.size≠w0.heap.size+1:=by omega
 have E:=d.cell;have F:=d.frozen;have x:=i.cell;clear h s r i c d j m;conv=>arg 2;unfold iZ;whnf
 refine vT 14 ?_;intro K hK;rw [←e];clear e;refine cP [4,5,9] fun f=>?_
 go_region_held3 (fun w'=>w'.cell? ⟨w.heap.size,0,none⟩=some (aB nm.1)∧w'.cell? ⟨w.heap.size,1,none⟩=some (aB nm.2))
  (go_keep)
  (fail)
 revert K;refine vT 27 ?_;refine cP [4,5] fun f=>?_;refine bB (CA _ w0.heap.size 2 nm.1 nm.2 [] none 0 0 n o p ?_ ?_ _ (fun w' z=>⟨⟨none,0,0,rfl,CB _ _⟩,?_⟩) f) (by kernel_rfl)
 ·exact ((((show aJ l w0.heap.size _ _ from u.o).set_ne (a:=⟨w0.heap.size+1,0,none⟩) g (.int .i64 2)).set_ne (a:=⟨w0.heap.size+1,1,none⟩) g (aB nm.1)).set_ne (a:=⟨w0.heap.size+1,2,none⟩) g (aB nm.2)).drew
 ·exact ((((show aJ l (w0.heap.size+1) _ _ from t.o).set 0 (.int .i64 2)).set 1 (aB nm.1)).set 2 (aB nm.2)).drew
 ·refine aM.below (B:=w0.heap.size) ?_ ?_ z (fun k y=>by rw [y];exact dD _)
  ·refine Below.drew ?_;repeat (refine Below.setCell ?_ (by simp) _)
   exact q.o
  ·have:=q.o.size;simpa [World.setCell,World.drew] using this
end Go.Proofs.YthapcchcahnfaaaGreatDoor
