/- Part of the proof that laws.FnStrictIsLoose, laws.FnUnclosed, laws.FnReaderFails, laws.FnWithin, laws.FnSkip returns true for every argument. No conditions. -/
import Derived.Test.YthapcchcahnfaaaGreatDoorP29
import Derived.Test.YthapcchcahnfaaaGreatDoorP31
set_option linter.all false
set_option maxHeartbeats 8000000
set_option maxRecDepth 100000
namespace Go.Proofs.YthapcchcahnfaaaGreatDoor
open Go Go.RowKit Tryz
theorem cK.notRow {x:Cx} {c:DC} {w:World} {v:DV} {rest:Bs} {e:Option EK} {b:Bs} (h:cK x c w v rest e b) {g:Nat} {d:Array Value} (f:aJ w g d 103) (k:¬ x.S0 g):¬ x.S1 v g:=by
 rintro (a|a)
 ·exact k a
 ·rcases h.bf with ⟨i,_⟩|⟨g',cap,arr,i,j,_⟩
  ·rw [i] at a;exact a
  ·rw [i] at a;have l:g=g':=a;subst l;unfold aJ at j f;rw [j] at f;simp at f
theorem V3 (x:Cx) (hx:x.All) (c:DC) (w:World) (v:DV) (s:St) (m:Nat) (sb fb:List Nat) (n B:Nat) (tv:Value) (nm:Bs×Bs) (d:List cZ) (h:oF x c w v s m sb fb n B tv (.start nm d)) (cT:s.next=none) (Q:Exit→Act→World→Prop)
  (hQ:∀ f w' t e,tQ x w v c (bW x.o (.start nm d) s) m sb fb tv t e w'→Q .ret (fr 204 f [(2,t),(3,e)]) w') (f:Nat→Value):(gZ 19).wp prog Q (fr 204 f [(0,cB x),(4,tv),(5,.nilIface)]) w:=by
 obtain ⟨sv,rfl,e9,a5⟩:=h.tok;obtain ⟨g,j,q,rfl,hC,e7,b8,d8,hJ,G⟩:∃ g j q,sv=.slice (some ⟨g,0,none⟩) d.length j∧B≤g∧w.heap[g]?=some (.cells q 103 (0,0))∧d.length≤j∧j≤maxLen∧q.size=j*3∧q.toList.take (d.length*3)=aR d:=by
  rcases a5.2 with o|o
  ·exact absurd (o.2▸o.1) e9
  ·exact o
 have q3:=fun a b s w=>RR a b s w;obtain ⟨hB,b0,hR⟩:s.ended=false∧∃ b,cK x c w v s.rest none b:=by
  rcases h.nt (by simp) with h1|⟨nm',e,stk',h1,_⟩
  ·exact h1
  ·cases h1
 obtain ⟨wt,W⟩:=cY (w.alloc (.cells #[aB nm.1,aB nm.2,.slice (some ⟨g,0,none⟩) d.length j] 101));have b2:Below w.heap.size w wt:=by rw [W];exact (Below.refl _ w).alloc (dD _) _
 have aA:aM (fun _=>False) w wt:=aG b2 _;have Z:=hR.below hx.toOk b2;have hI:∀ k∈m::(sb++fb),k<w.heap.size:=h.own.lt;have hA:x.d<w.heap.size:=hR.dec.lt;have a3:=hx.len;obtain ⟨k1,k2,k3,k4⟩:BD x.T.length (.start nm d):=by
  rcases h.le with h1|⟨nm',e,stk',h1,_⟩
  ·exact h1
  ·cases h1
 have f0:c.nextTok=.nilIface:=by
  have o:=h.nxt;unfold kP at o;rw [cT] at o;exact o
 have ⟨g5,g6⟩:=cN f0 cT;clear f0 cT;have b5:aJ w g q 103:=e7;have b4:aJ wt g q 103:=b5.mod aA id;have a2:aJ wt w.heap.size #[aB nm.1,aB nm.2,.slice (some ⟨g,0,none⟩) d.length j] 101:=by rw [W];exact aJ.new w _ _
 have a4:=h.own.mod aA (fun _ _=>id) h.own.s1;have g0:=Lh b5.lt;obtain ⟨N,e6⟩:=h.tkd g rfl;have g4:=Lh e6;have g3:=Lh hR.newS1;have d1:=Lh (show B≤g∧d.length≤j∧j≤maxLen∧q.size=j*3∧q.toList.take (d.length*3)=aR d from ⟨hC,b8,d8,hJ,G⟩);have M:g≠x.d:=fun e=>e6 (e▸aH (aH rfl));have d7:n+s.stk.length+2*s.rest.length+2*qL s.next+2*(1+d.length)≤2*x.T.length:=h.bnd;have D:=fun Q hQ f c1 e=>ZJ x hx.toOk c wt v Z.dec Z.s1lt (fX h.hB (fX h.hBs aA.size)) m sb fb n s.stk s.ns a4 h.sok h.nok d (fun a ha=>(k3 a ha).mono a3) (by omega) (by omega) w.heap.size g j q b4 G ⟨M,N⟩ Q hQ f c1 e;have ⟨C,HQ,H,HX,d0,HT⟩:=iH D hQ h hx Z a2;have ⟨HG,c7,Y,X⟩:=kV b4 aA hI hA;have HL:=Lh (show nm.1.length≤1000000000∧nm.2.length≤1000000000∧d.length≤1000000000 by omega);clear d7;clear D hQ h hx hR Z b2 a4 e9 a5 e7 k1 k2 k4 a3 b5 b4;conv=>arg 2;unfold gZ;whnf
 have F:=a2.cell;have J:=a2.frozen;clear a2;refine vg ?_;intro K hK K hK;rw [←W];clear F J;refine cP [0,5,8,101,102,103] fun f=>?_;refine C.o _ ?_ f _ (by kernel_rfl);intro f c1 w1 c5 bL n1 z aC b7 S P
 have bC:=Lh (show bW x.o (.start nm d) s=.ok (.start (cX x.o (dK d s.stk s.ns).2 nm true) (d.map (ZK x.o (dK d s.stk s.ns).2)),
   { s with stk:={ kind:=0,space:=nm.1,loc:=nm.2,ok:=false }::(dK d s.stk s.ns).1,ns:=(dK d s.stk s.ns).2 }) from rfl)
 obtain ⟨f5,U⟩:∃ a,a=(dK d s.stk s.ns).1:=⟨_,rfl⟩;obtain ⟨p,R⟩:∃ a,a=(dK d s.stk s.ns).2:=⟨_,rfl⟩;rw [←U] at b7 S bC aC;rw [←R] at P bC aC;have hW:w.heap.size<wt.heap.size:=by rw [W];show _<(w.heap.push _).size;rw [Array.size_push];omega
 have b9:∀ k,(k=x.d∨k∈m::(sb++fb))→k<w.heap.size:=fun k l=>by
  rcases l with l|l
  ·rw [l];exact X.o
  ·exact Y.o k l
 have hV:g<wt.heap.size:=HG.o.lt;have a1:=HT.o.mod z.mod (fun r=>Nat.lt_irrefl _ (b9 _ r));have d9:=HG.o.mod z.mod (fun r=>by
  rcases r with r|r
  ·exact M r
  ·exact N r)
 have f1:=Lh (BB x HX.o.toOk c1 w1 v z.dec (fun k l=>oX (d0.o.s1lt k l) z.mod.size) (fX (fX H.o.hB (fX H.o.hBs c7.o.size)) z.mod.size) m c5 bL n1 f5 p aC nm);have F:=a1.cell;have J:=a1.frozen;have ⟨g7,f7,d2,g2,dT,c8⟩:=iH a1 d9 z b7 S P;have hP:=Lh b9;clear a1 d9 z aC b7 S P C b9 W U R;(repeat revert K);refine vg ?_;intro K hK K hK K hK;refine f1.o.mono ?_;rintro e2 w2 ⟨rfl,c2,c6,b1,T,aL⟩;have y:=Lh (d2.o.trans T);have a7:∀ b,b∈m::(c5++bL)→b∈m::(sb++fb)∨wt.heap.size≤b:=d2.o.sub;have L:∀ k,(k=x.d∨k∈m::(c5++bL))→k≠w.heap.size∧k≠g:=by
  rintro k (l|l)
  ·rw [l];exact ⟨Nat.ne_of_lt X.o,fun e=>M e.symm⟩
  ·rcases a7 k l with o|o
   ·exact ⟨Nat.ne_of_lt (Y.o k o),fun e=>N (e▸o)⟩
   ·exact ⟨fun e=>by omega,fun e=>by omega⟩
 have c3:=g7.o.mod T.mod (fun r=>(L _ r).1 rfl);have e0:=f7.o.mod T.mod (fun r=>(L _ r).2 rfl);have hE:m<w.heap.size:=Y.o m List.mem_cons_self;obtain ⟨hX,hU,hT,E⟩:=y.o.cs;have a6:c2.space=⟨x.o.space.toArray⟩:=by rw [E];exact H.o.cfg.sp
 have f4:=Lh (rL x c2 w2 v T.dec m n1 p aL.map aL.ns a6 w.heap.size _ _ c3 (Nat.ne_of_gt X.o) (Nat.ne_of_gt hE) 0 nm rfl rfl (fX HL.o.1 (by decide)) true);have ⟨c9,f9,hS⟩:=mJ aL e0 c3;clear f1 F J T aL e0 c3 a7 L;(repeat revert K);refine vS ?_;intro K hK K hK K hK;refine f4.o.mono ?_;rintro e3 w3 ⟨rfl,O,d6,hM⟩;have u:aJ w3 w.heap.size #[aB (cX x.o p nm true).1,aB nm.2,.slice (some ⟨g,0,none⟩) d.length j] 101:=d6;have V:g≠w.heap.size:=Nat.ne_of_lt g0.o;have b3:bX w3 x.d c2 v:=aJ.mod y.o.dec O (Nat.ne_of_lt X.o);have hD:g≠m:=fun e=>N (by rw [e];exact List.mem_cons_self);have e4:=f9.o.mod O V;have a0:m5 x w3 c2 v m c6 b1 n1 _ p:=c9.o.mod O (fun b hb he=>by
  rcases y.o.sub b hb with o|o
  ·exact Nat.lt_irrefl _ (he▸Y.o b o)
  ·omega) c9.o.s1
 have d4:=Lh (fun Q hQ f c1 e=>VM x HX.o.toOk c2 w3 v b3 m n1 p a0.map a0.ns a6 d (fun a ha=>(k3 a ha).mono HX.o.len) HL.o.2.2 w.heap.size g j ((cX x.o p nm true).1,nm.2) q e4 G ⟨M,hD,V⟩ u Q hQ f c1 e);have F:=u.cell;have J:=u.frozen;have ⟨g8,g1,f6,dI⟩:=kV u O b3 a0;clear f4 d6 hM u O b3 e4 a0;(repeat revert K);refine vS ?_;intro K hK K hK;refine cP [0,5,8,176,177] fun f=>?_;refine d4.o _ ?_ f _ (by kernel_rfl);intro f w4 d5 b6 e5 a8 I;have c4:=g8.o.mod b6 (fun e=>V e.symm);have hN:=c4.cell;have hO:=c4.frozen;have ⟨bA,gB,d3,a9⟩:=kV b6 e5 a8 I;clear c4 b6 e5 a8 I d4 F J;(repeat revert K);refine vg ?_;refine Qk [2,3] fun f=>?_;refine HQ.o f _ _ _ ?_;rw [bC.o];have f3:nm.2=(cX x.o p nm true).2:=(AI _ _ _ _).symm;have hL:(Value.iface 101 (.agg #[aB (cX x.o p nm true).1,aB nm.2,.slice (some ⟨g,0,none⟩) d.length j]))=Fe (cX x.o p nm true) (.slice (some ⟨g,0,none⟩) d.length j):=by
  show _=Value.iface _ (.agg #[aB (cX x.o p nm true).1,aB (cX x.o p nm true).2,.slice (some ⟨g,0,none⟩) d.length j]);rw [←f3]
 rw [hL];obtain ⟨r1,r2,r3,r4,r5⟩:=d1.o;have e8:aM (fun b=>(b=x.d∨b∈m::(sb++fb))∨b=w.heap.size∨b=g) wt w4:=by
  refine (y.o.mod.mono (fun _ _ l=>aH l)).trans ((g1.o.mono (fun _ _ l=>aW (aH l))).trans (bA.o.mono (fun _ _ l=>aW (aW l))) (fun _ _ l=>l)) (fun _ _ l=>l)
 have g9:bX w4 x.d c2 v:=aJ.mod f6.o bA.o (fun e=>M e.symm);have e1:g∉m::(c6++b1):=fun r=>by
  rcases y.o.sub g r with o|o
  ·exact N o
  ·omega
 have hG:=dI.o.mod bA.o (fun b hb he=>e1 (he▸hb)) dI.o.s1;have f2:cK x c2 w4 v s.rest none b0:=d0.o.own HX.o.toOk g9 e8 (fun k l=>by
  rcases l with (l|l)|l|l
  ·exact aH l
  ·exact aW ⟨H.o.own.s1 k l,H.o.own.base k l⟩
  ·rw [l];exact aW ⟨g3.o,fX H.o.hB H.o.hBs⟩
  ·rw [l];exact aW ⟨g4.o,fX H.o.hB r1⟩)
 have A:=y.o.same;refine ⟨rfl,c2,v,c6,b1,n1,⟨H.o.cfg.same A,⟨⟨none,b0,f2,fun r=>?_,fun r=>absurd rfl r⟩,?_,?_,H.o.rd.nb⟩,hG,?_,c8.o,H.o.tcl,?_,kP.none g6.o (by rw [A.next];exact g5.o)⟩,⟨B,_,rfl,by simp,?_⟩,?_,fun b hb=>?_,rfl,A.next⟩
 ·have o:s.ended=true:=r;rw [hB] at o;cases o
 ·rw [E];exact H.o.rd.nc
 ·rw [E];exact H.o.rd.tc
 ·intro e he;rcases mH.1 he with rfl|he
  ·have:=HL.o;exact ⟨aH rfl,by simp only;omega,by simp only;omega⟩
  ·exact dT.o e he
 ·have h8:=g2.o;have o:n+s.stk.length+2*s.rest.length+2*qL s.next+2*(1+d.length)≤2*x.T.length:=H.o.bnd;simp only [gN];omega
 ·refine ⟨by rw [mB],aW ⟨g,j,d5,by simp,r1,gB.o,by simpa using r2,r3,by rw [d3.o,r4],by simpa using a9.o⟩⟩
 ·refine (c7.o.mono (fun _ _ h=>h.elim)).trans e8 (fun i hi hs=>?_);rcases hs with (hs|hs)|hs|hs
  ·exact aH hs
  ·exact aW (aH hs)
  ·omega
  ·exact aW (aW hs)
 ·rcases y.o.sub b hb with o|o
  ·exact aH o
  ·exact aW (by omega)
theorem LM {x:Cx} (q:x.Ok) (h:∃ cs t,aJ x.W0 x.eofA.block cs t) {k:EK} {e:Value} {w:World} (v:Below x.B x.W0 w) (b:xW x e (some k)) (y:kL w e k) :
  (binOp .eql 59 e x.eofV).run prog w=.ok (.bool (decide (k=.eof))) w:=by
 cases k with
 | eof=>rw [show e=x.eofV from b];exact DG _ w
 | own=>rw [show e=A2 from b];exact DH _ _ w
 | syn=>obtain ⟨a,b⟩:=b;rw [b];exact UA _ _ w
 | other=>
  obtain ⟨a,o,r⟩:=b;obtain ⟨A,cs,t,g,s⟩:=y rfl;rw [o] at g;simp only [Value.iface.injEq,Value.pointer.injEq,kD,true_and] at g;subst g;obtain ⟨f,z,p⟩:=h;have u:aJ w x.eofA.block f z:=by
   unfold aJ at p ⊢;rw [←p];exact v.block _ q.eofL
  rw [o];have c:=s8;have d:=KT;cases l:prog.info? 196 with
  | none=>rw [l] at c;cases c
  | some i=>
   cases m:prog.info? 198 with
   | none=>rw [m] at d;cases d
   | some j=>
    rw [l] at c;rw [m] at d;have n:a≠x.eofA:=fun e=>by rw [e] at r;have:=q.eofL;omega
    refine run_eql_iface_ptr_other w underlying59 underlying196 l (by simpa using c) m ?_ n s u;have:j.size=1:=by simpa using d
    omega
theorem m5.same {x:Cx} {w:World} {c b:DC} {v:DV} {m:Nat} {f d:List Nat} {n:Nat} {a:List gT} {e:Bs→Option Bs} (h:m5 x w c v m f d n a e) (g:rK c b):m5 x w b v m f d n a e:=by
 obtain ⟨_,_,_,rfl⟩:=g;exact ⟨h.stk,h.free,h.map,h.ns,h.nodup,h.base,h.s1⟩
theorem m5.next {x:Cx} {w:World} {c:DC} {v:DV} {m:Nat} {e b:List Nat} {n:Nat} {a:List gT} {d:Bs→Option Bs} (h:m5 x w c v m e b n a d) (u:Value):m5 x w { c with nextTok:=u } v m e b n a d:=
 ⟨h.stk,h.free,h.map,h.ns,h.nodup,h.base,h.s1⟩
theorem xL.nextTok {x:Cx} {c:DC} (h:xL x c) (u:Value):xL x { c with nextTok:=u }:=⟨⟨h.dc.r,h.dc.strict⟩,⟨h.no.ent,h.no.ents⟩,h.sp,h.auto⟩
theorem TS.raw {x:Cx} (X:x.All) {c:DC} {w:World} {v:DV} {s:St} {m:Nat} {Q J:List Nat} {n:Nat} (h:TS x c w v s m Q J n) (k:s.next=none) {o:aO} {l:St} (M:dN x.o s=.ok (o,l)) {y:DC} {w1:World} {u:DV} (N:dB x w v w1 u) (C:rK c y) (q:DW x y w1 u l) {t:Value} (j:iR w1 u.bufv w.heap.size t o)
  (H:(∀ d,o≠.text d)→l.ended=false∧∃ b,cK x y w1 u l.rest none b):oF x y w1 u l m Q J n w.heap.size t o∧l.next=none∧BD x.T.length o:=by
 obtain ⟨V,b0,A,_,_⟩:=h.rd.rd;have p:s.rest.length≤x.T.length:=A.suf.length_le;obtain ⟨Y,I,O,S,Z,k6,T⟩:=iB M;obtain ⟨P,U⟩:=LC h.cfg.no.ents M p h.tcl;have D:c.nextTok=.nilIface:=by
  have a:=h.nxt;unfold kP at a;rw [k] at a;exact a
 have e:l.next=none:=S.trans k;obtain ⟨W,b1,B,_,_⟩:=q.rd;refine ⟨⟨h.cfg.same C.toD,q,?_,by rw [I];exact h.sok,by rw [O];exact h.nok,U,aH P,?_,j,A.base.size,N.mod.size,fun g i=>?_,fun f=>aH (H f),kP.none e (by rw [C.toD.next];exact D)⟩,e,P⟩
 ·rw [I,O];exact (h.own.step N).same C
 ·have a:=h.bnd;rw [k] at a;rw [I,e];rcases T with ⟨nm,_,rfl,rfl⟩|⟨_,L,_⟩
  ·simp only [qL] at a ⊢;omega
  ·cases o with
   | start nm ats=>simp only [aO.wt] at L;simp only [qL] at a ⊢;omega
   | _=>simp only [aO.wt] at L;simp only [qL] at a ⊢;omega
 ·have R:=(j.lt i).1;refine ⟨fun F=>by have:=h.own.lt g F;omega,?_⟩;cases o with
  | start nm ats=>
   obtain ⟨z,rfl,G,r⟩:=j;rcases r.2 with a|⟨g',cap,cur,rfl,_,E,_⟩
   ·exact absurd (a.2▸a.1) G
   ·have a:g=g':=i;subst a;exact B.notRow E (fun F=>by have:=A.s0lt g F;omega)
  | fin nm=>rw [show t=M7 nm from j] at i;exact i.elim
  | text d=>obtain ⟨z,rfl,f⟩:=j;obtain ⟨_,_,_,rfl⟩:=f.slice;exact i.elim
  | comment d=>obtain ⟨z,rfl,f⟩:=j;obtain ⟨_,_,_,rfl⟩:=f.slice;exact i.elim
  | dir d=>obtain ⟨z,rfl,f⟩:=j;obtain ⟨_,_,_,rfl⟩:=f.slice;exact i.elim
  | proc tg d=>obtain ⟨z,rfl,f⟩:=j;exact i.elim
theorem oF.below {x:Cx} (j:x.Ok) {c:DC} {w w':World} {v:DV} {s:St} {m:Nat} {k i:List Nat} {n B:Nat} {o:Value} {l:aO} (h:oF x c w v s m k i n B o l) (a:Below w.heap.size w w'):oF x c w' v s m k i n B o l:=by
 obtain ⟨e,b,p,d,f⟩:=h.rd.rd;have g:aM (fun _=>False) w w':=aG a _
 exact ⟨h.cfg,⟨⟨e,b,p.below j a,d,f⟩,h.rd.nc,h.rd.tc,h.rd.nb⟩,h.own.mod g (fun _ _=>id) h.own.s1,h.sok,h.nok,h.tcl,h.le,h.bnd,h.tok.mod g (fun _ _=>id) (fun _ _=>id),h.hB,fX h.hBs a.size,h.tkd,
  fun q=>(h.nt q).imp (fun ⟨d,b,f⟩=>⟨d,b,f.below j a⟩) id,h.nxt.step g (fun _ _=>id) (fun _ _=>id) rfl rfl rfl (fun b a=>aH a)⟩
def nM (o:cM) (a:aO) (s:St):Except EK (aO×St):=
 if o.strict then bW o a s
 else match kS bG o a s with
  | none=>bW o a s
  | some nm=>bW o (.fin nm) { s with next:=some a }
theorem NY {o:cM} {s:St} {t:aO} (h:s.next=some t):hY bG o s=nM o t { s with next:=none }:=by
 unfold hY nM;rw [h];rfl
theorem R2 {o:cM} {s:St} (h:s.next=none):hY bG o s=match dN o s with|.error e=>.error (if e=.eof∧s.stk≠[] then .syn else e)|.ok (t,s')=>nM o t s':=by
 unfold hY nM;rw [h];cases dN o s with
 | error e=>rfl
 | ok p=>rfl
theorem JK {o:cM} {d:aO} {s:St} {nm:Bs×Bs} (h:kS bG o d s=some nm):∃ e a,s.stk=e::a∧e.kind=0∧nm=(e.space,e.loc):=by
 unfold kS at h;split at h
 ·cases h
 ·rename_i e a c;split at h
  ·cases h
  ·rename_i b;split at h
   ·split at h
    ·split at h
     ·cases h
     ·exact ⟨e,a,c,by simpa using b,by simpa using h.symm⟩
    ·exact ⟨e,a,c,by simpa using b,by simpa using h.symm⟩
   ·cases h
def qE (x:Cx) (w:World) (v:DV) (R:Except EK (aO×St)) (m:Nat) (f d:List Nat) (i:Value) (t e:Value) (w':World):Prop:=
 match R with
 | .error k=>t=.nilIface∧xW x e (some k)∧Below x.B x.W0 w'∧kL w' e k∧aM (fun b=>x.S1 v b∨b∈m::(f++d)) w w'
 | .ok (tk,s')=>e=.nilIface∧∃ h v' c a j,TS x h w' v' s' m c a j∧(∃ B,iR w' v'.bufv B t tk)∧aM (fun b=>b=x.d∨b∈m::(f++d)∨cU i b) w w' ∧
   (∀ b∈m::(c++a),b∈m::(f++d)∨w.heap.size≤b)∧v'.bufv=v.bufv∧∀ g,cU h.nextTok g→cU i g
theorem GC (x:Cx) (E:x.All) (aL:x.o.auto=[]) (c:DC) (w:World) (v:DV) (s:St) (m:Nat) (y u:List Nat) (n B:Nat) (a:Value) (o:aO) (h:oF x c w v s m y u n B a o) (L:s.next=none) (V:BD x.T.length o) (a1:(∀ d,o≠.text d)→s.ended=false∧v.err=.nilIface) (Q:Exit→Act→World→Prop)
  (hQ:∀ f w' t e,qE x w v (nM x.o o s) m y u a t e w'→Q .ret (fr 204 f [(2,t),(3,e)]) w') (f:Nat→Value):(gZ 14).wp prog Q (fr 204 f [(0,cB x),(4,a),(5,.nilIface)]) w:=by
 obtain ⟨e0,b0,hR,a7,a8⟩:=h.rd.rd;have aC:c.nextTok=.nilIface:=by
  have l:=h.nxt;unfold kP at l;rw [L] at l;exact l
 refine Fq x E.toOk aL c h.cfg.auto h.cfg.dc.strict w hR.base v hR.dec s h.own.stk h.sok v.bufv B a o h.tok (fun nm C=>?_) Q (fun a0 f w' A=>?_) (fun nm a4 T f w' A=>?_) f
 ·subst C;have:=E.len;have l:nm.1.length≤x.T.length∧nm.2.length≤x.T.length:=V;omega
 ·
  have j:=h.below E.toOk A;have M:nM x.o o s=bW x.o o s:=by
   unfold nM;rcases a0 with l|l
   ·rw [aV l]
   ·rw [l];split<;>rfl
  have q:∀ f r P e,tQ x w' v c (bW x.o o s) m y u a P e r→Q .ret (fr 204 f [(2,P),(3,e)]) r:=by
   intro f r P e z;refine hQ f r P e ?_;rw [M];unfold qE;unfold tQ at z;cases Y:bW x.o o s with
   | error k=>
    rw [Y] at z;obtain ⟨p1,p2,p3,p4,p5⟩:=z;exact ⟨p1,p2,p3,p4,(aG A _).trans p5 (fun _ _ i=>i)⟩
   | ok p=>
    obtain ⟨a6,s2⟩:=p;rw [Y] at z;obtain ⟨C,c2,v2,N,G,n2,g1,g2,g3,g4,g5,g6⟩:=z;refine ⟨C,c2,v2,N,G,n2,g1,g2,(aG A _).trans g3 (fun _ _ i=>i),fun b I=>?_,g5,fun g D=>?_⟩
    ·rcases g4 b I with l|l
     ·exact aH l
     ·exact aW (fX A.size l)
    ·rw [g6,aC] at D;exact D.elim
  cases o with
  | start nm ats=>exact V3 x E c w' v s m y u n B a nm ats j L _ q f
  | fin nm=>exact X0 x E c w' v s m y u n B a nm j _ q f
  | text d=>exact x7 x c w' v s m y u n B a _ j (by simp) (by simp) _ q f
  | comment d=>exact x7 x c w' v s m y u n B a _ j (by simp) (by simp) _ q f
  | dir d=>exact x7 x c w' v s m y u n B a _ j (by simp) (by simp) _ q f
  | proc tg d=>exact x7 x c w' v s m y u n B a _ j (by simp) (by simp) _ q f
 ·
  obtain ⟨e1,F,q1,q2,q3⟩:=JK T;have j:=h.below E.toOk A;obtain ⟨aA,Z,H,R,S⟩:=j.rd.rd;have O:aM (fun k=>k=x.d) w' (w'.setCell ⟨x.d,17,none⟩ a):=(aM.refl (fun k=>k=x.d) w').setCell (p:=⟨x.d,17,none⟩) (aH rfl) _;have hd:bX (w'.setCell ⟨x.d,17,none⟩ a) x.d { c with nextTok:=a } v:=(show aJ w' x.d _ _ from H.dec).set 17 a;have U:∀ k,eM v.bufv k→¬ k=x.d:=fun k i=>(H.bufFar j.own i).1;have a5:∀ g,cU a g→¬ g=x.d:=fun g D C=>(h.tkd g D).2 (C▸aH (aH rfl));have a3:DW x { c with nextTok:=a } (w'.setCell ⟨x.d,17,none⟩ a) v { s with next:=some o }:=⟨⟨aA,Z,H.turn E.toOk hd O,R,S⟩,j.rd.nc,j.rd.tc,j.rd.nb⟩;have W:=(j.own.mod O (fun b A C=>j.own.s1 b A (C▸aH (aH rfl))) j.own.s1).next a;have a2:kP x (w'.setCell ⟨x.d,17,none⟩ a) v { c with nextTok:=a } { s with next:=some o } (m::(y++u)):=by
   unfold kP;exact ⟨B,h.hB,fX j.hBs O.size,j.tok.mod O U a5,V,h.tkd,a1⟩
  have X:oF x { c with nextTok:=a } (w'.setCell ⟨x.d,17,none⟩ a) v { s with next:=some o } m y u n B (M7 nm) (.fin nm):=
   ⟨h.cfg.nextTok a,a3,W,h.sok,h.nok,h.tcl,aW ⟨nm,e1,F,rfl,q1,q2,q3⟩,by have:=h.bnd;rw [L] at this;simp only [qL] at this ⊢;omega,rfl,h.hB,fX j.hBs O.size,fun g D=>D.elim,fun _=>aW ⟨nm,e1,F,rfl,q1,q2,q3⟩,a2⟩
  refine X0 x E _ _ v _ m y u n B (M7 nm) nm X Q (fun f r P e z=>hQ f r P e ?_) f;have M:nM x.o o s=bW x.o (.fin nm) { s with next:=some o }:=by
   unfold nM;rw [aN (by rw [a4];simp),T]
  rw [M];unfold qE;unfold tQ at z;have J:aM (fun k=>k=x.d) w (w'.setCell ⟨x.d,17,none⟩ a):=(aG A _).trans O (fun _ _ i=>i);cases Y:bW x.o (.fin nm) { s with next:=some o } with
  | error k=>
   rw [Y] at z;obtain ⟨p1,p2,p3,p4,p5⟩:=z;exact ⟨p1,p2,p3,p4,(J.mono (fun _ _ i=>i▸aH (aH (aH rfl)))).trans p5 (fun _ _ i=>i)⟩
  | ok p=>
   obtain ⟨a6,s2⟩:=p;rw [Y] at z;obtain ⟨C,c2,v2,N,G,n2,g1,g2,g3,g4,g5,g6⟩:=z;refine ⟨C,c2,v2,N,G,n2,g1,g2,(J.mono (fun _ _ i=>aH i)).trans g3 (fun _ _ i=>?_),fun b I=>?_,g5,fun g D=>?_⟩
   ·rcases i with i|i|i
    ·exact aH i
    ·exact aW (aH i)
    ·exact i.elim
   ·rcases g4 b I with l|l
    ·exact aH l
    ·exact aW (fX J.size l)
   ·rw [g6] at D;exact D
theorem R3 (x:Cx) (z:x.Ok) (u:∃ cs t,aJ x.W0 x.eofA.block cs t) (G:x.W0.cell? ⟨1,0,none⟩=some (DZ 59)) (n:1<x.B) {k:EK} {e:Value} {w:World} (B:Below x.B x.W0 w) (m:xW x e (some k)) (I:kL w e k) :
  Calls prog 19 #[e] w fun M w'=>M=.returned (.int .i64 (EK.code k))∧Below w.heap.size w w':=by
 obtain ⟨q,o⟩:=cY (w.alloc (.cells #[.pointer none] 113));have h:Below w.heap.size w q:=by rw [o];exact (Below.refl _ w).alloc (dD _) _
 have F:x.B≤w.heap.size:=B.size;have c:Below x.B x.W0 q:=B.trans (h.mono F);have y:kL q e k:=fun C=>by
  obtain ⟨a,cs,t,N,O⟩:=I C;exact ⟨a,cs,t,N,aJ.mod (S:=fun _=>False) O (aG h _) id⟩
 have j:=LM z u c m y;have i:q.cell? ⟨0,0,none⟩=some x.eofV:=by rw [←z.eof];exact c.cell z.gB
 have v:aJ q w.heap.size #[.pointer none] 113:=by rw [o];exact aJ.new w _ _
 have D:=Lh (show q.cell? ⟨1,0,none⟩=some (DZ 59) from by rw [c.cell (p:=⟨_,0,none⟩) n];exact G);have r:=Lh (show 1<q.heap.size from oX n c.size);have ⟨b,g⟩:=cN h v;clear B I c y z u G n v h F;subst o;cases k with
 | eof=>
  rw [show e=x.eofV from m] at j ⊢;simp only [decide_true] at j;clear m;refine eI 21 func19 [_] fun f=>?_;simp only [aF];refine vg ?_;intro K hK;refine cO ?_;exact ⟨rfl,b.o⟩
 | own=>
  rw [show e=A2 from m] at j ⊢;rw [decide_eq_false (by decide)] at j;have d:=Lh (fun w=>NS w);clear m;refine eI 21 func19 [_] fun f=>?_;simp only [aF];refine vg ?_;intro K hK K hK K hK;refine (d.o _).mono ?_;rintro E w1 ⟨rfl,rfl⟩;(repeat revert K);refine vS ?_;intro K hK;refine cO ?_;exact ⟨rfl,b.o⟩
 | syn=>
  obtain ⟨a,rfl⟩:=m;rw [decide_eq_false (by decide)] at j;have d:=Lh (fun w=>NQ (.pointer (some a)) w);have l:=Lh (ZT a ⟨w.heap.size,0,none⟩ (.pointer none) _ D.o r.o (g.o.cell 0) (g.o.frozen 0));refine eI 21 func19 [_] fun f=>?_;simp only [aF];refine vg ?_;intro K hK K hK K hK;refine (d.o _).mono ?_;rintro E w1 ⟨rfl,rfl⟩;(repeat revert K);refine vS ?_;intro K hK K hK K hK;refine l.o.mono ?_;rintro L P ⟨rfl,H⟩;have J:=Lh H;clear H i j;(repeat revert K);refine vS ?_;intro K hK;refine cO ?_;refine ⟨rfl,?_⟩;exact aM.below b.o b.o.size J.o (fun k C=>by rw [C];exact dD _)
 | other=>
  obtain ⟨a,rfl,_⟩:=m;rw [decide_eq_false (by decide)] at j;have d:=Lh (fun w=>NR (.pointer (some a)) w);have l:=Lh (ZU (.pointer (some a)) ⟨w.heap.size,0,none⟩ (.pointer none) _ D.o r.o (g.o.cell 0) (g.o.frozen 0));refine eI 21 func19 [_] fun f=>?_;simp only [aF];refine vg ?_;intro K hK K hK K hK;refine (d.o _).mono ?_;rintro E w1 ⟨rfl,rfl⟩;(repeat revert K);refine vS ?_;intro K hK K hK K hK;refine l.o.mono ?_;rintro L P ⟨rfl,s⟩;have A:=Lh s;clear s i j;(repeat revert K);refine vS ?_;refine cO ?_;exact ⟨rfl,b.o.trans (A.o.mono b.o.size)⟩
end Go.Proofs.YthapcchcahnfaaaGreatDoor
