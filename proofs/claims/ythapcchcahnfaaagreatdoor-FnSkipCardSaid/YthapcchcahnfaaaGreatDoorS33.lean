/- Part of the proof that laws.FnSkip returns true for every argument. No conditions. -/
import Derived.Test.YthapcchcahnfaaaGreatDoorS30
set_option linter.all false
set_option maxHeartbeats 8000000
set_option maxRecDepth 100000
namespace Go.Proofs.YthapcchcahnfaaaGreatDoor
open Go Go.RowKit Go.Proofs.Tryz
theorem cA.notRow {x:Cx} {c:DC} {w:World} {v:DV} {rest:Bs} {e:Option EK} {b:Bs} (h:cA x c w v rest e b) {g:Nat} {d:Array Value} (f:aL w g d 103) (k:¬ x.S0 g):¬ x.S1 v g:=by
 rintro (a|a)
 ·exact k a
 ·rcases h.bf with ⟨i,_⟩|⟨g',cap,arr,i,j,_⟩
  ·rw [i] at a;exact a
  ·rw [i] at a;have l:g=g':=a;subst l;unfold aL at j f;rw [j] at f;simp at f
theorem S4 (x:Cx) (hx:x.All) (c:DC) (w:World) (v:DV) (s:St) (m:Nat) (sb fb:List Nat) (n B:Nat) (tv:Value) (nm:Bs×Bs) (d:List cO) (h:pE x c w v s m sb fb n B tv (.start nm d)) (c5:s.next=none) (Q:Exit→Act→World→Prop)
  (hQ:∀ f w' t e,sF x w v c (cI x.o (.start nm d) s) m sb fb tv t e w'→Q .ret (fr 204 f [(2,t),(3,e)]) w') (f:Nat→Value):(gK 19).wp prog Q (fr 204 f [(0,bT x),(4,tv),(5,.nilIface)]) w:=by
 obtain ⟨sv,rfl,f3,a6⟩:=h.tok;obtain ⟨g,j,q,rfl,hL,f1,c3,e1,hS,G⟩:∃ g j q,sv=.slice (some ⟨g,0,none⟩) d.length j∧B≤g∧w.heap[g]?=some (.cells q 103 (0,0))∧d.length≤j∧j≤maxLen∧q.size=j*3∧q.toList.take (d.length*3)=aN d:=by
  rcases a6.2 with o|o
  ·exact absurd (o.2▸o.1) f3
  ·exact o
 have q3:=fun a b s w=>OY a b s w;obtain ⟨hJ,b0,hR⟩:s.ended=false∧∃ b,cA x c w v s.rest none b:=by
  rcases h.nt (by simp) with h1|⟨nm',e,stk',h1,_⟩
  ·exact h1
  ·cases h1
 obtain ⟨wt,W⟩:=cK (w.alloc (.cells #[aB nm.1,aB nm.2,.slice (some ⟨g,0,none⟩) d.length j] 101));have b4:Below w.heap.size w wt:=by rw [W];exact (Below.refl _ w).alloc (dF _) _
 have aA:aJ (fun _=>False) w wt:=aH b4 _;have Z:=hR.below hx.toOk b4;have hP:∀ k∈m::(sb++fb),k<w.heap.size:=h.own.lt;have hI:x.d<w.heap.size:=hR.dec.lt;have a4:=hx.len;obtain ⟨k1,k2,k3,k4⟩:zM x.T.length (.start nm d):=by
  rcases h.le with h1|⟨nm',e,stk',h1,_⟩
  ·exact h1
  ·cases h1
 have f4:c.nextTok=.nilIface:=by
  have o:=h.nxt;unfold lA at o;rw [c5] at o;exact o
 have ⟨hB,hC⟩:=cB f4 c5;clear f4 c5;have b7:aL w g q 103:=f1;have b6:aL wt g q 103:=b7.mod aA id;have a3:aL wt w.heap.size #[aB nm.1,aB nm.2,.slice (some ⟨g,0,none⟩) d.length j] 101:=by rw [W];exact aL.new w _ _
 have a5:=h.own.mod aA (fun _ _=>id) h.own.s1;have g6:=Lh b7.lt;obtain ⟨N,e9⟩:=h.tkd g rfl;have hA:=Lh e9;have g9:=Lh hR.newS1;have d4:=Lh (show B≤g∧d.length≤j∧j≤maxLen∧q.size=j*3∧q.toList.take (d.length*3)=aN d from ⟨hL,c3,e1,hS,G⟩);have M:g≠x.d:=fun e=>e9 (e▸aG (aG rfl));have e0:n+s.stk.length+2*s.rest.length+2*qH s.next+2*(1+d.length)≤2*x.T.length:=h.bnd;have D:=fun Q hQ f c1 e=>WB x hx.toOk c wt v Z.dec Z.s1lt (fQ h.hB (fQ h.hBs aA.size)) m sb fb n s.stk s.ns a5 h.sok h.nok d (fun a ha=>(k3 a ha).mono a4) (by omega) (by omega) w.heap.size g j q b6 G ⟨M,N⟩ Q hQ f c1 e;have ⟨C,HQ,H,HX,d3,HT⟩:=gT D hQ h hx Z a3;have ⟨HG,dI,Y,X⟩:=kS b6 aA hP hI;have HL:=Lh (show nm.1.length≤1000000000∧nm.2.length≤1000000000∧d.length≤1000000000 by omega);clear e0;clear D hQ h hx hR Z b4 a5 f3 a6 f1 k1 k2 k4 a4 b7 b6;conv=>arg 2;unfold gK;whnf
 have F:=a3.cell;have J:=a3.frozen;clear a3;refine vg ?_;intro K hK K hK;rw [←W];clear F J;refine cG [0,5,8,101,102,103] fun f=>?_;refine C.o _ ?_ f _ (by kernel_rfl);intro f c1 w1 c8 b2 n1 z aC cT S P
 have b1:=Lh (show cI x.o (.start nm d) s=.ok (.start (cR x.o (dH d s.stk s.ns).2 nm true) (d.map (WC x.o (dH d s.stk s.ns).2)),
   { s with stk:={ kind:=0,space:=nm.1,loc:=nm.2,ok:=false }::(dH d s.stk s.ns).1,ns:=(dH d s.stk s.ns).2 }) from rfl)
 obtain ⟨g1,U⟩:∃ a,a=(dH d s.stk s.ns).1:=⟨_,rfl⟩;obtain ⟨p,R⟩:∃ a,a=(dH d s.stk s.ns).2:=⟨_,rfl⟩;rw [←U] at cT S b1 aC;rw [←R] at P b1 aC;have h5:w.heap.size<wt.heap.size:=by rw [W];show _<(w.heap.push _).size;rw [Array.size_push];omega
 have c4:∀ k,(k=x.d∨k∈m::(sb++fb))→k<w.heap.size:=fun k l=>by
  rcases l with l|l
  ·rw [l];exact X.o
  ·exact Y.o k l
 have h4:g<wt.heap.size:=HG.o.lt;have a2:=HT.o.mod z.mod (fun r=>Nat.lt_irrefl _ (c4 _ r));have e4:=HG.o.mod z.mod (fun r=>by
  rcases r with r|r
  ·exact M r
  ·exact N r)
 have f6:=Lh (zO x HX.o.toOk c1 w1 v z.dec (fun k l=>pL (d3.o.s1lt k l) z.mod.size) (fQ (fQ H.o.hB (fQ H.o.hBs dI.o.size)) z.mod.size) m c8 b2 n1 g1 p aC nm);have F:=a2.cell;have J:=a2.frozen;have ⟨hD,g3,d5,g8,d2,dT⟩:=gT a2 e4 z cT S P;have hX:=Lh c4;clear a2 e4 z aC cT S P C c4 W U R;(repeat revert K);refine vg ?_;intro K hK K hK K hK;refine f6.o.mono ?_;rintro e2 w2 ⟨rfl,c2,c9,b3,T,a0⟩;have y:=Lh (d5.o.trans T);have a8:∀ b,b∈m::(c8++b2)→b∈m::(sb++fb)∨wt.heap.size≤b:=d5.o.sub;have L:∀ k,(k=x.d∨k∈m::(c8++b2))→k≠w.heap.size∧k≠g:=by
  rintro k (l|l)
  ·rw [l];exact ⟨Nat.ne_of_lt X.o,fun e=>M e.symm⟩
  ·rcases a8 k l with o|o
   ·exact ⟨Nat.ne_of_lt (Y.o k o),fun e=>N (e▸o)⟩
   ·exact ⟨fun e=>by omega,fun e=>by omega⟩
 have c6:=hD.o.mod T.mod (fun r=>(L _ r).1 rfl);have e5:=g3.o.mod T.mod (fun r=>(L _ r).2 rfl);have hN:m<w.heap.size:=Y.o m List.mem_cons_self;obtain ⟨h6,h3,h2,E⟩:=y.o.cs;have a7:c2.space=⟨x.o.space.toArray⟩:=by rw [E];exact H.o.cfg.sp
 have g0:=Lh (qF x c2 w2 v T.dec m n1 p a0.map a0.ns a7 w.heap.size _ _ c6 (Nat.ne_of_gt X.o) (Nat.ne_of_gt hN) 0 nm rfl rfl (fQ HL.o.1 (by decide)) true);have ⟨d0,g4,h0⟩:=kV a0 e5 c6;clear f6 F J T a0 e5 c6 a8 L;(repeat revert K);refine vS ?_;intro K hK K hK K hK;refine g0.o.mono ?_;rintro e3 w3 ⟨rfl,O,d9,hU⟩;have u:aL w3 w.heap.size #[aB (cR x.o p nm true).1,aB nm.2,.slice (some ⟨g,0,none⟩) d.length j] 101:=d9;have V:g≠w.heap.size:=Nat.ne_of_lt g6.o;have b5:bR w3 x.d c2 v:=aL.mod y.o.dec O (Nat.ne_of_lt X.o);have hM:g≠m:=fun e=>N (by rw [e];exact List.mem_cons_self);have e7:=g4.o.mod O V;have a1:mC x w3 c2 v m c9 b3 n1 _ p:=d0.o.mod O (fun b hb he=>by
  rcases y.o.sub b hb with o|o
  ·exact Nat.lt_irrefl _ (he▸Y.o b o)
  ·omega) d0.o.s1
 have d7:=Lh (fun Q hQ f c1 e=>SL x HX.o.toOk c2 w3 v b5 m n1 p a1.map a1.ns a7 d (fun a ha=>(k3 a ha).mono HX.o.len) HL.o.2.2 w.heap.size g j ((cR x.o p nm true).1,nm.2) q e7 G ⟨M,hM,V⟩ u Q hQ f c1 e);have F:=u.cell;have J:=u.frozen;have ⟨hE,g7,g2,d1⟩:=kS u O b5 a1;clear g0 d9 hU u O b5 e7 a1;(repeat revert K);refine vS ?_;intro K hK K hK;refine cG [0,5,8,176,177] fun f=>?_;refine d7.o _ ?_ f _ (by kernel_rfl);intro f w4 d8 b9 e8 a9 I;have c7:=hE.o.mod b9 (fun e=>V e.symm);have hV:=c7.cell;have hW:=c7.frozen;have ⟨bC,g5,d6,bA⟩:=kS b9 e8 a9 I;clear c7 b9 e8 a9 I d7 F J;(repeat revert K);refine vg ?_;refine Qk [2,3] fun f=>?_;refine HQ.o f _ _ _ ?_;rw [b1.o];have gB:nm.2=(cR x.o p nm true).2:=(x3 _ _ _ _).symm;have hT:(Value.iface 101 (.agg #[aB (cR x.o p nm true).1,aB nm.2,.slice (some ⟨g,0,none⟩) d.length j]))=Am (cR x.o p nm true) (.slice (some ⟨g,0,none⟩) d.length j):=by
  show _=Value.iface _ (.agg #[aB (cR x.o p nm true).1,aB (cR x.o p nm true).2,.slice (some ⟨g,0,none⟩) d.length j]);rw [←gB]
 rw [hT];obtain ⟨r1,r2,r3,r4,r5⟩:=d4.o;have f2:aJ (fun b=>(b=x.d∨b∈m::(sb++fb))∨b=w.heap.size∨b=g) wt w4:=by
  refine (y.o.mod.mono (fun _ _ l=>aG l)).trans ((g7.o.mono (fun _ _ l=>aU (aG l))).trans (bC.o.mono (fun _ _ l=>aU (aU l))) (fun _ _ l=>l)) (fun _ _ l=>l)
 have hG:bR w4 x.d c2 v:=aL.mod g2.o bC.o (fun e=>M e.symm);have e6:g∉m::(c9++b3):=fun r=>by
  rcases y.o.sub g r with o|o
  ·exact N o
  ·omega
 have hO:=d1.o.mod bC.o (fun b hb he=>e6 (he▸hb)) d1.o.s1;have f7:cA x c2 w4 v s.rest none b0:=d3.o.own HX.o.toOk hG f2 (fun k l=>by
  rcases l with (l|l)|l|l
  ·exact aG l
  ·exact aU ⟨H.o.own.s1 k l,H.o.own.base k l⟩
  ·rw [l];exact aU ⟨g9.o,fQ H.o.hB H.o.hBs⟩
  ·rw [l];exact aU ⟨hA.o,fQ H.o.hB r1⟩)
 have A:=y.o.same;refine ⟨rfl,c2,v,c9,b3,n1,⟨H.o.cfg.same A,⟨⟨none,b0,f7,fun r=>?_,fun r=>absurd rfl r⟩,?_,?_,H.o.rd.nb⟩,hO,?_,dT.o,H.o.tcl,?_,lA.none hC.o (by rw [A.next];exact hB.o)⟩,⟨B,_,rfl,by simp,?_⟩,?_,fun b hb=>?_,rfl,A.next⟩
 ·have o:s.ended=true:=r;rw [hJ] at o;cases o
 ·rw [E];exact H.o.rd.nc
 ·rw [E];exact H.o.rd.tc
 ·intro e he;rcases mF.1 he with rfl|he
  ·have:=HL.o;exact ⟨aG rfl,by simp only;omega,by simp only;omega⟩
  ·exact d2.o e he
 ·have h8:=g8.o;have o:n+s.stk.length+2*s.rest.length+2*qH s.next+2*(1+d.length)≤2*x.T.length:=H.o.bnd;simp only [f5];omega
 ·refine ⟨by rw [lM],aU ⟨g,j,d8,by simp,r1,g5.o,by simpa using r2,r3,by rw [d6.o,r4],by simpa using bA.o⟩⟩
 ·refine (dI.o.mono (fun _ _ h=>h.elim)).trans f2 (fun i hi hs=>?_);rcases hs with (hs|hs)|hs|hs
  ·exact aG hs
  ·exact aU (aG hs)
  ·omega
  ·exact aU (aU hs)
 ·rcases y.o.sub b hb with o|o
  ·exact aG o
  ·exact aU (by omega)
theorem S5:(prog.info? 67).map (fun i=>(i.zero,i.size,i.bytes))=some (some (.agg #[.string ⟨#[]⟩,.string ⟨#[]⟩,.string ⟨#[]⟩]),3,48):=by kernel_rfl
theorem GN (c:World) (b:Nat) (f:b≤c.heap.size) (v:Value) (acc:List cO) (w:acc.length≤1000000000) (h:c.ownsRow b 67 3 v acc.length (aN acc)) (a:cO) :
  ∃ v' e,(Builtin.append_ #[36,36] 36 #[v,.slice (some ⟨c.heap.size,0,none⟩) 1 1]).run prog (c.alloc (.cells #[aB a.1,aB a.2.1,aB a.2.2] 67))=.ok v' e ∧
   e.ownsRow b 67 3 v' (acc++[a]).length (aN (acc++[a]))∧(c.alloc (.cells #[aB a.1,aB a.2.1,aB a.2.2] 67)).grownBy e v.ownBlock∧(v'.ownBlock=v.ownBlock∨v'.ownBlock=some (c.heap.size+1)):=by
 obtain ⟨i,p,t,m,n⟩:=info_parts S5
 obtain ⟨v',e,s,r,o,g,d⟩:=run_append_own_at (P:=prog) (c.alloc (.cells #[aB a.1,aB a.2.1,aB a.2.2] 67)) b 36 36 67 i _ 3 48 underlying36 p t m n rfl (by omega) v acc.length (aN acc) (h.alloc _) ⟨c.heap.size,0,none⟩ 1 1 [aB a.1,aB a.2.1,aB a.2.2] rfl
  (by
   intro j u q;have f:=aL.new c #[aB a.1,aB a.2.1,aB a.2.2] 67;rw [show ((⟨c.heap.size,0,none⟩:Addr).add j)=⟨c.heap.size,j,none⟩ by cases j<;>simp [Addr.add],f.cell];simpa using q)
  (by
   intro u k;simp only [mF,y5,or_false] at k;rcases k with rfl|rfl|rfl<;>rfl)
  (by unfold maxLen;omega) (by omega) (by simp;omega)
 refine ⟨v',e,s,?_,o,by simpa using d⟩;have l:aN (acc++[a])=aN acc++[aB a.1,aB a.2.1,aB a.2.2]:=by simp [aN]
 rw [l,fP];exact r
theorem nT {w:World} {a:Nat} {e:TypeId} {b:Nat} {v:Value} {n:Nat} {i:List Value} (h:w.ownsRow a e b v n i):∃ c f d,v=.slice c f d:=by
 rcases h.2 with ⟨rfl,_⟩|⟨g,cap,cur,rfl,_⟩
 ·exact ⟨_,_,_,rfl⟩
 ·exact ⟨_,_,_,rfl⟩
structure S6 (w0:World) (nm:Bs×Bs) (e:Nat) (f h:Int) (g:Nat) (a:Array Value) (acc:List cO) (b:Option Addr) (d c:Nat) (w:World):Prop where
 below:Below w0.heap.size w0 w
 z:aL w w0.heap.size lV 38
 t5:aL w (w0.heap.size+1) #[.int .i64 1,aB nm.1,aB nm.2,.slice b d c,.string ⟨#[]⟩,.int .i64 e,.int .i64 f,.int .i64 h] 38
 src:aL w g a 103
 row:w.ownsRow w0.heap.size 67 3 (.slice b d c) acc.length (aN acc)
 rowS:∀ k,(Value.slice b d c).ownBlock=some k→k≠w0.heap.size∧k≠w0.heap.size+1
 sz:w0.heap.size+2≤w.heap.size
def ZC (w0:World) (nm:Bs×Bs) (e:Nat) (h j:Int) (g c:Nat) (d:Array Value) (b:List cO) (k:Nat) (a:Act) (w:World):Prop:=
 ∃ f i l n m,a=fr 104 f [(4,.pointer (some ⟨w0.heap.size,0,none⟩)),(5,.pointer (some ⟨w0.heap.size+1,0,none⟩)),(38,.slice (some ⟨g,0,none⟩) b.length c),(39,.int .i64 b.length),(40,.int .i64 (i:Nat))] ∧
  S6 w0 nm e h j g d (b.take i) l n m w∧k=b.length-i∧i≤b.length
theorem WO (w0 w:World) (nm:Bs×Bs) (i5:Nat) (i6 i7:Int) (g P:Nat) (s:Array Value) (b:List cO) (E:b.length≤1000000000) (hg:g<w0.heap.size) (D:s.toList.take (b.length*3)=aN b) (h:S6 w0 nm i5 i6 i7 g s [] none 0 0 w) (Q:Exit→Act→World→Prop)
  (hQ:∀ f w' H L I,S6 w0 nm i5 i6 i7 g s b H L I w'→Q .normal (fr 104 f [(4,.pointer (some ⟨w0.heap.size,0,none⟩)),(5,.pointer (some ⟨w0.heap.size+1,0,none⟩))]) w') (f:Nat→Value) (c1:Code) (a8:c1=.loop (iD 8)) :
  c1.wp prog (Exit.inBlock 1 Q) (fr 104 f [(4,.pointer (some ⟨w0.heap.size,0,none⟩)),(5,.pointer (some ⟨w0.heap.size+1,0,none⟩)),(38,.slice (some ⟨g,0,none⟩) b.length P),(39,.int .i64 b.length),(40,.int .i64 0)]) w:=by
 subst a8;have ⟨HQ,C,M,O⟩:=kS hQ E D hg;refine wp_loop_ghost_k (ZC w0 nm i5 i6 i7 g P s b) b.length ⟨f,0,none,0,0,rfl,by simpa using h,by simp,jU _⟩ ?_;clear hQ E D hg h;rintro k _ w ⟨f,i,H,L,I,rfl,hs,d,hi⟩ J K2 hJ R;have ⟨HJ,a2,c,HK⟩:=kS hJ R hs d;clear hJ R hs d;unfold iD;conv=>arg 2;whnf
 by_cases Z:i<b.length
 ·have h1:(i:Int)<(b.length:Int):=by omega
  have h0:(0:Int)≤(i:Int):=by omega
  have b7:IntKind.i64.wrap ((i:Int)+1)=((i+1:Nat):Int):=by rw [IntKind.wrap_i64];have:=C.o;omega
  obtain ⟨a,ha⟩:∃ a,b[i]?=some a:=⟨b[i],by simp [Z]⟩;obtain ⟨k1,k2,k3⟩:=s8 M.o ha;have V:w.cell? ⟨g,i*3,none⟩=some (aB a.1):=(c.o.src.cell _).trans k1;have W:w.cell? ⟨g,i*3+1,none⟩=some (aB a.2.1):=(c.o.src.cell _).trans k2;have X:w.cell? ⟨g,i*3+2,none⟩=some (aB a.2.2):=(c.o.src.cell _).trans k3;have o:b.take (i+1)=b.take i++[a]:=by rw [List.take_succ,ha];rfl
  have b2:(b.take i).length=i:=by simp;omega
  obtain ⟨B,x⟩:=cK (w.alloc (.cells #[aB a.1,aB a.2.1,aB a.2.2] 103));have U:Below w.heap.size w B:=by rw [x];exact (Below.refl _ w).alloc (dF _) _
  have j:aJ (fun _=>False) w B:=aH U _;have u:aL B w.heap.size #[aB a.1,aB a.2.1,aB a.2.2] 103:=by rw [x];exact aL.new w _ _
  have aC:w.heap.size<B.heap.size:=u.lt;have v:=c.o.t5.mod j id;have a0:=c.o.z.mod j id;obtain ⟨b5,w4,F,n,Y,e⟩:=GN B w0.heap.size (by have:=c.o.sz;omega) (.slice H L I) (b.take i) (by have:=C.o;omega) (aE c.o.row j (fun _ _=>id)) a;obtain ⟨y,A,z,rfl⟩:=nT n;have bA:=u.cell;have b0:=u.frozen;have a9:=v.cell;have bC:=v.frozen;have ⟨N,HO,a3,q,a5,a7⟩:=gT Y n e j v a0;have ⟨a6,a4⟩:=cB o aC;clear k1 k2 k3 ha Y n e j U u v a0 o b2 aC;(repeat ((fail_if_success with_reducible refine s7 10 ?_);(first|(with_reducible first|refine zA fun K hK=>?_|refine zB ?_|refine zC ?_)|((with_reducible first|refine zD rfl fun K hK=>?_|refine zE fun K hK=>?_);go_simp)|(with_reducible first|((repeat ((fail_if_success refine hK _ _ ?_);clear hK K));refine hK _ _ ?_;clear hK K)|refine zt ?_|refine zf ?_|refine zG ?_|refine zR ?_|refine zK ?_|refine zL ?_|refine zN ?_|refine zS ?_)|simp only [Exit.then,Exit.inBlock,Exit.noGoto,↓reduceIte,Nat.reduceEqDiff]|simp only [undef,reduceCtorEq,↓reduceIte])));rw [show w.alloc (.cells #[.string ⟨List.toArray a.1⟩,.string ⟨List.toArray a.2.1⟩,.string ⟨List.toArray a.2.2⟩] 103)=B from x.symm];clear x V W X;revert K;refine vB ?_;intro K hK;refine eP rfl (.tmp 45) (.tmp 55) _ _ rfl _ _ _ (by rw [bU (by decide)];(try simp only [aK,aO,aR,aW,Nat.reduceEqDiff,↓reduceIte]);(try rfl)) (by rw [bU (by decide)];(try simp only [aK,aO,aR,aW,Nat.reduceEqDiff,↓reduceIte]);(try rfl)) F ?_;clear F;rw [fG (by decide)];have G:aJ (fun k=>(Value.slice H L I).ownBlock=some k) B w4:=(aH ((Below.refl _ B).alloc (dF _) _) _).trans (S':=fun k=>(Value.slice H L I).ownBlock=some k) ⟨N.o.os,N.o.tape,N.o.output,N.o.size,fun k d hn=>N.o.block k d (fun l=>hn l.symm)⟩ (fun i _ hi=>hi);have t:=a5.o.mod G (fun l=>(c.o.rowS _ l).2 rfl);have b3:=t.cell;have b4:=t.frozen;have ⟨a1,r⟩:=cB t G;clear t G a9 bC bA b0;revert K;refine vg ?_;refine Kk [4,5,38,39,40] fun f=>?_;have T:∀ k,(Value.slice H L I).ownBlock=some k→w0.heap.size≤k:=fun k d=>(aS c.o.row d).2;have m:aJ (fun k=>k=w0.heap.size+1) w4 (w4.setCell ⟨w0.heap.size+1,3,none⟩ (.slice y A z)):=(aJ.refl (fun k=>k=w0.heap.size+1) w4).setCell (p:=⟨w0.heap.size+1,3,none⟩) (aG rfl) _;have aA:∀ k,(Value.slice y A z).ownBlock=some k→k≠w0.heap.size∧k≠w0.heap.size+1:=fun k d=>by
   rcases a3.o with e|e
   ·exact c.o.rowS k (e▸d)
   ·rw [e] at d;have b6:B.heap.size+1=k:=by simpa using d
    have:=c.o.sz;have:=a4.o;omega
  have S:Below w0.heap.size w0 w4:=aJ.below (aJ.below c.o.below c.o.below.size q.o (fun _ h=>h.elim)) (fQ c.o.below.size q.o.size) r.o T;refine a2.o _ _ ⟨b.length-(i+1),by rw [HK.o];omega,HJ.o _ _ _ ⟨f,i+1,y,A,z,rfl,?_,rfl,Z⟩⟩;rw [a6.o];refine ⟨aJ.below S S.size m (fun k d=>by omega),?_,?_,?_,aE HO.o m (fun k d l=>(aA k d).2 l),aA,?_⟩
  ·exact (a7.o.mod r.o (fun l=>(c.o.rowS _ l).1 rfl)).mod m (fun l=>by omega)
  ·exact a1.o.set 3 (.slice y A z)
  ·refine ((c.o.src.mod q.o id).mod r.o (fun l=>?_)).mod m (fun l=>?_)
   ·have:=T _ l;have:=O.o;omega
   ·have:=O.o;omega
  ·have:=c.o.sz;have:=q.o.size;have:=r.o.size;have:=m.size;omega
 ·have b1:i=b.length:=by omega
  subst b1;have h1:¬ ((b.length:Int)<(b.length:Int)):=by omega
  refine vg ?_;intro K hK;refine Qk [4,5] fun f=>?_;have h2:=c.o;rw [List.take_length] at h2;exact HQ.o f w H L I h2
theorem S7 {li co:Nat} (w0 w:World) (z:Nat) (A B:Int) (u:Below w0.heap.size w0 w) (L:w0.heap.size+2≤w.heap.size) (hz:aL w w0.heap.size lV 38) (X:aL w (w0.heap.size+1) #[.int .i64 0,.string ⟨#[]⟩,.string ⟨#[]⟩,.slice none 0 0,.string ⟨#[]⟩,.int .i64 z,.int .i64 A,.int .i64 B] 38)
  (nm:Bs×Bs) (c:List cO) (t:c.length≤1000000000) (g m:Nat) (i:Array Value) (hg:g<w0.heap.size) (I:aL w g i 103) (r:i.toList.take (c.length*3)=aN c) (f:Nat→Value) :
  (iD 3).wp prog (qJ (x5 w0 ⟨1,nm.1,nm.2,c,[],z,li,co⟩ A B)) (fr 104 f [(0,Am nm (.slice (some ⟨g,0,none⟩) c.length m)),(4,.pointer (some ⟨w0.heap.size,0,none⟩)),(5,.pointer (some ⟨w0.heap.size+1,0,none⟩))]) w:=by
 have t0:=fun a b s w=>OY a b s w;have V:w.heap.size≠w0.heap.size+1:=by omega
 have aA:w0.heap.size+1≠w.heap.size:=by omega
 obtain ⟨l,q⟩:=cK (w.alloc (.cells #[aB nm.1,aB nm.2,.slice (some ⟨g,0,none⟩) c.length m] 101));have d:Below w.heap.size w l:=by rw [q];exact (Below.refl _ w).alloc (dF _) _
 have v:aL l w.heap.size #[aB nm.1,aB nm.2,.slice (some ⟨g,0,none⟩) c.length m] 101:=by rw [q];exact aL.new w _ _
 have n:aL l (w0.heap.size+1) _ _:=aL.mod (S:=fun _=>False) X (aH d _) id;have N:aL l w0.heap.size _ _:=aL.mod (S:=fun _=>False) hz (aH d _) id;have H:aL l g i _:=aL.mod (S:=fun _=>False) I (aH d _) id;have ⟨HB,HZ,HG,P⟩:=kS n N H v;have W:=Lh (u.trans (d.mono u.size));have R:=Lh (show w0.heap.size+2≤l.heap.size from fQ L d.size);have ⟨D,C⟩:=cB t r;have T:w0.heap.size≠w0.heap.size+1:=by omega
 have hc:=n.cell;have hf:=n.frozen;have U:=v.cell;clear u hz X v d n N H I L t r;conv=>arg 2;unfold iD;whnf
 refine vg ?_;intro K hK K hK;rw [←q];clear q;refine cG [4,5,6] fun f=>?_
 go_region_held3 (fun w'=>w'.cell? ⟨w.heap.size,0,none⟩=some (aB nm.1)∧w'.cell? ⟨w.heap.size,1,none⟩=some (aB nm.2))
  (go_keep)
  (fail)
 obtain ⟨O,o⟩:=cK ((((l.setCell ⟨w0.heap.size+1,0,none⟩ (.int .i64 1)).setCell ⟨w0.heap.size+1,1,none⟩ (aB nm.1)).setCell ⟨w0.heap.size+1,2,none⟩ (aB nm.2)).drew);rw [show (((l.setCell ⟨w0.heap.size+1,0,none⟩ (.int .i64 1)).setCell ⟨w0.heap.size+1,1,none⟩ (.string ⟨List.toArray nm.1⟩)).setCell ⟨w0.heap.size+1,2,none⟩ (.string ⟨List.toArray nm.2⟩)).drew=O from o.symm];have h:aJ (fun k=>k=w0.heap.size+1) l O:=by
  rw [o];exact ((((aJ.refl (fun k=>k=w0.heap.size+1) l).setCell (p:=⟨w0.heap.size+1,0,none⟩) (aG rfl) _).setCell (p:=⟨w0.heap.size+1,1,none⟩) (aG rfl) _).setCell (p:=⟨w0.heap.size+1,2,none⟩) (aG rfl) _).drewN 1
 have M:aL O (w0.heap.size+1) #[.int .i64 1,aB nm.1,aB nm.2,.slice none 0 0,.string ⟨#[]⟩,.int .i64 z,.int .i64 A,.int .i64 B] 38:=by
  rw [o];exact ((((show aL l (w0.heap.size+1) _ _ from HB.o).set 0 (.int .i64 1)).set 1 (aB nm.1)).set 2 (aB nm.2)).drew
 have j:=P.o.mod h V;have J:S6 w0 nm z A B g i [] none 0 0 O:=⟨aJ.below W.o W.o.size h (fun k y=>by omega),HZ.o.mod h T,M,HG.o.mod h (by omega),AN _ _,fun k y=>(by cases y),(by have:=R.o;have:=h.size;omega)⟩;have E:=Lh (fun Q hQ f c1 e=>WO w0 O nm z A B g m i c D.o hg C.o J Q hQ f c1 e);have F:=j.cell;have G:=j.frozen;clear j M J o hc hf U h;(repeat revert K);refine vg ?_;intro K hK;refine cG [4,5,38,39,40] fun f=>?_;refine E.o _ ?_ f _ (by kernel_rfl);intro f w' sa sl sc Z;have x:=Lh Z;clear Z E F G;revert K;refine vT 27 ?_;refine Kk [4,5] fun f=>?_;refine bB (AM _ w0.heap.size 1 nm.1 nm.2 [] sa sl sc z A B x.o.z x.o.t5 _ (fun w' Y=>⟨⟨sa,sl,sc,rfl,?_⟩,?_⟩) f) (by kernel_rfl)
 ·exact aE x.o.row Y (fun k y he=>(x.o.rowS k y).1 he)
 ·exact aJ.below x.o.below x.o.below.size Y (fun k y=>by rw [y];exact dF _)
theorem JF {x:Cx} (q:x.Ok) (h:∃ cs t,aL x.W0 x.eofA.block cs t) {k:EK} {e:Value} {w:World} (v:Below x.B x.W0 w) (b:wZ x e (some k)) (y:kL w e k) :
  (binOp .eql 59 e x.eofV).run prog w=.ok (.bool (decide (k=.eof))) w:=by
 cases k with
 | eof=>rw [show e=x.eofV from b];exact BJ _ w
 | own=>rw [show e=y6 from b];exact BK _ _ w
 | syn=>obtain ⟨a,b⟩:=b;rw [b];exact RC _ _ w
 | other=>
  obtain ⟨a,o,r⟩:=b;obtain ⟨A,cs,t,g,s⟩:=y rfl;rw [o] at g;simp only [Value.iface.injEq,Value.pointer.injEq,jW,true_and] at g;subst g;obtain ⟨f,z,p⟩:=h;have u:aL w x.eofA.block f z:=by
   unfold aL at p ⊢;rw [←p];exact v.block _ q.eofL
  rw [o];have c:=rP;have d:=IJ;cases l:prog.info? 196 with
  | none=>rw [l] at c;cases c
  | some i=>
   cases m:prog.info? 198 with
   | none=>rw [m] at d;cases d
   | some j=>
    rw [l] at c;rw [m] at d;have n:a≠x.eofA:=fun e=>by rw [e] at r;have:=q.eofL;omega
    refine run_eql_iface_ptr_other w underlying59 underlying196 l (by simpa using c) m ?_ n s u;have:j.size=1:=by simpa using d
    omega
theorem mC.same {x:Cx} {w:World} {c b:DC} {v:DV} {m:Nat} {f d:List Nat} {n:Nat} {a:List iH} {e:Bs→Option Bs} (h:mC x w c v m f d n a e) (g:qE c b):mC x w b v m f d n a e:=by
 obtain ⟨_,_,_,rfl⟩:=g;exact ⟨h.stk,h.free,h.map,h.ns,h.nodup,h.base,h.s1⟩
theorem mC.next {x:Cx} {w:World} {c:DC} {v:DV} {m:Nat} {e b:List Nat} {n:Nat} {a:List iH} {d:Bs→Option Bs} (h:mC x w c v m e b n a d) (u:Value):mC x w { c with nextTok:=u } v m e b n a d:=
 ⟨h.stk,h.free,h.map,h.ns,h.nodup,h.base,h.s1⟩
theorem vH.nextTok {x:Cx} {c:DC} (h:vH x c) (u:Value):vH x { c with nextTok:=u }:=⟨⟨h.dc.r,h.dc.strict⟩,⟨h.no.ent,h.no.ents⟩,h.sp,h.auto⟩
theorem TS.raw {x:Cx} (X:x.All) {c:DC} {w:World} {v:DV} {s:St} {m:Nat} {Q J:List Nat} {n:Nat} (h:TS x c w v s m Q J n) (k:s.next=none) {o:aP} {l:St} (M:fK x.o s=.ok (o,l)) {y:DC} {w1:World} {u:DV} (N:cN x w v w1 u) (C:qE c y) (q:B5 x y w1 u l) {t:Value} (j:iB w1 u.bufv w.heap.size t o)
  (H:(∀ d,o≠.text d)→l.ended=false∧∃ b,cA x y w1 u l.rest none b):pE x y w1 u l m Q J n w.heap.size t o∧l.next=none∧zM x.T.length o:=by
 obtain ⟨V,b0,A,_,_⟩:=h.rd.rd;have p:s.rest.length≤x.T.length:=A.suf.length_le;obtain ⟨Y,I,O,S,Z,k6,T⟩:=jZ M;obtain ⟨P,U⟩:=I2 h.cfg.no.ents M p h.tcl;have D:c.nextTok=.nilIface:=by
  have a:=h.nxt;unfold lA at a;rw [k] at a;exact a
 have e:l.next=none:=S.trans k;obtain ⟨W,b1,B,_,_⟩:=q.rd;refine ⟨⟨h.cfg.same C.toD,q,?_,by rw [I];exact h.sok,by rw [O];exact h.nok,U,aG P,?_,j,A.base.size,N.mod.size,fun g i=>?_,fun f=>aG (H f),lA.none e (by rw [C.toD.next];exact D)⟩,e,P⟩
 ·rw [I,O];exact (h.own.step N).same C
 ·have a:=h.bnd;rw [k] at a;rw [I,e];rcases T with ⟨nm,_,rfl,rfl⟩|⟨_,L,_⟩
  ·simp only [qH] at a ⊢;omega
  ·cases o with
   | start nm ats=>simp only [aP.wt] at L;simp only [qH] at a ⊢;omega
   | _=>simp only [aP.wt] at L;simp only [qH] at a ⊢;omega
 ·have R:=(j.lt i).1;refine ⟨fun F=>by have:=h.own.lt g F;omega,?_⟩;cases o with
  | start nm ats=>
   obtain ⟨z,rfl,G,r⟩:=j;rcases r.2 with a|⟨g',cap,cur,rfl,_,E,_⟩
   ·exact absurd (a.2▸a.1) G
   ·have a:g=g':=i;subst a;exact B.notRow E (fun F=>by have:=A.s0lt g F;omega)
  | fin nm=>rw [show t=KW nm from j] at i;exact i.elim
  | text d=>obtain ⟨z,rfl,f⟩:=j;obtain ⟨_,_,_,rfl⟩:=f.slice;exact i.elim
  | comment d=>obtain ⟨z,rfl,f⟩:=j;obtain ⟨_,_,_,rfl⟩:=f.slice;exact i.elim
  | dir d=>obtain ⟨z,rfl,f⟩:=j;obtain ⟨_,_,_,rfl⟩:=f.slice;exact i.elim
  | proc tg d=>obtain ⟨z,rfl,f⟩:=j;exact i.elim
theorem pE.below {x:Cx} (j:x.Ok) {c:DC} {w w':World} {v:DV} {s:St} {m:Nat} {k i:List Nat} {n B:Nat} {o:Value} {l:aP} (h:pE x c w v s m k i n B o l) (a:Below w.heap.size w w'):pE x c w' v s m k i n B o l:=by
 obtain ⟨e,b,p,d,f⟩:=h.rd.rd;have g:aJ (fun _=>False) w w':=aH a _
 exact ⟨h.cfg,⟨⟨e,b,p.below j a,d,f⟩,h.rd.nc,h.rd.tc,h.rd.nb⟩,h.own.mod g (fun _ _=>id) h.own.s1,h.sok,h.nok,h.tcl,h.le,h.bnd,h.tok.mod g (fun _ _=>id) (fun _ _=>id),h.hB,fQ h.hBs a.size,h.tkd,
  fun q=>(h.nt q).imp (fun ⟨d,b,f⟩=>⟨d,b,f.below j a⟩) id,h.nxt.step g (fun _ _=>id) (fun _ _=>id) rfl rfl rfl (fun b a=>aG a)⟩
def mX (o:cV) (a:aP) (s:St):Except EK (aP×St):=
 if o.strict then cI o a s
 else match jY bZ o a s with
  | none=>cI o a s
  | some nm=>cI o (.fin nm) { s with next:=some a }
theorem LM {o:cV} {s:St} {t:aP} (h:s.next=some t):jT bZ o s=mX o t { s with next:=none }:=by
 unfold jT mX;rw [h];rfl
theorem O9 {o:cV} {s:St} (h:s.next=none):jT bZ o s=match fK o s with|.error e=>.error (if e=.eof∧s.stk≠[] then .syn else e)|.ok (t,s')=>mX o t s':=by
 unfold jT mX;rw [h];cases fK o s with
 | error e=>rfl
 | ok p=>rfl
theorem GO {o:cV} {d:aP} {s:St} {nm:Bs×Bs} (h:jY bZ o d s=some nm):∃ e a,s.stk=e::a∧e.kind=0∧nm=(e.space,e.loc):=by
 unfold jY at h;split at h
 ·cases h
 ·rename_i e a c;split at h
  ·cases h
  ·rename_i b;split at h
   ·split at h
    ·split at h
     ·cases h
     ·exact ⟨e,a,c,by simpa using b,by simpa using h.symm⟩
    ·exact ⟨e,a,c,by simpa using b,by simpa using h.symm⟩
   ·cases h
def pA (x:Cx) (w:World) (v:DV) (R:Except EK (aP×St)) (m:Nat) (f d:List Nat) (i:Value) (t e:Value) (w':World):Prop:=
 match R with
 | .error k=>t=.nilIface∧wZ x e (some k)∧Below x.B x.W0 w'∧kL w' e k∧aJ (fun b=>x.S1 v b∨b∈m::(f++d)) w w'
 | .ok (tk,s')=>e=.nilIface∧∃ h v' c a j,TS x h w' v' s' m c a j∧(∃ B,iB w' v'.bufv B t tk)∧aJ (fun b=>b=x.d∨b∈m::(f++d)∨dM i b) w w' ∧
   (∀ b∈m::(c++a),b∈m::(f++d)∨w.heap.size≤b)∧v'.bufv=v.bufv∧∀ g,dM h.nextTok g→dM i g
theorem D8 (x:Cx) (E:x.All) (a0:x.o.auto=[]) (c:DC) (w:World) (v:DV) (s:St) (m:Nat) (y u:List Nat) (n B:Nat) (a:Value) (o:aP) (h:pE x c w v s m y u n B a o) (L:s.next=none) (V:zM x.T.length o) (a2:(∀ d,o≠.text d)→s.ended=false∧v.err=.nilIface) (Q:Exit→Act→World→Prop)
  (hQ:∀ f w' t e,pA x w v (mX x.o o s) m y u a t e w'→Q .ret (fr 204 f [(2,t),(3,e)]) w') (f:Nat→Value):(gK 14).wp prog Q (fr 204 f [(0,bT x),(4,a),(5,.nilIface)]) w:=by
 obtain ⟨e0,b0,hR,a8,a9⟩:=h.rd.rd;have aC:c.nextTok=.nilIface:=by
  have l:=h.nxt;unfold lA at l;rw [L] at l;exact l
 refine Au x E.toOk a0 c h.cfg.auto h.cfg.dc.strict w hR.base v hR.dec s h.own.stk h.sok v.bufv B a o h.tok (fun nm C=>?_) Q (fun a1 f w' A=>?_) (fun nm a5 T f w' A=>?_) f
 ·subst C;have:=E.len;have l:nm.1.length≤x.T.length∧nm.2.length≤x.T.length:=V;omega
 ·
  have j:=h.below E.toOk A;have M:mX x.o o s=cI x.o o s:=by
   unfold mX;rcases a1 with l|l
   ·rw [aY l]
   ·rw [l];split<;>rfl
  have q:∀ f r P e,sF x w' v c (cI x.o o s) m y u a P e r→Q .ret (fr 204 f [(2,P),(3,e)]) r:=by
   intro f r P e z;refine hQ f r P e ?_;rw [M];unfold pA;unfold sF at z;cases Y:cI x.o o s with
   | error k=>
    rw [Y] at z;obtain ⟨p1,p2,p3,p4,p5⟩:=z;exact ⟨p1,p2,p3,p4,(aH A _).trans p5 (fun _ _ i=>i)⟩
   | ok p=>
    obtain ⟨a7,s2⟩:=p;rw [Y] at z;obtain ⟨C,c2,v2,N,G,n2,g1,g2,g3,g4,g5,g6⟩:=z;refine ⟨C,c2,v2,N,G,n2,g1,g2,(aH A _).trans g3 (fun _ _ i=>i),fun b I=>?_,g5,fun g D=>?_⟩
    ·rcases g4 b I with l|l
     ·exact aG l
     ·exact aU (fQ A.size l)
    ·rw [g6,aC] at D;exact D.elim
  cases o with
  | start nm ats=>exact S4 x E c w' v s m y u n B a nm ats j L _ q f
  | fin nm=>exact UV x E c w' v s m y u n B a nm j _ q f
  | text d=>exact wI x c w' v s m y u n B a _ j (by simp) (by simp) _ q f
  | comment d=>exact wI x c w' v s m y u n B a _ j (by simp) (by simp) _ q f
  | dir d=>exact wI x c w' v s m y u n B a _ j (by simp) (by simp) _ q f
  | proc tg d=>exact wI x c w' v s m y u n B a _ j (by simp) (by simp) _ q f
 ·
  obtain ⟨e1,F,q1,q2,q3⟩:=GO T;have j:=h.below E.toOk A;obtain ⟨aA,Z,H,R,S⟩:=j.rd.rd;have O:aJ (fun k=>k=x.d) w' (w'.setCell ⟨x.d,17,none⟩ a):=(aJ.refl (fun k=>k=x.d) w').setCell (p:=⟨x.d,17,none⟩) (aG rfl) _;have hd:bR (w'.setCell ⟨x.d,17,none⟩ a) x.d { c with nextTok:=a } v:=(show aL w' x.d _ _ from H.dec).set 17 a;have U:∀ k,dU v.bufv k→¬ k=x.d:=fun k i=>(H.bufFar j.own i).1;have a6:∀ g,dM a g→¬ g=x.d:=fun g D C=>(h.tkd g D).2 (C▸aG (aG rfl));have a4:B5 x { c with nextTok:=a } (w'.setCell ⟨x.d,17,none⟩ a) v { s with next:=some o }:=⟨⟨aA,Z,H.turn E.toOk hd O,R,S⟩,j.rd.nc,j.rd.tc,j.rd.nb⟩;have W:=(j.own.mod O (fun b A C=>j.own.s1 b A (C▸aG (aG rfl))) j.own.s1).next a;have a3:lA x (w'.setCell ⟨x.d,17,none⟩ a) v { c with nextTok:=a } { s with next:=some o } (m::(y++u)):=by
   unfold lA;exact ⟨B,h.hB,fQ j.hBs O.size,j.tok.mod O U a6,V,h.tkd,a2⟩
  have X:pE x { c with nextTok:=a } (w'.setCell ⟨x.d,17,none⟩ a) v { s with next:=some o } m y u n B (KW nm) (.fin nm):=
   ⟨h.cfg.nextTok a,a4,W,h.sok,h.nok,h.tcl,aU ⟨nm,e1,F,rfl,q1,q2,q3⟩,by have:=h.bnd;rw [L] at this;simp only [qH] at this ⊢;omega,rfl,h.hB,fQ j.hBs O.size,fun g D=>D.elim,fun _=>aU ⟨nm,e1,F,rfl,q1,q2,q3⟩,a3⟩
  refine UV x E _ _ v _ m y u n B (KW nm) nm X Q (fun f r P e z=>hQ f r P e ?_) f;have M:mX x.o o s=cI x.o (.fin nm) { s with next:=some o }:=by
   unfold mX;rw [aQ (by rw [a5];simp),T]
  rw [M];unfold pA;unfold sF at z;have J:aJ (fun k=>k=x.d) w (w'.setCell ⟨x.d,17,none⟩ a):=(aH A _).trans O (fun _ _ i=>i);cases Y:cI x.o (.fin nm) { s with next:=some o } with
  | error k=>
   rw [Y] at z;obtain ⟨p1,p2,p3,p4,p5⟩:=z;exact ⟨p1,p2,p3,p4,(J.mono (fun _ _ i=>i▸aG (aG (aG rfl)))).trans p5 (fun _ _ i=>i)⟩
  | ok p=>
   obtain ⟨a7,s2⟩:=p;rw [Y] at z;obtain ⟨C,c2,v2,N,G,n2,g1,g2,g3,g4,g5,g6⟩:=z;refine ⟨C,c2,v2,N,G,n2,g1,g2,(J.mono (fun _ _ i=>aG i)).trans g3 (fun _ _ i=>?_),fun b I=>?_,g5,fun g D=>?_⟩
   ·rcases i with i|i|i
    ·exact aG i
    ·exact aU (aG i)
    ·exact i.elim
   ·rcases g4 b I with l|l
    ·exact aG l
    ·exact aU (fQ J.size l)
   ·rw [g6] at D;exact D
theorem pA.tk {x:Cx} {w w1:World} {v u:DV} {c:DC} {R:Except EK (aP×St)} {m:Nat} {r q:List Nat} {s t e:Value} {w':World} (h:pA x w1 u R m r q s t e w') (j:cN x w v w1 u) (l:∀ g,dM s g→w.heap.size≤g):lU x w v c R m r q t e w':=by
 unfold lU;unfold pA at h;cases R with
 | error k=>
  obtain ⟨I,J,L,M,N⟩:=h;exact ⟨I,J,L,M,(j.mod.mono (fun _ _ a=>aG a)).trans N (fun i G a=>by
   rcases a with a|a
   ·rcases a with a|a
    ·exact aG (aG a)
    ·rcases j.buf i a with d|d
     ·exact aG (aU d)
     ·omega
   ·exact aU (aG a))⟩
 | ok p=>
  obtain ⟨O,Q⟩:=p;obtain ⟨E,y,P,o,n,H,g1,z,A,B,C,D⟩:=h;refine ⟨E,y,P,o,n,H,g1,z,?_,fun b f=>?_,fun b f=>?_,fun g F=>aU (l g (D g F))⟩
  ·refine (j.mod.mono (fun _ _ a=>aG a)).trans A (fun i G a=>?_);rcases a with a|a|a
   ·exact aG (aG (aG a))
   ·exact aU (aG a)
   ·have:=l i a;omega
  ·rcases B b f with d|d
   ·exact aG d
   ·exact aU (fQ j.mod.size d)
  ·rcases f with f|f
   ·exact aG (aG f)
   ·rw [C] at f;rcases j.buf b f with d|d
    ·exact aG (aU d)
    ·exact aU d
theorem WP (x:Cx) (hx:x.All) (T:kK x.W0) (B:3<x.B) (V:x.o.auto=[]) (U:∃ cs t,aL x.W0 x.eofA.block cs t) (c:DC) (w:World) (v:DV) (s:St) (m:Nat) (sb fb:List Nat) (n:Nat) (h:TS x c w v s m sb fb n) (z:s.next=none) (Q:Exit→Act→World→Prop)
  (hQ:∀ f w' t e,lU x w v c (jT bZ x.o s) m sb fb t e w'→Q .ret (fr 204 f [(2,t),(3,e)]) w') (f:Nat→Value):(gK 5).wp prog Q (fr 204 f [(0,bT x),(5,.nilIface)]) w:=by
 obtain ⟨e0,b0,hR,_,_⟩:=h.rd.rd;have G:=Lh (OJ x hx T B c h.cfg.dc h.cfg.no w v s h.rd);have hc:=hR.dec.cell;have hf:=hR.dec.frozen;have a7:c.nextTok=.nilIface:=by
  have h9:=h.nxt;unfold lA at h9;rw [z] at h9;exact h9
 have q1:=fun w=>N8 w;have q2:=fun w=>N9 w;have q3:=fun w=>I0 w;have q4:=fun w=>B0 w;have W:=hx.gB;have C:x.W0.cell? ⟨0,0,none⟩=some x.eofV:=hx.eof;have ⟨HX,a0⟩:=cB hx U;have R:=Lh (show ∀ w',Below x.B x.W0 w'→w'.cell? ⟨0,0,none⟩=some x.eofV from fun w' hb=>by rw [←C];exact hb.cell W);have ⟨HR,H,a1,a4,HQ⟩:=pM hR h V z hQ;have S:=Lh (O9 (o:=x.o) z);have L:=Lh (h.own.stk.head h.sok);clear h hR hx U T B C W V z hQ;conv=>arg 2;unfold gK;whnf
 refine vg ?_;intro K hK K hK K hK K hK;refine G.o.mono ?_;rintro e1 w1 ⟨t,e,rfl,F⟩;clear G hc hf a7;cases a:fK x.o s with
 | error k=>
  unfold cU at F;rw [a] at F;obtain ⟨v1,r,rfl,rfl,A,hO⟩:=F;obtain ⟨t1,u1,P⟩:=A.err.iface;have hq:=JF HX.o.toOk a0.o A.base A.err hO;have b4:=R.o w1 A.base;rw [P] at hq ⊢;have ⟨HU,i⟩:=cB P r;have b3:=A.dec.cell;have b5:=A.dec.frozen;have ⟨J,HO⟩:=cB A hO;have l:=Lh (show jT bZ x.o s=.error (if k=.eof∧s.stk≠[] then .syn else k) by rw [S.o,a]);clear A P hO a;by_cases j:k=.eof
  ·rw [decide_eq_true j] at hq;have M:=Lh j;clear j;rcases L.o with ⟨a8,y⟩|⟨q,en,l',nx,ok,a8,y,D,hb,Y⟩
   ·clear r;(repeat revert K);refine vS ?_;intro K hK K hK;refine Qk [2,3] fun f=>?_;refine HQ.o f _ _ _ ?_;rw [l.o,aQ (fun hh=>hh.2 y)];exact ⟨rfl,by rw [←HU.o];exact J.o.err,J.o.base,by rw [←HU.o];exact HO.o,i.o.mod.mono (fun _ _ D=>aG D)⟩
   ·have N:=(show aL w q _ _ from hb).mod r.mod (H.o.own.s1 q (by simp [Y]));have a6:=N.cell;have b6:=N.frozen;have a3:=Lh y;have a9:=Lh (fun bA=>BI x.d c v1 w1 J.o.dec bA);obtain ⟨ek,b2,bC,b1⟩:=en;simp only at D a6;clear hb Y y r N;rcases D with rfl|rfl
    all_goals
     (repeat revert K);refine vS ?_;intro K hK K hK K hK K hK;refine (a9.o _).mono ?_;rintro e2 w2 ⟨rfl,rfl⟩;(repeat revert K);refine vS ?_;intro K hK K hK;refine Qk [2,3] fun f=>?_;refine HQ.o f _ _ _ ?_;rw [l.o,aY ⟨M.o,by rw [a3.o];simp⟩];exact ⟨rfl,⟨_,rfl⟩,aJ.below J.o.base J.o.base.size (aH ((Below.refl _ w1).alloc (dF _) _) (fun _=>False)) (fun _ h=>h.elim),kL.no (by decide),(i.o.mod.mono (fun _ _ D=>aG D)).trans (aH ((Below.refl _ w1).alloc (dF _) _) (fun _=>False)) (fun _ _ h=>h.elim)⟩
  ·rw [decide_eq_false j] at hq;have M:=Lh j;clear j r;(repeat revert K);refine vS ?_;intro K hK K hK;refine Qk [2,3] fun f=>?_;refine HQ.o f _ _ _ ?_;rw [l.o,aQ (fun hh=>M.o hh.1)];exact ⟨rfl,by rw [←HU.o];exact J.o.err,J.o.base,by rw [←HU.o];exact HO.o,i.o.mod.mono (fun _ _ D=>aG D)⟩
 | ok p=>
  obtain ⟨tk,s1⟩:=p;unfold cU at F;rw [a] at F;obtain ⟨v1,c1,r,rfl,aA,Z,ht,O⟩:=F;obtain ⟨aC,I,X⟩:=H.o.raw HX.o a4.o a r aA Z ht O;have E:(∀ d,tk≠.text d)→s1.ended=false∧v1.err=.nilIface:=fun hd=>by
   obtain ⟨h1,b,h2⟩:=O hd;exact ⟨h1,h2.err⟩
  have a2:=Lh (fun Q hQ f=>D8 x HX.o a1.o c1 w1 v1 s1 m sb fb n w.heap.size t tk aC I X E Q hQ f);have i:=Lh r;have a5:=Lh (show ∀ g,dM t g→w.heap.size≤g from fun g hg=>(ht.lt hg).1);have l:=Lh (show jT bZ x.o s=mX x.o tk s1 by rw [S.o,a]);obtain ⟨ty,u,rfl⟩:=ht.iface;clear r aA Z ht O a aC I X E;go_simp;(repeat revert K);refine vT 14 ?_;refine cG [0,4,5] fun f=>?_;refine bB (a2.o _ (fun f w' t' e F=>HQ.o f w' t' e ?_) f) (by kernel_rfl);rw [l.o];exact F.tk i.o a5.o
theorem S8 (x:Cx) (Y:x.All) (H:x.o.auto=[]) (c:DC) (w:World) (v:DV) (s:St) (m:Nat) (P L:List Nat) (n:Nat) (h:TS x c w v s m P L n) (R:aP) (j:s.next=some R) (Q:Exit→Act→World→Prop)
  (M:∀ f w' t e,lU x w v c (jT bZ x.o s) m P L t e w'→Q .ret (fr 204 f [(2,t),(3,e)]) w') (f:Nat→Value):(gK 5).wp prog Q (fr 204 f [(0,bT x),(5,.nilIface)]) w:=by
 obtain ⟨e0,b0,r,D,E⟩:=h.rd.rd;have z:=h.nxt;unfold lA at z;rw [j] at z;obtain ⟨B,n1,N,Z,n4,n5,O⟩:=z;have A:aJ (fun k=>k=x.d) w (w.setCell ⟨x.d,17,none⟩ .nilIface):=(aJ.refl (fun k=>k=x.d) w).setCell (p:=⟨x.d,17,none⟩) (aG rfl) _;have F:bR (w.setCell ⟨x.d,17,none⟩ .nilIface) x.d { c with nextTok:=.nilIface } v:=(show aL w x.d _ _ from r.dec).set 17 .nilIface;have l:∀ k,dU v.bufv k→¬ k=x.d:=fun k a=>(r.bufFar h.own a).1;have J:∀ g,dM c.nextTok g→¬ g=x.d:=fun g X G=>(n5 g X).2 (G▸aG (aG rfl));have y:=r.turn Y.toOk F A
 have q:pE x { c with nextTok:=.nilIface } (w.setCell ⟨x.d,17,none⟩ .nilIface) v { s with next:=none } m P L n B c.nextTok R:=
  ⟨h.cfg.nextTok _,⟨⟨e0,b0,y,D,E⟩,h.rd.nc,h.rd.tc,h.rd.nb⟩,(h.own.mod A (fun b d G=>h.own.s1 b d (G▸aG (aG rfl))) h.own.s1).next _,h.sok,h.nok,h.tcl,aG n4,
   by have:=h.bnd;rw [j] at this;simp only [qH] at this ⊢;omega,Z.mod A l J,n1,fQ N A.size,n5,fun F=>aG ⟨(O F).1,b0,by
    have C:=y;cases e0 with
    | none=>exact C
    | some k=>obtain ⟨t1,u1,hu⟩:=r.err.iface;rw [(O F).2] at hu;cases hu⟩,lA.none rfl rfl⟩
 have S:=Lh (fun Q M f=>D8 x Y H _ _ v _ m P L n B c.nextTok R q rfl n4 O Q M f);obtain ⟨ty,u,W⟩:=Z.iface;have hc:=r.dec.cell;have hf:=r.dec.frozen;have q2:=fun w=>N9 w;have q3:=fun w=>I0 w;have HQ:=Lh M;have U:=Lh (LM (o:=x.o) j);have T:=Lh A;clear h Y H j M r D E n1 N Z n4 n5 O A F l J y q;conv=>arg 2;unfold gK;whnf
 refine vT 14 ?_;refine cG [0,4,5] fun f=>?_;rw [←W];refine bB (S.o _ (fun f w' t' e I=>HQ.o f w' t' e ?_) f) (by kernel_rfl);rw [U.o];unfold lU;unfold pA at I;cases hw:mX x.o R { s with next:=none } with
 | error k=>
  rw [hw] at I;obtain ⟨p1,p2,p3,p4,p5⟩:=I;exact ⟨p1,p2,p3,p4,(T.o.mono (fun _ _ a=>a▸aG (aG (aG rfl)))).trans p5 (fun i hi a=>a.imp id aG)⟩
 | ok p=>
  obtain ⟨aC,s2⟩:=p;rw [hw] at I;obtain ⟨G,c2,v2,aA,V,N,g1,g2,g3,g4,g5,g6⟩:=I;refine ⟨G,c2,v2,aA,V,N,g1,g2,?_,fun b d=>?_,fun b d=>?_,fun g X=>aG (g6 g X)⟩
  ·refine (T.o.mono (fun _ _ a=>a▸aG (aG (aG rfl)))).trans g3 (fun i hi a=>?_);rcases a with a|a|a
   ·exact aG (aG (aG a))
   ·exact aU (aG a)
   ·exact aU (aU a)
  ·rcases g4 b d with C|C
   ·exact aG C
   ·exact aU (fQ T.o.size C)
  ·rcases d with d|d
   ·exact aG (aG d)
   ·rw [g5] at d;exact aG (aU d)
theorem B7 (x:Cx) (C:x.All) (l:kK x.W0) (a:3<x.B) (g:x.o.auto=[]) (o:∃ cs t,aL x.W0 x.eofA.block cs t) (c:DC) (w:World) (v:DV) (s:St) (m:Nat) (j d:List Nat) (n:Nat) (h:TS x c w v s m j d n) :
  Calls prog 18 #[bT x] w fun b w'=>∃ t e,b=.returned (.tuple #[t,e])∧lU x w v c (jT bZ x.o s) m j d t e w':=by
 obtain ⟨L,b0,u,_,_⟩:=h.rd.rd;have N:=u.dec.cell;have O:=u.dec.frozen;have P:=fun w=>N8 w;have Q:=fun w=>B0 w;have i:=h.own.stk.head h.sok;have k:=Lh (show ∀ f,(gK 5).wp prog (bodyPost prog Tryz.f18 (fun b w'=>∃ t e,b=.returned (.tuple #[t,e])∧lU x w v c (jT bZ x.o s) m j d t e w')) (fr 204 f [(0,bT x),(5,.nilIface)]) w from fun f=>by
  have E:∀ f w' t e,lU x w v c (jT bZ x.o s) m j d t e w'→bodyPost prog Tryz.f18 (fun b w'=>∃ t e,b=.returned (.tuple #[t,e])∧lU x w v c (jT bZ x.o s) m j d t e w') .ret (fr 204 f [(2,t),(3,e)]) w':=
   fun f w' t e J=>BF rfl (by decide) (by decide) (by simp only [aK,aO,aR,aW,Nat.reduceEqDiff,↓reduceIte]) (by simp only [aK,aO,aR,aW,Nat.reduceEqDiff,↓reduceIte]) ⟨t,e,rfl,J⟩
  cases r:s.next with
  | none=>exact WP x C l a g o c w v s m j d n h r _ E f
  | some tk=>exact S8 x C g c w v s m j d n h tk r _ E f)
 clear h C l a g o u;rcases i with ⟨B,p⟩|⟨q,b,l',nx,ok,B,p,F,y,A⟩
 ·refine eL 204 func18 [_] fun f=>?_;simp only [aF];refine vT 5 ?_;refine cG [0,5] fun f=>?_;exact bB (k.o f) (by kernel_rfl)
 ·have z:=y.cell;have I:=y.frozen;obtain ⟨M,H,D,G⟩:=b;simp only at F z;clear y A p;rcases F with rfl|rfl
  all_goals
   refine eL 204 func18 [_] fun f=>?_;simp only [aF];refine vT 5 ?_;refine cG [0,5] fun f=>?_;exact bB (k.o f) (by kernel_rfl)
end Go.Proofs.YthapcchcahnfaaaGreatDoor
