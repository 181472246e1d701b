/- Part of the proof that laws.FnSkip returns true for every argument. No conditions. -/
import Derived.Test.YthapcchcahnfaaaGreatDoorS35
import Derived.Test.YthapcchcahnfaaaGreatDoorS31
import Derived.Test.YthapcchcahnfaaaGreatDoorS46
set_option linter.all false
set_option maxHeartbeats 8000000
set_option maxRecDepth 100000
namespace Go.Proofs.YthapcchcahnfaaaGreatDoor
open Go Go.RowKit Go.Proofs.Tryz
structure QY (x:Cx) (c:DC) (w:World) (v:DV) (m:Nat) (f e:List Nat) (h:DC) (w':World) (v':DV) (d a:List Nat):Prop where
 hm:aJ (fun b=>x.S1 v b∨b∈m::(f++e)∨dM c.nextTok b) w w'
 h1:∀ b∈m::(d++a),b∈m::(f++e)∨w.heap.size≤b
 h2:∀ b,x.S1 v' b→x.S1 v b∨w.heap.size≤b
 h3:∀ g,dM h.nextTok g→dM c.nextTok g∨w.heap.size≤g
theorem QY.refl (x:Cx) (c:DC) (w:World) (v:DV) (m:Nat) (b a:List Nat):QY x c w v m b a c w v b a:=
 ⟨aJ.refl _ _,fun _ h=>aG h,fun _ h=>aG h,fun _ h=>aG h⟩
theorem QY.trans {x:Cx} {c o p:DC} {w w' t:World} {v v' s:DV} {m:Nat} {r q j e l f:List Nat} (h:QY x c w v m r q o w' v' j e) (k:QY x o w' v' m j e p t s l f):QY x c w v m r q p t s l f:=by
 refine ⟨h.hm.trans k.hm (fun i y d=>?_),fun b n=>?_,fun b n=>?_,fun g u=>?_⟩
 ·rcases d with d|d|d
  ·rcases h.h2 i d with a|a
   ·exact aG a
   ·omega
  ·rcases h.h1 i d with a|a
   ·exact aU (aG a)
   ·omega
  ·rcases h.h3 i d with a|a
   ·exact aU (aU a)
   ·omega
 ·rcases k.h1 b n with a|a
  ·exact h.h1 b a
  ·exact aU (fQ h.hm.size a)
 ·rcases k.h2 b n with a|a
  ·exact h.h2 b a
  ·exact aU (fQ h.hm.size a)
 ·rcases k.h3 g u with a|a
  ·exact h.h3 g a
  ·exact aU (fQ h.hm.size a)
theorem iB.assertSE {w:World} {i:Value} {B:Nat} {e:Value} {f:aP} (h:iB w i B e f) :
  (∃ nm c a,f=.start nm c∧∀ w,(Instr.typeAssert e 57 101 true).run prog w=.ok (.tuple #[a,.bool true]) w) ∨
  (∃ nm z a,f=.fin nm∧(∀ w,(Instr.typeAssert e 57 101 true).run prog w=.ok (.tuple #[z,.bool false]) w)∧∀ w,(Instr.typeAssert e 57 110 true).run prog w=.ok (.tuple #[a,.bool true]) w) ∨
  (∃ z a,(∀ nm c,f≠.start nm c)∧(∀ nm,f≠.fin nm)∧(∀ w,(Instr.typeAssert e 57 101 true).run prog w=.ok (.tuple #[z,.bool false]) w)∧∀ w,(Instr.typeAssert e 57 110 true).run prog w=.ok (.tuple #[a,.bool false]) w):=by
 cases f with
 | start nm c=>obtain ⟨g,rfl,_⟩:=h;exact aG ⟨nm,c,_,rfl,fun w=>OY _ _ _ w⟩
 | fin nm=>rw [show e=KW nm from h];exact aU (aG ⟨nm,_,_,rfl,fun w=>OX _ _ w,fun w=>I9 _ _ w⟩)
 | text d=>obtain ⟨g,rfl,_⟩:=h;exact aU (aU ⟨_,_,fun _ _ b=>(by cases b),fun _ b=>(by cases b),fun w=>OA _ w,fun w=>IZ _ w⟩)
 | comment d=>obtain ⟨g,rfl,_⟩:=h;exact aU (aU ⟨_,_,fun _ _ b=>(by cases b),fun _ b=>(by cases b),fun w=>OU _ w,fun w=>I6 _ w⟩)
 | dir d=>obtain ⟨g,rfl,_⟩:=h;exact aU (aU ⟨_,_,fun _ _ b=>(by cases b),fun _ b=>(by cases b),fun w=>OV _ w,fun w=>I7 _ w⟩)
 | proc tg d=>obtain ⟨g,rfl,_⟩:=h;exact aU (aU ⟨_,_,fun _ _ b=>(by cases b),fun _ b=>(by cases b),fun w=>OW _ _ w,fun w=>I8 _ _ w⟩)
structure FC (x:Cx) (c0:DC) (w0:World) (v0:DV) (m:Nat) (b a:List Nat) (M:Nat) (L:List (aP×St)) (c:DC) (w:World) (v:DV) (s:St) (f e:List Nat) (n:Nat) (l:List (aP×St)) (k d:Nat):Prop where
 ts:TS x c w v s m f e n
 fw:QY x c0 w0 v0 m b a c w v f e
 run:jV bZ x.o s l .eof
 sk:kO d l=some k
 rest:l.drop k=L
 mu:d+s.mu2≤M
theorem yX {d k:Nat} {t:aP} {s:St} {l:List (aP×St)} (h:kO d ((t,s)::l)=some k) :
  (∀ nm b,t=.start nm b→∃ c,k=c+1∧kO (d+1) l=some c)∧(∀ nm,t=.fin nm→(d=0∧k=1)∨∃ f c,d=f+1∧k=c+1∧kO f l=some c) ∧
   ((∀ nm b,t≠.start nm b)→(∀ nm,t≠.fin nm)→∃ c,k=c+1∧kO d l=some c):=by
 have e:∀ {o:Option Nat},o.map (·+1)=some k→∃ c,k=c+1∧o=some c:=fun {o} h=>by
  cases o with
  | none=>cases h
  | some a=>exact ⟨a,by simpa using h.symm,rfl⟩
 unfold kO at h;refine ⟨fun nm b g=>?_,fun nm g=>?_,fun m n=>?_⟩
 ·subst g;exact e h
 ·subst g;cases d with
  | zero=>exact aG ⟨rfl,by simpa using h.symm⟩
  | succ f=>
   obtain ⟨c,i,j⟩:=e h;exact aU ⟨f,c,rfl,i,j⟩
 ·cases t with
  | start nm b=>exact absurd rfl (m nm b)
  | fin nm=>exact absurd rfl (n nm)
  | text x=>exact e h
  | comment x=>exact e h
  | dir x=>exact e h
  | proc x y=>exact e h
def XM (x:Cx) (c0:DC) (w0:World) (v0:DV) (m:Nat) (e b:List Nat) (M:Nat) (L:List (aP×St)) (h:Nat) (a:Act) (w:World):Prop:=
 ∃ f c v s i g n l k d,a=fr 27 f [(0,bT x),(3,.int .i64 (d:Nat))]∧FC x c0 w0 v0 m e b M L c w v s i g n l k d∧h=s.mu2
theorem XN (x:Cx) (hx:x.All) (a0:kK x.W0) (R:3<x.B) (a4:x.o.auto=[]) (a3:∃ cs t,aL x.W0 x.eofA.block cs t) (S:x.o.raw=false) (c0:DC) (w0:World) (v0:DV) (s0:St) (m:Nat) (q j:List Nat) (n0:Nat) (h:TS x c0 w0 v0 s0 m q j n0) (M:Nat) (hM:s0.mu2≤M) (aC:M≤8000000000) (H:List (aP×St)) (I:Nat) (T:jV bZ x.o s0 H .eof) (a5:kO 0 H=some I) :
  Calls prog 24 #[bT x] w0 fun en w'=>en=.returned .nilIface∧∃ c v s V Q n,TS x c w' v s m V Q n∧QY x c0 w0 v0 m q j c w' v V Q∧jV bZ x.o s (H.drop I) .eof∧s.mu2≤M:=by
 have i:=Lh (show FC x c0 w0 v0 m q j M (H.drop I) c0 w0 v0 s0 q j n0 H I 0 from ⟨h,QY.refl _ _ _ _ _ _ _,T,a5,rfl,by omega⟩);have G:=Lh (fun (c:DC) (w:World) (v:DV) (s:St) (V Q:List Nat) (n:Nat) (h:TS x c w v s m V Q n)=>B7 x hx a0 R a4 a3 c w v s m V Q n h);have F:=Lh (fun (s:St)=>show stepL bZ x.o s=jT bZ x.o s by unfold stepL;rw [S];rfl);have a7:=Lh aC;clear hx a0 R a4 a3 S h hM aC T a5;refine eL 27 func24 [_] fun f=>?_;simp only [aF];refine vg ?_;refine cG [0,3] fun f=>?_;refine wp_loop_ghost_k (XM x c0 w0 v0 m q j M (H.drop I)) s0.mu2 ⟨f,c0,v0,s0,q,j,n0,H,I,0,rfl,i.o,rfl⟩ ?_;clear i;rintro kk _ w ⟨f,c,v,s,V,Q,n,l,k,d,rfl,a6,hk⟩ J K2 hJ aA;have ⟨HJ,X,i,HK⟩:=kS hJ aA a6 hk;clear hJ aA a6 hk;refine vg ?_;intro K hK K hK;refine (G.o c w v s V Q n i.o.ts).mono ?_;rintro e1 w3 ⟨t,e,rfl,hp⟩;obtain ⟨⟨tk,D⟩,O,hl,g,b⟩:∃ p O,l=p::O∧stepL bZ x.o s=.ok p∧jV bZ x.o p.2 O .eof:=by
  have h1:=i.o.run;have h2:=i.o.sk;cases h1 with
  | stop _=>cases h2
  | more h3 h4=>exact ⟨_,_,rfl,h3,h4⟩
 unfold lU at hp;rw [←F.o,g] at hp;obtain ⟨rfl,P,W,B,r,Z,g1,⟨BT,g2⟩,g3,g4,g5,g6⟩:=hp;have y:=i.o.fw.trans (⟨g3,g4,g5,g6⟩:QY x c w v m V Q P w3 W B r);have C:=(xW g).1;have a9:=g2.assertSE;obtain ⟨q1,q2,q3⟩:=yX (by have:=i.o.sk;rw [hl] at this;exact this);have N:=i.o.mu;have o:=i.o.rest;rw [hl] at o;have L:d≤8000000000:=by have:=a7.o;omega
 obtain ⟨ty,u,rfl⟩:=g2.iface;rcases a9 with ⟨nm,ats,a,he,z1⟩|⟨nm,z,a,he,z1,z2⟩|⟨z,a,a1,a2,z1,z2⟩
 ·obtain ⟨U,rfl,A⟩:=q1 nm ats he;have Y:=Lh (show FC x c0 w0 v0 m q j M (H.drop I) P w3 W D B r Z O U (d+1) from ⟨g1,y,b,A,o,by omega⟩);have E:=Lh C;have wi:IntKind.i64.wrap ((d:Int)+1)=((d+1:Nat):Int):=by rw [IntKind.wrap_i64];omega
  clear hl g b g1 g2 g3 g4 g5 g6 y C q1 q2 q3 N o L he A G F;(repeat revert K);refine vS ?_;refine Kk [0,3] fun f=>?_;exact X.o _ _ ⟨D.mu2,by rw [HK.o];exact E.o,HJ.o _ _ _ ⟨_,P,W,D,B,r,Z,O,U,d+1,rfl,Y.o,rfl⟩⟩
 ·rcases q2 nm he with ⟨rfl,rfl⟩|⟨d',U,a8,rfl,A⟩
  ·have Y:=Lh (And.intro g1 (And.intro y (And.intro (show jV bZ x.o D (H.drop I) .eof by rw [←o];exact b) (show D.mu2≤M by omega))));clear hl g b g1 g2 g3 g4 g5 g6 y C q1 q2 q3 N o L he G F;(repeat revert K);refine vS ?_;intro K hK;refine cM ?_;exact ⟨rfl,P,W,D,B,r,Z,Y.o⟩
  ·have Y:=Lh (show FC x c0 w0 v0 m q j M (H.drop I) P w3 W D B r Z O U d' from ⟨g1,y,b,A,o,by omega⟩);have E:=Lh C;have wi:IntKind.i64.wrap ((d:Int)-1)=(d':Int):=by rw [IntKind.wrap_i64];omega
   have t0:((d:Int)==0)=false:=by rw [lQ];omega
   clear hl g b g1 g2 g3 g4 g5 g6 y C q1 q2 q3 N o L he A a8 G F;(repeat revert K);refine vS ?_;refine Kk [0,3] fun f=>?_;exact X.o _ _ ⟨D.mu2,by rw [HK.o];exact E.o,HJ.o _ _ _ ⟨_,P,W,D,B,r,Z,O,U,d',rfl,Y.o,rfl⟩⟩
 ·obtain ⟨U,rfl,A⟩:=q3 a1 a2;have Y:=Lh (show FC x c0 w0 v0 m q j M (H.drop I) P w3 W D B r Z O U d from ⟨g1,y,b,A,o,by omega⟩);have E:=Lh C;clear hl g b g1 g2 g3 g4 g5 g6 y C q1 q2 q3 N o L a1 a2 A G F;(repeat revert K);refine vS ?_;refine Kk [0,3] fun f=>?_;exact X.o _ _ ⟨D.mu2,by rw [HK.o];exact E.o,HJ.o _ _ _ ⟨_,P,W,D,B,r,Z,O,U,d,rfl,Y.o,rfl⟩⟩
noncomputable def QK (n:Nat):Code:=((Tryz.f13.body).bind (Code.partAt n)).getD .skip
structure vW (x:Cx):Prop where
 all:x.All
 af:kK x.W0
 afB:3<x.B
 fe:x.o.auto=[]
 eb:∃ cs t,aL x.W0 x.eofA.block cs t
 et:x.W0.cell? ⟨1,0,none⟩=some (D6 59)
 etB:1<x.B
 raw:x.o.raw=false
 no:x.o.ents=none
 len:x.T.length≤100000000
theorem vW.stepL {x:Cx} (h:vW x) (s:St):stepL bZ x.o s=jT bZ x.o s:=by unfold Go.Proofs.YthapcchcahnfaaaGreatDoor.stepL;rw [h.raw];rfl
theorem vW.mu (x:Cx):(St.init x.T).mu2=8*x.T.length:=by rw [lT rfl];unfold St.mu St.init;simp
theorem vW.ats {x:Cx} (h:vW x) {c:DC} {w:World} {v:DV} {s:St} {m:Nat} {o i:List Nat} {n:Nat} (b:TS x c w v s m o i n) {g:aP} {l:St} (d:Go.Proofs.YthapcchcahnfaaaGreatDoor.stepL bZ x.o s=.ok (g,l)):∀ nm a,g=.start nm a→a.length≤1000000000:=fun nm a k=>by
 subst k;obtain ⟨q,p,e,_,_⟩:=b.rd.rd;have t:=K6 h.no d e.suf.length_le b.tcl (fun g f=>by
  have h:=b.nxt;unfold lA at h;rw [f] at h;obtain ⟨_,_,_,_,j,_⟩:=h;exact j)
 have r:=h.all.toOk.len;omega
def XO (x:Cx) (e:World) (keep:Nat→Prop) (d:Value) (h:St) (m b0:Nat) (k:Nat) (a:Act) (w:World):Prop:=
 ∃ f c v s i g n l j b,a=fr 67 f [(4,d),(6,b),(8,bT x)]∧E3 x e keep c w v h s m i g n b0 l j b∧k=s.mu2
theorem CO.no {x:Cx} {v:DV} {c:DC} {m:Nat} {d b:List Nat} {w:World} {k:Nat} (h:CO x v c.nextTok m d b w k):¬ (x.S1 v k∨k∈m::(d++b)∨dM c.nextTok k):=fun a=>by
 rcases a with a|a|a
 ·exact h.s1 a
 ·exact h.own a
 ·exact h.pend a
theorem XP (x:Cx) (C:vW x) (c9:World) (kp:Nat→Prop) (m b0:Nat) (hB:x.B≤b0) (c:DC) (w:World) (v:DV) (s:St) (sb fb:List Nat) (n:Nat) (l:List (aP×St)) (xs:List Value) (P:Value) (h:E3 x c9 kp c w v (St.init x.T) s m sb fb n b0 l xs P) (X:List (aP×St)) (kk:Nat) (j:jV bZ x.o s X .eof) (a7:kO 0 X=some kk)
  (Q:Exit→Act→World→Prop) (hQ:∀ f w' bC dI,Below x.B x.W0 w'→pG x.T w' P l xs→pG x.T w' bC (X.drop kk) dI→Q .ret (fr 67 f [(4,P),(5,.int .i64 0),(6,bC),(7,.int .i64 0)]) w') (f:Nat→Value) :
  (QK 9).wp prog Q (fr 67 f [(4,P),(6,.slice none 0 0),(8,bT x)]) w:=by
 have a8:s.mu2≤800000000:=by have h1:=h.mu;have h2:=vW.mu x;have h3:=C.len;omega
 have V:=Lh (XN x C.all C.af C.afB C.fe C.eb C.raw c w v s m sb fb n h.ts 800000000 a8 (by omega) X kk j a7);have ⟨r,q,HQ,b3⟩:=kS C h hQ hB;clear C h hQ hB j a7 a8;conv=>arg 2;unfold QK;whnf
 refine vg ?_;intro K hK K hK K hK;refine V.o.mono ?_;rintro e1 w2 ⟨rfl,c2,v2,s2,a9,Y,n2,G,o,A,E⟩;have D:=Lh (show E3 x w (fun k=>CO x v c.nextTok m sb fb w k) c2 w2 v2 s2 s2 m a9 Y n2 b0 [] [] (.slice none 0 0) from ⟨G,pL q.o.b0l o.hm.size,fun k g=>⟨g.step o.hm.size o.h1 o.h2 o.h3,by simp [Value.ownBlock]⟩,o.hm.mono (fun k _ hh g=>g.no hh),⟨rfl,aG ⟨rfl,rfl⟩⟩,fun k g=>(by cases g),.nil,fun l' e ht=>ht,by simp⟩);have ⟨I,T⟩:=cB A E;clear V G o A E;(repeat revert K);refine vS ?_;refine cG [4,6,8] fun f=>?_;refine wp_loop_ghost_k (XO x w (fun k=>CO x v c.nextTok m sb fb w k) P s2 m b0) s2.mu2 ⟨f,c2,v2,s2,a9,Y,n2,[],[],_,rfl,D.o,rfl⟩ ?_;clear D;rintro k _ w3 ⟨f,c3,v3,s3,bA,Z,n3,l3,O,N,rfl,M,g⟩ J K2 hJ aA;have ⟨HJ,b5,i,HK⟩:=kS hJ aA M g;have W:=Lh (B7 x r.o.all r.o.af r.o.afB r.o.fe r.o.eb c3 w3 v3 s3 m bA Z n3 M.ts);clear hJ aA M g;refine vg ?_;intro K hK K hK;refine W.o.mono ?_;rintro e1 w4 ⟨t,e,rfl,y⟩;unfold lU at y;rw [←r.o.stepL s3] at y;clear W;cases d:stepL bZ x.o s3 with
 | error ek=>
  rw [d] at y;obtain ⟨_,p2,p3,p4,p5⟩:=y;have h9:=i.o.run [] ek (.stop d);rw [List.append_nil] at h9;obtain ⟨a3,rfl⟩:=h9.det I.o;have a1:=Lh (WS x r.o.all.toOk r.o.eb r.o.et r.o.etB p3 p2 p4);have c1:=Lh (show pG x.T w4 P l xs by
   have a5:=i.o.km.trans (S':=fun b=>x.S1 v3 b∨b∈m::(bA++Z)∨dM c3.nextTok b) p5 (fun k _ hb g=>(i.o.kf k g).1.no hb);exact ⟨⟨_,aE q.o.row a5 (fun k g hn=>hn (q.o.tvf k g))⟩,⟨_,q.o.rows.mono (fun a ys hr=>hr.mod a5 (fun k g _=>⟨fun hn=>hn g.1,trivial⟩))⟩⟩)
  have c5:=Lh (show pG x.T w4 N (X.drop kk) O by
   rw [←a3];exact ⟨⟨_,aE i.o.row p5 (fun k g=>(i.o.tvf k g).no)⟩,⟨_,i.o.rows.mono (fun a ys hr=>hr.mod p5 (fun k g _=>⟨g.1.no,trivial⟩))⟩⟩)
  have R:=Lh p3;obtain ⟨t1,u1,rfl⟩:=p2.iface;clear p2 p3 p4 p5 h9 a3 d;(repeat revert K);refine vS ?_;intro K hK K hK K hK;refine a1.o.mono ?_;rintro e2 w5 ⟨rfl,a0⟩;have H:=Lh a0;clear a0 a1;(repeat revert K);refine vS ?_;intro K hK;refine Qk [4,5,6,7] fun f=>?_;exact HQ.o f w5 N O (R.o.trans (H.o.mono R.o.size)) (c1.o.below H.o) (c5.o.below H.o)
 | ok pr=>
  obtain ⟨tk,s4⟩:=pr;rw [d] at y;obtain ⟨rfl,c4,v4,c7,c6,n4,g1,⟨BT,g2⟩,g3,g4,g5,g6⟩:=y;obtain ⟨z,a4⟩:=i.o.step d g1 g3 g4 g5 g6;obtain ⟨e0,bf,hR,_,_⟩:=g1.rd.rd;have b6:=Lh (hR.line_col g1.rd.nb tk (tG hR.suf));have L:=Lh (PD x r.o.all.toOk c4 w4 v4 s4.rest e0 bf hR _ (tG hR.suf) BT t tk g2 (r.o.ats i.o.ts d));have b7:=Lh (show l3.length≤1000000000 by have h1:=z.mu;have h2:=T.o;omega);have ⟨HA,b9⟩:=cB z a4;obtain ⟨ty,u,rfl⟩:=g2.iface;obtain ⟨p,y⟩:=cK (tk.itok (x.T.take (x.T.length-s4.rest.length)));rw [←y] at L;have HP:=Lh y;clear y d g1 g2 g3 g4 g5 g6 z a4 hR;(repeat revert K);refine vS ?_;intro K hK;refine L.o.mono ?_;rintro e3 w5 ⟨⟨sa,sl,sc,rfl,aC⟩,B⟩;obtain ⟨c8,w6,j,F,a2,a6⟩:=vJ w5 b0 (fQ (Nat.le_of_lt HA.o.b0l) B.size) N l3.length b7.o O (aE (S:=fun _=>False) HA.o.row (aH B _) (fun _ _=>id)) p.kind p.space p.loc (.slice sa sl sc) rfl p.text p.at' v4.line (v4.off-v4.lstart+1);have ⟨b1,b2,U,b4,cT⟩:=pM aC B F a2 a6;clear L aC B F a2 a6;go_simp;revert K;refine vB ?_;refine eP rfl (.tmp 61) (.tmp 65) _ _ rfl _ _ _ (by rw [bU (by decide)];(try simp only [aK,aO,aR,aW,Nat.reduceEqDiff,↓reduceIte]);(try rfl)) (by rw [bU (by decide)];(try simp only [aK,aO,aR,aW,Nat.reduceEqDiff,↓reduceIte]);(try rfl)) j ?_;clear j;rw [fG (by decide)];refine vg ?_;refine Kk [4,6,8] fun f=>?_;have y:=HP.o;subst y;exact b5.o _ _ ⟨s4.mu2,by rw [HK.o];exact b9.o,HJ.o _ _ _ ⟨f,c4,v4,s4,c7,c6,n4,_,_,c8,rfl,E4.lay b3.o HA.o b2.o b1.o U.o b4.o cT.o b6.o,rfl⟩⟩
theorem T9 {P:Program} {fn:Func} {R:Ending→World→Prop} {n:Nat} {f:Nat→Value} {L:List (Nat×Value)} {w:World} {t u s r:Nat} {v v' b c:Value} (l:fn.results=#[.tmp t,.tmp u,.tmp s,.tmp r]) (o:t<n) (p:u<n) (m:s<n) (k:r<n) (d:lk f L t=v) (g:lk f L u=v') (i:lk f L s=b) (j:lk f L r=c) (h:R (.returned (.tuple #[v,v',b,c])) w):bodyPost P fn R .ret (fr n f L) w:=by
 subst d;subst g;subst i;subst j;refine bodyPost_ret (v:=.tuple #[lk f L t,lk f L u,lk f L s,lk f L r]) ?_ (iI n f L) h;have e:∀ (a:Array Value),(results fn a).run P w=.ok (.tuple #[a.getD t undef,a.getD u undef,a.getD s undef,a.getD r undef]) w:=fun a=>by simp [results,l]
 rw [e,gQ o,gQ p,gQ m,gQ k]
def JR (w:World) (T:Bs) (a:Addr):Cx:=⟨w,T,V2,w.heap.size+2,w.heap.size+3,w.heap.size+4,w.heap.size,a,none,0,0,[]⟩
theorem MC {w:World} (b:Env w) {T:Bs} (c:T.length≤1000000000) {a:Addr} (d:w.cell? ⟨0,0,none⟩=some (m9 a)) (e:a.block<w.heap.size):(JR w T a).All:=by
 refine ⟨⟨⟨c,?_,?_,?_,?_,?_,?_,?_,?_,?_,?_,d,e,b.gB,jU _,jU _,fun h=>absurd h (Nat.lt_irrefl _)⟩,b.u8⟩,b.num,b.numS,b.numR⟩;all_goals (simp only [JR,Cx.B];omega)
theorem Be {w w1:World} {T:Bs} (p:T.length≤1000000000) {b:Addr} {c:DC} (x:Cx) (g:x=JR w T b) (i:Below w.heap.size w w1) (k:bR w1 x.d c v0)
  (d:aL w1 x.br (iP x 0 0 .nilIface (-1)) 235) (e:∃ a:Array Value,a.size=4096∧aL w1 x.rb a 5) (f:aL w1 x.rd (tZ x ⟨T.toArray⟩ 0) 56):cA x c w1 v0 T none []:=by
 obtain ⟨a,h,n⟩:=e;have o:(⟨T.toArray⟩:ByteArray).size=T.length:=rfl;refine ⟨by rw [g];exact i,k,⟨T,⟨0,0,0,-1,a,⟨T.toArray⟩,[],d,n,h,f,dF _,by omega,rfl,fun j m=>absurd m (by simp),by simp,by rw [o];omega⟩,aG ⟨rfl,rfl⟩⟩,⟨[],by rw [g];rfl,rfl,rfl,fun _=>rfl,fun l=>absurd l (by decide)⟩,rfl,aG rfl,aG ⟨rfl,rfl⟩⟩
theorem A2 {α:Type} {L b:List α} {i:Nat} {p:α} (h:L.drop i=p::b):L.take (i+1)=L.take i++[p]∧L.drop (i+1)=b:=by
 have c:L[i]?=some p:=by
  have:=congrArg (fun a=>a[0]?) h;simpa using this
 refine ⟨by rw [List.take_add_one,c];rfl,?_⟩;rw [←List.drop_drop,h];rfl
def Z8 (x:Cx) (d:World) (m b0:Nat) (L:List (aP×St)) (n:Nat) (k:Nat) (a:Act) (w:World):Prop:=
 ∃ f c v s h e g i j b,a=fr 67 f [(4,b),(6,.slice none 0 0),(8,bT x),(19,.int .i64 (n:Nat)),(20,.int .i64 (i:Nat))]∧E3 x d (fun _=>False) c w v (St.init x.T) s m h e g b0 (L.take i) j b∧jV bZ x.o s (L.drop i) .eof∧i≤n∧k=n-i
theorem MD (T:Bs) (hT:T.length≤100000000) (w:World) (O:EB w) {L:List (aP×St)} (A:jV bZ V2 (St.init T) L .eof) (n:Nat) (hn:n≤L.length) (b7:n≤1000000000) (kk:Nat) (c1:kO 0 (L.drop n)=some kk) :
  Calls prog 13 #[aB T,.int .i64 n] w fun e w'=>∃ tv a2 xs c8,e=.returned (.tuple #[tv,.int .i64 0,a2,.int .i64 0])∧Below w.heap.size w w'∧pG T w' tv (L.take n) xs∧pG T w' a2 ((L.drop n).drop kk) c8:=by
 obtain ⟨N,he,hl⟩:=O.eof;obtain ⟨x,m⟩:=cK (JR w T N);have C:=Lh (show vW x by rw [m];exact ⟨MC O.toEnv (by omega) he hl,O.af,O.afB,rfl,O.eofB N he,O.et,O.etB,rfl,rfl,hT⟩);have c7:x.o=V2:=by rw [m];rfl
 have c5:x.T=T:=by rw [m];rfl
 have c6:x.W0=w:=by rw [m];rfl
 have c3:x.B=w.heap.size:=by rw [m];rfl
 have r:x.rd=w.heap.size:=by rw [m];rfl
 have b2:x.d=w.heap.size+2:=by rw [m];rfl
 have b0:x.br=w.heap.size+3:=by rw [m];rfl
 have X:x.rb=w.heap.size+4:=by rw [m];rfl
 have G:=fun (w':World) (hs:w'.heap.size=w.heap.size+1)=>B1 x w' (by omega) (by omega) (by omega);unfold YM at G;rw [r] at G;have a5:=Lh G;have R:tZ x ⟨T.toArray⟩ 0=#[aB T,.slice none 0 0,.int .i64 0,.bool false]:=by rw [m];rfl
 have ⟨a3,d1,q,E,e2,D⟩:=gT R m c7 c5 c6 c3;have ⟨I,d0,dT,a7,d9,aC⟩:=gT r b2 b0 X hT A;have ⟨d6,a4,d8⟩:=kV hn b7 c1;clear G R m c7 c5 c6 c3 r b2 b0 X hT O he hl A hn b7 c1;refine eL 67 func13 [_,_] fun f=>?_;simp only [aF];refine vg ?_;intro K hK K hK;have Y:aL (w.alloc (.cells #[aB T,.slice none 0 0,.int .i64 0,.bool false] 56)) w.heap.size #[aB T,.slice none 0 0,.int .i64 0,.bool false] 56:=aL.new w _ _;have a:(w.alloc (.cells #[aB T,.slice none 0 0,.int .i64 0,.bool false] 56)).heap.size=w.heap.size+1:=by simp
 refine (a5.o _ a).mono ?_;rintro e1 w1 ⟨rfl,P⟩;have a0:Below w.heap.size w w1:=((Below.refl _ w).alloc (dF _) _).trans (P.below.mono (by rw [a];omega));have Z:aL w1 w.heap.size _ _:=aL.mod (S:=fun _=>False) Y (aH P.below _) id;obtain ⟨c,l⟩:∃ c:DC,c=c0 x (w.heap.size+1):=⟨_,rfl⟩;have b1:bR w1 x.d c v0:=by
  rw [l];have h9:=P.dec;rw [a] at h9;exact h9
 have Q:cA x c w1 v0 T none []:=Be (by have:=d9.o;omega) x d1.o a0 b1 P.br P.rb (by rw [a3.o,I.o];exact Z);have b6:w1.heap[w.heap.size+1]?=some (.map #[] 0):=by have h9:=P.map;rw [a] at h9;exact h9
 have b9:kU w1 (w.heap.size+1) 0 (fun _=>none):=kU.of b6;have e6:w.heap.size+5≤w1.heap.size:=by have h9:=P.size;rw [a] at h9;omega
 have bA:∀ k,x.S1 v0 k→k=w.heap.size+2∨k=w.heap.size+3∨k=w.heap.size+4∨k=w.heap.size:=by
  have h1:=d0.o;have h2:=I.o;have h3:=dT.o;have h4:=a7.o;rintro k ((h|h|h|h)|h)
  ·omega
  ·omega
  ·omega
  ·omega
  ·exact h.elim
 have c2:TS x c w1 v0 (St.init T) (w.heap.size+1) [] [] 0:=by
  refine ⟨⟨⟨by rw [l];rfl,by rw [l,q.o];rfl⟩,⟨by rw [l];rfl,by rw [q.o];rfl⟩,by rw [l,q.o];rfl,⟨none,0,0,by rw [l];rfl,by rw [q.o];rfl,jU _,dF _,fun h=>absurd h (Nat.lt_irrefl _)⟩⟩,
   ⟨⟨none,[],Q,fun h=>(by cases h),fun h=>absurd rfl h⟩,by rw [l];rfl,fun nm h=>(by cases h),(show (-1:Int)≠10 by decide)⟩,
   ⟨by rw [l];exact rfl,⟨[],by rw [l];exact rfl⟩,by rw [l];rfl,b9,by simp,fun b hb=>?_,fun b hb hs=>?_⟩,fun e he=>(by cases he),fun k u h=>(by cases h),fun nm h=>(by cases h),?_,lA.none rfl (by rw [l];rfl)⟩
  ·simp only [List.append_nil,mF,y5,or_false] at hb;rw [hb,D.o];omega
  ·simp only [List.append_nil,mF,y5,or_false] at hb;have:=bA b hs;omega
  ·rw [E.o];simp [St.init,qH]
 have z:E3 x w (fun _=>False) c w1 v0 (St.init x.T) (St.init x.T) (w.heap.size+1) [] [] 0 w.heap.size [] [] (.slice none 0 0):=
  ⟨by rw [E.o];exact c2,by omega,fun _ h=>h.elim,aH a0 _,⟨rfl,aG ⟨rfl,rfl⟩⟩,fun k hk=>(by cases hk),.nil,fun l' e ht=>ht,by simp⟩
 have g:=Lh z;have M:=Lh (show jV bZ x.o (St.init x.T) (L.drop 0) .eof by rw [q.o,E.o];exact aC.o);clear a5 Y a P a0 Z l b1 Q b6 b9 e6 bA c2 z;(repeat revert K);refine vS ?_;intro K hK;refine cG [4,6,8,19,20] fun f=>?_;refine wp_loop_ghost_k (Z8 x w (w.heap.size+1) w.heap.size L n) n ⟨f,c,v0,St.init x.T,[],[],0,0,[],.slice none 0 0,rfl,g.o,M.o,jU _,rfl⟩ ?_;clear g M;rintro k _ w2 ⟨f,c,v,s,sb,fb,nn,i,xs,tv,rfl,z,d,b4,hk⟩ J K2 hJ a9;have ⟨HJ,d3,g,o,HK⟩:=pM hJ a9 z d hk;clear hJ a9 z d hk;rcases Nat.lt_or_ge i n with b5|e5;rotate_left
 ·obtain rfl:i=n:=by omega
  have t0:¬ (i:Int)<(i:Int):=by omega
  clear b4 e5;revert K;refine vT 9 ?_;refine cG [4,6,8] fun f=>?_;refine bB (XP x C.o w (fun _=>False) (w.heap.size+1) w.heap.size (by rw [D.o];exact dF _) c w2 v s sb fb nn (L.take i) xs tv g.o (L.drop i) kk o.o d8.o _ (fun f w' a2 c8 hb h1 h2=>?_) f) (by kernel_rfl);refine T9 rfl (by decide) (by decide) (by decide) (by decide) (by simp only [aK,aO,aR,aW,Nat.reduceEqDiff,↓reduceIte];rfl) (by simp only [aK,aO,aR,aW,Nat.reduceEqDiff,↓reduceIte];rfl) (by simp only [aK,aO,aR,aW,Nat.reduceEqDiff,↓reduceIte];rfl) (by simp only [aK,aO,aR,aW,Nat.reduceEqDiff,↓reduceIte];rfl) ?_;rw [E.o] at h1 h2;rw [D.o,e2.o] at hb;exact ⟨_,_,_,_,rfl,hb,h1,h2⟩
 have t0:(i:Int)<(n:Int):=by omega
 have wi:IntKind.i64.wrap ((i:Int)+1)=((i+1:Nat):Int):=by rw [IntKind.wrap_i64];have:=a4.o;omega
 have B:=Lh b5;have a8:=Lh (B7 x C.o.all C.o.af C.o.afB C.o.fe C.o.eb c w2 v s (w.heap.size+1) sb fb nn g.o.ts);clear b4 b5;revert K;refine vg ?_;intro K hK K hK K hK K hK;refine a8.o.mono ?_;rintro e1 w4 ⟨t,e,rfl,H⟩;obtain ⟨⟨tk,s4⟩,l2,hl,j,y⟩:∃ p l2,L.drop i=p::l2∧stepL bZ x.o s=.ok p∧jV bZ x.o p.2 l2 .eof:=by
  have h1:=o.o;cases hd:L.drop i with
  | nil=>
   have h2:=congrArg List.length hd;have h3:=B.o;have h4:=d6.o;simp at h2;omega
  | cons p l2=>
   rw [hd] at h1;cases h1 with
   | more h3 h4=>exact ⟨_,_,rfl,h3,h4⟩
 unfold lU at H;rw [←C.o.stepL s,j] at H;obtain ⟨rfl,c4,v4,e7,e4,n4,g1,⟨BT,g2⟩,g3,g4,g5,g6⟩:=H;obtain ⟨V,_⟩:=g.o.step j g1 g3 g4 g5 g6;obtain ⟨e0,bf,Q,_,_⟩:=g1.rd.rd;have d4:=Lh (Q.line_col g1.rd.nb tk (tG Q.suf));have a1:=Lh (PD x C.o.all.toOk c4 w4 v4 s4.rest e0 bf Q _ (tG Q.suf) BT t tk g2 (C.o.ats g.o.ts j));have d5:=Lh (show (L.take i).length≤1000000000 by rw [pI];have h1:=B.o;have h2:=a4.o;omega);have HA:=Lh V;have HL:=Lh (A2 hl);have aA:=Lh y;obtain ⟨ty,u,rfl⟩:=g2.iface;obtain ⟨p,H⟩:=cK (tk.itok (x.T.take (x.T.length-s4.rest.length)));rw [←H] at a1;have HP:=Lh H;clear a8 H j g1 g2 g3 g4 g5 g6 V Q hl y o;(repeat revert K);refine vS ?_;intro K hK K hK K hK;refine a1.o.mono ?_;rintro e3 w5 ⟨⟨sa,sl,sc,rfl,bC⟩,F⟩;obtain ⟨e8,w6,d,W,b3,cT⟩:=vJ w5 w.heap.size (fQ (Nat.le_of_lt HA.o.b0l) F.size) tv (L.take i).length d5.o xs (aE (S:=fun _=>False) HA.o.row (aH F _) (fun _ _=>id)) p.kind p.space p.loc (.slice sa sl sc) rfl p.text p.at' v4.line (v4.off-v4.lstart+1);have ⟨c9,dI,a6,d2,d7⟩:=pM bC F W b3 cT;clear a1 bC F W b3 cT;go_simp;(repeat revert K);refine vB ?_;intro K hK K hK;refine eP rfl (.tmp 34) (.tmp 38) _ _ rfl _ _ _ (by rw [bU (by decide)];(try simp only [aK,aO,aR,aW,Nat.reduceEqDiff,↓reduceIte]);(try rfl)) (by rw [bU (by decide)];(try simp only [aK,aO,aR,aW,Nat.reduceEqDiff,↓reduceIte]);(try rfl)) d ?_;clear d;rw [fG (by decide)];(repeat revert K);refine vg ?_;intro K hK;refine Kk [4,6,8,19,20] fun f=>?_;have H:=HP.o;subst H;have U:=E4.lay (by rw [D.o];exact dF _) HA.o dI.o c9.o a6.o d2.o d7.o d4.o;rw [←HL.o.1] at U;exact d3.o _ _ ⟨n-(i+1),by rw [HK.o];have:=B.o;omega,HJ.o _ _ _ ⟨f,c4,v4,s4,e7,e4,n4,i+1,_,e8,rfl,U,by rw [HL.o.2];exact aA.o,B.o,rfl⟩⟩
end Go.Proofs.YthapcchcahnfaaaGreatDoor
