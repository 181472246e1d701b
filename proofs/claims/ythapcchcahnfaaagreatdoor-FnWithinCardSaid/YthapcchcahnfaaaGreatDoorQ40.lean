/- Part of the proof that laws.FnWithin returns true for every argument. No conditions. -/
import Derived.Test.YthapcchcahnfaaaGreatDoorQ39
import Derived.Test.YthapcchcahnfaaaGreatDoorQ32
set_option linter.all false
set_option maxHeartbeats 8000000
set_option maxRecDepth 100000
namespace Go.Proofs.YthapcchcahnfaaaGreatDoor
open Go Go.RowKit
def Z4 (w1:World) (c d:Value) (b:Bool) (n:Nat) (k:Nat) (a:Act) (w:World):Prop:=
 ∃ f i,a=fr 49 f [(0,c),(1,d),(2,.bool b),(18,.int .i64 (n:Nat)),(19,.int .i64 (i:Nat))]∧Below w1.heap.size w1 w∧k=n-i∧i≤n
theorem A8 {p:cA}:∀ {l acc:List cA},(∀ q∈acc,q.attrs.length≤1000000000)→(∀ q∈l,q.attrs.length≤1000000000)→p∈l.foldl cZ acc→p.attrs.length≤1000000000
 | [],acc,d,_,h=>d p h
 | a::l,acc,d,e,h=>by
  refine A8 (l:=l) (acc:=cZ acc a) ?_ (fun q c=>e q (by simp [c])) h;intro q c;unfold cZ at c;split at c
  ·exact d q c
  ·split at c
   ·rename_i g f;split at c
    ·rcases List.mem_append.1 c with b|b
     ·exact d q (List.dropLast_subset _ b)
     ·simp only [List.mem_singleton] at b;rw [b];exact d g (List.mem_of_getLast? f)
    ·rcases List.mem_append.1 c with b|b
     ·exact d q b
     ·simp only [List.mem_singleton] at b;rw [b];exact e a (by simp)
   ·rcases List.mem_append.1 c with b|b
    ·exact d q b
    ·simp only [List.mem_singleton] at b;rw [b];exact e a (by simp)
def iB (p:cA):cA:={ p with at':=0,line:=0,col:=0 }
theorem CP {p q:cA} (h:iB p=iB q):p.kind=q.kind∧p.space=q.space∧p.loc=q.loc∧p.attrs=q.attrs∧p.text=q.text:=by
 simp only [iB,cA.mk.injEq] at h;exact ⟨h.1,h.2.1,h.2.2.1,h.2.2.2.1,h.2.2.2.2.1⟩
theorem T3 {p q:cA} (a:p.kind=q.kind) (b:p.space=q.space) (c:p.loc=q.loc) (d:p.attrs=q.attrs) (e:p.text=q.text):iB p=iB q:=by
 simp only [iB,cA.mk.injEq];exact ⟨a,b,c,d,e,trivial,trivial,trivial⟩
theorem L6 {acc a:List cA} {p i:cA} (h:a.map iB=acc.map iB) (f:iB i=iB p):(cZ a i).map iB=(cZ acc p).map iB:=by
 obtain ⟨r,t,u,v,s⟩:=CP f;unfold cZ;rw [r,s];by_cases d:p.kind=3∧p.text=[]
 ·rw [aT d,aT d];exact h
 ·rw [aM d,aM d];have c:a.getLast?.map iB=acc.getLast?.map iB:=by rw [←List.getLast?_map,←List.getLast?_map,h]
  cases g:acc.getLast? with
  | none=>
   rw [g] at c;cases b:a.getLast? with
   | none=>simp only [List.map_append,List.map_cons,List.map_nil,h,f]
   | some q'=>rw [b] at c;cases c
  | some q=>
   rw [g] at c;cases b:a.getLast? with
   | none=>rw [b] at c;cases c
   | some q'=>
    rw [b] at c;simp only [Option.map_some,kQ] at c;obtain ⟨k,l,m,n,o⟩:=CP c;simp only [k];by_cases e:p.kind=3∧q.kind=3
    ·rw [aT e,aT e];have j:a.dropLast.map iB=acc.dropLast.map iB:=by rw [List.map_dropLast,List.map_dropLast,h]
     simp only [List.map_append,List.map_cons,List.map_nil,j]
     congr 2
     exact T3 rfl l m n (by show q'.text++p.text=q.text++p.text;rw [o])
    ·rw [aM e,aM e];simp only [List.map_append,List.map_cons,List.map_nil,h,f]
theorem wB:∀ {l l' acc a:List cA},l'.map iB=l.map iB→a.map iB=acc.map iB→(l'.foldl cZ a).map iB=(l.foldl cZ acc).map iB
 | [],[],_,_,_,h=>h
 | [],_::_,_,_,h,_=>by simp at h
 | _::_,[],_,_,h,_=>by simp at h
 | p::l,p'::l',acc,a,h,b=>by
  simp only [List.map_cons,List.cons.injEq] at h;exact wB (l:=l) (l':=l') h.2 (L6 b h.1)
theorem tP {l l':List cA} (h:l'.map iB=l.map iB):fG l'=fG l:=by
 have e:∀ k:List cA,k.map (fun p=>p.text.length)=(k.map iB).map fun p=>p.text.length:=fun k=>by rw [List.map_map];rfl
 unfold fG;rw [e l',h,←e l]
theorem XL (w0:World) (l l':List cA) (pl:Bool) (Z:l'.map iB=l.map iB) (d8:pl=true→l'=l) (y:l.length≤1000000000) (c:fG l≤4611686018427387904) (dT:∀ q∈l,q.attrs.length≤1000000000) (A A':Option Addr) (C C':Nat)
  (d1:0<l.length→∃ g ro,A=some ⟨g,ro,none⟩∧g<w0.heap.size∧∀ i p,l[i]?=some p→qR w0 g (ro+i*6) w0.heap.size p)
  (N:0<l.length→∃ g ro,A'=some ⟨g,ro,none⟩∧g<w0.heap.size∧∀ i p,l'[i]?=some p→qR w0 g (ro+i*6) w0.heap.size p) :
  Calls Tryz.prog 10 #[.slice A l.length C,.slice A' l.length C',.bool pl] w0 fun e w'=>e=.returned (.bool true)∧Below w0.heap.size w0 w':=by
 have d4:l'.length=l.length:=by have:=congrArg List.length Z;simpa using this
 have b7:=Lh (EZ w0 l y c A C d1);have ⟨L,R,b9,f3,M,Q⟩:=iD N d4 Z d8 y c;have a7:=Lh (fun p (G:p∈fS l)=>A8 (p:=p) (l:=l) (acc:=[]) (by simp) dT G);clear y c d1 N dT d4 Z d8;refine eT 49 Tryz.func10 [_,_,_] fun f=>?_;simp only [aF];refine vg ?_;intro K hK K hK;refine b7.o.mono ?_;rintro e1 w1 ⟨va,xs,rfl,s,d7,e0,P⟩;have ⟨a8,D,U,b8⟩:=kY s d7 e0 P;have T:=Lh (EZ w1 l' (by rw [R.o];exact M.o) (by rw [tP b9.o];exact Q.o) A' C' (fun h=>by
  obtain ⟨g,ro,h1,h2,h3⟩:=L.o (by rw [←R.o];exact h);refine ⟨g,ro,h1,rS h2 s.size,fun i p G=>?_⟩;obtain ⟨sa,sl,sc,c0,c1,c2,c3,c4,c5,c6,c7⟩:=(h3 i p G).ex;have tr:∀ j v,w0.cell? ⟨g,j,none⟩=some v→w1.cell? ⟨g,j,none⟩=some v:=fun j v h=>(s.cell (p:=⟨g,j,none⟩) h2).trans h;exact ⟨sa,sl,sc,tr _ _ c0,tr _ _ c1,tr _ _ c2,tr _ _ c3,tr _ _ c4,tr _ _ c5,aE (S:=fun _=>False) c6 (aH s _) (fun _ _=>id),fun k hk=>rS (c7 k hk) s.size⟩))
 rw [R.o] at T;clear s d7 e0 P b7 L;(repeat revert K);refine vS ?_;intro K hK K hK;refine T.o.mono ?_;rintro e2 H ⟨vb,ys,rfl,V,F,a6,d5⟩;obtain ⟨m,hm⟩:=cR (fS l);obtain ⟨m',E⟩:∃ m',m'=fS l':=⟨_,rfl⟩;have Y:m'.map iB=m.map iB:=by rw [hm,E];exact wB b9.o rfl
 have d6:pl=true→m'=m:=fun h=>by rw [hm,E,f3.o h]
 have O:m'.length=m.length:=by have:=congrArg List.length Y;simpa using this
 rw [←E] at F a6;rw [O] at F;rw [←hm] at D U b8 a7;have ⟨f1,f2⟩:=cH Y d6;have a9:=Lh (a8.o.trans (V.mono a8.o.size));have z:aK (fun _=>False) w1 H:=aH V _;have cT:=Lh (aE (S:=fun _=>False) D.o z (fun _ _=>id));have c9:=Lh (U.o.mono (fun _ _ hh=>mD.mod (G':=fun k=>k<w0.heap.size) hh z (fun k hk _=>⟨id,hk⟩)));have ⟨c8,f6⟩:=cH F a6;obtain ⟨aA,aC,rfl⟩:∃ aA aC,va=.slice aA m.length aC:=by
  rcases D.o.2 with ⟨r,h8⟩|⟨g,cap,cur,r,_⟩
  ·exact ⟨none,0,by rw [r,h8]⟩
  ·exact ⟨_,_,r⟩
 obtain ⟨bA,bC,rfl⟩:∃ bA bC,vb=.slice bA m.length bC:=by
  rcases c8.o.2 with ⟨r,h8⟩|⟨g,cap,cur,r,_⟩
  ·exact ⟨none,0,by rw [r,h8]⟩
  ·exact ⟨_,_,r⟩
 clear V F a6 d5 hm E Y d6 O z T D U;(repeat revert K);refine vS ?_;intro K hK;refine cM [0,1,2,18,19] fun f=>?_;refine wp_loop_ghost_k (Z4 H (.slice aA m.length aC) (.slice bA m.length bC) pl m.length) m.length ⟨f,0,rfl,Below.refl _ H,rfl,kW _⟩ ?_;rintro k _ w ⟨f,i,rfl,hb,hk,hi⟩ J K2 hJ dI;have ⟨HJ,b6,t,HK⟩:=kY hJ dI hb hk;clear hJ dI hb hk;by_cases X:i<m.length
 rotate_left
 ·have f7:i=m.length:=by omega
  subst f7;have t1:¬ ((m.length:Int)<(m.length:Int)):=by omega
  revert K;refine vg ?_;refine cX ?_;exact ⟨rfl,a9.o.trans (t.o.mono a9.o.size)⟩
 have t0:(0:Int)≤(i:Int):=by omega
 have t1:(i:Int)<(m.length:Int):=by omega
 have wi:IntKind.i64.wrap ((i:Int)+1)=((i+1:Nat):Int):=by rw [IntKind.wrap_i64];have:=M.o;have:=b8.o;omega
 obtain ⟨p,G⟩:∃ p,m[i]?=some p:=⟨m[i],by simp [X]⟩;have e7:=Lh (a7.o p (List.mem_of_getElem? G));obtain ⟨p',B,d9⟩:∃ p',m'[i]?=some p'∧iB p'=iB p:=by
  have r:=congrArg (fun k:List cA=>k[i]?) f1.o;simp only [List.getElem?_map,G,Option.map_some] at r;cases h8:m'[i]? with
  | none=>rw [h8] at r;cases r
  | some p'=>rw [h8] at r;exact ⟨p',rfl,by simpa using r⟩
 have f4:=Lh (show pl=true→p'.at'=p.at' from fun h=>by
  rw [f2.o h,G] at B;simp only [kQ] at B;rw [B])
 obtain ⟨n1,n2,n3,n4,n5⟩:=CP d9;obtain ⟨ga,ca,e3,_,u,_,_,d2⟩:=gY cT.o (by omega);obtain ⟨gb,cb,e4,_,x,_,_,d3⟩:=gY c8.o (by omega);simp only [Value.slice.injEq] at e3 e4;obtain ⟨rfl,_,rfl⟩:=e3;obtain ⟨rfl,_,rfl⟩:=e4;obtain ⟨sa,sl,sc,a0,a1,a2,a3,a4,a5,d0,_⟩:=(wV c9.o d2 G).ex;obtain ⟨f9,g0,gB,b0,b1,b2,b3,b4,b5,W,_⟩:=(wV f6.o d3 B).ex;rw [n1] at b0;rw [n2] at b1;rw [n3] at b2;rw [n4] at W;rw [n5] at b4;have d:∀ j v,H.cell? ⟨ga,j,none⟩=some v→w.cell? ⟨ga,j,none⟩=some v:=fun j v h=>(t.o.cell (p:=⟨ga,j,none⟩) u).trans h;have n:∀ j v,H.cell? ⟨gb,j,none⟩=some v→w.cell? ⟨gb,j,none⟩=some v:=fun j v h=>(t.o.cell (p:=⟨gb,j,none⟩) x).trans h;replace a0:=d _ _ a0;replace a1:=d _ _ a1;replace a2:=d _ _ a2;replace a3:=d _ _ a3;replace a4:=d _ _ a4;replace a5:=d _ _ a5;replace b0:=n _ _ b0;replace b1:=n _ _ b1;replace b2:=n _ _ b2;replace b3:=n _ _ b3;replace b4:=n _ _ b4;replace b5:=n _ _ b5;have ⟨e9,f0,e6,e8⟩:=kY u x a5 b5;have I:=Lh (fun (k:Nat)=>TG (w.drewN k) p p'.at' e7.o 0 0 sa sl sc f9 g0 gB (aE (S:=fun _=>False) d0 (eM (aH t.o (fun _=>False)) rfl rfl rfl rfl) (fun _ _=>id)) (aE (S:=fun _=>False) W (eM (aH t.o (fun _=>False)) rfl rfl rfl rfl) (fun _ _=>id)));clear d2 d3 d0 W d n u x G B d9 n1 n2 n3 n4 n5;cases pl with
 | false=>
  revert K;refine vg ?_;intro K hK K hK K hK;(refine lI [0,0,0,1,0,0,0,1,2,0,0,0,0,0,0,0,0,1,0,0,0,0,1,0,0,0] [0,1,2,3,4,5,6,7,8,9,10,11,12,13,14,15,16,17,18,19,20,21,22,23,24,25] ?_;refine vP ?_;repeat with_reducible intro nq)
  refine bN rfl rfl (fun nq K hK=>?_);go_simp;refine (I.o _).mono ?_;rintro e5 w5 ⟨rfl,b⟩;have a:=Lh (show Below H.heap.size H w5 from t.o.trans ((show Below w.heap.size w w5 from ⟨b.os,b.tape,b.output,b.size,b.block⟩).mono t.o.size));clear b;go_simp;refine hK.out _ _ ?_;clear hK K;(refine vP ?_;repeat with_reducible intro nq)
  (repeat revert K);refine vg ?_;intro K hK;refine Kk [0,1,2,18,19] fun f=>?_;exact b6.o _ _ ⟨m.length-(i+1),by rw [HK.o];omega,HJ.o _ _ _ ⟨f,i+1,rfl,⟨a.o.os,a.o.tape,a.o.output,a.o.size,a.o.block⟩,rfl,X⟩⟩
 | true=>
  revert K;refine vg ?_;intro K hK K hK K hK;(refine lI [0,0,0,1,0,0,0,1,2,0,0,0,0,0,0,0,0,1,0,0,0,0,1,0,0,0] [0,1,2,3,4,5,6,7,8,9,10,11,12,13,14,15,16,17,18,19,20,21,22,23,24,25] ?_;refine vP ?_;repeat with_reducible intro nq)
  refine bN rfl rfl (fun nq K hK=>?_);go_simp;refine (I.o _).mono ?_;rintro e5 w5 ⟨rfl,b⟩;have o:Below w.heap.size w w5:=⟨b.os,b.tape,b.output,b.size,b.block⟩;have a:=Lh (show Below H.heap.size H w5 from t.o.trans (o.mono t.o.size));have g1:w5.cell? ⟨ga,i*6+5,none⟩=some (.int .i64 p.at'):=(o.cell (p:=⟨ga,i*6+5,none⟩) (rS e9.o t.o.size)).trans e6.o;have g2:w5.cell? ⟨gb,i*6+5,none⟩=some (.int .i64 p.at'):=by
   rw [←f4.o rfl];exact (o.cell (p:=⟨gb,i*6+5,none⟩) (rS f0.o t.o.size)).trans e8.o
  clear b o a0 a1 a2 a3 a4 a5 b0 b1 b2 b3 b4 b5;go_simp;refine hK.out _ _ ?_;clear hK K;(refine vP ?_;repeat with_reducible intro nq)
  (repeat revert K);refine vg ?_;intro K hK;refine Kk [0,1,2,18,19] fun f=>?_;exact b6.o _ _ ⟨m.length-(i+1),by rw [HK.o];omega,HJ.o _ _ _ ⟨f,i+1,rfl,⟨a.o.os,a.o.tape,a.o.output,a.o.size,a.o.block⟩,rfl,X⟩⟩
end Go.Proofs.YthapcchcahnfaaaGreatDoor
