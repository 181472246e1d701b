/- Part of the proof that laws.FnStrictIsLoose, laws.FnUnclosed, laws.FnReaderFails, laws.FnWithin, laws.FnSkip returns true for every argument. No conditions. -/
import Derived.Test.YthapcchcahnfaaaGreatDoorP42
import Derived.Test.YthapcchcahnfaaaGreatDoorP33
set_option linter.all false
set_option maxHeartbeats 8000000
set_option maxRecDepth 100000
namespace Go.Proofs.YthapcchcahnfaaaGreatDoor
open Go Go.RowKit
def Ei (w1:World) (c d:Value) (b:Bool) (n:Nat) (k:Nat) (a:Act) (w:World):Prop:=
 ∃ f i,a=fr 49 f [(0,c),(1,d),(2,.bool b),(18,.int .i64 (n:Nat)),(19,.int .i64 (i:Nat))]∧Below w1.heap.size w1 w∧k=n-i∧i≤n
theorem CJ {p:cD}:∀ {l acc:List cD},(∀ q∈acc,q.attrs.length≤1000000000)→(∀ q∈l,q.attrs.length≤1000000000)→p∈l.foldl dG acc→p.attrs.length≤1000000000
 | [],acc,d,_,h=>d p h
 | a::l,acc,d,e,h=>by
  refine CJ (l:=l) (acc:=dG acc a) ?_ (fun q c=>e q (by simp [c])) h;intro q c;unfold dG at c;split at c
  ·exact d q c
  ·split at c
   ·rename_i g f;split at c
    ·rcases List.mem_append.1 c with b|b
     ·exact d q (List.dropLast_subset _ b)
     ·simp only [List.mem_singleton] at b;rw [b];exact d g (List.mem_of_getLast? f)
    ·rcases List.mem_append.1 c with b|b
     ·exact d q b
     ·simp only [List.mem_singleton] at b;rw [b];exact e a (by simp)
   ·rcases List.mem_append.1 c with b|b
    ·exact d q b
    ·simp only [List.mem_singleton] at b;rw [b];exact e a (by simp)
def iN (p:cD):cD:={ p with at':=0,line:=0,col:=0 }
theorem EA {p q:cD} (h:iN p=iN q):p.kind=q.kind∧p.space=q.space∧p.loc=q.loc∧p.attrs=q.attrs∧p.text=q.text:=by
 simp only [iN,cD.mk.injEq] at h;exact ⟨h.1,h.2.1,h.2.2.1,h.2.2.2.1,h.2.2.2.2.1⟩
theorem W9 {p q:cD} (a:p.kind=q.kind) (b:p.space=q.space) (c:p.loc=q.loc) (d:p.attrs=q.attrs) (e:p.text=q.text):iN p=iN q:=by
 simp only [iN,cD.mk.injEq];exact ⟨a,b,c,d,e,trivial,trivial,trivial⟩
theorem OG {acc a:List cD} {p i:cD} (h:a.map iN=acc.map iN) (f:iN i=iN p):(dG a i).map iN=(dG acc p).map iN:=by
 obtain ⟨r,t,u,v,s⟩:=EA f;unfold dG;rw [r,s];by_cases d:p.kind=3∧p.text=[]
 ·rw [aV d,aV d];exact h
 ·rw [aN d,aN d];have c:a.getLast?.map iN=acc.getLast?.map iN:=by rw [←List.getLast?_map,←List.getLast?_map,h]
  cases g:acc.getLast? with
  | none=>
   rw [g] at c;cases b:a.getLast? with
   | none=>simp only [List.map_append,List.map_cons,List.map_nil,h,f]
   | some q'=>rw [b] at c;cases c
  | some q=>
   rw [g] at c;cases b:a.getLast? with
   | none=>rw [b] at c;cases c
   | some q'=>
    rw [b] at c;simp only [Option.map_some,kD] at c;obtain ⟨k,l,m,n,o⟩:=EA c;simp only [k];by_cases e:p.kind=3∧q.kind=3
    ·rw [aV e,aV e];have j:a.dropLast.map iN=acc.dropLast.map iN:=by rw [List.map_dropLast,List.map_dropLast,h]
     simp only [List.map_append,List.map_cons,List.map_nil,j]
     congr 2
     exact W9 rfl l m n (by show q'.text++p.text=q.text++p.text;rw [o])
    ·rw [aN e,aN e];simp only [List.map_append,List.map_cons,List.map_nil,h,f]
theorem xQ:∀ {l l' acc a:List cD},l'.map iN=l.map iN→a.map iN=acc.map iN→(l'.foldl dG a).map iN=(l.foldl dG acc).map iN
 | [],[],_,_,_,h=>h
 | [],_::_,_,_,h,_=>by simp at h
 | _::_,[],_,_,h,_=>by simp at h
 | p::l,p'::l',acc,a,h,b=>by
  simp only [List.map_cons,List.cons.injEq] at h;exact xQ (l:=l) (l':=l') h.2 (OG b h.1)
theorem vG {l l':List cD} (h:l'.map iN=l.map iN):dP l'=dP l:=by
 have e:∀ k:List cD,k.map (fun p=>p.text.length)=(k.map iN).map fun p=>p.text.length:=fun k=>by rw [List.map_map];rfl
 unfold dP;rw [e l',h,←e l]
theorem S2 (w0:World) (l l':List cD) (pl:Bool) (Z:l'.map iN=l.map iN) (d6:pl=true→l'=l) (y:l.length≤1000000000) (c:dP l≤4611686018427387904) (c9:∀ q∈l,q.attrs.length≤1000000000) (A A':Option Addr) (C C':Nat)
  (dT:0<l.length→∃ g ro,A=some ⟨g,ro,none⟩∧g<w0.heap.size∧∀ i p,l[i]?=some p→iS w0 g (ro+i*6) w0.heap.size p)
  (N:0<l.length→∃ g ro,A'=some ⟨g,ro,none⟩∧g<w0.heap.size∧∀ i p,l'[i]?=some p→iS w0 g (ro+i*6) w0.heap.size p) :
  Calls Tryz.prog 10 #[.slice A l.length C,.slice A' l.length C',.bool pl] w0 fun e w'=>e=.returned (.bool true)∧Below w0.heap.size w0 w':=by
 have d2:l'.length=l.length:=by have:=congrArg List.length Z;simpa using this
 have bL:=Lh (GW w0 l y c A C dT);have ⟨L,R,b7,f1,M,Q⟩:=iH N d2 Z d6 y c;have a6:=Lh (fun p (G:p∈gC l)=>CJ (p:=p) (l:=l) (acc:=[]) (by simp) c9 G);clear y c dT N c9 d2 Z d6;refine eI 49 Tryz.func10 [_,_,_] fun f=>?_;simp only [aF];refine vg ?_;intro K hK K hK;refine bL.o.mono ?_;rintro e1 w1 ⟨va,xs,rfl,s,d5,d8,P⟩;have ⟨a7,D,U,b6⟩:=kV s d5 d8 P;have T:=Lh (GW w1 l' (by rw [R.o];exact M.o) (by rw [vG b7.o];exact Q.o) A' C' (fun h=>by
  obtain ⟨g,ro,h1,h2,h3⟩:=L.o (by rw [←R.o];exact h);refine ⟨g,ro,h1,oX h2 s.size,fun i p G=>?_⟩;obtain ⟨sa,sl,sc,c0,c1,c2,c3,c4,c5,c6,c7⟩:=(h3 i p G).ex;have tr:∀ j v,w0.cell? ⟨g,j,none⟩=some v→w1.cell? ⟨g,j,none⟩=some v:=fun j v h=>(s.cell (p:=⟨g,j,none⟩) h2).trans h;exact ⟨sa,sl,sc,tr _ _ c0,tr _ _ c1,tr _ _ c2,tr _ _ c3,tr _ _ c4,tr _ _ c5,aE (S:=fun _=>False) c6 (aG s _) (fun _ _=>id),fun k hk=>oX (c7 k hk) s.size⟩))
 rw [R.o] at T;clear s d5 d8 P bL L;(repeat revert K);refine vS ?_;intro K hK K hK;refine T.o.mono ?_;rintro e2 H ⟨vb,ys,rfl,V,F,aL,d3⟩;obtain ⟨m,hm⟩:=cY (gC l);obtain ⟨m',E⟩:∃ m',m'=gC l':=⟨_,rfl⟩;have Y:m'.map iN=m.map iN:=by rw [hm,E];exact xQ b7.o rfl
 have d4:pl=true→m'=m:=fun h=>by rw [hm,E,f1.o h]
 have O:m'.length=m.length:=by have:=congrArg List.length Y;simpa using this
 rw [←E] at F aL;rw [O] at F;rw [←hm] at D U b6 a6;have ⟨e9,f0⟩:=cN Y d4;have a8:=Lh (a7.o.trans (V.mono a7.o.size));have z:aM (fun _=>False) w1 H:=aG V _;have b8:=Lh (aE (S:=fun _=>False) D.o z (fun _ _=>id));have cT:=Lh (U.o.mono (fun _ _ hh=>kC.mod (G':=fun k=>k<w0.heap.size) hh z (fun k hk _=>⟨id,hk⟩)));have ⟨b9,f3⟩:=cN F aL;obtain ⟨aA,aC,rfl⟩:∃ aA aC,va=.slice aA m.length aC:=by
  rcases D.o.2 with ⟨r,h8⟩|⟨g,cap,cur,r,_⟩
  ·exact ⟨none,0,by rw [r,h8]⟩
  ·exact ⟨_,_,r⟩
 obtain ⟨bA,bC,rfl⟩:∃ bA bC,vb=.slice bA m.length bC:=by
  rcases b9.o.2 with ⟨r,h8⟩|⟨g,cap,cur,r,_⟩
  ·exact ⟨none,0,by rw [r,h8]⟩
  ·exact ⟨_,_,r⟩
 clear V F aL d3 hm E Y d4 O z T D U;(repeat revert K);refine vS ?_;intro K hK;refine cP [0,1,2,18,19] fun f=>?_;refine wp_loop_ghost_k (Ei H (.slice aA m.length aC) (.slice bA m.length bC) pl m.length) m.length ⟨f,0,rfl,Below.refl _ H,rfl,iW _⟩ ?_;rintro k _ w ⟨f,i,rfl,hb,hk,hi⟩ J K2 hJ c8;have ⟨HJ,a9,t,HK⟩:=kV hJ c8 hb hk;clear hJ c8 hb hk;by_cases X:i<m.length
 rotate_left
 ·have f4:i=m.length:=by omega
  subst f4;have t1:¬ ((m.length:Int)<(m.length:Int)):=by omega
  revert K;refine vg ?_;refine cO ?_;exact ⟨rfl,a8.o.trans (t.o.mono a8.o.size)⟩
 have t0:(0:Int)≤(i:Int):=by omega
 have t1:(i:Int)<(m.length:Int):=by omega
 have wi:IntKind.i64.wrap ((i:Int)+1)=((i+1:Nat):Int):=by rw [IntKind.wrap_i64];have:=M.o;have:=b6.o;omega
 obtain ⟨p,G⟩:∃ p,m[i]?=some p:=⟨m[i],by simp [X]⟩;have e4:=Lh (a6.o p (List.mem_of_getElem? G));obtain ⟨p',B,d7⟩:∃ p',m'[i]?=some p'∧iN p'=iN p:=by
  have r:=congrArg (fun k:List cD=>k[i]?) e9.o;simp only [List.getElem?_map,G,Option.map_some] at r;cases h8:m'[i]? with
  | none=>rw [h8] at r;cases r
  | some p'=>rw [h8] at r;exact ⟨p',rfl,by simpa using r⟩
 have f2:=Lh (show pl=true→p'.at'=p.at' from fun h=>by
  rw [f0.o h,G] at B;simp only [kD] at B;rw [B])
 obtain ⟨n1,n2,n3,n4,n5⟩:=EA d7;obtain ⟨ga,ca,d9,_,u,_,_,d0⟩:=eW b8.o (by omega);obtain ⟨gb,cb,e0,_,x,_,_,d1⟩:=eW b9.o (by omega);simp only [Value.slice.injEq] at d9 e0;obtain ⟨rfl,_,rfl⟩:=d9;obtain ⟨rfl,_,rfl⟩:=e0;obtain ⟨sa,sl,sc,a0,a1,a2,a3,a4,a5,dI,_⟩:=(oJ cT.o d0 G).ex;obtain ⟨f5,f7,f6,b0,b1,b2,b3,b4,b5,W,_⟩:=(oJ f3.o d1 B).ex;rw [n1] at b0;rw [n2] at b1;rw [n3] at b2;rw [n4] at W;rw [n5] at b4;have d:∀ j v,H.cell? ⟨ga,j,none⟩=some v→w.cell? ⟨ga,j,none⟩=some v:=fun j v h=>(t.o.cell (p:=⟨ga,j,none⟩) u).trans h;have n:∀ j v,H.cell? ⟨gb,j,none⟩=some v→w.cell? ⟨gb,j,none⟩=some v:=fun j v h=>(t.o.cell (p:=⟨gb,j,none⟩) x).trans h;replace a0:=d _ _ a0;replace a1:=d _ _ a1;replace a2:=d _ _ a2;replace a3:=d _ _ a3;replace a4:=d _ _ a4;replace a5:=d _ _ a5;replace b0:=n _ _ b0;replace b1:=n _ _ b1;replace b2:=n _ _ b2;replace b3:=n _ _ b3;replace b4:=n _ _ b4;replace b5:=n _ _ b5;have ⟨e7,e8,e3,e6⟩:=kV u x a5 b5;have I:=Lh (fun (k:Nat)=>V7 (w.drewN k) p p'.at' e4.o 0 0 sa sl sc f5 f7 f6 (aE (S:=fun _=>False) dI (eX (aG t.o (fun _=>False)) rfl rfl rfl rfl) (fun _ _=>id)) (aE (S:=fun _=>False) W (eX (aG t.o (fun _=>False)) rfl rfl rfl rfl) (fun _ _=>id)));clear d0 d1 dI W d n u x G B d7 n1 n2 n3 n4 n5;cases pl with
 | false=>
  revert K;refine vg ?_;intro K hK K hK K hK;(refine lX [0,0,0,1,0,0,0,1,2,0,0,0,0,0,0,0,0,1,0,0,0,0,1,0,0,0] [0,1,2,3,4,5,6,7,8,9,10,11,12,13,14,15,16,17,18,19,20,21,22,23,24,25] ?_;refine vP ?_;repeat with_reducible intro nq)
  refine bK rfl rfl (fun nq K hK=>?_);go_simp;refine (I.o _).mono ?_;rintro e5 w5 ⟨rfl,b⟩;have a:=Lh (show Below H.heap.size H w5 from t.o.trans ((show Below w.heap.size w w5 from ⟨b.os,b.tape,b.output,b.size,b.block⟩).mono t.o.size));clear b;go_simp;refine hK.out _ _ ?_;clear hK K;(refine vP ?_;repeat with_reducible intro nq)
  (repeat revert K);refine vg ?_;intro K hK;refine Kk [0,1,2,18,19] fun f=>?_;exact a9.o _ _ ⟨m.length-(i+1),by rw [HK.o];omega,HJ.o _ _ _ ⟨f,i+1,rfl,⟨a.o.os,a.o.tape,a.o.output,a.o.size,a.o.block⟩,rfl,X⟩⟩
 | true=>
  revert K;refine vg ?_;intro K hK K hK K hK;(refine lX [0,0,0,1,0,0,0,1,2,0,0,0,0,0,0,0,0,1,0,0,0,0,1,0,0,0] [0,1,2,3,4,5,6,7,8,9,10,11,12,13,14,15,16,17,18,19,20,21,22,23,24,25] ?_;refine vP ?_;repeat with_reducible intro nq)
  refine bK rfl rfl (fun nq K hK=>?_);go_simp;refine (I.o _).mono ?_;rintro e5 w5 ⟨rfl,b⟩;have o:Below w.heap.size w w5:=⟨b.os,b.tape,b.output,b.size,b.block⟩;have a:=Lh (show Below H.heap.size H w5 from t.o.trans (o.mono t.o.size));have f9:w5.cell? ⟨ga,i*6+5,none⟩=some (.int .i64 p.at'):=(o.cell (p:=⟨ga,i*6+5,none⟩) (oX e7.o t.o.size)).trans e3.o;have gB:w5.cell? ⟨gb,i*6+5,none⟩=some (.int .i64 p.at'):=by
   rw [←f2.o rfl];exact (o.cell (p:=⟨gb,i*6+5,none⟩) (oX e8.o t.o.size)).trans e6.o
  clear b o a0 a1 a2 a3 a4 a5 b0 b1 b2 b3 b4 b5;go_simp;refine hK.out _ _ ?_;clear hK K;(refine vP ?_;repeat with_reducible intro nq)
  (repeat revert K);refine vg ?_;intro K hK;refine Kk [0,1,2,18,19] fun f=>?_;exact a9.o _ _ ⟨m.length-(i+1),by rw [HK.o];omega,HJ.o _ _ _ ⟨f,i+1,rfl,⟨a.o.os,a.o.tape,a.o.output,a.o.size,a.o.block⟩,rfl,X⟩⟩
theorem S3 (w0:World) (l:List cD) (c:l.length≤1000000000) (a:dP l≤4611686018427387904) (h:∀ q∈l,q.attrs.length≤1000000000) (A f:Option Addr) (C k:Nat)
  (j:0<l.length→∃ g d,A=some ⟨g,d,none⟩∧g<w0.heap.size∧∀ i p,l[i]?=some p→iS w0 g (d+i*6) w0.heap.size p)
  (b:0<l.length→∃ g d,f=some ⟨g,d,none⟩∧g<w0.heap.size∧∀ i p,l[i]?=some p→iS w0 g (d+i*6) w0.heap.size p) (m:Bool) :
  Calls Tryz.prog 10 #[.slice A l.length C,.slice f l.length k,.bool m] w0 fun e w'=>e=.returned (.bool true)∧Below w0.heap.size w0 w':=
 S2 w0 l l m rfl (fun _=>rfl) c a h A f C k j b
end Go.Proofs.YthapcchcahnfaaaGreatDoor
