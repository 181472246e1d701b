/- Part of the proof that laws.FnWithin returns true for every argument. No conditions. -/
import Derived.Test.YthapcchcahnfaaaGreatDoorQ27
import Derived.Test.YthapcchcahnfaaaGreatDoorQ29
import Derived.Test.YthapcchcahnfaaaGreatDoorQ24
import Derived.Test.YthapcchcahnfaaaGreatDoorQ28
set_option linter.all false
set_option maxHeartbeats 8000000
set_option maxRecDepth 100000
namespace Go.Proofs.YthapcchcahnfaaaGreatDoor
open Go Go.RowKit Go.Proofs.Tryz
noncomputable def gP (n:Nat):Code:=((Tryz.f18.body).bind (Code.partAt n)).getD .skip
def nK (a:cV) (p:List gZ×(Bs→Option Bs)):List gZ×(Bs→Option Bs):=
 if a.1=jJ then ({ kind:=1,space:=(p.2 a.2.1).getD [],loc:=a.2.1,ok:=(p.2 a.2.1).isSome }::p.1,gT p.2 a.2.1 (some a.2.2))
 else if a.1=[]∧a.2.1=jJ then ({ kind:=1,space:=(p.2 []).getD [],loc:=[],ok:=(p.2 []).isSome }::p.1,gT p.2 [] (some a.2.2))
 else p
theorem sJ (a:cV) (l:List cV) (f:List gZ) (j:Bs→Option Bs):dR (a::l) f j=dR l (nK a (f,j)).1 (nK a (f,j)).2:=by
 obtain ⟨e,c,v⟩:=a;conv=>lhs;unfold dR
 unfold nK;simp only;by_cases g:e=jJ
 ·have b:e=bE:=g;have i:¬ (e=[]∧c=bE):=by rintro ⟨h,_⟩;rw [g] at h;cases h
  simp only [aT b,aM i,aT g]
 ·have b:¬ e=bE:=g;by_cases i:e=[]∧c=jJ
  ·have d:e=[]∧c=bE:=i;simp only [aM b,aT d,aM g,aT i]
  ·have d:¬ (e=[]∧c=bE):=i;simp only [aM b,aM d,aM g,aM i]
theorem yL (a:cV):∀ (l:List cV) (c:List gZ) (d:Bs→Option Bs),dR (l++[a]) c d=nK a (dR l c d)
 | [],c,d=>by rw [List.nil_append,sJ];rfl
 | b::l,c,d=>by
  rw [iZ,sJ,yL a l,←sJ]
def rP (a:Bs→Option Bs):Prop:=∀ k u,a k=some u→u.length≤100000000000
theorem rP.set {b:Bs→Option Bs} (h:rP b) (k v:Bs) (c:v.length≤100000000000):rP (gT b k (some v)):=by
 intro d u a;unfold gT at a;split at a
 ·simp only [kQ] at a;rw [←a];exact c
 ·exact h d u a
theorem rP.get {a:Bs→Option Bs} (h:rP a) (k:Bs):((a k).getD []).length≤100000000000:=by
 cases b:a k with
 | none=>simp
 | some u=>exact h k u b
theorem PK {N:Nat} {a:cV} (f:zU 1000000000 a) {p:List gZ×(Bs→Option Bs)} (d:kN p.1) (c:rP p.2):kN (nK a p).1∧rP (nK a p).2∧(nK a p).1.length≤p.1.length+1:=by
 obtain ⟨g,h,i⟩:=f;unfold nK;split
 ·refine ⟨fun e b=>?_,c.set _ _ (by omega),by simp⟩;rcases l6.1 b with rfl|b
  ·exact ⟨aX rfl,by have:=c.get a.2.1;simp only;omega,by simp only;omega⟩
  ·exact d e b
 ·split
  ·refine ⟨fun e b=>?_,c.set _ _ (by omega),by simp⟩;rcases l6.1 b with rfl|b
   ·exact ⟨aX rfl,by have:=c.get [];simp only;omega,by simp⟩
   ·exact d e b
  ·exact ⟨d,c,by omega⟩
theorem eB.more {x:Cx} {c:DC} {w:World} {v:DV} {m:Nat} {n f:List Nat} {e:DC} {w' d:World} {b a:List Nat} {S:Nat→Prop} (h:eB x c w v m n f e w' b a) (l:aK S w' d) (j:∀ k,S k→k∈m::(b++a)∧k≠x.d):eB x c w v m n f e d b a:=by
 refine ⟨aJ.mod h.dec l (fun o=>(j _ o).2 rfl),h.cs,h.mod.trans l (fun i q p=>?_),h.sub⟩;rcases h.sub i (j i p).1 with g|g
 ·exact aX g
 ·omega
theorem mC.drewN {x:Cx} {w:World} {c:DC} {v:DV} {m:Nat} {e b:List Nat} {n:Nat} {a:List gZ} {d:Bs→Option Bs} (h:mC x w c v m e b n a d) (k:Nat):mC x (w.drewN k) c v m e b n a d:=h.mod ((aK.refl (fun _=>False) w).drewN k) (fun _ _=>id) h.s1
theorem tG {d:Array Value} {c:List cV} (h:d.toList.take (c.length*3)=aO c) {i:Nat} {a:cV} (m:c[i]?=some a):d[i*3]?=some (aB a.1)∧d[i*3+1]?=some (aB a.2.1)∧d[i*3+2]?=some (aB a.2.2):=by
 have q:=(FP.1 m).1;have k:∀ (l:List cV) (i:Nat) (a:cV),l[i]?=some a→(aO l)[i*3]?=some (aB a.1)∧(aO l)[i*3+1]?=some (aB a.2.1)∧(aO l)[i*3+2]?=some (aB a.2.2):=by
  intro l;induction l with
  | nil=>intro i a h;simp at h
  | cons b l ih=>
   intro i a h;have e:aO (b::l)=[aB b.1,aB b.2.1,aB b.2.2]++aO l:=rfl;cases i with
   | zero=>
    simp only [List.getElem?_cons_zero,kQ] at h;subst h;rw [e];exact ⟨rfl,rfl,rfl⟩
   | succ i=>
    simp only [List.getElem?_cons_succ] at h;obtain ⟨n,o,p⟩:=ih i a h;rw [e];refine ⟨?_,?_,?_⟩
    ·rw [C0 (by simp;omega)];simpa [Nat.succ_mul] using n
    ·rw [C0 (by simp;omega)];simpa [Nat.succ_mul] using o
    ·rw [C0 (by simp;omega)];simpa [Nat.succ_mul] using p
 obtain ⟨f,g,j⟩:=k c i a m;rw [←h] at f g j;rw [List.getElem?_take,aT (by omega),Array.getElem?_toList] at f;rw [List.getElem?_take,aT (by omega),Array.getElem?_toList] at g;rw [List.getElem?_take,aT (by omega),Array.getElem?_toList] at j;exact ⟨f,g,j⟩
def ZA (x:Cx) (c0:DC) (w0:World) (v:DV) (m:Nat) (h g:List Nat) (o:Nat) (b:List gZ) (e:Bs→Option Bs) (q:Nat) (p:Value) (d:List cV) (k:Nat) (a:Act) (w:World):Prop:=
 ∃ f c l j n i,a=fr 204 f [(0,bV x),(5,.nilIface),(8,.pointer (some ⟨q,0,none⟩)),(101,p),(102,.int .i64 d.length),(103,.int .i64 (i:Nat))]∧eB x c0 w0 v m h g c w l j ∧
  mC x w c v m l j n (dR (d.take i) b e).1 (dR (d.take i) b e).2∧k=d.length-i∧i≤d.length∧n+(dR (d.take i) b e).1.length≤o+b.length+2*i∧kN (dR (d.take i) b e).1∧rP (dR (d.take i) b e).2
theorem W4 (x:Cx) (hx:x.Ok) (c0:DC) (w0:World) (v:DV) (hd:bU w0 x.d c0 v) (p:∀ k,x.S1 v k→k<w0.heap.size) (hB:x.B≤w0.heap.size) (m:Nat) (O L:List Nat) (n0:Nat) (d:List gZ) (s:Bs→Option Bs) (h:mC x w0 c0 v m O L n0 d s) (aA:kN d) (Z:rP s)
  (b:List cV) (bC:∀ a∈b,zU 1000000000 a) (b4:b.length≤1000000000) (hn:n0+d.length≤10000000000) (t8 g f2:Nat) (c5:Array Value) (hg:aJ w0 g c5 103) (b0:c5.toList.take (b.length*3)=aO b) (gB:g≠x.d∧g∉m::(O++L)) (Q:Exit→Act→World→Prop)
  (hQ:∀ f c w sb fb n,eB x c0 w0 v m O L c w sb fb→mC x w c v m sb fb n (dR b d s).1 (dR b d s).2→n+(dR b d s).1.length≤n0+d.length+2*b.length→kN (dR b d s).1→rP (dR b d s).2→Q .normal (fr 204 f [(0,bV x),(5,.nilIface),(8,.pointer (some ⟨t8,0,none⟩))]) w) (f:Nat→Value) (c1:Code) (dT:c1=.loop (gP 23)) :
  c1.wp prog (Exit.inBlock 1 Q) (fr 204 f [(0,bV x),(5,.nilIface),(8,.pointer (some ⟨t8,0,none⟩)),(101,.slice (some ⟨g,0,none⟩) b.length f2),(102,.int .i64 b.length),(103,.int .i64 0)]) w0:=by
 subst dT;have ⟨HX,HQ,HN,e6,P,HG⟩:=iD hx hQ hn bC b4 hg;have ⟨f0,f1,a6,HB⟩:=kY b0 gB p hB;refine wp_loop_ghost_k (ZA x c0 w0 v m O L n0 d s t8 (.slice (some ⟨g,0,none⟩) b.length f2) b) b.length ⟨f,c0,O,L,n0,0,rfl,eB.refl hd m O L,h,by simp,kW _,by simp [dR],aA,Z⟩ ?_;clear h aA hd hx hQ hn Z bC b4 hg b0 gB p hB;rintro k _ w ⟨f,c,sb,fb,n,i,rfl,hs,ho,hk,hi,g2,aA,Z⟩ J K2 hJ f3;have ⟨HJ,cT,HS,HO,HK,u⟩:=iD hJ f3 hs ho hk g2;have ⟨a5,a4⟩:=cH aA Z;clear hJ f3 hs hk g2 aA Z ho;unfold gP;conv=>arg 2;whnf
 by_cases a9:i<b.length
 ·have h1:(i:Int)<(b.length:Int):=by omega
  have h0:(0:Int)≤(i:Int):=by omega
  have hL:IntKind.i64.wrap ((i:Int)+1)=((i+1:Nat):Int):=by rw [IntKind.wrap_i64];have:=P.o;omega
  obtain ⟨a,ha⟩:∃ a,b[i]?=some a:=⟨b[i],by simp [a9]⟩;obtain ⟨k1,k2,k3⟩:=tG f0.o ha;have a8:aJ w g c5 103:=HG.o.mod HS.o.mod (fun r=>by
   rcases r with r|r
   ·exact f1.o.1 r
   ·exact f1.o.2 r)
  have U:w.cell? ⟨g,i*3,none⟩=some (aB a.1):=(a8.cell _).trans k1;have V:w.cell? ⟨g,i*3+1,none⟩=some (aB a.2.1):=(a8.cell _).trans k2;have W:w.cell? ⟨g,i*3+2,none⟩=some (aB a.2.2):=(a8.cell _).trans k3;have a0:b.take (i+1)=b.take i++[a]:=by
   rw [List.take_succ,ha];rfl
  have bA:=yL a (b.take i) d s;rw [←a0] at bA;have T:=e6.o a (List.mem_of_getElem? ha);obtain ⟨b1,b2,b3⟩:=PK (N:=0) T a5.o a4.o;rw [←bA] at b1 b2 b3;have ⟨y,b7,b8,e7,H⟩:=pI bA b1 b2 b3 T;obtain ⟨l,b6⟩:=cR ((dR (b.take i) d s).1);obtain ⟨q,b5⟩:=cR ((dR (b.take i) d s).2);rw [show dR (b.take i) d s=(l,q) from by rw [b6,b5]] at y HO u a5 a4 e7;simp only at y HO u a5 a4 e7;clear b1 b2 b3 bA a0 k1 k2 k3 ha b6 b5 T a8;obtain ⟨sp,j,o⟩:=a;simp only at U V W;obtain ⟨I,A⟩:=cR (w.alloc (.cells #[aB sp,aB j,aB o] 103));have c9:aK (fun _=>False) w I:=by rw [A];exact aH ((Below.refl _ w).alloc (dC _) _) _
  have a7:aJ I w.heap.size #[aB sp,aB j,aB o] 103:=by rw [A];exact aJ.new w _ _
  have e3:mC x I c v m sb fb n l q:=HO.o.mod c9 (fun _ _=>id) HO.o.s1;have e4:=HS.o.more c9 (fun _ h=>h.elim);have hI:w.heap.size+1=I.heap.size:=by rw [A];exact (Array.size_push _).symm
  have ⟨e8,R,C⟩:=lQ a7 e3 e4;have M:=e4.dec;have hc:=M.cell;have hf:=M.frozen;have f4:=a7.cell;have f7:=a7.frozen;have g1:=e3.map;obtain ⟨d1,d2,d3,d4,d5,d6,d7,d8,d9,hC,hD,hE,hG⟩:=c;simp only at g1;subst g1;clear a7 e3 e4 c9;by_cases e1:sp=jJ
  ·subst e1;refine vg ?_;intro K hK K hK K hK;rw [show w.alloc (.cells #[.string ⟨List.toArray jJ⟩,.string ⟨List.toArray j⟩,.string ⟨List.toArray o⟩] 103)=I from A.symm];clear A U V W;have g0:=fun k=>(R.o.ns.drewN k).look j (by have:=H.o.2.1;unfold maxLen;simp only at this;omega);refine cM [0,5,8,10,101,102,103] fun f=>?_;go_quiet (fail);have aC:=Lh (EL x HX.o _ (I.drewN nq) v (show bU (I.drewN nq) x.d _ v from M) (fun k hk=>rS (a6.o k hk) C.o.mod.size) (gA HB.o C.o.mod.size) m sb fb n l q (R.o.drewN nq) j ((q j).getD []) (q j).isSome);clear g0;(repeat revert K);refine vg ?_;intro K hK K hK K hK K hK;refine aC.o.mono ?_;rintro e1 w1 ⟨rfl,c1,e5,c6,p,F⟩;have E:w.heap.size≠x.d∧w.heap.size∉m::(sb++fb):=⟨fun e=>by have:=a6.o x.d (aG (aG rfl));have h9:=HS.o.mod.size;omega,fun r=>Nat.lt_irrefl _ (HO.o.lt _ r)⟩;have t:=(show aJ (I.drewN nq) w.heap.size _ _ from e8.o).mod p.mod (fun r=>by rcases r with r|r;exact E.1 r;exact E.2 r);have z:=F.map;have B:=Lh F;have c3:=Lh ((C.o.more (S:=fun _=>False) ((aK.refl _ I).drewN nq) (fun _ h=>h.elim)).trans p);obtain ⟨p1,p2,p3,p4,p5,p6,p7,p8,p9,g6,g7,g8,g9⟩:=c1;simp only at z;subst z;have dT:=p.dec.cell;have g3:=p.dec.frozen;have d0:=t.cell;have b9:=Lh t;have e0:=t.frozen;clear aC p F t hc hf f4 f7 M;(repeat revert K);refine vS ?_;intro K hK K hK;refine cM [0,5,8,10,101,102,103] fun f=>?_;(refine lI [0,0,0,1,0,0,1,0,1,2] [0,1,2,3,4,5,6,7,8,9] ?_;refine vP ?_;repeat with_reducible intro nq)
   refine bN rfl rfl (fun a3 K hK=>?_);obtain ⟨w2,g5,Y,G⟩:=(B.o.ns.drewN a3).store (by have h9:n+l.length≤n0+d.length+2*i:=u.o;have:=HN.o;have:=P.o;unfold maxLen;omega) j o (by have:=H.o.2.1;unfold maxLen;simp only at this;omega) (by have:=H.o.2.2;unfold maxLen;simp only at this;omega);have D:=(show aJ (w1.drewN a3) w.heap.size _ _ from b9.o).mod (lB G) (fun r=>E.2 (by rw [r];exact List.mem_cons_self));have f6:=D.cell;have f9:=D.frozen;have ⟨c2,c4⟩:=cH Y G;clear Y G D d0 e0;go_simp;refine hK.out _ _ ?_;clear hK K;(refine vP ?_;repeat with_reducible intro nq)
   (try ((repeat revert K);refine vg ?_))
   have X:aK (fun k=>k=m) w1 (w2.drewN nq):=((show aK (fun k=>k=m) w1 (w1.drewN _) from (aK.refl _ w1).drewN _).trans (lB c4.o) (fun _ _ h=>h)).drewN nq;have c7:=B.o.turned X (c2.o.drewN nq);have c8:=c3.o.more X (fun k hk=>by subst hk;exact ⟨List.mem_cons_self,fun e=>B.o.s1 _ List.mem_cons_self (aG (aG e))⟩);refine Kk [0,5,8,101,102,103] fun f=>?_;refine cT.o _ _ ⟨b.length-(i+1),by rw [HK.o];omega,HJ.o _ _ _ ⟨f,_,e5,c6,n+1,i+1,rfl,c8,?_,rfl,a9,?_,b7.o,b8.o⟩⟩
   ·rw [y.o,show nK (jJ,j,o) (l,q)=({ kind:=1,space:=(q j).getD [],loc:=j,ok:=(q j).isSome }::l,gT q j (some o)) from rfl];exact c7
   ·have h9:n+l.length≤n0+d.length+2*i:=u.o;rw [y.o,show nK (jJ,j,o) (l,q)=({ kind:=1,space:=(q j).getD [],loc:=j,ok:=(q j).isSome }::l,gT q j (some o)) from rfl];simp only [gF];omega
  ·obtain ⟨a1,a2⟩:=rO e1;by_cases e2:sp=[]∧j=jJ
   ·obtain ⟨rfl,rfl⟩:=e2;have g0:=R.o.ns.look [] (by simp);refine vT 30 ?_;intro K hK;rw [show w.alloc (.cells #[.string ⟨#[]⟩,.string ⟨List.toArray jJ⟩,.string ⟨List.toArray o⟩] 103)=I from A.symm];clear A U V W;have aC:=Lh (EL x HX.o _ I v (show bU I x.d _ v from M) (fun k hk=>rS (a6.o k hk) C.o.mod.size) (gA HB.o C.o.mod.size) m sb fb n l q (R.o) [] ((q []).getD []) (q []).isSome);revert K;refine vg ?_;intro K hK K hK K hK;refine aC.o.mono ?_;rintro e1 w1 ⟨rfl,c1,e5,c6,p,F⟩;have E:w.heap.size≠x.d∧w.heap.size∉m::(sb++fb):=⟨fun e=>by have:=a6.o x.d (aG (aG rfl));have h9:=HS.o.mod.size;omega,fun r=>Nat.lt_irrefl _ (HO.o.lt _ r)⟩;have t:=(show aJ I w.heap.size _ _ from e8.o).mod p.mod (fun r=>by rcases r with r|r;exact E.1 r;exact E.2 r);have z:=F.map;have B:=Lh F;have c3:=Lh ((C.o).trans p);obtain ⟨p1,p2,p3,p4,p5,p6,p7,p8,p9,g6,g7,g8,g9⟩:=c1;simp only at z;subst z;have dT:=p.dec.cell;have g3:=p.dec.frozen;have d0:=t.cell;have b9:=Lh t;have e0:=t.frozen;clear aC p F t hc hf f4 f7 M;(repeat revert K);refine vS ?_;intro K hK;refine cM [0,5,8,10,101,102,103] fun f=>?_;(refine lI [0,0,0,1,0,1,2] [0,1,2,3,4,5,6] ?_;refine vP ?_;repeat with_reducible intro nq)
    refine bN rfl rfl (fun a3 K hK=>?_);obtain ⟨w2,g5,Y,G⟩:=(B.o.ns.drewN a3).store (by have h9:n+l.length≤n0+d.length+2*i:=u.o;have:=HN.o;have:=P.o;unfold maxLen;omega) [] o (by simp) (by have:=H.o.2.2;unfold maxLen;simp only at this;omega);have D:=(show aJ (w1.drewN a3) w.heap.size _ _ from b9.o).mod (lB G) (fun r=>E.2 (by rw [r];exact List.mem_cons_self));have f6:=D.cell;have f9:=D.frozen;have ⟨c2,c4⟩:=cH Y G;clear Y G D d0 e0;go_simp;refine hK.out _ _ ?_;clear hK K;(refine vP ?_;repeat with_reducible intro nq)
    (try (revert K;refine vg ?_))
    have X:aK (fun k=>k=m) w1 (w2.drewN nq):=((show aK (fun k=>k=m) w1 (w1.drewN _) from (aK.refl _ w1).drewN _).trans (lB c4.o) (fun _ _ h=>h)).drewN nq;have c7:=B.o.turned X (c2.o.drewN nq);have c8:=c3.o.more X (fun k hk=>by subst hk;exact ⟨List.mem_cons_self,fun e=>B.o.s1 _ List.mem_cons_self (aG (aG e))⟩);refine Kk [0,5,8,101,102,103] fun f=>?_;refine cT.o _ _ ⟨b.length-(i+1),by rw [HK.o];omega,HJ.o _ _ _ ⟨f,_,e5,c6,n+1,i+1,rfl,c8,?_,rfl,a9,?_,b7.o,b8.o⟩⟩
    ·rw [y.o,show nK ([],jJ,o) (l,q)=({ kind:=1,space:=(q []).getD [],loc:=[],ok:=(q []).isSome }::l,gT q [] (some o)) from rfl];exact c7
    ·have h9:n+l.length≤n0+d.length+2*i:=u.o;rw [y.o,show nK ([],jJ,o) (l,q)=({ kind:=1,space:=(q []).getD [],loc:=[],ok:=(q []).isSome }::l,gT q [] (some o)) from rfl];simp only [gF];omega
   ·have dI:(sp==[])=false∨((sp==[])=true∧(j==jJ)=false):=by
     by_cases h3:sp=[]
     ·refine aX ⟨by rw [h3];rfl,(rO (fun h4=>e2 ⟨h3,h4⟩)).1⟩
     ·exact aG (rO h3).1
    have e9:nK (sp,j,o) (l,q)=(l,q):=by
     unfold nK;rw [aM e1,aM e2]
    have E9:=Lh e9;clear e9 e2 e1;rcases dI with dI|⟨dI,hA⟩
    all_goals
     refine vg ?_;rw [show w.alloc (.cells #[.string ⟨List.toArray sp⟩,.string ⟨List.toArray j⟩,.string ⟨List.toArray o⟩] 103)=I from A.symm];refine Kk [0,5,8,101,102,103] fun f=>?_;refine cT.o _ _ ⟨b.length-(i+1),by rw [HK.o];omega,HJ.o _ _ _ ⟨f,_,sb,fb,n,i+1,rfl,C.o,?_,rfl,a9,?_,b7.o,b8.o⟩⟩
     ·rw [y.o,E9.o];exact R.o
     ·have h9:n+l.length≤n0+d.length+2*i:=u.o;rw [y.o,E9.o];simp only;omega
 ·have g4:i=b.length:=by omega
  subst g4;have h1:¬ ((b.length:Int)<(b.length:Int)):=by omega
  refine vg ?_;intro K hK;refine Qk [0,5,8] fun f=>?_;have h2:=HO.o;have h3:=u.o;have h4:=a5.o;have h5:=a4.o;rw [List.take_length] at h2 h3 h4 h5;exact HQ.o f c w sb fb n HS.o h2 h3 h4 h5
theorem yM (o:cP) (c:Bs→Option Bs) (nm:Bs×Bs) (d:Bool):(cQ o c nm d).2=nm.2:=by
 unfold cQ;split
 ·rfl
 split
 ·rfl
 split
 ·rfl
 have b:∀ a:Bs,(match c a with|some v=>(v,nm.2)|none=>if a=[] then (o.space,nm.2) else (a,nm.2):Bs×Bs).2=nm.2:=by
  intro a;cases c a with
  | some v=>rfl
  | none=>simp only;split<;>rfl
 exact b _
def W5 (o:cP) (b:Bs→Option Bs) (a:cV):cV:=let q:=cQ o b (a.1,a.2.1) false;(q.1,q.2,a.2.2)
theorem W6 (o:cP) (b:Bs→Option Bs) (a:cV):W5 o b a=((cQ o b (a.1,a.2.1) false).1,a.2):=by
 unfold W5;simp only [yM]
theorem vX (s:Bs):∀ (l:List cV) (i:Nat) (a:cV),l[i]?=some a→(aO l).set (i*3) (aB s)=aO (l.set i (s,a.2))
 | [],i,a,h=>by simp at h
 | b::l,0,a,h=>by
  simp only [List.getElem?_cons_zero,kQ] at h;subst h;rfl
 | b::l,i+1,a,h=>by
  simp only [List.getElem?_cons_succ] at h;have ih:=vX s l i a h;have e:∀ (b:cV) (l:List cV),aO (b::l)=[aB b.1,aB b.2.1,aB b.2.2]++aO l:=fun _ _=>rfl;rw [e,List.set_cons_succ,e,←ih,List.set_append_right _ _ (by simp;omega)]
  congr 2
  simp;omega
theorem W7 {b:Array Value} {l:List cV} {n:Nat} (d:n=l.length) (h:b.toList.take (n*3)=aO l) {i:Nat} {a:cV} (c:l[i]?=some a) (s:Bs):(b.setIfInBounds (i*3) (aB s)).toList.take (n*3)=aO (l.set i (s,a.2)):=by
 rw [Array.toList_setIfInBounds,List.take_set,h,vX s l i a c]
theorem S5 (f:cV→cV) (b:List cV) (i:Nat) (a:cV) (c:b[i]?=some a):((b.take i).map f++b.drop i)[i]?=some a∧((b.take i).map f++b.drop i).set i (f a)=(b.take (i+1)).map f++b.drop (i+1):=by
 obtain ⟨h,g⟩:=FP.1 c;have d:b.drop i=a::b.drop (i+1):=by rw [←g];exact CZ h
 have e:((b.take i).map f).length=i:=by simp;omega
 have j:b.take (i+1)=b.take i++[a]:=by rw [List.take_succ,c];rfl
 constructor
 ·rw [C0 (by omega),e,d];simp
 ·rw [List.set_append_right _ _ (by omega),e,d,j];simp
def ZB (x:Cx) (w0:World) (e:Bs→Option Bs) (j g:Nat) (h:Nat) (c:List cV) (k:Nat) (a:Act) (w:World):Prop:=
 ∃ f i d,a=fr 204 f [(0,bV x),(5,.nilIface),(8,.pointer (some ⟨j,0,none⟩)),(176,.int .i64 c.length),(177,.int .i64 (i:Nat))]∧aK (fun b=>b=g) w0 w ∧
  aJ w g d 103∧d.size=h∧d.toList.take (c.length*3)=aO ((c.take i).map (W5 x.o e)++c.drop i)∧k=c.length-i∧i≤c.length
theorem S6 (x:Cx) (hx:x.Ok) (c:DC) (w0:World) (v:DV) (hd:bU w0 x.d c v) (m n:Nat) (A:Bs→Option Bs) (y:c.ns=.map (some m)) (O:kT w0 m n A) (P:c.space=⟨x.o.space.toArray⟩)
  (d:List cV) (t:∀ a∈d,zU 1000000000 a) (u:d.length≤1000000000) (U g aA:Nat) (nm:Bs×Bs) (o:Array Value) (I:aJ w0 g o 103) (e:o.toList.take (d.length*3)=aO d) (L:g≠x.d∧g≠m∧g≠U)
  (S:aJ w0 U #[aB nm.1,aB nm.2,.slice (some ⟨g,0,none⟩) d.length aA] 101) (Q:Exit→Act→World→Prop)
  (hQ:∀ f w p,aK (fun b=>b=g) w0 w→aJ w g p 103→p.size=o.size→p.toList.take (d.length*3)=aO (d.map (W5 x.o A))→Q .normal (fr 204 f [(0,bV x),(5,.nilIface),(8,.pointer (some ⟨U,0,none⟩))]) w) (f:Nat→Value) (c1:Code) (a0:c1=.loop (gP 37)) :
  c1.wp prog (Exit.inBlock 3 Q) (fr 204 f [(0,bV x),(5,.nilIface),(8,.pointer (some ⟨U,0,none⟩)),(176,.int .i64 d.length),(177,.int .i64 0)]) w0:=by
 subst a0;have ⟨HX,HQ,B,C,l,HD⟩:=iD hx hQ t u L hd;have ⟨X,Y,W,Z⟩:=kY O P y S;refine wp_loop_ghost_k (ZB x w0 A U g o.size d) d.length ⟨f,0,o,rfl,aK.refl _ _,I,rfl,by simpa using e,by simp,kW _⟩ ?_;clear hd hx hQ t u I e L O P y S;rintro k _ w ⟨f,i,s,rfl,hm,I,R,e,hk,hi⟩ J K2 hJ G;have ⟨HJ,V,D,HG,F,j⟩:=iD hJ G hm I R e;have HK:=Lh hk;clear hJ G hm I R e hk;unfold gP;conv=>arg 2;whnf
 by_cases N:i<d.length
 ·have h1:(i:Int)<(d.length:Int):=by omega
  have h0:(0:Int)≤(i:Int):=by omega
  have a5:IntKind.i64.wrap ((i:Int)+1)=((i+1:Nat):Int):=by rw [IntKind.wrap_i64];have:=C.o;omega
  obtain ⟨a,ha⟩:∃ a,d[i]?=some a:=⟨d[i],by simp [N]⟩;obtain ⟨k0,k9⟩:=S5 (W5 x.o A) d i a ha;have z:((d.take i).map (W5 x.o A)++d.drop i).length=d.length:=by simp;omega
  have e:=j.o;rw [←z] at e;obtain ⟨k1,k2,k3⟩:=tG e k0;have q:=W7 z.symm j.o k0 (cQ x.o A (a.1,a.2.1) false).1;rw [←W6,k9] at q;have E:=Lh q;have r:=Z.o.mod D.o (fun M=>l.o.2.2 M.symm);have a1:=r.cell;have a2:=r.frozen;have H:bU w x.d c v:=aJ.mod HD.o D.o (fun M=>l.o.1 M.symm);have T:=Lh (qJ x c w v H m n A W.o (X.o.mod D.o (fun M=>l.o.2.1 M.symm)) Y.o g s _ HG.o l.o.1 l.o.2.1 (i*3) (a.1,a.2.1) k1 k2 (gA (B.o a (List.mem_of_getElem? ha)).1 (by decide)) false);clear q k0 k1 k2 k3 k9 e r H z;refine vg ?_;intro K hK K hK;refine T.o.mono ?_;rintro e1 w1 ⟨rfl,a4,aC,a6⟩;clear a1 a2 T;(repeat revert K);refine vS ?_;refine Kk [0,5,8,176,177] fun f=>?_;exact V.o _ _ ⟨d.length-(i+1),by rw [HK.o];omega,HJ.o _ _ _ ⟨f,i+1,_,rfl,D.o.trans a4 (fun _ _ h=>h),aC,by simpa using F.o,E.o,rfl,N⟩⟩
 ·have a3:i=d.length:=by omega
  subst a3;have h1:¬ ((d.length:Int)<(d.length:Int)):=by omega
  refine vg ?_;intro K hK;refine Qk [0,5,8] fun f=>?_;refine HQ.o f w s D.o HG.o F.o ?_;have:=j.o;simpa using this
theorem CF (x:Cx) (i:x.All) (c:DC) (w:World) (v:DV) (s:St) (m:Nat) (d b:List Nat) (n:Nat) (a:Nat) (nm:Bs×Bs) (h:PF x c w v s m d b n a nm) :
  Calls prog 41 #[bV x,.pointer (some ⟨a,0,none⟩)] w fun j w'=>gO x c w v s nm m d b n a j w':=by
 cases f:s.stk with
 | nil=>exact PG x i c w v s m d b n a nm h f
 | cons e stk'=>
  rcases (h.sok e (by rw [f];simp)).1 with g|g
  ·exact LO x i c w v s m d b n a nm h e stk' f g
  ·exact S4 x i c w v s m d b n a nm h e stk' f g
theorem iJ.head {w:World} {p:Value} {l:List gZ} {d:List Nat} (h:iJ w p l d) (a:kN l) :
  (p=.pointer none∧l=[])∨∃ q e l' b c,p=.pointer (some ⟨q,0,none⟩)∧l=e::l'∧(e.kind=0∨e.kind=1)∧aJ w q (jF b e.kind e.space e.loc c) 95∧q∈d:=by
 rcases h.ptr with ⟨f,_,g⟩|⟨q,e,l',bs',rfl,rfl,rfl⟩
 ·exact aG ⟨f,g⟩
 ·obtain ⟨_,b,c,i,_,_⟩:=h;exact aX ⟨q,e,l',b,c,rfl,rfl,(a e (by simp)).1,i,by simp⟩
def GX (x:Cx) (v:Value):Prop:=∃ A N C,v=.slice A N C∧N=x.o.auto.length∧N≤1000000000000∧N≤C∧(0<N→∃ b o,A=some ⟨b,o,none⟩∧b<x.B∧∀ j a,x.o.auto[j]?=some a→x.W0.cell? ⟨b,o+j,none⟩=some (aB a)∧a.length≤1000000000000)
structure vY (x:Cx) (c:DC):Prop where
 dc:iF x c
 no:rX x c
 sp:c.space=⟨x.o.space.toArray⟩
 auto:GX x c.auto
theorem vY.same {x:Cx} {c a:DC} (h:vY x c) (k:qK c a):vY x a:=by
 obtain ⟨p,q,d,b,e,f,rfl⟩:=k;exact ⟨⟨h.dc.r,h.dc.strict⟩,⟨h.no.ent,h.no.ents⟩,h.sp,h.auto⟩
def dP:Value→Nat→Prop
 | .iface _ (.agg #[_,_,.slice (some a) _ _]),k=>k=a.block
 | _,_=>False
theorem mV.slice {w:World} {b s:Value} {d:Bs} (h:mV w b s d):∃ a l c,s=.slice (some a) l c:=by
 obtain ⟨g,e,n,h,_⟩:=h.ex;exact ⟨_,_,_,h⟩
theorem bJ.mod {w w':World} {g o:Nat} {d:Bs} {S:Nat→Prop} (h:bJ w g o d) (f:aK S w w') (b:¬ S g):bJ w' g o d:=by
 intro j c;have a:=h j c;have e:=World.block_lt_of_cell? w _ a;rw [←a];exact World.cell?_of_block (w:=w) (f.block g e b)
theorem iT.mod {w w':World} {c:Value} {B:Nat} {m:Value} {l:aU} {S:Nat→Prop} (h:iT w c B m l) (o:aK S w w') (q:∀ k,eD c k→¬ S k) (t:∀ g,dP m g→¬ S g):iT w' c B m l:=by
 have j:∀ {s:Value} {d:Bs},mV w c s d→mV w' c s d:=by
  rintro s d ⟨g,e,n,b,a,i,f,p⟩;exact ⟨g,e,n,b,a,i.mod o (q g (by rw [a];rfl)),f,p⟩
 cases l with
 | text d=>obtain ⟨s,b,a⟩:=h;exact ⟨s,b,j a⟩
 | comment d=>obtain ⟨s,b,a⟩:=h;exact ⟨s,b,j a⟩
 | dir d=>obtain ⟨s,b,a⟩:=h;exact ⟨s,b,j a⟩
 | proc tg d=>obtain ⟨s,b,a⟩:=h;exact ⟨s,b,j a⟩
 | fin nm=>exact h
 | start nm ats=>
  obtain ⟨s,rfl,a,i⟩:=h;refine ⟨s,rfl,a,aE i o (fun k r=>?_)⟩;rcases i.2 with ⟨f,_⟩|⟨g,e,cur,f,_⟩
  ·exact absurd f a
  ·subst f;have:g=k:=by simpa [Value.ownBlock] using r
   subst this;exact t g rfl
theorem iT.lt {w:World} {k:Value} {B:Nat} {f:Value} {j:aU} (h:iT w k B f j) {g:Nat} (a:dP f g):B≤g∧g<w.heap.size:=by
 cases j with
 | start nm ats=>
  obtain ⟨c,rfl,e,n,i⟩:=h;rcases i with ⟨rfl,i⟩|⟨g',cap,cur,rfl,l,m,_⟩
  ·exact absurd rfl e
  ·have:g=g':=a;subst this;exact ⟨l,(show aJ w g cur 103 from m).lt⟩
 | fin nm=>rw [show f=MN nm from h] at a;exact a.elim
 | text d=>obtain ⟨c,rfl,b⟩:=h;obtain ⟨_,_,_,rfl⟩:=b.slice;exact a.elim
 | comment d=>obtain ⟨c,rfl,b⟩:=h;obtain ⟨_,_,_,rfl⟩:=b.slice;exact a.elim
 | dir d=>obtain ⟨c,rfl,b⟩:=h;obtain ⟨_,_,_,rfl⟩:=b.slice;exact a.elim
 | proc tg d=>obtain ⟨c,rfl,b⟩:=h;exact a.elim
def qL:Option aU→Nat
 | some (.start _ ats)=>1+ats.length
 | _=>0
def kU (x:Cx) (w:World) (v:DV) (c:DC) (s:St) (own:List Nat):Prop:=
 match s.next with
 | none=>c.nextTok=.nilIface
 | some tk=>∃ B,x.B≤B∧B≤w.heap.size∧iT w v.bufv B c.nextTok tk∧zV x.T.length tk∧(∀ g,dP c.nextTok g→g∉own∧¬ x.S1 v g)∧((∀ d,tk≠.text d)→s.ended=false∧v.err=.nilIface)
theorem kU.step {x:Cx} {w w':World} {v:DV} {c i:DC} {s f:St} {own a:List Nat} {S:Nat→Prop} (h:kU x w v c s own) (n:aK S w w') (u:∀ k,eD v.bufv k→¬ S k) (D:∀ g,dP c.nextTok g→¬ S g) (C:f.next=s.next) (y:i.nextTok=c.nextTok) (z:f.ended=s.ended)
  (d:∀ b∈a,b∈own∨w.heap.size≤b):kU x w' v i f a:=by
 unfold kU at h ⊢;rw [C,y,z];cases o:s.next with
 | none=>rw [o] at h;exact h
 | some tk=>
  rw [o] at h;obtain ⟨B,p,q,j,r,l,t⟩:=h;refine ⟨B,p,gA q n.size,j.mod n u D,r,fun g e=>⟨fun A=>?_,(l g e).2⟩,t⟩;rcases d g A with m|m
  ·exact (l g e).1 m
  ·have:=(j.lt e).2;omega
theorem kU.none {x:Cx} {w:World} {v:DV} {c:DC} {s:St} {own:List Nat} (a:s.next=none) (b:c.nextTok=.nilIface):kU x w v c s own:=by
 unfold kU;rw [a];exact b
structure TS (x:Cx) (c:DC) (w:World) (v:DV) (s:St) (m:Nat) (b a:List Nat) (n:Nat):Prop where
 cfg:vY x c
 rd:CD x c w v s
 own:mC x w c v m b a n s.stk s.ns
 sok:kN s.stk
 nok:rP s.ns
 tcl:∀ nm,s.toClose=some nm→nm.1.length≤x.T.length∧nm.2.length≤x.T.length
 bnd:n+s.stk.length+2*s.rest.length+2*qL s.next≤2*x.T.length
 nxt:kU x w v c s (m::(b++a))
def lD (x:Cx) (w:World) (v:DV) (c:DC) (R:Except EK (aU×St)) (m:Nat) (h f:List Nat) (t e:Value) (w':World):Prop:=
 match R with
 | .error k=>t=.nilIface∧wH x e (some k)∧Below x.B x.W0 w'∧jT w' e k∧aK (fun b=>x.S1 v b∨b∈m::(h++f)∨dP c.nextTok b) w w'
 | .ok (tk,s')=>e=.nilIface∧∃ i v' d a j,TS x i w' v' s' m d a j∧(∃ B,iT w' v'.bufv B t tk)∧aK (fun b=>x.S1 v b∨b∈m::(h++f)∨dP c.nextTok b) w w' ∧
   (∀ b∈m::(d++a),b∈m::(h++f)∨w.heap.size≤b)∧(∀ b,x.S1 v' b→x.S1 v b∨w.heap.size≤b)∧∀ g,dP i.nextTok g→dP c.nextTok g∨w.heap.size≤g
theorem VE (v:Value) (w:World):(Instr.typeAssert (YD v) 57 101 true).run prog w=.ok (.tuple #[.agg #[mW,mW,.slice none 0 0],.bool false]) w:=by kernel_rfl
theorem PL (v:Value) (w:World):(Instr.typeAssert (YD v) 57 110 true).run prog w=.ok (.tuple #[.agg #[mW,mW],.bool false]) w:=by kernel_rfl
theorem VF (v:Value) (w:World):(Instr.typeAssert (VA v) 57 101 true).run prog w=.ok (.tuple #[.agg #[mW,mW,.slice none 0 0],.bool false]) w:=by kernel_rfl
theorem PM (v:Value) (w:World):(Instr.typeAssert (VA v) 57 110 true).run prog w=.ok (.tuple #[.agg #[mW,mW],.bool false]) w:=by kernel_rfl
theorem VG (a:Bs) (v:Value) (w:World):(Instr.typeAssert (VB a v) 57 101 true).run prog w=.ok (.tuple #[.agg #[mW,mW,.slice none 0 0],.bool false]) w:=by kernel_rfl
theorem PN (a:Bs) (v:Value) (w:World):(Instr.typeAssert (VB a v) 57 110 true).run prog w=.ok (.tuple #[.agg #[mW,mW],.bool false]) w:=by kernel_rfl
theorem VH (a b:Value) (w:World):(Instr.typeAssert (.iface 110 (.agg #[a,b])) 57 101 true).run prog w=.ok (.tuple #[.agg #[mW,mW,.slice none 0 0],.bool false]) w:=by kernel_rfl
theorem PO (a b:Value) (w:World):(Instr.typeAssert (.iface 110 (.agg #[a,b])) 57 110 true).run prog w=.ok (.tuple #[.agg #[a,b],.bool true]) w:=by kernel_rfl
theorem VI (a b s:Value) (w:World):(Instr.typeAssert (.iface 101 (.agg #[a,b,s])) 57 101 true).run prog w=.ok (.tuple #[.agg #[a,b,s],.bool true]) w:=by kernel_rfl
theorem ZC (a b s:Value) (w:World):(Instr.typeAssert (.iface 101 (.agg #[a,b,s])) 57 110 true).run prog w=.ok (.tuple #[.agg #[mW,mW],.bool false]) w:=by kernel_rfl
theorem iT.iface {w:World} {e:Value} {B:Nat} {c:Value} {b:aU} (h:iT w e B c b):∃ ty u,c=.iface ty u:=by
 cases b with
 | start nm ats=>obtain ⟨a,rfl,_⟩:=h;exact ⟨_,_,rfl⟩
 | fin nm=>exact ⟨_,_,h⟩
 | text d=>obtain ⟨a,rfl,_⟩:=h;exact ⟨_,_,rfl⟩
 | comment d=>obtain ⟨a,rfl,_⟩:=h;exact ⟨_,_,rfl⟩
 | dir d=>obtain ⟨a,rfl,_⟩:=h;exact ⟨_,_,rfl⟩
 | proc tg d=>obtain ⟨a,rfl,_⟩:=h;exact ⟨_,_,rfl⟩
theorem iT.assertE {w:World} {f:Value} {B:Nat} {e:Value} {c:aU} (h:iT w f B e c) :
  (∃ nm,c=.fin nm∧∀ w,(Instr.typeAssert e 57 110 true).run prog w=.ok (.tuple #[.agg #[aB nm.1,aB nm.2],.bool true]) w) ∨
  ((∀ nm,c≠.fin nm)∧∀ w,(Instr.typeAssert e 57 110 true).run prog w=.ok (.tuple #[.agg #[mW,mW],.bool false]) w):=by
 cases c with
 | start nm ats=>obtain ⟨b,rfl,_⟩:=h;exact aX ⟨fun _ a=>(by cases a),fun w=>ZC _ _ _ w⟩
 | fin nm=>rw [show e=MN nm from h];exact aG ⟨nm,rfl,fun w=>PO _ _ w⟩
 | text d=>obtain ⟨b,rfl,_⟩:=h;exact aX ⟨fun _ a=>(by cases a),fun w=>O3 _ w⟩
 | comment d=>obtain ⟨b,rfl,_⟩:=h;exact aX ⟨fun _ a=>(by cases a),fun w=>PL _ w⟩
 | dir d=>obtain ⟨b,rfl,_⟩:=h;exact aX ⟨fun _ a=>(by cases a),fun w=>PM _ w⟩
 | proc tg d=>obtain ⟨b,rfl,_⟩:=h;exact aX ⟨fun _ a=>(by cases a),fun w=>PN _ _ w⟩
def PP (r:Option (Bs×Bs)):Value:=
 match r with
 | none=>.tuple #[.nilIface,.bool false]
 | some nm=>.tuple #[MN nm,.bool true]
def ZD (x:Cx) (d c:Value) (b:Bs) (w0:World) (k:Nat) (a:Act) (w:World):Prop:=
 ∃ f i,a=fr 76 f [(0,bV x),(1,d),(4,.nilIface),(5,.bool false),(28,c),(29,.int .i64 x.o.auto.length),(30,.int .i64 (i:Nat))]∧Below w0.heap.size w0 w∧k=x.o.auto.length-i∧i≤x.o.auto.length∧(x.o.auto.take i).any (fun a=>cN a b)=false
theorem W8 (x:Cx) (hx:x.Ok) (g:x.o.auto=[]) (c:DC) (m:GX x c.auto) (w:World) (O:Below x.B x.W0 w) (v:DV) (h:bU w x.d c v) (s:St) {sb:List Nat} (P:iJ w c.stk s.stk sb) (b:kN s.stk) (bv:Value) (B:Nat) (V:Value) (u:aU) (Q:iT w bv B V u) (j:∀ nm,u=.fin nm→nm.2.length≤1000000000000) :
  Calls prog 37 #[bV x,V] w fun en w'=>en=.returned (PP (kV cN x.o u s))∧Below w.heap.size w w':=by
 have Z:=h.cell;have hf:=h.frozen;have q1:=fun w=>CA w;rcases P.head b with ⟨h1,t⟩|⟨q,e,l',nx,ok,h1,t,hk,M,_⟩
 ·have z:=Lh (show kV cN x.o u s=none by unfold kV;rw [t]);clear h P b m g O Q j;refine eT 76 func37 [_,_] fun f=>?_;simp only [aF];refine vg ?_;intro K hK;refine jV ?_;exact ⟨by rw [z.o];rfl,Below.refl _ _⟩
 have n:=M.cell;have G:=M.frozen;obtain ⟨_,I,p⟩:=b e (by rw [t];simp);obtain ⟨ek,a2,D,a1⟩:=e;simp only at hk n I p;rcases hk with rfl|rfl
 ·
  obtain ⟨A,N,C,F,rfl,hN,a3,a⟩:=m;have Y:c.auto=.slice A x.o.auto.length C:=F;have ⟨HH,HQ,HB,T,HC,HL⟩:=iD h M O g a p;have ⟨HN,HS⟩:=cH hN t;have aA:=Lh Q.assertE;have a0:=Lh j;have h0:¬ (9223372036854775807:Int)<0:=by omega
  clear h P b g O Q j M a I p t F;refine eT 76 func37 [_,_] fun f=>?_;simp only [aF];refine vg ?_;intro K hK;refine cM [0,1,4,5,28,29,30] fun f=>?_;refine wp_loop_ghost_k (ZD x V (.slice A x.o.auto.length C) D w) x.o.auto.length ⟨f,0,rfl,Below.refl _ w,by simp,kW _,rfl⟩ ?_;rintro k _ w2 ⟨f,i,rfl,d,H,hi,l⟩ J K2 X E;have ⟨HJ,aC,R,HK,y⟩:=pI X E d H l;clear X E H l;have o:bU w2 x.d c v:=aJ.mod (S:=fun _=>False) HH.o (aH d _) id;have r:=aJ.mod (S:=fun _=>False) HQ.o (aH d _) id;clear Z hf n G d;have Z:=o.cell;have hf:=o.frozen;have n:=r.cell;have G:=r.frozen;clear o r;by_cases L:i<x.o.auto.length
  ·rw [T.o] at L;exact absurd L (by simp)
  ·have U:i=x.o.auto.length:=by omega
   subst U;have t1:¬ ((x.o.auto.length:Int)<(x.o.auto.length:Int)):=by omega
   have z:=Lh (show kV cN x.o u s=none by
    have W:=y.o;rw [List.take_length] at W;unfold kV;rw [HS.o];simp only;rw [aM (by simp),aM (by rw [W];simp)])
   revert K;refine vg ?_;refine jV ?_;exact ⟨by rw [z.o];rfl,R.o⟩
 ·have z:=Lh (show kV cN x.o u s=none by
   unfold kV;rw [t];simp)
  clear h P b m g O Q j M;refine eT 76 func37 [_,_] fun f=>?_;simp only [aF];refine vg ?_;intro K hK;refine jV ?_;exact ⟨by rw [z.o];rfl,Below.refl _ _⟩
end Go.Proofs.YthapcchcahnfaaaGreatDoor
