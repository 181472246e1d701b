/- Part of the proof that laws.FnStrictIsLoose, laws.FnUnclosed, laws.FnReaderFails, laws.FnWithin, laws.FnSkip returns true for every argument. No conditions. -/
import Derived.Test.YthapcchcahnfaaaGreatDoorP29
import Derived.Test.YthapcchcahnfaaaGreatDoorP32
import Derived.Test.YthapcchcahnfaaaGreatDoorP24
import Derived.Test.YthapcchcahnfaaaGreatDoorP28
import Derived.Test.YthapcchcahnfaaaGreatDoorP22
set_option linter.all false
set_option maxHeartbeats 8000000
set_option maxRecDepth 100000
namespace Go.Proofs.YthapcchcahnfaaaGreatDoor
open Go Go.RowKit Tryz
theorem V4:(prog.info? 67).map (fun i=>(i.zero,i.size,i.bytes))=some (some (.agg #[.string ⟨#[]⟩,.string ⟨#[]⟩,.string ⟨#[]⟩]),3,48):=by kernel_rfl
theorem JL (c:World) (b:Nat) (f:b≤c.heap.size) (v:Value) (acc:List cZ) (w:acc.length≤1000000000) (h:c.ownsRow b 67 3 v acc.length (aR acc)) (a:cZ) :
  ∃ v' e,(Builtin.append_ #[36,36] 36 #[v,.slice (some ⟨c.heap.size,0,none⟩) 1 1]).run prog (c.alloc (.cells #[aB a.1,aB a.2.1,aB a.2.2] 67))=.ok v' e ∧
   e.ownsRow b 67 3 v' (acc++[a]).length (aR (acc++[a]))∧(c.alloc (.cells #[aB a.1,aB a.2.1,aB a.2.2] 67)).grownBy e v.ownBlock∧(v'.ownBlock=v.ownBlock∨v'.ownBlock=some (c.heap.size+1)):=by
 obtain ⟨i,p,t,m,n⟩:=info_parts V4
 obtain ⟨v',e,s,r,o,g,d⟩:=run_append_own_at (P:=prog) (c.alloc (.cells #[aB a.1,aB a.2.1,aB a.2.2] 67)) b 36 36 67 i _ 3 48 underlying36 p t m n rfl (by omega) v acc.length (aR acc) (h.alloc _) ⟨c.heap.size,0,none⟩ 1 1 [aB a.1,aB a.2.1,aB a.2.2] rfl
  (by
   intro j u q;have f:=aJ.new c #[aB a.1,aB a.2.1,aB a.2.2] 67;rw [show ((⟨c.heap.size,0,none⟩:Addr).add j)=⟨c.heap.size,j,none⟩ by cases j<;>simp [Addr.add],f.cell];simpa using q)
  (by
   intro u k;simp only [mH,xZ,or_false] at k;rcases k with rfl|rfl|rfl<;>rfl)
  (by unfold maxLen;omega) (by omega) (by simp;omega)
 refine ⟨v',e,s,?_,o,by simpa using d⟩;have l:aR (acc++[a])=aR acc++[aB a.1,aB a.2.1,aB a.2.2]:=by simp [aR]
 rw [l,fY];exact r
theorem iG {w:World} {a:Nat} {e:TypeId} {b:Nat} {v:Value} {n:Nat} {i:List Value} (h:w.ownsRow a e b v n i):∃ c f d,v=.slice c f d:=by
 rcases h.2 with ⟨rfl,_⟩|⟨g,cap,cur,rfl,_⟩
 ·exact ⟨_,_,_,rfl⟩
 ·exact ⟨_,_,_,rfl⟩
structure V5 (w0:World) (nm:Bs×Bs) (e:Nat) (f h:Int) (g:Nat) (a:Array Value) (acc:List cZ) (b:Option Addr) (d c:Nat) (w:World):Prop where
 below:Below w0.heap.size w0 w
 z:aJ w w0.heap.size mO 38
 t5:aJ w (w0.heap.size+1) #[.int .i64 1,aB nm.1,aB nm.2,.slice b d c,.string ⟨#[]⟩,.int .i64 e,.int .i64 f,.int .i64 h] 38
 src:aJ w g a 103
 row:w.ownsRow w0.heap.size 67 3 (.slice b d c) acc.length (aR acc)
 rowS:∀ k,(Value.slice b d c).ownBlock=some k→k≠w0.heap.size∧k≠w0.heap.size+1
 sz:w0.heap.size+2≤w.heap.size
def Db (w0:World) (nm:Bs×Bs) (e:Nat) (h j:Int) (g c:Nat) (d:Array Value) (b:List cZ) (k:Nat) (a:Act) (w:World):Prop:=
 ∃ f i l n m,a=fr 104 f [(4,.pointer (some ⟨w0.heap.size,0,none⟩)),(5,.pointer (some ⟨w0.heap.size+1,0,none⟩)),(38,.slice (some ⟨g,0,none⟩) b.length c),(39,.int .i64 b.length),(40,.int .i64 (i:Nat))] ∧
  V5 w0 nm e h j g d (b.take i) l n m w∧k=b.length-i∧i≤b.length
theorem ZV (w0 w:World) (nm:Bs×Bs) (i5:Nat) (i6 i7:Int) (g P:Nat) (s:Array Value) (b:List cZ) (E:b.length≤1000000000) (hg:g<w0.heap.size) (D:s.toList.take (b.length*3)=aR b) (h:V5 w0 nm i5 i6 i7 g s [] none 0 0 w) (Q:Exit→Act→World→Prop)
  (hQ:∀ f w' H L I,V5 w0 nm i5 i6 i7 g s b H L I w'→Q .normal (fr 104 f [(4,.pointer (some ⟨w0.heap.size,0,none⟩)),(5,.pointer (some ⟨w0.heap.size+1,0,none⟩))]) w') (f:Nat→Value) (c1:Code) (a7:c1=.loop (iZ 8)) :
  c1.wp prog (Exit.inBlock 1 Q) (fr 104 f [(4,.pointer (some ⟨w0.heap.size,0,none⟩)),(5,.pointer (some ⟨w0.heap.size+1,0,none⟩)),(38,.slice (some ⟨g,0,none⟩) b.length P),(39,.int .i64 b.length),(40,.int .i64 0)]) w:=by
 subst a7;have ⟨HQ,C,M,O⟩:=kV hQ E D hg;refine wp_loop_ghost_k (Db w0 nm i5 i6 i7 g P s b) b.length ⟨f,0,none,0,0,rfl,by simpa using h,by simp,iW _⟩ ?_;clear hQ E D hg h;rintro k _ w ⟨f,i,H,L,I,rfl,hs,d,hi⟩ J K2 hJ R;have ⟨HJ,a1,c,HK⟩:=kV hJ R hs d;clear hJ R hs d;unfold iZ;conv=>arg 2;whnf
 by_cases Z:i<b.length
 ·have h1:(i:Int)<(b.length:Int):=by omega
  have h0:(0:Int)≤(i:Int):=by omega
  have b5:IntKind.i64.wrap ((i:Int)+1)=((i+1:Nat):Int):=by rw [IntKind.wrap_i64];have:=C.o;omega
  obtain ⟨a,ha⟩:∃ a,b[i]?=some a:=⟨b[i],by simp [Z]⟩;obtain ⟨k1,k2,k3⟩:=uU M.o ha;have V:w.cell? ⟨g,i*3,none⟩=some (aB a.1):=(c.o.src.cell _).trans k1;have W:w.cell? ⟨g,i*3+1,none⟩=some (aB a.2.1):=(c.o.src.cell _).trans k2;have X:w.cell? ⟨g,i*3+2,none⟩=some (aB a.2.2):=(c.o.src.cell _).trans k3;have o:b.take (i+1)=b.take i++[a]:=by rw [List.take_succ,ha];rfl
  have b0:(b.take i).length=i:=by simp;omega
  obtain ⟨B,x⟩:=cY (w.alloc (.cells #[aB a.1,aB a.2.1,aB a.2.2] 103));have U:Below w.heap.size w B:=by rw [x];exact (Below.refl _ w).alloc (dD _) _
  have j:aM (fun _=>False) w B:=aG U _;have u:aJ B w.heap.size #[aB a.1,aB a.2.1,aB a.2.2] 103:=by rw [x];exact aJ.new w _ _
  have aC:w.heap.size<B.heap.size:=u.lt;have v:=c.o.t5.mod j id;have aL:=c.o.z.mod j id;obtain ⟨b3,w4,F,n,Y,e⟩:=JL B w0.heap.size (by have:=c.o.sz;omega) (.slice H L I) (b.take i) (by have:=C.o;omega) (aE c.o.row j (fun _ _=>id)) a;obtain ⟨y,A,z,rfl⟩:=iG n;have a9:=u.cell;have bC:=u.frozen;have a8:=v.cell;have bA:=v.frozen;have ⟨N,HO,a2,q,a4,a6⟩:=iH Y n e j v aL;have ⟨a5,a3⟩:=cN o aC;clear k1 k2 k3 ha Y n e j U u v aL o b0 aC;(repeat ((fail_if_success with_reducible refine uS 10 ?_);(first|(with_reducible first|refine zA fun K hK=>?_|refine zB ?_|refine zC ?_)|((with_reducible first|refine zD rfl fun K hK=>?_|refine zE fun K hK=>?_);go_simp)|(with_reducible first|((repeat ((fail_if_success refine hK _ _ ?_);clear hK K));refine hK _ _ ?_;clear hK K)|refine zt ?_|refine zf ?_|refine zG ?_|refine zR ?_|refine zK ?_|refine zL ?_|refine zN ?_|refine zS ?_)|simp only [Exit.then,Exit.inBlock,Exit.noGoto,↓reduceIte,Nat.reduceEqDiff]|simp only [undef,reduceCtorEq,↓reduceIte])));rw [show w.alloc (.cells #[.string ⟨List.toArray a.1⟩,.string ⟨List.toArray a.2.1⟩,.string ⟨List.toArray a.2.2⟩] 103)=B from x.symm];clear x V W X;revert K;refine vB ?_;intro K hK;refine eV rfl (.tmp 45) (.tmp 55) _ _ rfl _ _ _ (by rw [cC (by decide)];(try simp only [aK,aQ,aS,aX,Nat.reduceEqDiff,↓reduceIte]);(try rfl)) (by rw [cC (by decide)];(try simp only [aK,aQ,aS,aX,Nat.reduceEqDiff,↓reduceIte]);(try rfl)) F ?_;clear F;rw [fR (by decide)];have G:aM (fun k=>(Value.slice H L I).ownBlock=some k) B w4:=(aG ((Below.refl _ B).alloc (dD _) _) _).trans (S':=fun k=>(Value.slice H L I).ownBlock=some k) ⟨N.o.os,N.o.tape,N.o.output,N.o.size,fun k d hn=>N.o.block k d (fun l=>hn l.symm)⟩ (fun i _ hi=>hi);have t:=a4.o.mod G (fun l=>(c.o.rowS _ l).2 rfl);have b1:=t.cell;have b2:=t.frozen;have ⟨a0,r⟩:=cN t G;clear t G a8 bA a9 bC;revert K;refine vg ?_;refine Kk [4,5,38,39,40] fun f=>?_;have T:∀ k,(Value.slice H L I).ownBlock=some k→w0.heap.size≤k:=fun k d=>(aU c.o.row d).2;have m:aM (fun k=>k=w0.heap.size+1) w4 (w4.setCell ⟨w0.heap.size+1,3,none⟩ (.slice y A z)):=(aM.refl (fun k=>k=w0.heap.size+1) w4).setCell (p:=⟨w0.heap.size+1,3,none⟩) (aH rfl) _;have aA:∀ k,(Value.slice y A z).ownBlock=some k→k≠w0.heap.size∧k≠w0.heap.size+1:=fun k d=>by
   rcases a2.o with e|e
   ·exact c.o.rowS k (e▸d)
   ·rw [e] at d;have b4:B.heap.size+1=k:=by simpa using d
    have:=c.o.sz;have:=a3.o;omega
  have S:Below w0.heap.size w0 w4:=aM.below (aM.below c.o.below c.o.below.size q.o (fun _ h=>h.elim)) (fX c.o.below.size q.o.size) r.o T;refine a1.o _ _ ⟨b.length-(i+1),by rw [HK.o];omega,HJ.o _ _ _ ⟨f,i+1,y,A,z,rfl,?_,rfl,Z⟩⟩;rw [a5.o];refine ⟨aM.below S S.size m (fun k d=>by omega),?_,?_,?_,aE HO.o m (fun k d l=>(aA k d).2 l),aA,?_⟩
  ·exact (a6.o.mod r.o (fun l=>(c.o.rowS _ l).1 rfl)).mod m (fun l=>by omega)
  ·exact a0.o.set 3 (.slice y A z)
  ·refine ((c.o.src.mod q.o id).mod r.o (fun l=>?_)).mod m (fun l=>?_)
   ·have:=T _ l;have:=O.o;omega
   ·have:=O.o;omega
  ·have:=c.o.sz;have:=q.o.size;have:=r.o.size;have:=m.size;omega
 ·have bL:i=b.length:=by omega
  subst bL;have h1:¬ ((b.length:Int)<(b.length:Int)):=by omega
  refine vg ?_;intro K hK;refine Qk [4,5] fun f=>?_;have h2:=c.o;rw [List.take_length] at h2;exact HQ.o f w H L I h2
theorem V6 {li co:Nat} (w0 w:World) (z:Nat) (A B:Int) (u:Below w0.heap.size w0 w) (L:w0.heap.size+2≤w.heap.size) (hz:aJ w w0.heap.size mO 38) (X:aJ w (w0.heap.size+1) #[.int .i64 0,.string ⟨#[]⟩,.string ⟨#[]⟩,.slice none 0 0,.string ⟨#[]⟩,.int .i64 z,.int .i64 A,.int .i64 B] 38)
  (nm:Bs×Bs) (c:List cZ) (t:c.length≤1000000000) (g m:Nat) (i:Array Value) (hg:g<w0.heap.size) (I:aJ w g i 103) (r:i.toList.take (c.length*3)=aR c) (f:Nat→Value) :
  (iZ 3).wp prog (rN (AK w0 ⟨1,nm.1,nm.2,c,[],z,li,co⟩ A B)) (fr 104 f [(0,Fe nm (.slice (some ⟨g,0,none⟩) c.length m)),(4,.pointer (some ⟨w0.heap.size,0,none⟩)),(5,.pointer (some ⟨w0.heap.size+1,0,none⟩))]) w:=by
 have t0:=fun a b s w=>RR a b s w;have V:w.heap.size≠w0.heap.size+1:=by omega
 have aA:w0.heap.size+1≠w.heap.size:=by omega
 obtain ⟨l,q⟩:=cY (w.alloc (.cells #[aB nm.1,aB nm.2,.slice (some ⟨g,0,none⟩) c.length m] 101));have d:Below w.heap.size w l:=by rw [q];exact (Below.refl _ w).alloc (dD _) _
 have v:aJ l w.heap.size #[aB nm.1,aB nm.2,.slice (some ⟨g,0,none⟩) c.length m] 101:=by rw [q];exact aJ.new w _ _
 have n:aJ l (w0.heap.size+1) _ _:=aJ.mod (S:=fun _=>False) X (aG d _) id;have N:aJ l w0.heap.size _ _:=aJ.mod (S:=fun _=>False) hz (aG d _) id;have H:aJ l g i _:=aJ.mod (S:=fun _=>False) I (aG d _) id;have ⟨HB,HZ,HG,P⟩:=kV n N H v;have W:=Lh (u.trans (d.mono u.size));have R:=Lh (show w0.heap.size+2≤l.heap.size from fX L d.size);have ⟨D,C⟩:=cN t r;have T:w0.heap.size≠w0.heap.size+1:=by omega
 have hc:=n.cell;have hf:=n.frozen;have U:=v.cell;clear u hz X v d n N H I L t r;conv=>arg 2;unfold iZ;whnf
 refine vg ?_;intro K hK K hK;rw [←q];clear q;refine cP [4,5,6] fun f=>?_
 go_region_held3 (fun w'=>w'.cell? ⟨w.heap.size,0,none⟩=some (aB nm.1)∧w'.cell? ⟨w.heap.size,1,none⟩=some (aB nm.2))
  (go_keep)
  (fail)
 obtain ⟨O,o⟩:=cY ((((l.setCell ⟨w0.heap.size+1,0,none⟩ (.int .i64 1)).setCell ⟨w0.heap.size+1,1,none⟩ (aB nm.1)).setCell ⟨w0.heap.size+1,2,none⟩ (aB nm.2)).drew);rw [show (((l.setCell ⟨w0.heap.size+1,0,none⟩ (.int .i64 1)).setCell ⟨w0.heap.size+1,1,none⟩ (.string ⟨List.toArray nm.1⟩)).setCell ⟨w0.heap.size+1,2,none⟩ (.string ⟨List.toArray nm.2⟩)).drew=O from o.symm];have h:aM (fun k=>k=w0.heap.size+1) l O:=by
  rw [o];exact ((((aM.refl (fun k=>k=w0.heap.size+1) l).setCell (p:=⟨w0.heap.size+1,0,none⟩) (aH rfl) _).setCell (p:=⟨w0.heap.size+1,1,none⟩) (aH rfl) _).setCell (p:=⟨w0.heap.size+1,2,none⟩) (aH rfl) _).drewN 1
 have M:aJ O (w0.heap.size+1) #[.int .i64 1,aB nm.1,aB nm.2,.slice none 0 0,.string ⟨#[]⟩,.int .i64 z,.int .i64 A,.int .i64 B] 38:=by
  rw [o];exact ((((show aJ l (w0.heap.size+1) _ _ from HB.o).set 0 (.int .i64 1)).set 1 (aB nm.1)).set 2 (aB nm.2)).drew
 have j:=P.o.mod h V;have J:V5 w0 nm z A B g i [] none 0 0 O:=⟨aM.below W.o W.o.size h (fun k y=>by omega),HZ.o.mod h T,M,HG.o.mod h (by omega),CB _ _,fun k y=>(by cases y),(by have:=R.o;have:=h.size;omega)⟩;have E:=Lh (fun Q hQ f c1 e=>ZV w0 O nm z A B g m i c D.o hg C.o J Q hQ f c1 e);have F:=j.cell;have G:=j.frozen;clear j M J o hc hf U h;(repeat revert K);refine vg ?_;intro K hK;refine cP [4,5,38,39,40] fun f=>?_;refine E.o _ ?_ f _ (by kernel_rfl);intro f w' sa sl sc Z;have x:=Lh Z;clear Z E F G;revert K;refine vT 27 ?_;refine Kk [4,5] fun f=>?_;refine bB (CA _ w0.heap.size 1 nm.1 nm.2 [] sa sl sc z A B x.o.z x.o.t5 _ (fun w' Y=>⟨⟨sa,sl,sc,rfl,?_⟩,?_⟩) f) (by kernel_rfl)
 ·exact aE x.o.row Y (fun k y he=>(x.o.rowS k y).1 he)
 ·exact aM.below x.o.below x.o.below.size Y (fun k y=>by rw [y];exact dD _)
theorem Dc (a b c:Bs) (w:World):(binOp .neq 68 (.agg #[aB a,aB b,aB c]) (.agg #[aB a,aB b,aB c])).run prog w=.ok (.bool false) w:=by
 have e:∀ (d:Nat) (x:Bs) (w:World),(Op.equalIn (d+1) 9 (aB x) (aB x)).run prog w=.ok true w:=fun d x w=>by
  rw [run_equalIn_string w d _ _ _ underlying9];simp
 have f:=underlying9;rw [run_neq_struct,show (10000:Nat)=9999+1 from rfl,run_equalIn_agg w 9999 _ _ _ (by kernel_rfl) (by kernel_rfl)];simp only [Program.fieldsOf,underlying68];go_simp
abbrev Gi (p:cD) (a:Option Addr) (c b:Nat):Value:=.agg #[.int .i64 p.kind,aB p.space,aB p.loc,.slice a c b,aB p.text,.int .i64 p.at']
def Dd (w1:World) (b:Nat) (n:Nat) (k:Nat) (a:Act) (w:World):Prop:=
 ∃ f i,a=fr 59 f [(2,.pointer (some ⟨b,0,none⟩)),(3,.pointer (some ⟨b+1,0,none⟩)),(43,.int .i64 (n:Nat)),(44,.int .i64 (i:Nat))]∧(∃ j,w=w1.drewN j)∧k=n-i∧i≤n
theorem kM {w:World} {d:Nat} {e:TypeId} {k:Option Addr} {l r:Nat} {b:List cZ} (h:w.ownsRow d e 3 (.slice k l r) b.length (aR b)) {i:Nat} {a:cZ} (j:b[i]?=some a) :
  ∃ g,k=some ⟨g,0,none⟩∧l=b.length∧w.cell? ⟨g,i*3,none⟩=some (aB a.1)∧w.cell? ⟨g,i*3+1,none⟩=some (aB a.2.1)∧w.cell? ⟨g,i*3+2,none⟩=some (aB a.2.2):=by
 have t:=(A1.1 j).1;rcases h.2 with ⟨_,s⟩|⟨g,cap,cur,f,_,m,_,_,_,n⟩
 ·omega
 ·simp only [Value.slice.injEq] at f;obtain ⟨rfl,rfl,rfl⟩:=f;obtain ⟨o,p,q⟩:=uU n j;have c:aJ w g cur e:=m;exact ⟨g,rfl,rfl,(c.cell _).trans o,(c.cell _).trans p,(c.cell _).trans q⟩
theorem qF {w:World} {a:Nat} {e:TypeId} {d:Option Addr} {c f n:Nat} {j:List Value} {i:Nat} (h:w.ownsRow a e i (.slice d c f) n j):c=n:=by
 rcases h.2 with ⟨b,k⟩|⟨g,cap,cur,b,_⟩
 ·simp only [Value.slice.injEq] at b;omega
 ·simp only [Value.slice.injEq] at b;exact b.2.1
theorem V7 (w0:World) (p:cD) (C:Nat) (h:p.attrs.length≤1000000000) (b1 z:Nat) (x:Option Addr) (U l:Nat) (e:Option Addr) (y d:Nat) (n:w0.ownsRow b1 68 3 (.slice x U l) p.attrs.length (aR p.attrs)) (H:w0.ownsRow z 68 3 (.slice e y d) p.attrs.length (aR p.attrs)) :
  Calls prog 22 #[Gi p x U l,Gi { p with at':=C } e y d] w0 fun en w'=>en=.returned (.bool true)∧Below w0.heap.size w0 w':=by
 have e1:=qF n;have e2:=qF H;subst e1 e2;obtain ⟨w1,c⟩:=cY ((w0.alloc (.cells #[.int .i64 p.kind,aB p.space,aB p.loc,.slice x p.attrs.length l,aB p.text,.int .i64 p.at'] 35)).alloc (.cells #[.int .i64 p.kind,aB p.space,aB p.loc,.slice e p.attrs.length d,aB p.text,.int .i64 C] 35));have g:Below w0.heap.size w0 w1:=by rw [c];exact ((Below.refl _ w0).alloc (dD _) _).alloc (by simp) _
 have q:aJ w1 w0.heap.size #[.int .i64 p.kind,aB p.space,aB p.loc,.slice x p.attrs.length l,aB p.text,.int .i64 p.at'] 35:=by rw [c];exact (aJ.new w0 _ _).alloc _
 have r:aJ w1 (w0.heap.size+1) #[.int .i64 p.kind,aB p.space,aB p.loc,.slice e p.attrs.length d,aB p.text,.int .i64 C] 35:=by
  have:=aJ.new (w0.alloc (.cells #[.int .i64 p.kind,aB p.space,aB p.loc,.slice x p.attrs.length l,aB p.text,.int .i64 p.at'] 35)) #[.int .i64 p.kind,aB p.space,aB p.loc,.slice e p.attrs.length d,aB p.text,.int .i64 C] 35;rw [c];simpa using this
 have V:=Lh (aE (S:=fun _=>False) n (aG g _) (fun _ _=>id));have W:=Lh (aE (S:=fun _=>False) H (aG g _) (fun _ _=>id));have ⟨D,X,Y,m⟩:=kV g q r h;clear n H g q r h;refine eI 59 func22 [_,_] fun f=>?_;simp only [aF];refine vT 1 ?_;rw [←c];clear c;have s:=X.o.cell;have t:=Y.o.cell;refine vg ?_;intro K hK;refine cP [2,3,43,44] fun f=>?_;have ⟨E,F⟩:=cN s t;clear s t;refine wp_loop_ghost_k (Dd w1 w0.heap.size p.attrs.length) p.attrs.length ⟨f,0,rfl,⟨0,rfl⟩,by simp,iW _⟩ ?_;rintro k _ w ⟨f,i,rfl,⟨j,u⟩,T,hi⟩ J K2 P o;have b:=Lh u;clear u;have ⟨Z,G,HK⟩:=mJ P o T;clear P o T;by_cases v:i<p.attrs.length
 ·have n:(i:Int)<(p.attrs.length:Int):=by omega
  have h0:(0:Int)≤(i:Int):=by omega
  have c:IntKind.i64.wrap ((i:Int)+1)=((i+1:Nat):Int):=by rw [IntKind.wrap_i64];have:=m.o;omega
  obtain ⟨a,I⟩:∃ a,p.attrs[i]?=some a:=⟨p.attrs[i],by simp [v]⟩;obtain ⟨A,rfl,_,M,N,O⟩:=kM V.o I;obtain ⟨B,rfl,_,b0,b1,z⟩:=kM W.o I;have aA:w.cell? ⟨A,i*3,none⟩=some (aB a.1):=by rw [b.o];exact M
  have aC:w.cell? ⟨A,i*3+1,none⟩=some (aB a.2.1):=by rw [b.o];exact N
  have aL:w.cell? ⟨A,i*3+2,none⟩=some (aB a.2.2):=by rw [b.o];exact O
  have a3:w.cell? ⟨B,i*3,none⟩=some (aB a.1):=by rw [b.o];exact b0
  have a4:w.cell? ⟨B,i*3+1,none⟩=some (aB a.2.1):=by rw [b.o];exact b1
  have a5:w.cell? ⟨B,i*3+2,none⟩=some (aB a.2.2):=by rw [b.o];exact z
  have Q:w.cell? ⟨w0.heap.size,3,none⟩=some (.slice (some ⟨A,0,none⟩) p.attrs.length l):=by rw [b.o];exact E.o 3
  have R:w.cell? ⟨w0.heap.size+1,3,none⟩=some (.slice (some ⟨B,0,none⟩) p.attrs.length d):=by rw [b.o];exact F.o 3
  have a6:=fun w=>Dc a.1 a.2.1 a.2.2 w;clear I M N O b0 b1 z;revert K;refine vg ?_;intro K hK K hK K hK;refine cP [2,3,5,43,44] fun f=>?_;go_quiet (fail);(repeat revert K);refine vg ?_;intro K hK;refine Kk [2,3,43,44] fun f=>?_;exact G.o _ _ ⟨p.attrs.length-(i+1),by rw [HK.o];omega,Z.o _ _ _ ⟨f,i+1,rfl,⟨j+nq,by rw [b.o,World.drewN_drewN]⟩,rfl,v⟩⟩
 ·have L:i=p.attrs.length:=by omega
  subst L;have n:¬ ((p.attrs.length:Int)<(p.attrs.length:Int)):=by omega
  revert K;refine vg ?_;refine cO ?_;exact ⟨rfl,by rw [b.o];exact bP D.o j⟩
theorem nY.col' {x:Cx} {v:DV} {rest:Bs} (c:x.Ok) (h:nY x v rest):-1000000000000≤v.off-v.lstart∧v.off-v.lstart≤1000000000000:=by
 by_cases a:v.nb=10
 ·obtain ⟨pre,e,f,_,_,b⟩:=h;have d:=b a;omega
 ·exact h.col c a
theorem mT.lt {x:Cx} {w:World} {v:Value} {b:Bs} (h:mT x w v b) {g c n:Nat} (a:v=.slice (some ⟨g,0,none⟩) n c):g<w.heap.size:=by
 rcases h with ⟨d,_⟩|⟨g',cap',arr,d,e,_⟩
 ·rw [d] at a;cases a
 ·rw [d] at a;simp only [Value.slice.injEq,kD,Addr.mk.injEq] at a;obtain ⟨⟨rfl,_⟩,_⟩:=a;exact e.lt
theorem JM (x:Cx) (M:x.Ok) (c:DC) (w:World) (v:DV) (rest:Bs) (e:Option EK) (C:Bs) (l:cK x c w v rest e C) (pre:Bs) (t:x.T=pre++rest) (B:Nat) (A:Value) (z:aO) (o:iR w v.bufv B A z) (E:∀ nm k,z=.start nm k→k.length≤1000000000) :
  Calls prog 20 #[A,cB x] w (AK w (z.itok pre) v.line (v.off-v.lstart+1)):=by
 obtain ⟨b1,I⟩:=l.pos.col' M;have G:v.off=(pre.length:Int):=by
  obtain ⟨p,J,G,_⟩:=l.pos;have:p=pre:=List.append_cancel_right (by rw [←J,←t]);rw [←this];exact G
 refine VO x c w v l.dec b1 I A _ (fun f w' a q L m=>?_);have j:aJ w' (w.heap.size+1) #[.int .i64 0,.string ⟨#[]⟩,.string ⟨#[]⟩,.slice none 0 0,.string ⟨#[]⟩,.int .i64 (pre.length:Nat),.int .i64 v.line,.int .i64 (v.off-v.lstart+1)] 38:=by
  rw [←G];exact L
 cases z with
 | text d=>
  obtain ⟨y,rfl,⟨g,b,n,rfl,h,i,_⟩⟩:=o;exact ZO w w' pre.length _ _ a q j d g b (i.below a) (l.bf.lt h) f
 | comment d=>
  obtain ⟨y,rfl,⟨g,b,n,rfl,h,i,_⟩⟩:=o;exact Cu w w' pre.length _ _ a q j d g b (i.below a) (l.bf.lt h) f
 | dir d=>
  obtain ⟨y,rfl,⟨g,b,n,rfl,h,i,_⟩⟩:=o;exact Cv w w' pre.length _ _ a q j d g b (i.below a) (l.bf.lt h) f
 | proc tg d=>
  obtain ⟨y,rfl,⟨g,b,n,rfl,h,i,_⟩⟩:=o;exact Cw w w' pre.length _ _ a m q j tg d g b (i.below a) (l.bf.lt h) f
 | fin nm=>
  rw [show A=M7 nm from o];exact Cy w w' pre.length _ _ a m q j nm f
 | start nm k=>
  obtain ⟨y,rfl,F,u⟩:=o;rcases u.2 with H|⟨g,b,cur,rfl,_,D,_,_,_,r⟩
  ·exact absurd (H.2▸H.1) F
  ·have s:aJ w g cur 103:=D;exact V6 w w' pre.length _ _ a m q j nm k (E nm k rfl) g b cur s.lt (aJ.mod (S:=fun _=>False) s (aG a _) id) r f
inductive cI {α:Type} (P:α→List Value→Prop):List α→List Value→Prop
 | nil:cI P [] []
 | snoc {l a xs ys}:cI P l xs→P a ys→cI P (l++[a]) (xs++ys)
theorem cI.mono {α:Type} {P b:α→List Value→Prop} (e:∀ a d,P a d→b a d) {l:List α} {c:List Value} (h:cI P l c):cI b l c:=by
 induction h with
 | nil=>exact .nil
 | snoc _ f ih=>exact .snoc ih (e _ _ f)
theorem cI.len {α:Type} {P:α→List Value→Prop} {n:Nat} (d:∀ a c,P a c→c.length=n) {l:List α} {b:List Value} (h:cI P l b):b.length=l.length*n:=by
 induction h with
 | nil=>simp
 | snoc _ e ih=>rw [fY,ih,d _ _ e,fY];simp [Nat.add_mul]
theorem cI.get {α:Type} {P:α→List Value→Prop} {n:Nat} (s:∀ a c,P a c→c.length=n) {l:List α} {p:List Value} (h:cI P l p) {i:Nat} {a:α} (b:l[i]?=some a):∃ c,P a c∧∀ j,j<n→p[i*n+j]?=c[j]?:=by
 induction h with
 | nil=>simp at b
 | snoc u t ih=>
  rename_i g v k m;have f:=u.len s;rcases Nat.lt_or_ge i g.length with d|d
  ·rw [List.getElem?_append_left d] at b;obtain ⟨c,q,r⟩:=ih b;refine ⟨c,q,fun j o=>?_⟩;have:i*n+j<k.length:=by
    rw [f];have:(i+1)*n≤g.length*n:=Nat.mul_le_mul_right n d;rw [Nat.add_mul] at this;omega
   rw [List.getElem?_append_left this];exact r j o
  ·have e:i=g.length:=by
    have:=(A1.1 b).1;simp at this;omega
   subst e;rw [EG (dD _)] at b;simp at b;subst b;refine ⟨m,t,fun j o=>?_⟩;rw [EG (by rw [f];omega),f]
   congr 1;omega
def nN (w:World) (b:Nat) (G:Nat→Prop) (T:Bs) (a:aO×St) (h:List Value):Prop:=
 ∃ c e d f g,h=jT (a.1.itok (T.take (T.length-a.2.rest.length))).kind (a.1.itok (T.take (T.length-a.2.rest.length))).space (a.1.itok (T.take (T.length-a.2.rest.length))).loc (.slice c e d) (a.1.itok (T.take (T.length-a.2.rest.length))).text (a.1.itok (T.take (T.length-a.2.rest.length))).at' f g ∧
  w.ownsRow b 67 3 (.slice c e d) (a.1.itok (T.take (T.length-a.2.rest.length))).attrs.length (aR (a.1.itok (T.take (T.length-a.2.rest.length))).attrs)∧(∀ k,(Value.slice c e d).ownBlock=some k→G k)∧f=((a.1.itok (T.take (T.length-a.2.rest.length))).line:Nat)∧g=((a.1.itok (T.take (T.length-a.2.rest.length))).col:Nat)
theorem nN.len {w:World} {a:Nat} {G:Nat→Prop} {T:Bs} {c:aO×St} {b:List Value} (h:nN w a G T c b):b.length=8:=by
 obtain ⟨_,_,_,_,_,rfl,_⟩:=h;rfl
theorem nN.mod {w w':World} {a:Nat} {G G':Nat→Prop} {T:Bs} {f:aO×St} {g:List Value} {S:Nat→Prop} (h:nN w a G T f g) (j:aM S w w') (d:∀ k,G k→k<w.heap.size→¬ S k∧G' k):nN w' a G' T f g:=by
 obtain ⟨n,p,o,l,m,rfl,c,e,i⟩:=h;refine ⟨n,p,o,l,m,rfl,aE c j (fun k b=>(d k (e k b) (aU c b).1).1),fun k b=>(d k (e k b) (aU c b).1).2,i⟩
theorem oF.ts {x:Cx} {c:DC} {w:World} {v:DV} {s:St} {m:Nat} {b a:List Nat} {n B:Nat} {e:Value} {d:aO} (h:oF x c w v s m b a n B e d):TS x c w v s m b a n:=
 ⟨h.cfg,h.rd,h.own,h.sok,h.nok,h.tcl,by have:=h.bnd;omega,h.nxt⟩
theorem JN (x:Cx) (F:x.All) (o:jS x.W0) (d:3<x.B) (c:DC) (w:World) (v:DV) (s:St) (m:Nat) (G z:List Nat) (n:Nat) (h:TS x c w v s m G z n) (u:s.next=none) :
  Calls prog 17 #[cB x] w fun O w'=>∃ t e,O=.returned (.tuple #[t,e])∧jO x w v c (dN x.o s) m G z t e w':=by
 have j:=Lh (F4 x F o d c h.cfg.dc h.cfg.no w v s h.rd);have ⟨H,M,y⟩:=mJ h F u;clear h F o d u;refine eI 8 func17 [_] fun f=>?_;simp only [aF];refine vg ?_;intro K hK K hK;refine j.o.mono ?_;rintro S w1 ⟨t,e,rfl,i⟩;have L:=Lh i;clear i j;(repeat revert K);refine vS ?_;refine kN ?_;refine ⟨t,e,rfl,?_⟩;have i:=L.o;unfold dA at i;unfold jO;cases a:dN x.o s with
 | error k=>
  rw [a] at i;obtain ⟨v',q,rfl,rfl,I,P⟩:=i;exact ⟨rfl,I.err,I.base,P,q.mod.mono (fun _ _ B=>aH B)⟩
 | ok p=>
  obtain ⟨U,T⟩:=p;rw [a] at i;obtain ⟨R,N,q,rfl,r,D,J,C⟩:=i;obtain ⟨E,_,_⟩:=H.o.raw M.o y.o a q r D J C;refine ⟨rfl,N,R,G,z,n,E.ts,⟨_,J⟩,q.mod.mono (fun _ _ B=>aH B),fun b l=>aH l,fun b l=>?_,fun g Q=>aH (by rw [←r.toD.next];exact Q)⟩;rcases l with l|l
  ·exact aH (aH l)
  ·rcases q.buf b l with A|A
   ·exact aH (aW A)
   ·exact aW A
theorem qE.tk {x:Cx} {w w1:World} {v u:DV} {c:DC} {R:Except EK (aO×St)} {m:Nat} {r q:List Nat} {s t e:Value} {w':World} (h:qE x w1 u R m r q s t e w') (j:dB x w v w1 u) (l:∀ g,cU s g→w.heap.size≤g):jO x w v c R m r q t e w':=by
 unfold jO;unfold qE at h;cases R with
 | error k=>
  obtain ⟨I,J,L,M,N⟩:=h;exact ⟨I,J,L,M,(j.mod.mono (fun _ _ a=>aH a)).trans N (fun i G a=>by
   rcases a with a|a
   ·rcases a with a|a
    ·exact aH (aH a)
    ·rcases j.buf i a with d|d
     ·exact aH (aW d)
     ·omega
   ·exact aW (aH a))⟩
 | ok p=>
  obtain ⟨O,Q⟩:=p;obtain ⟨E,y,P,o,n,H,g1,z,A,B,C,D⟩:=h;refine ⟨E,y,P,o,n,H,g1,z,?_,fun b f=>?_,fun b f=>?_,fun g F=>aW (l g (D g F))⟩
  ·refine (j.mod.mono (fun _ _ a=>aH a)).trans A (fun i G a=>?_);rcases a with a|a|a
   ·exact aH (aH (aH a))
   ·exact aW (aH a)
   ·have:=l i a;omega
  ·rcases B b f with d|d
   ·exact aH d
   ·exact aW (fX j.mod.size d)
  ·rcases f with f|f
   ·exact aH (aH f)
   ·rw [C] at f;rcases j.buf b f with d|d
    ·exact aH (aW d)
    ·exact aW d
theorem ZW (x:Cx) (hx:x.All) (T:jS x.W0) (B:3<x.B) (V:x.o.auto=[]) (U:∃ cs t,aJ x.W0 x.eofA.block cs t) (c:DC) (w:World) (v:DV) (s:St) (m:Nat) (sb fb:List Nat) (n:Nat) (h:TS x c w v s m sb fb n) (z:s.next=none) (Q:Exit→Act→World→Prop)
  (hQ:∀ f w' t e,jO x w v c (hY bG x.o s) m sb fb t e w'→Q .ret (fr 204 f [(2,t),(3,e)]) w') (f:Nat→Value):(gZ 5).wp prog Q (fr 204 f [(0,cB x),(5,.nilIface)]) w:=by
 obtain ⟨e0,b0,hR,_,_⟩:=h.rd.rd;have G:=Lh (F4 x hx T B c h.cfg.dc h.cfg.no w v s h.rd);have hc:=hR.dec.cell;have hf:=hR.dec.frozen;have a6:c.nextTok=.nilIface:=by
  have h9:=h.nxt;unfold kP at h9;rw [z] at h9;exact h9
 have q1:=fun w=>Q5 w;have q2:=fun w=>Q6 w;have q3:=fun w=>K7 w;have q4:=fun w=>DT w;have W:=hx.gB;have C:x.W0.cell? ⟨0,0,none⟩=some x.eofV:=hx.eof;have ⟨HX,aL⟩:=cN hx U;have R:=Lh (show ∀ w',Below x.B x.W0 w'→w'.cell? ⟨0,0,none⟩=some x.eofV from fun w' hb=>by rw [←C];exact hb.cell W);have ⟨HR,H,a0,a3,HQ⟩:=o4 hR h V z hQ;have S:=Lh (R2 (o:=x.o) z);have L:=Lh (h.own.stk.head h.sok);clear h hR hx U T B C W V z hQ;conv=>arg 2;unfold gZ;whnf
 refine vg ?_;intro K hK K hK K hK K hK;refine G.o.mono ?_;rintro e1 w1 ⟨t,e,rfl,F⟩;clear G hc hf a6;cases a:dN x.o s with
 | error k=>
  unfold dA at F;rw [a] at F;obtain ⟨v1,r,rfl,rfl,A,hO⟩:=F;obtain ⟨t1,u1,P⟩:=A.err.iface;have hq:=LM HX.o.toOk aL.o A.base A.err hO;have b2:=R.o w1 A.base;rw [P] at hq ⊢;have ⟨HU,i⟩:=cN P r;have b1:=A.dec.cell;have b3:=A.dec.frozen;have ⟨J,HO⟩:=cN A hO;have l:=Lh (show hY bG x.o s=.error (if k=.eof∧s.stk≠[] then .syn else k) by rw [S.o,a]);clear A P hO a;by_cases j:k=.eof
  ·rw [decide_eq_true j] at hq;have M:=Lh j;clear j;rcases L.o with ⟨a7,y⟩|⟨q,en,l',nx,ok,a7,y,D,hb,Y⟩
   ·clear r;(repeat revert K);refine vS ?_;intro K hK K hK;refine Qk [2,3] fun f=>?_;refine HQ.o f _ _ _ ?_;rw [l.o,aN (fun hh=>hh.2 y)];exact ⟨rfl,by rw [←HU.o];exact J.o.err,J.o.base,by rw [←HU.o];exact HO.o,i.o.mod.mono (fun _ _ D=>aH D)⟩
   ·have N:=(show aJ w q _ _ from hb).mod r.mod (H.o.own.s1 q (by simp [Y]));have a5:=N.cell;have b4:=N.frozen;have a2:=Lh y;have a8:=Lh (fun a9=>DF x.d c v1 w1 J.o.dec a9);obtain ⟨ek,bL,bA,bC⟩:=en;simp only at D a5;clear hb Y y r N;rcases D with rfl|rfl
    all_goals
     (repeat revert K);refine vS ?_;intro K hK K hK K hK K hK;refine (a8.o _).mono ?_;rintro e2 w2 ⟨rfl,rfl⟩;(repeat revert K);refine vS ?_;intro K hK K hK;refine Qk [2,3] fun f=>?_;refine HQ.o f _ _ _ ?_;rw [l.o,aV ⟨M.o,by rw [a2.o];simp⟩];exact ⟨rfl,⟨_,rfl⟩,aM.below J.o.base J.o.base.size (aG ((Below.refl _ w1).alloc (dD _) _) (fun _=>False)) (fun _ h=>h.elim),kL.no (by decide),(i.o.mod.mono (fun _ _ D=>aH D)).trans (aG ((Below.refl _ w1).alloc (dD _) _) (fun _=>False)) (fun _ _ h=>h.elim)⟩
  ·rw [decide_eq_false j] at hq;have M:=Lh j;clear j r;(repeat revert K);refine vS ?_;intro K hK K hK;refine Qk [2,3] fun f=>?_;refine HQ.o f _ _ _ ?_;rw [l.o,aN (fun hh=>M.o hh.1)];exact ⟨rfl,by rw [←HU.o];exact J.o.err,J.o.base,by rw [←HU.o];exact HO.o,i.o.mod.mono (fun _ _ D=>aH D)⟩
 | ok p=>
  obtain ⟨tk,s1⟩:=p;unfold dA at F;rw [a] at F;obtain ⟨v1,c1,r,rfl,aA,Z,ht,O⟩:=F;obtain ⟨aC,I,X⟩:=H.o.raw HX.o a3.o a r aA Z ht O;have E:(∀ d,tk≠.text d)→s1.ended=false∧v1.err=.nilIface:=fun hd=>by
   obtain ⟨h1,b,h2⟩:=O hd;exact ⟨h1,h2.err⟩
  have a1:=Lh (fun Q hQ f=>GC x HX.o a0.o c1 w1 v1 s1 m sb fb n w.heap.size t tk aC I X E Q hQ f);have i:=Lh r;have a4:=Lh (show ∀ g,cU t g→w.heap.size≤g from fun g hg=>(ht.lt hg).1);have l:=Lh (show hY bG x.o s=nM x.o tk s1 by rw [S.o,a]);obtain ⟨ty,u,rfl⟩:=ht.iface;clear r aA Z ht O a aC I X E;go_simp;(repeat revert K);refine vT 14 ?_;refine cP [0,4,5] fun f=>?_;refine bB (a1.o _ (fun f w' t' e F=>HQ.o f w' t' e ?_) f) (by kernel_rfl);rw [l.o];exact F.tk i.o a4.o
theorem V8 (x:Cx) (Y:x.All) (H:x.o.auto=[]) (c:DC) (w:World) (v:DV) (s:St) (m:Nat) (P L:List Nat) (n:Nat) (h:TS x c w v s m P L n) (R:aO) (j:s.next=some R) (Q:Exit→Act→World→Prop)
  (M:∀ f w' t e,jO x w v c (hY bG x.o s) m P L t e w'→Q .ret (fr 204 f [(2,t),(3,e)]) w') (f:Nat→Value):(gZ 5).wp prog Q (fr 204 f [(0,cB x),(5,.nilIface)]) w:=by
 obtain ⟨e0,b0,r,D,E⟩:=h.rd.rd;have z:=h.nxt;unfold kP at z;rw [j] at z;obtain ⟨B,n1,N,Z,n4,n5,O⟩:=z;have A:aM (fun k=>k=x.d) w (w.setCell ⟨x.d,17,none⟩ .nilIface):=(aM.refl (fun k=>k=x.d) w).setCell (p:=⟨x.d,17,none⟩) (aH rfl) _;have F:bX (w.setCell ⟨x.d,17,none⟩ .nilIface) x.d { c with nextTok:=.nilIface } v:=(show aJ w x.d _ _ from r.dec).set 17 .nilIface;have l:∀ k,eM v.bufv k→¬ k=x.d:=fun k a=>(r.bufFar h.own a).1;have J:∀ g,cU c.nextTok g→¬ g=x.d:=fun g X G=>(n5 g X).2 (G▸aH (aH rfl));have y:=r.turn Y.toOk F A
 have q:oF x { c with nextTok:=.nilIface } (w.setCell ⟨x.d,17,none⟩ .nilIface) v { s with next:=none } m P L n B c.nextTok R:=
  ⟨h.cfg.nextTok _,⟨⟨e0,b0,y,D,E⟩,h.rd.nc,h.rd.tc,h.rd.nb⟩,(h.own.mod A (fun b d G=>h.own.s1 b d (G▸aH (aH rfl))) h.own.s1).next _,h.sok,h.nok,h.tcl,aH n4,
   by have:=h.bnd;rw [j] at this;simp only [qL] at this ⊢;omega,Z.mod A l J,n1,fX N A.size,n5,fun F=>aH ⟨(O F).1,b0,by
    have C:=y;cases e0 with
    | none=>exact C
    | some k=>obtain ⟨t1,u1,hu⟩:=r.err.iface;rw [(O F).2] at hu;cases hu⟩,kP.none rfl rfl⟩
 have S:=Lh (fun Q M f=>GC x Y H _ _ v _ m P L n B c.nextTok R q rfl n4 O Q M f);obtain ⟨ty,u,W⟩:=Z.iface;have hc:=r.dec.cell;have hf:=r.dec.frozen;have q2:=fun w=>Q6 w;have q3:=fun w=>K7 w;have HQ:=Lh M;have U:=Lh (NY (o:=x.o) j);have T:=Lh A;clear h Y H j M r D E n1 N Z n4 n5 O A F l J y q;conv=>arg 2;unfold gZ;whnf
 refine vT 14 ?_;refine cP [0,4,5] fun f=>?_;rw [←W];refine bB (S.o _ (fun f w' t' e I=>HQ.o f w' t' e ?_) f) (by kernel_rfl);rw [U.o];unfold jO;unfold qE at I;cases hw:nM x.o R { s with next:=none } with
 | error k=>
  rw [hw] at I;obtain ⟨p1,p2,p3,p4,p5⟩:=I;exact ⟨p1,p2,p3,p4,(T.o.mono (fun _ _ a=>a▸aH (aH (aH rfl)))).trans p5 (fun i hi a=>a.imp id aH)⟩
 | ok p=>
  obtain ⟨aC,s2⟩:=p;rw [hw] at I;obtain ⟨G,c2,v2,aA,V,N,g1,g2,g3,g4,g5,g6⟩:=I;refine ⟨G,c2,v2,aA,V,N,g1,g2,?_,fun b d=>?_,fun b d=>?_,fun g X=>aH (g6 g X)⟩
  ·refine (T.o.mono (fun _ _ a=>a▸aH (aH (aH rfl)))).trans g3 (fun i hi a=>?_);rcases a with a|a|a
   ·exact aH (aH (aH a))
   ·exact aW (aH a)
   ·exact aW (aW a)
  ·rcases g4 b d with C|C
   ·exact aH C
   ·exact aW (fX T.o.size C)
  ·rcases d with d|d
   ·exact aH (aH d)
   ·rw [g5] at d;exact aH (aW d)
theorem x8 (x:Cx) (C:x.All) (l:jS x.W0) (a:3<x.B) (g:x.o.auto=[]) (o:∃ cs t,aJ x.W0 x.eofA.block cs t) (c:DC) (w:World) (v:DV) (s:St) (m:Nat) (j d:List Nat) (n:Nat) (h:TS x c w v s m j d n) :
  Calls prog 18 #[cB x] w fun b w'=>∃ t e,b=.returned (.tuple #[t,e])∧jO x w v c (hY bG x.o s) m j d t e w':=by
 obtain ⟨L,b0,u,_,_⟩:=h.rd.rd;have N:=u.dec.cell;have O:=u.dec.frozen;have P:=fun w=>Q5 w;have Q:=fun w=>DT w;have i:=h.own.stk.head h.sok;have k:=Lh (show ∀ f,(gZ 5).wp prog (bodyPost prog Tryz.f18 (fun b w'=>∃ t e,b=.returned (.tuple #[t,e])∧jO x w v c (hY bG x.o s) m j d t e w')) (fr 204 f [(0,cB x),(5,.nilIface)]) w from fun f=>by
  have E:∀ f w' t e,jO x w v c (hY bG x.o s) m j d t e w'→bodyPost prog Tryz.f18 (fun b w'=>∃ t e,b=.returned (.tuple #[t,e])∧jO x w v c (hY bG x.o s) m j d t e w') .ret (fr 204 f [(2,t),(3,e)]) w':=
   fun f w' t e J=>C1 rfl (by decide) (by decide) (by simp only [aK,aQ,aS,aX,Nat.reduceEqDiff,↓reduceIte]) (by simp only [aK,aQ,aS,aX,Nat.reduceEqDiff,↓reduceIte]) ⟨t,e,rfl,J⟩
  cases r:s.next with
  | none=>exact ZW x C l a g o c w v s m j d n h r _ E f
  | some tk=>exact V8 x C g c w v s m j d n h tk r _ E f)
 clear h C l a g o u;rcases i with ⟨B,p⟩|⟨q,b,l',nx,ok,B,p,F,y,A⟩
 ·refine eI 204 func18 [_] fun f=>?_;simp only [aF];refine vT 5 ?_;refine cP [0,5] fun f=>?_;exact bB (k.o f) (by kernel_rfl)
 ·have z:=y.cell;have I:=y.frozen;obtain ⟨M,H,D,G⟩:=b;simp only at F z;clear y A p;rcases F with rfl|rfl
  all_goals
   refine eI 204 func18 [_] fun f=>?_;simp only [aF];refine vT 5 ?_;refine cP [0,5] fun f=>?_;exact bB (k.o f) (by kernel_rfl)
structure oQ (w:World):Prop extends Env w where
 af:jS w
 afB:3<w.heap.size
 et:w.cell? ⟨1,0,none⟩=some (DZ 59)
 etB:1<w.heap.size
 eofB:∀ a:Addr,w.cell? ⟨0,0,none⟩=some (nJ a)→∃ cs t,aJ w a.block cs t
theorem oQ.below {w w':World} (h:oQ w) (b:Below w.heap.size w w'):oQ w':=by
 refine ⟨h.toEnv.below b,h.af.below b,oX h.afB b.size,by rw [b.cell (p:=⟨_,0,none⟩) h.etB];exact h.et,oX h.etB b.size,fun a d=>?_⟩;rw [b.cell (p:=⟨_,0,none⟩) h.gB] at d;obtain ⟨cs,t,c⟩:=h.eofB a d;exact ⟨cs,t,aJ.mod (S:=fun _=>False) c (aG b _) id⟩
theorem kO.of {w:World} {m:Nat} (h:w.heap[m]?=some (.map #[] 0)):kO w m 0 (fun _=>none):=by
 have l:m<w.heap.size:=by
  rcases Nat.lt_or_ge m w.heap.size with h'|h'
  ·exact h'
  ·rw [Array.getElem?_eq_none h'] at h;cases h
 obtain ⟨w0,b⟩:∃ w0:World,w0.heap.size=m:=⟨{ w with heap:=w.heap.extract 0 m },by simp;omega⟩;have a:=kO.made w0;rw [b] at a;obtain ⟨D,⟨f,e,c,F,k,i⟩,g⟩:=a;have j:(w0.alloc (.map #[] 0)).heap[m]?=some (.map #[] 0):=by
  show (w0.heap.push _)[m]?=_;rw [←b];simp
 rw [j] at c;exact ⟨D,⟨f,e,h.trans c,F,k,i⟩,g⟩
theorem kP.lt {x:Cx} {w:World} {v:DV} {c:DC} {s:St} {own:List Nat} (h:kP x w v c s own) {g:Nat} (a:cU c.nextTok g):g<w.heap.size:=by
 unfold kP at h;cases b:s.next with
 | none=>rw [b] at h;rw [show c.nextTok=.nilIface from h] at a;exact a.elim
 | some tk=>rw [b] at h;obtain ⟨_,_,_,d,_⟩:=h;exact (d.lt a).2
theorem TS.mod {x:Cx} {c:DC} {w w':World} {v:DV} {s:St} {m:Nat} {o i:List Nat} {n:Nat} {S:Nat→Prop} (h:TS x c w v s m o i n) (l:aM S w w') (d:∀ k,S k→¬ x.S1 v k∧k∉m::(o++i)∧x.B≤k∧¬ cU c.nextTok k):TS x c w' v s m o i n:=by
 obtain ⟨e,b,r,p,q⟩:=h.rd.rd;exact ⟨h.cfg,⟨⟨e,b,r.mod l (fun k f a=>(d k a).1 f) (fun k f=>(d k f).2.2.1),p,q⟩,h.rd.nc,h.rd.tc,h.rd.nb⟩,h.own.mod l (fun b j a=>(d b a).2.1 j) h.own.s1,h.sok,h.nok,h.tcl,h.bnd,h.nxt.step l (fun k f a=>(d k a).1 (aW f)) (fun g t a=>(d g a).2.2.2 t) rfl rfl rfl (fun b j=>aH j)⟩
structure tY (x:Cx) (v:DV) (b:Value) (m:Nat) (c a:List Nat) (w:World) (k:Nat):Prop where
 lt:k<w.heap.size
 s1:¬ x.S1 v k
 own:k∉m::(c++a)
 pend:¬ cU b k
theorem tY.step {x:Cx} {v v':DV} {j e:Value} {m:Nat} {l i f c:List Nat} {w w':World} {k:Nat} (h:tY x v j m l i w k) (q:w.heap.size≤w'.heap.size) (n:∀ b∈m::(f++c),b∈m::(l++i)∨w.heap.size≤b) (o:∀ b,x.S1 v' b→x.S1 v b∨w.heap.size≤b) (p:∀ g,cU e g→cU j g∨w.heap.size≤g):tY x v' e m f c w' k:=by
 refine ⟨oX h.lt q,fun d=>?_,fun d=>?_,fun d=>?_⟩
 ·rcases o k d with a|a
  ·exact h.s1 a
  ·have:=h.lt;omega
 ·rcases n k d with a|a
  ·exact h.own a
  ·have:=h.lt;omega
 ·rcases p k d with a|a
  ·exact h.pend a
  ·have:=h.lt;omega
theorem tY.same {x:Cx} {v:DV} {b:Value} {m:Nat} {c a:List Nat} {w w':World} {k:Nat} (h:tY x v b m c a w k) (d:w.heap.size≤w'.heap.size):tY x v b m c a w' k:=⟨oX h.lt d,h.s1,h.own,h.pend⟩
theorem TS.new {x:Cx} {c:DC} {w w':World} {v:DV} {s:St} {m:Nat} {f d:List Nat} {n:Nat} (h:TS x c w v s m f d n) {k:Nat} (j:w.heap.size≤k) (g:k<w'.heap.size):tY x v c.nextTok m f d w' k:=by
 obtain ⟨e,b,i,_,_⟩:=h.rd.rd;exact ⟨g,fun a=>by have:=i.s1lt k a;omega,fun a=>by have:=h.own.lt k a;omega,fun a=>by have:=h.nxt.lt a;omega⟩
theorem rQ (m:World) (g:Nat) (r:g≤m.heap.size) (v:Value) (n:Nat) (E:n≤1000000000) (q:List Value) (h:m.ownsRow g 38 8 v n q) (e:Int) (d k:Bs) (b:Value) (x:b.oneCell'=true) (f:Bs) (a l c:Int) :
  ∃ v' p,(Builtin.append_ #[26,26] 26 #[v,.slice (some ⟨m.heap.size,0,none⟩) 1 1]).run prog (m.alloc (.cells #[.int .i64 e,aB d,aB k,b,aB f,.int .i64 a,.int .i64 l,.int .i64 c] 38))=.ok v' p ∧
   p.ownsRow g 38 8 v' (n+1) (q++jT e d k b f a l c)∧(m.alloc (.cells #[.int .i64 e,aB d,aB k,b,aB f,.int .i64 a,.int .i64 l,.int .i64 c] 38)).grownBy p v.ownBlock∧(v'.ownBlock=v.ownBlock∨v'.ownBlock=some (m.heap.size+1)):=by
 obtain ⟨i,z,D,t,w⟩:=info_parts VE
 obtain ⟨v',p,C,B,y,_,o⟩:=run_append_own_at (P:=prog) (m.alloc (.cells #[.int .i64 e,aB d,aB k,b,aB f,.int .i64 a,.int .i64 l,.int .i64 c] 38)) g 26 26 38 i _ 8 104 underlying26 z D t w rfl (by omega) v n q (h.alloc _) ⟨m.heap.size,0,none⟩ 1 1 (jT e d k b f a l c) rfl
  (by
   intro j u A;have r:=aJ.new m #[.int .i64 e,aB d,aB k,b,aB f,.int .i64 a,.int .i64 l,.int .i64 c] 38;rw [show ((⟨m.heap.size,0,none⟩:Addr).add j)=⟨m.heap.size,j,none⟩ by cases j<;>simp [Addr.add],r.cell];simpa [jT] using A)
  (by
   intro u s;simp only [jT,mH,xZ,or_false] at s;rcases s with rfl|rfl|rfl|rfl|rfl|rfl|rfl|rfl<;>first|rfl|exact x)
  (by unfold maxLen;omega) (by omega) (by simp;omega)
 exact ⟨v',p,C,B,y,by simpa using o⟩
abbrev pG (o:cM) (a:Value):Array Value:=#[.bool o.raw,.bool (!o.strict),.slice none 0 0,a,aB o.space]
structure D0 (x:Cx) (c:DC) (w:World) (v:DV) (s:St) (m:Nat) (b a:List Nat) (n:Nat) (b0:Nat) (l:List (aO×St)) (f:List Value) (d g:Value):Prop where
 ts:TS x c w v s m b a n
 opt:aJ w b0 (pG x.o g) 32
 b0f:tY x v c.nextTok m b a w b0
 tvb:d.ownBlock≠some b0
 row:w.ownsRow b0 38 8 d l.length f
 tvf:∀ k,d.ownBlock=some k→tY x v c.nextTok m b a w k
 rows:cI (nN w b0 (fun k=>tY x v c.nextTok m b a w k∧d.ownBlock≠some k) x.T) l f
 run:∀ l' e,eD bG x.o s l' e→eD bG x.o (St.init x.T) (l++l') e
 next:x.o.raw=true→s.next=none
 mu:l.length+s.mu2≤(St.init x.T).mu2
def De (x:Cx) (d:Value) (m:Nat) (b0:Nat) (k:Nat) (a:Act) (w:World):Prop:=
 ∃ f c v s g e n l h b,a=fr 45 f [(7,.pointer (some ⟨b0,0,none⟩)),(10,cB x),(11,b)]∧D0 x c w v s m g e n b0 l h b d∧k=s.mu2
def NZ (T:Bs) (o:cM) (w:World) (c:Ending) (w':World):Prop:=
 ∃ l e a b,c=.returned (.tuple #[a,.int .i64 (EK.code e)])∧eD bG o (St.init T) l e∧Below w.heap.size w w'∧w'.ownsRow w.heap.size 38 8 a l.length b∧cI (nN w' w.heap.size (fun _=>True) T) l b∧l.length≤8*T.length
theorem D0.step {x:Cx} (O:x.Ok) {G:Value} {c:DC} {w:World} {v:DV} {s:St} {m:Nat} {y u:List Nat} {n:Nat} {b0:Nat} {l:List (aO×St)} {F:List Value} {A:Value} (h:D0 x c w v s m y u n b0 l F A G) {H:aO} {q:St} (f:stepL bG x.o s=.ok (H,q))
  {t:DC} {w':World} {v':DV} {i d:List Nat} {L:Nat} (J:TS x t w' v' q m i d L) (r:aM (fun b=>x.S1 v b∨b∈m::(y++u)∨cU c.nextTok b) w w') (B:∀ b∈m::(i++d),b∈m::(y++u)∨w.heap.size≤b) (C:∀ b,x.S1 v' b→x.S1 v b∨w.heap.size≤b) (D:∀ g,cU t.nextTok g→cU c.nextTok g∨w.heap.size≤g) :
  aJ w' b0 (pG x.o G) 32∧tY x v' t.nextTok m i d w' b0∧w'.ownsRow b0 38 8 A l.length F∧(∀ k,A.ownBlock=some k→tY x v' t.nextTok m i d w' k)∧cI (nN w' b0 (fun k=>tY x v' t.nextTok m i d w' k∧A.ownBlock≠some k) x.T) l F ∧
   (∀ l' e,eD bG x.o q l' e→eD bG x.o (St.init x.T) (l++(H,q)::l') e)∧(x.o.raw=true→q.next=none)∧l.length+1+q.mu2≤(St.init x.T).mu2∧q.mu2<s.mu2:=by
 obtain ⟨M,P,N⟩:=uT f;have p:∀ k,tY x v c.nextTok m y u w k→¬ (x.S1 v k∨k∈m::(y++u)∨cU c.nextTok k):=fun k E j=>by
  rcases j with j|j|j
  ·exact E.s1 j
  ·exact E.own j
  ·exact E.pend j
 refine ⟨h.opt.mod r (p _ h.b0f),h.b0f.step r.size B C D,aE h.row r (fun k o=>p k (h.tvf k o)),fun k o=>(h.tvf k o).step r.size B C D,
  h.rows.mono (fun a Q z=>z.mod r (fun k o _=>⟨p k o.1,o.1.step r.size B C D,o.2⟩)),fun l' e I=>?_,fun z=>(N z).trans (h.next z),by have:=h.mu;omega,M⟩
 exact h.run _ e (.more f I)
theorem D0.lay {x:Cx} {au:Value} {c:DC} {v:DV} {s:St} {m:Nat} {Z P:List Nat} {n:Nat} {b0:Nat} {l:List (aO×St)} {xs:List Value} {w:Value} {u q N:World} {j:aO}
  (hB:x.B≤b0) (I:TS x c u v s m Z P n) (T:aJ u b0 (pG x.o au) 32) (D:tY x v c.nextTok m Z P u b0) (B:w.ownBlock≠some b0) (U:u.ownsRow b0 38 8 w l.length xs) (p:∀ k,w.ownBlock=some k→tY x v c.nextTok m Z P u k)
  (H:cI (nN u b0 (fun k=>tY x v c.nextTok m Z P u k∧w.ownBlock≠some k) x.T) l xs) (V:∀ l' e,eD bG x.o s l' e→eD bG x.o (St.init x.T) (l++(j,s)::l') e) (G:x.o.raw=true→s.next=none) (aL:l.length+1+s.mu2≤(St.init x.T).mu2)
  (R:Below u.heap.size u q) {J:Option Addr} {M L:Nat} {i6 i7:Int} (C:q.ownsRow u.heap.size 67 3 (.slice J M L) (j.itok (x.T.take (x.T.length-s.rest.length))).attrs.length (aR (j.itok (x.T.take (x.T.length-s.rest.length))).attrs))
  {o:Obj} {t:Value} (A:N.ownsRow b0 38 8 t (l.length+1) (xs++jT (j.itok (x.T.take (x.T.length-s.rest.length))).kind (j.itok (x.T.take (x.T.length-s.rest.length))).space (j.itok (x.T.take (x.T.length-s.rest.length))).loc (.slice J M L) (j.itok (x.T.take (x.T.length-s.rest.length))).text (j.itok (x.T.take (x.T.length-s.rest.length))).at' i6 i7))
  (r:(q.alloc o).grownBy N w.ownBlock) (d:t.ownBlock=w.ownBlock∨t.ownBlock=some (q.heap.size+1)) (hi:i6=((j.itok (x.T.take (x.T.length-s.rest.length))).line:Nat)∧i7=((j.itok (x.T.take (x.T.length-s.rest.length))).col:Nat)) :
  D0 x c N v s m Z P n b0 (l++[(j,s)]) (xs++jT (j.itok (x.T.take (x.T.length-s.rest.length))).kind (j.itok (x.T.take (x.T.length-s.rest.length))).space (j.itok (x.T.take (x.T.length-s.rest.length))).loc (.slice J M L) (j.itok (x.T.take (x.T.length-s.rest.length))).text (j.itok (x.T.take (x.T.length-s.rest.length))).at' i6 i7) t au:=by
 have aC:aM (fun _=>False) u q:=aG R _;have E:aM (fun k=>w.ownBlock=some k) q N:=(aG ((Below.refl _ q).alloc (dD _) o) _).trans (S':=fun k=>w.ownBlock=some k) ⟨r.os,r.tape,r.output,r.size,fun k b hn=>r.block k b (fun z=>hn z.symm)⟩ (fun i _ hi=>hi);have f:aM (fun k=>w.ownBlock=some k) u N:=(aC.mono (fun _ _ h=>h.elim)).trans E (fun _ _ h=>h);have Y:=R.size;have a1:=E.size;have a2:q.heap.size+1≤N.heap.size:=by have O:=r.size;rw [show (q.alloc o).heap.size=q.heap.size+1 from Array.size_push _] at O;exact O
 have a0:∀ k,w.ownBlock=some k→b0≤k:=fun k b=>(aU U b).2;have W:=I.mod f (fun k b=>⟨(p k b).s1,(p k b).own,fX hB (a0 k b),(p k b).pend⟩);have X:∀ k,t.ownBlock=some k→k<N.heap.size:=fun k b=>(aU A b).1;have F:∀ k,k<q.heap.size→w.ownBlock≠some k→t.ownBlock≠some k:=fun k b hn z=>by
  rcases d with d|d
  ·exact hn (d▸z)
  ·rw [d] at z;have:q.heap.size+1=k:=by simpa using z
   omega
 refine ⟨W,T.mod f B,D.same f.size,F b0 (oX D.lt Y) B,by rw [fY];exact A,fun k b=>?_,?_,fun l' e ht=>?_,G,by rw [fY];exact aL⟩
 ·rcases d with d|d
  ·exact (p k (d▸b)).same f.size
  ·have O:q.heap.size+1=k:=by rw [d] at b;simpa using b
   exact I.new (by omega) (X k b)
 ·refine .snoc (H.mono (fun a ys hr=>hr.mod f (fun k b aA=>⟨b.2,b.1.same f.size,F k (oX aA Y) b.2⟩))) ?_;have y:∀ k,(Value.slice J M L).ownBlock=some k→k<q.heap.size∧u.heap.size≤k:=fun k b=>aU C b;have Q:q.ownsRow b0 67 3 (.slice J M L) (j.itok (x.T.take (x.T.length-s.rest.length))).attrs.length (aR (j.itok (x.T.take (x.T.length-s.rest.length))).attrs):=by
   refine ⟨C.1,?_⟩;rcases C.2 with O|⟨g,cap,cur,e1,e2,e3⟩
   ·exact aH O
   ·exact aW ⟨g,cap,cur,e1,fX (Nat.le_of_lt D.lt) e2,e3⟩
  have S:∀ k,(Value.slice J M L).ownBlock=some k→w.ownBlock≠some k:=fun k b z=>by
   have h8:=(y k b).2;have O:=(p k z).lt;omega
  exact ⟨J,M,L,i6,i7,rfl,aE Q E (fun k b z=>S k b z),fun k b=>⟨I.new (y k b).2 (oX (y k b).1 a1),F k (y k b).1 (S k b)⟩,hi⟩
 ·rw [r8];exact V l' e ht
noncomputable def D1 (n:Nat):Code:=((Tryz.f9.body).bind (Code.partAt n)).getD .skip
theorem pH {T rest:Bs} (h:rest <:+ T):T=T.take (T.length-rest.length)++rest:=by
 obtain ⟨p,rfl⟩:=h;have:(p++rest).length-rest.length=p.length:=by rw [fY];omega
 rw [this,List.take_left' rfl]
theorem cK.line_col {x:Cx} {c:DC} {w:World} {v:DV} {rest:Bs} {e:Option EK} {b:Bs} (g:cK x c w v rest e b) (d:v.nb≠10) (f:aO) {pre:Bs} (a:x.T=pre++rest) :
  v.line=((f.itok pre).line:Nat)∧v.off-v.lstart+1=((f.itok pre).col:Nat):=by
 obtain ⟨p,h,m,i,k,_⟩:=g.pos;have j:p=pre:=List.append_cancel_right (by rw [←h,←a]);subst j;have l:=k d;cases f<;>exact ⟨i,by show _=((wQ p:Nat):Int);omega⟩
structure R4 (x:Cx) (h:Value) (m b0:Nat) (s:St) (l:List (aO×St)) (g:List Value) (Q:Exit→Act→World→Prop):Prop where
 on:∀ f c w v d j i n l' b a,D0 x c w v d m j i n b0 l' b a h→d.mu2<s.mu2→Q .normal (fr 45 f [(7,.pointer (some ⟨b0,0,none⟩)),(10,cB x),(11,a)]) w
 err:∀ f w e k,eD bG x.o (St.init x.T) l k→Below x.B x.W0 w→w.ownsRow b0 38 8 e l.length g→cI (nN w b0 (fun _=>True) x.T) l g→Q .ret (fr 45 f [(8,e),(9,.int .i64 (EK.code k))]) w
theorem R5 (x:Cx) (E:x.All) (q:∃ cs t,aJ x.W0 x.eofA.block cs t) (r:x.W0.cell? ⟨1,0,none⟩=some (DZ 59)) (c:1<x.B)
  (H:Value) (m b0:Nat) (s:St) (l:List (aO×St)) (z:List Value) (y:Value) (k:EK) (g:eD bG x.o (St.init x.T) l k) (w:World) (d:w.ownsRow b0 38 8 y l.length z) (b:cI (nN w b0 (fun _=>True) x.T) l z)
  (t e:Value) (v:xW x e (some k)) (u:Below x.B x.W0 w) (D:kL w e k) (Q:Exit→Act→World→Prop) (B:R4 x H m b0 s l z Q) (f:Nat→Value) :
  (D1 8).wp prog Q (fr 45 f [(7,.pointer (some ⟨b0,0,none⟩)),(10,cB x),(11,y),(12,t),(13,e)]) w:=by
 have p:=Lh (R3 x E.toOk q r c u v D);obtain ⟨L,M,rfl⟩:=v.iface;have ⟨G,n,j,h,A⟩:=o4 B g d b u;clear E q r c g d b v u D B;conv=>arg 2;unfold D1;whnf
 refine vg ?_;intro K hK K hK K hK;refine p.o.mono ?_;rintro J F ⟨rfl,o⟩;have i:=Lh o;clear o p;(repeat revert K);refine vS ?_;intro K hK;refine Qk [8,9] fun f=>?_;have C:aM (fun _=>False) w F:=aG i.o _;exact G.o.err f F y k n.o (A.o.trans (i.o.mono A.o.size)) (aE j.o C (fun _ _=>id)) (h.o.mono (fun a N I=>I.mod C (fun k _ _=>⟨id,trivial⟩)))
theorem X1 (x:Cx) (hx:x.All) (hT:x.T.length≤100000000) (au:Value) (m b0:Nat) (hB:x.B≤b0) (c0:DC) (w0:World) (v0:DV) (s:St) (r o:List Nat) (n0:Nat) (l:List (aO×St)) (xs:List Value) (tv:Value) (h:D0 x c0 w0 v0 s m r o n0 b0 l xs tv au)
  (u:aO) (H:St) (a:stepL bG x.o s=.ok (u,H)) (c:DC) (w:World) (v:DV) (sb fb:List Nat) (n:Nat) (d:TS x c w v H m sb fb n) (t:Value) (BT:Nat) (ht:iR w v.bufv BT t u) (hm:aM (fun b=>x.S1 v0 b∨b∈m::(r++o)∨cU c0.nextTok b) w0 w) (h1:∀ b∈m::(sb++fb),b∈m::(r++o)∨w0.heap.size≤b) (h2:∀ b,x.S1 v b→x.S1 v0 b∨w0.heap.size≤b) (h3:∀ g,cU c.nextTok g→cU c0.nextTok g∨w0.heap.size≤g) (D:∀ nm z,u=.start nm z→z.length≤1000000000)
  (Q:Exit→Act→World→Prop) (hQ:R4 x au m b0 s l xs Q) (f:Nat→Value) :
  (D1 8).wp prog Q (fr 45 f [(7,.pointer (some ⟨b0,0,none⟩)),(10,cB x),(11,tv),(12,t),(13,.nilIface)]) w:=by
 obtain ⟨a1,a2,a3,a4,a5,a6,a7,W,a9⟩:=h.step hx.toOk a d hm h1 h2 h3;obtain ⟨e0,bf,A,_,_⟩:=d.rd.rd;have P:=Lh (A.line_col d.rd.nb u (pH A.suf));have q:=Lh (JM x hx.toOk c w v H.rest e0 bf A _ (pH A.suf) BT t u ht D);have i:(St.init x.T).mu2=8*x.T.length:=by rw [iK rfl];unfold St.mu St.init;simp
 have E:l.length≤1000000000:=by rw [i] at W;omega
 have R:=Lh E;have HA:=Lh (And.intro a1 (And.intro a2 (And.intro a3 (And.intro a4 (And.intro a5 (And.intro a6 (And.intro a7 (And.intro W a9))))))));have U:=Lh d;have V:=Lh h.tvb;have ⟨HQ,N⟩:=cN hQ hB;clear hx hT hB h a d ht hm h1 h2 h3 D hQ a1 a2 a3 a4 a5 a6 a7 W a9 A i E;obtain ⟨p,G⟩:=cY (u.itok (x.T.take (x.T.length-H.rest.length)));rw [←G] at q;have HP:=Lh G;clear G;conv=>arg 2;unfold D1;whnf
 refine vg ?_;intro K hK;refine q.o.mono ?_;rintro e3 w3 ⟨⟨sa,sl,sc,rfl,B⟩,e⟩;obtain ⟨b1,I,J,X,Y,Z,b7,b8,b9⟩:=HA.o;obtain ⟨aA,w4,k,j,C,F⟩:=rQ w3 b0 (fX (Nat.le_of_lt I.lt) e.size) tv l.length R.o xs (aE (S:=fun _=>False) J (aG e _) (fun _ _=>id)) p.kind p.space p.loc (.slice sa sl sc) rfl p.text p.at' v.line (v.off-v.lstart+1);have ⟨L,M,y,O,T⟩:=o4 B e j C F;clear q B e j C F b1 I J X Y Z b7 b8 b9;go_simp;revert K;refine vB ?_;refine eV rfl (.tmp 39) (.tmp 43) _ _ rfl _ _ _ (by rw [cC (by decide)];(try simp only [aK,aQ,aS,aX,Nat.reduceEqDiff,↓reduceIte]);(try rfl)) (by rw [cC (by decide)];(try simp only [aK,aQ,aS,aX,Nat.reduceEqDiff,↓reduceIte]);(try rfl)) k ?_;clear k;rw [fR (by decide)];refine vg ?_;refine Qk [7,10,11] fun f=>?_;obtain ⟨b1,I,J,X,Y,Z,b7,b8,b9⟩:=HA.o;have G:=HP.o;subst G;exact HQ.o.on f c w4 v H sb fb n _ _ aA (D0.lay N.o U.o b1 I V.o J X Y Z b7 b8 M.o L.o y.o O.o T.o P.o) b9
structure X2 (w:World) (A:Option Addr) (C:Nat) (l:List Bs):Prop where
 n:l.length≤1000000000000
 c:l.length≤C
 at':0<l.length→∃ b o,A=some ⟨b,o,none⟩∧b<w.heap.size∧∀ j a,l[j]?=some a→w.cell? ⟨b,o+j,none⟩=some (aB a)∧a.length≤1000000000000
theorem X2.nil (w:World) (A:Option Addr) (C:Nat):X2 w A C []:=⟨by simp,by simp,fun h=>(by simp at h)⟩
theorem rR (T:Bs) (hT:T.length≤100000000) (o:cM) (d9:o.ents=none) (a9:o.auto=[]) (i:Option Addr) (p:Nat) (H:Option Addr) (L I:Nat) (e7:List Int) (w:World) (hE:oQ w) (d1:X2 w i p o.auto) (E:F1 w H L I e7) :
  Calls prog 9 #[aB T,.slice H L I,.bool o.fails,NJ o.raw (!o.strict) (.slice i o.auto.length p) o.space] w (NZ T o w):=by
 obtain ⟨a8,he,hl⟩:=hE.eof;obtain ⟨x,P⟩:=cY (VD w T o a8 H L I e7);have B:=Lh (show x.All by rw [P];exact Q8 hE.toEnv (by omega) o he hl E);have b5:=Lh (show ∃ cs t,aJ x.W0 x.eofA.block cs t by rw [P];exact hE.eofB a8 he);have dI:=Lh (show x.W0.cell? ⟨1,0,none⟩=some (DZ 59) by rw [P];exact hE.et);have a7:=Lh (show 1<x.B by rw [P];exact hE.etB);have c9:=Lh (show jS x.W0 by rw [P];exact hE.af);have a6:=Lh (show 3<x.B by rw [P];exact hE.afB);have c7:x.o=o:=by rw [P];rfl
 have e5:x.T=T:=by rw [P];rfl
 have e6:x.W0=w:=by rw [P];rfl
 have e4:x.B=w.heap.size:=by rw [P];rfl
 have b3:x.rd=w.heap.size+1:=by rw [P];rfl
 have d7:x.d=w.heap.size+4:=by rw [P];rfl
 have d3:x.br=w.heap.size+5:=by rw [P];rfl
 have b1:x.rb=w.heap.size+6:=by rw [P];rfl
 have ⟨HX,y,q,aL,M,b8⟩:=iH P c7 e5 e6 e4 hT;have b4:=Lh d1;have f2:=Lh (show x.o.auto=[] by rw [c7];exact a9);have ⟨b6,f1,aA,f0,dT⟩:=o4 d9 d7 b3 d3 b1;clear a9 P hT hE he hl E d1 d9 c7 e5 e6 e4;have bC:=Lh (fun (w':World) (hs:w'.heap.size=w.heap.size+2)=>NK x w' o.raw (!o.strict) i o.auto.length p o.space (by omega) (by omega) (by omega));clear d7 d3 b1 b3;refine eI 45 func9 [_,_,_,_] fun f=>?_;simp only [aF];refine vg ?_;intro K hK K hK;rw [show (w.heap.size+1)=x.rd from aA.o.symm];have b2:aJ ((w.alloc (.cells #[.bool o.raw,.bool (!o.strict),.slice none 0 0,.slice i o.auto.length p,aB o.space] 32)).alloc (.cells #[aB T,.slice H L I,.int .i64 0,.bool o.fails] 56)) x.rd #[aB T,.slice H L I,.int .i64 0,.bool o.fails] 56:=by
  have:=aJ.new (w.alloc (.cells #[.bool o.raw,.bool (!o.strict),.slice none 0 0,.slice i o.auto.length p,aB o.space] 32)) #[aB T,.slice H L I,.int .i64 0,.bool o.fails] 56;rw [aA.o];simpa using this
 have b0:aJ ((w.alloc (.cells #[.bool o.raw,.bool (!o.strict),.slice none 0 0,.slice i o.auto.length p,aB o.space] 32)).alloc (.cells #[aB T,.slice H L I,.int .i64 0,.bool o.fails] 56)) w.heap.size (pG o (.slice i o.auto.length p)) 32:=(aJ.new w _ _).alloc _;have bA:Below w.heap.size w ((w.alloc (.cells #[.bool o.raw,.bool (!o.strict),.slice none 0 0,.slice i o.auto.length p,aB o.space] 32)).alloc (.cells #[aB T,.slice H L I,.int .i64 0,.bool o.fails] 56)):=((Below.refl _ w).alloc (dD _) _).alloc (by simp) _;have a3:((w.alloc (.cells #[.bool o.raw,.bool (!o.strict),.slice none 0 0,.slice i o.auto.length p,aB o.space] 32)).alloc (.cells #[aB T,.slice H L I,.int .i64 0,.bool o.fails] 56)).heap.size=w.heap.size+2:=by simp
 refine (bC.o _ (by simp)).mono ?_;rintro e1 w1 ⟨rfl,a5,d5,d2,e2,c5⟩;rw [a3] at c5;have e8:=Lh (bA.trans (a5.mono (by simp;omega)));obtain ⟨c,Z⟩:∃ c:DC,c={ c0 x (w.heap.size+2+1) with strict:=o.strict,auto:=.slice i o.auto.length p,space:=⟨o.space.toArray⟩ }:=⟨_,rfl⟩;have d6:bX w1 x.d c v0:=by
  rw [Z];have F:=d5;rw [a3] at F;simpa using F
 have a1:aJ w1 x.rd _ _:=aJ.mod (S:=fun _=>False) b2 (aG a5 _) id;have a0:aJ w1 w.heap.size (pG o (.slice i o.auto.length p)) 32:=aJ.mod (S:=fun _=>False) b0 (aG a5 _) id;have hR:cK x c w1 v0 T none []:=Fo (c:=c) (by have:=b8.o;omega) x HX.o e8.o d6 d2 e2 (by rw [HX.o] at a1 ⊢;exact a1);have e0:kO w1 (w.heap.size+2+1) 0 (fun _=>none):=kO.of c5;have c2:∀ k,x.S1 v0 k→k=w.heap.size+4∨k=w.heap.size+5∨k=w.heap.size+6∨k=w.heap.size+1:=by
  have h1:=f1.o;have h2:=aA.o;have h3:=f0.o;have h4:=dT.o;rintro k ((h|h|h|h)|h)
  ·omega
  ·omega
  ·omega
  ·omega
  ·exact h.elim
 have e3:TS x c w1 v0 (St.init T) (w.heap.size+2+1) [] [] 0:=by
  refine ⟨⟨⟨by rw [Z];rfl,by rw [Z,y.o]⟩,⟨by rw [Z];rfl,by rw [y.o];exact b6.o⟩,by rw [Z,y.o],⟨i,o.auto.length,p,by rw [Z],by rw [y.o],b4.o.n,b4.o.c,fun h=>by rw [y.o,M.o,aL.o];exact b4.o.at' h⟩⟩,
   ⟨⟨none,[],hR,fun h=>(by cases h),fun h=>absurd rfl h⟩,by rw [Z];rfl,fun nm h=>(by cases h),(show (-1:Int)≠10 by decide)⟩,
   ⟨by rw [Z];exact rfl,⟨[],by rw [Z];exact rfl⟩,by rw [Z];rfl,e0,by simp,fun b hb=>?_,fun b hb hs=>?_⟩,fun e he=>(by cases he),fun k u h=>(by cases h),fun nm h=>(by cases h),?_,kP.none rfl (by rw [Z];rfl)⟩
  ·simp only [List.append_nil,mH,xZ,or_false] at hb;rw [hb,M.o];omega
  ·simp only [List.append_nil,mH,xZ,or_false] at hb;have:=c2 b hs;omega
  ·rw [q.o];simp [St.init,qL]
 have O:D0 x c w1 v0 (St.init T) (w.heap.size+2+1) [] [] 0 w.heap.size [] [] (.slice none 0 0) (.slice i o.auto.length p):=by
  refine ⟨e3,by rw [y.o];exact a0,⟨a0.lt,fun hs=>by have:=c2 _ hs;omega,fun G=>?_,fun G=>by rw [show c.nextTok=.nilIface by rw [Z];rfl] at G;exact G.elim⟩,by simp [Value.ownBlock],⟨rfl,aH ⟨rfl,rfl⟩⟩,fun k hk=>(by cases hk),.nil,fun l' e ht=>(by rw [q.o];simpa using ht),fun _=>rfl,by rw [q.o];simp⟩;simp only [List.append_nil,mH,xZ,or_false] at G;omega
 have g:=Lh O;clear a5 d5 d2 e2 c5 d6 Z a1 b2 b0 bA bC a0 hR e0 c2 e3 O a3;(repeat revert K);refine vS ?_;refine cP [7,10,11] fun f=>?_;obtain ⟨m,hm⟩:=cY (w.heap.size+2+1);rw [←hm] at g;clear hm;refine wp_loop_ghost_k (De x (.slice i o.auto.length p) m w.heap.size) (St.init T).mu2 ⟨f,c,v0,St.init T,[],[],0,[],[],.slice none 0 0,rfl,g.o,rfl⟩ ?_;clear g;rintro k _ w2 ⟨f,c,v,s,sb,fb,n,l,xs,tv,rfl,O,hk⟩ J K2 hJ d0;have ⟨HJ,a4,g,HK⟩:=kV hJ d0 O hk;have d4:∀ j,w2.cell? ⟨w.heap.size,j,none⟩=(pG o (.slice i o.auto.length p))[j]?:=by have h:=O.opt.cell;rw [y.o] at h;exact h
 have d8:=O.opt.frozen;have bL:s.mu2≤8*T.length:=by
  have h1:=O.mu;have h2:(St.init x.T).mu2=8*T.length:=by rw [iK rfl,q.o];unfold St.mu St.init;simp
  omega
 have f4:=Lh bL;clear hJ d0 O hk bL;have c4:o.raw=true∨o.raw=false:=by cases o.raw<;>simp
 rcases c4 with Y|Y
 ·have a2:stepL bG x.o s=dN x.o s:=by unfold stepL;rw [y.o,Y];rfl
  have b7:=Lh a2;have aC:=Lh (JN x B.o c9.o a6.o c w2 v s m sb fb n  g.o.ts (g.o.next (by rw [y.o];exact Y)));clear a2;refine vg ?_;intro K hK K hK;refine aC.o.mono ?_;rintro e1 w3 ⟨t,e,rfl,E⟩;rw [←b7.o] at E;have HP:=Lh E;clear E aC d4 d8;go_simp;(repeat revert K);refine vT 8 ?_;refine cP [7,10,11,12,13] fun f=>?_;have E:=HP.o;unfold jO at E;cases r:stepL bG x.o s with
  | error kk=>
   rw [r] at E;obtain ⟨_,p2,p3,p4,p5⟩:=E;have N:∀ k,tY x v c.nextTok m sb fb w2 k→¬ (x.S1 v k∨k∈m::(sb++fb)∨cU c.nextTok k):=fun k hf G=>by
    rcases G with G|G|G
    ·exact hf.s1 G
    ·exact hf.own G
    ·exact hf.pend G
   refine bB (R5 x B.o b5.o dI.o a7.o (.slice i o.auto.length p) m w.heap.size s l xs tv kk ?_ w3 (aE g.o.row p5 (fun k hk=>N k (g.o.tvf k hk))) (g.o.rows.mono (fun a ys hr=>hr.mod p5 (fun k hk _=>⟨N k hk.1,trivial⟩))) t e p2 p3 p4 _ ⟨fun f c' w' v' s' W Q n' l' X A D R=>?_,fun f w' A V U C z d=>?_⟩ f) (by kernel_rfl)
   ·have F:=g.o.run [] kk (.stop r);simpa using F
   ·refine a4.o _ _ ⟨s'.mu2,by rw [HK.o];exact R,HJ.o _ _ _ ⟨f,c',v',s',W,Q,n',l',X,A,rfl,D,rfl⟩⟩
   ·refine kN ?_;rw [M.o,aL.o] at C;rw [q.o] at d;refine ⟨l,V,A,xs,rfl,?_,C,z,d,?_⟩
    ·have F:=U;rw [y.o,q.o] at F;exact F
    ·have h1:=g.o.mu;have h2:(St.init x.T).mu2=8*T.length:=by rw [iK rfl,q.o];unfold St.mu St.init;simp
     omega
  | ok pr=>
   obtain ⟨tk,s2⟩:=pr;rw [r] at E;obtain ⟨rfl,c3,v3,c8,cT,n3,g1,⟨BT,g2⟩,g3,g4,g5,g6⟩:=E;refine bB (X1 x B.o (by rw [q.o];exact b8.o) (.slice i o.auto.length p) m w.heap.size (by rw [M.o];exact dD _) c w2 v s sb fb n l xs tv g.o tk s2 r c3 w3 v3 c8 cT n3 g1 t BT g2 g3 g4 g5 g6 (fun nm f3 ht=>?_) _ ⟨fun f c' w' v' s' W Q n' l' X A D R=>?_,fun f w' A V U C z d=>?_⟩ f) (by kernel_rfl)
   ·subst ht;obtain ⟨e9,b9,c1,_,_⟩:=g.o.ts.rd.rd;have F:=wK (by rw [y.o];exact b6.o) r c1.suf.length_le g.o.ts.tcl (fun tk c6=>by
     have h:=g.o.ts.nxt;unfold kP at h;rw [c6] at h;obtain ⟨_,_,_,_,h4,_⟩:=h;exact h4)
    have h7:=B.o.toOk.len;omega
   ·refine a4.o _ _ ⟨s'.mu2,by rw [HK.o];exact R,HJ.o _ _ _ ⟨f,c',v',s',W,Q,n',l',X,A,rfl,D,rfl⟩⟩
   ·refine kN ?_;rw [M.o,aL.o] at C;rw [q.o] at d;refine ⟨l,V,A,xs,rfl,?_,C,z,d,?_⟩
    ·have F:=U;rw [y.o,q.o] at F;exact F
    ·have h1:=g.o.mu;have h2:(St.init x.T).mu2=8*T.length:=by rw [iK rfl,q.o];unfold St.mu St.init;simp
     omega
 ·have a2:stepL bG x.o s=hY bG x.o s:=by unfold stepL;rw [y.o,Y];rfl
  have b7:=Lh a2;have aC:=Lh (x8 x B.o c9.o a6.o f2.o b5.o c w2 v s m sb fb n g.o.ts);clear a2;refine vg ?_;intro K hK K hK;refine aC.o.mono ?_;rintro e1 w3 ⟨t,e,rfl,E⟩;rw [←b7.o] at E;have HP:=Lh E;clear E aC d4 d8;go_simp;(repeat revert K);refine vT 8 ?_;refine cP [7,10,11,12,13] fun f=>?_;have E:=HP.o;unfold jO at E;cases r:stepL bG x.o s with
  | error kk=>
   rw [r] at E;obtain ⟨_,p2,p3,p4,p5⟩:=E;have N:∀ k,tY x v c.nextTok m sb fb w2 k→¬ (x.S1 v k∨k∈m::(sb++fb)∨cU c.nextTok k):=fun k hf G=>by
    rcases G with G|G|G
    ·exact hf.s1 G
    ·exact hf.own G
    ·exact hf.pend G
   refine bB (R5 x B.o b5.o dI.o a7.o (.slice i o.auto.length p) m w.heap.size s l xs tv kk ?_ w3 (aE g.o.row p5 (fun k hk=>N k (g.o.tvf k hk))) (g.o.rows.mono (fun a ys hr=>hr.mod p5 (fun k hk _=>⟨N k hk.1,trivial⟩))) t e p2 p3 p4 _ ⟨fun f c' w' v' s' W Q n' l' X A D R=>?_,fun f w' A V U C z d=>?_⟩ f) (by kernel_rfl)
   ·have F:=g.o.run [] kk (.stop r);simpa using F
   ·refine a4.o _ _ ⟨s'.mu2,by rw [HK.o];exact R,HJ.o _ _ _ ⟨f,c',v',s',W,Q,n',l',X,A,rfl,D,rfl⟩⟩
   ·refine kN ?_;rw [M.o,aL.o] at C;rw [q.o] at d;refine ⟨l,V,A,xs,rfl,?_,C,z,d,?_⟩
    ·have F:=U;rw [y.o,q.o] at F;exact F
    ·have h1:=g.o.mu;have h2:(St.init x.T).mu2=8*T.length:=by rw [iK rfl,q.o];unfold St.mu St.init;simp
     omega
  | ok pr=>
   obtain ⟨tk,s2⟩:=pr;rw [r] at E;obtain ⟨rfl,c3,v3,c8,cT,n3,g1,⟨BT,g2⟩,g3,g4,g5,g6⟩:=E;refine bB (X1 x B.o (by rw [q.o];exact b8.o) (.slice i o.auto.length p) m w.heap.size (by rw [M.o];exact dD _) c w2 v s sb fb n l xs tv g.o tk s2 r c3 w3 v3 c8 cT n3 g1 t BT g2 g3 g4 g5 g6 (fun nm f3 ht=>?_) _ ⟨fun f c' w' v' s' W Q n' l' X A D R=>?_,fun f w' A V U C z d=>?_⟩ f) (by kernel_rfl)
   ·subst ht;obtain ⟨e9,b9,c1,_,_⟩:=g.o.ts.rd.rd;have F:=wK (by rw [y.o];exact b6.o) r c1.suf.length_le g.o.ts.tcl (fun tk c6=>by
     have h:=g.o.ts.nxt;unfold kP at h;rw [c6] at h;obtain ⟨_,_,_,_,h4,_⟩:=h;exact h4)
    have h7:=B.o.toOk.len;omega
   ·refine a4.o _ _ ⟨s'.mu2,by rw [HK.o];exact R,HJ.o _ _ _ ⟨f,c',v',s',W,Q,n',l',X,A,rfl,D,rfl⟩⟩
   ·refine kN ?_;rw [M.o,aL.o] at C;rw [q.o] at d;refine ⟨l,V,A,xs,rfl,?_,C,z,d,?_⟩
    ·have F:=U;rw [y.o,q.o] at F;exact F
    ·have h1:=g.o.mu;have h2:(St.init x.T).mu2=8*T.length:=by rw [iK rfl,q.o];unfold St.mu St.init;simp
     omega
noncomputable def R6 (n:Nat):Code:=((Tryz.f11.body).bind (Code.partAt n)).getD .skip
theorem D2:(prog.info? 68).map (fun i=>(i.zero,i.size,i.bytes))=some (some (.agg #[.string ⟨#[]⟩,.string ⟨#[]⟩,.string ⟨#[]⟩]),3,48):=by kernel_rfl
theorem JO (c:World) (b:Nat) (f:b≤c.heap.size) (v:Value) (acc:List cZ) (w:acc.length≤1000000000) (h:c.ownsRow b 68 3 v acc.length (aR acc)) (a:cZ) :
  ∃ v' e,(Builtin.append_ #[33,33] 33 #[v,.slice (some ⟨c.heap.size,0,none⟩) 1 1]).run prog (c.alloc (.cells #[aB a.1,aB a.2.1,aB a.2.2] 68))=.ok v' e ∧
   e.ownsRow b 68 3 v' (acc++[a]).length (aR (acc++[a]))∧(c.alloc (.cells #[aB a.1,aB a.2.1,aB a.2.2] 68)).grownBy e v.ownBlock∧(v'.ownBlock=v.ownBlock∨v'.ownBlock=some (c.heap.size+1)):=by
 obtain ⟨i,p,t,m,n⟩:=info_parts D2
 obtain ⟨v',e,s,r,o,g,d⟩:=run_append_own_at (P:=prog) (c.alloc (.cells #[aB a.1,aB a.2.1,aB a.2.2] 68)) b 33 33 68 i _ 3 48 underlying33 p t m n rfl (by omega) v acc.length (aR acc) (h.alloc _) ⟨c.heap.size,0,none⟩ 1 1 [aB a.1,aB a.2.1,aB a.2.2] rfl
  (by
   intro j u q;have f:=aJ.new c #[aB a.1,aB a.2.1,aB a.2.2] 68;rw [show ((⟨c.heap.size,0,none⟩:Addr).add j)=⟨c.heap.size,j,none⟩ by cases j<;>simp [Addr.add],f.cell];simpa using q)
  (by
   intro u k;simp only [mH,xZ,or_false] at k;rcases k with rfl|rfl|rfl<;>rfl)
  (by unfold maxLen;omega) (by omega) (by simp;omega)
 refine ⟨v',e,s,?_,o,by simpa using d⟩;have l:aR (acc++[a])=aR acc++[aB a.1,aB a.2.1,aB a.2.2]:=by simp [aR]
 rw [l,fY];exact r
def Df (w1:World) (g h l c d:Value) (i:Value) (b:List cZ) (k:Nat) (a:Act) (w:World):Prop:=
 ∃ f j e,a=fr 50 f [(3,g),(5,h),(6,e),(9,l),(10,c),(11,d),(16,i),(17,.int .i64 b.length),(18,.int .i64 (j:Nat))]∧Below w1.heap.size w1 w∧w.ownsRow w1.heap.size 68 3 e (b.take j).length (aR (b.take j))∧k=b.length-j∧j≤b.length
theorem Ft (w1:World) (o3 p5 v9 z A:Value) (T:Option Addr) (V U:Nat) (b:List cZ) (s:b.length≤1000000000) (x:w1.ownsRow 0 67 3 (.slice T V U) b.length (aR b)) (Q:Exit→Act→World→Prop)
  (hQ:∀ f w' p,Below w1.heap.size w1 w'→w'.ownsRow w1.heap.size 68 3 p b.length (aR b)→Q .normal (fr 50 f [(3,o3),(5,p5),(6,p),(9,v9),(10,z),(11,A)]) w') (f:Nat→Value) (c1:Code) (aC:c1=.loop (R6 7)) :
  c1.wp prog (Exit.inBlock 2 Q) (fr 50 f [(3,o3),(5,p5),(6,.slice none 0 0),(9,v9),(10,z),(11,A),(16,.slice T V U),(17,.int .i64 b.length),(18,.int .i64 0)]) w1:=by
 subst aC;have ⟨HQ,o,F⟩:=mJ hQ s x;refine wp_loop_ghost_k (Df w1 o3 p5 v9 z A (.slice T V U) b) b.length ⟨f,0,.slice none 0 0,rfl,Below.refl _ w1,⟨rfl,aH ⟨rfl,rfl⟩⟩,by simp,iW _⟩ ?_;clear hQ s x;rintro k _ w ⟨f,j,p,rfl,hb,u,C,hj⟩ J K2 hJ G;have ⟨HJ,X,D,d,HK⟩:=o4 hJ G hb u C;clear hJ G hb u C;unfold R6;conv=>arg 2;whnf
 by_cases O:j<b.length
 ·have h1:(j:Int)<(b.length:Int):=by omega
  have h0:(0:Int)≤(j:Int):=by omega
  have a5:IntKind.i64.wrap ((j:Int)+1)=((j+1:Nat):Int):=by rw [IntKind.wrap_i64];have:=o.o;omega
  obtain ⟨a,ha⟩:∃ a,b[j]?=some a:=⟨b[j],by simp [O]⟩;obtain ⟨g,h,c,P,M,r⟩:∃ g h c,Value.slice T V U=.slice (some ⟨g,0,none⟩) b.length h∧aJ w1 g c 67∧c.toList.take (b.length*3)=aR b:=by
   rcases F.o.2 with ⟨_,h9⟩|⟨g,h,c,h3,_,h4,_,_,_,h5⟩
   ·omega
   ·exact ⟨g,h,c,h3,h4,h5⟩
  simp only [Value.slice.injEq] at P;obtain ⟨rfl,rfl,rfl⟩:=P;have m:aJ w g c 67:=aJ.mod (S:=fun _=>False) M (aG D.o _) id;obtain ⟨k1,k2,k3⟩:=uU r ha;have H:w.cell? ⟨g,j*3,none⟩=some (aB a.1):=(m.cell _).trans k1;have I:w.cell? ⟨g,j*3+1,none⟩=some (aB a.2.1):=(m.cell _).trans k2;have L:w.cell? ⟨g,j*3+2,none⟩=some (aB a.2.2):=(m.cell _).trans k3;have e:b.take (j+1)=b.take j++[a]:=by rw [List.take_succ,ha];rfl
  have a2:(b.take j).length=j:=by simp;omega
  obtain ⟨B,n⟩:=cY (w.alloc (.cells #[aB a.1,aB a.2.1,aB a.2.2] 67));have l:Below w.heap.size w B:=by rw [n];exact (Below.refl _ w).alloc (dD _) _
  have y:aJ B w.heap.size #[aB a.1,aB a.2.1,aB a.2.2] 67:=by rw [n];exact aJ.new w _ _
  have R:=D.o.size;obtain ⟨Z,w4,v,t,N,a1⟩:=JO B w1.heap.size (fX R l.size) p (b.take j) (by have:=o.o;omega) (aE (S:=fun _=>False) d.o (aG l _) (fun _ _=>id)) a;have a3:=y.cell;have a4:=y.frozen;have ⟨E,HO,W,Y⟩:=kV N t l e;clear k1 k2 k3 ha N t a1 l y e a2 R m M r;(repeat ((fail_if_success with_reducible refine uS 9 ?_);(first|(with_reducible first|refine zA fun K hK=>?_|refine zB ?_|refine zC ?_)|((with_reducible first|refine zD rfl fun K hK=>?_|refine zE fun K hK=>?_);go_simp)|(with_reducible first|((repeat ((fail_if_success refine hK _ _ ?_);clear hK K));refine hK _ _ ?_;clear hK K)|refine zt ?_|refine zf ?_|refine zG ?_|refine zR ?_|refine zK ?_|refine zL ?_|refine zN ?_|refine zS ?_)|simp only [Exit.then,Exit.inBlock,Exit.noGoto,↓reduceIte,Nat.reduceEqDiff]|simp only [undef,reduceCtorEq,↓reduceIte])));rw [show w.alloc (.cells #[.string ⟨List.toArray a.1⟩,.string ⟨List.toArray a.2.1⟩,.string ⟨List.toArray a.2.2⟩] 67)=B from n.symm];clear n H I L;revert K;refine vB ?_;intro K hK;refine eV rfl (.tmp 22) (.tmp 30) _ _ rfl _ _ _ (by rw [cC (by decide)];(try simp only [aK,aQ,aS,aX,Nat.reduceEqDiff,↓reduceIte]);(try rfl)) (by rw [cC (by decide)];(try simp only [aK,aQ,aS,aX,Nat.reduceEqDiff,↓reduceIte]);(try rfl)) v ?_;clear v;rw [fR (by decide)];revert K;refine vg ?_;refine Kk [3,5,6,9,10,11,16,17,18] fun f=>?_;have a0:aM (fun k=>p.ownBlock=some k) B w4:=(aG ((Below.refl _ B).alloc (dD _) _) _).trans (S':=fun k=>p.ownBlock=some k) ⟨E.o.os,E.o.tape,E.o.output,E.o.size,fun k C hn=>E.o.block k C (fun he=>hn he.symm)⟩ (fun i _ hi=>hi);have aA:∀ k,p.ownBlock=some k→w1.heap.size≤k:=fun k C=>(aU d.o C).2;have q:Below w1.heap.size w1 B:=D.o.trans (W.o.mono D.o.size);refine X.o _ _ ⟨b.length-(j+1),by rw [HK.o];omega,HJ.o _ _ _ ⟨f,j+1,Z,rfl,aM.below q q.size a0 aA,?_,rfl,O⟩⟩;rw [Y.o];exact HO.o
 ·have aL:j=b.length:=by omega
  subst aL;have h1:¬ ((b.length:Int)<(b.length:Int)):=by omega
  refine vg ?_;intro K hK;refine Qk [3,5,6,9,10,11] fun f=>?_;have h2:=d.o;rw [List.take_length] at h2;exact HQ.o f w p D.o h2
theorem uY:(prog.info? 35).map (fun i=>(i.zero,i.size,i.bytes))=some (some (.agg #[.int .i64 0,.string ⟨#[]⟩,.string ⟨#[]⟩,.slice none 0 0,.string ⟨#[]⟩,.int .i64 0]),6,88):=by kernel_rfl
def fF (p:cD) (a:Value):List Value:=[.int .i64 p.kind,aB p.space,aB p.loc,a,aB p.text,.int .i64 p.at']
theorem JP (b:World) (a:Nat) (l:a≤b.heap.size) (v:Value) (n:Nat) (z:n≤1000000000) (k:List Value) (h:b.ownsRow a 35 6 v n k) (p:cD) (c:Option Addr) (e d:Nat) :
  ∃ v' g,(Builtin.append_ #[23,23] 23 #[v,.slice (some ⟨b.heap.size,0,none⟩) 1 1]).run prog (b.alloc (.cells #[.int .i64 p.kind,aB p.space,aB p.loc,.slice c e d,aB p.text,.int .i64 p.at'] 35))=.ok v' g ∧
   g.ownsRow a 35 6 v' (n+1) (k++fF p (.slice c e d))∧(b.alloc (.cells #[.int .i64 p.kind,aB p.space,aB p.loc,.slice c e d,aB p.text,.int .i64 p.at'] 35)).grownBy g v.ownBlock∧(v'.ownBlock=v.ownBlock∨v'.ownBlock=some (b.heap.size+1)):=by
 obtain ⟨i,s,y,o,q⟩:=info_parts uY
 obtain ⟨v',g,x,w,r,_,f⟩:=run_append_own_at (P:=prog) (b.alloc (.cells #[.int .i64 p.kind,aB p.space,aB p.loc,.slice c e d,aB p.text,.int .i64 p.at'] 35)) a 23 23 35 i _ 6 88 underlying23 s y o q rfl (by omega) v n k (h.alloc _) ⟨b.heap.size,0,none⟩ 1 1 (fF p (.slice c e d)) rfl
  (by
   intro j u t;have l:=aJ.new b #[.int .i64 p.kind,aB p.space,aB p.loc,.slice c e d,aB p.text,.int .i64 p.at'] 35;rw [show ((⟨b.heap.size,0,none⟩:Addr).add j)=⟨b.heap.size,j,none⟩ by cases j<;>simp [Addr.add],l.cell];simpa [fF] using t)
  (by
   intro u m;simp only [fF,mH,xZ,or_false] at m;rcases m with rfl|rfl|rfl|rfl|rfl|rfl<;>rfl)
  (by unfold maxLen;omega) (by omega) (by simp;omega)
 exact ⟨v',g,x,w,r,by simpa using f⟩
def kC (w:World) (a:Nat) (G:Nat→Prop) (p:cD) (e:List Value):Prop:=
 ∃ b d c,e=fF p (.slice b d c)∧w.ownsRow a 68 3 (.slice b d c) p.attrs.length (aR p.attrs)∧∀ k,(Value.slice b d c).ownBlock=some k→G k
theorem kC.mod {w w':World} {a:Nat} {G G':Nat→Prop} {p:cD} {f:List Value} {S:Nat→Prop} (h:kC w a G p f) (g:aM S w w') (d:∀ k,G k→k<w.heap.size→¬ S k∧G' k):kC w' a G' p f:=by
 obtain ⟨i,l,j,rfl,c,e⟩:=h;exact ⟨i,l,j,rfl,aE c g (fun k b=>(d k (e k b) (aU c b).1).1),fun k b=>(d k (e k b) (aU c b).1).2⟩
structure D3 (w:World) (g o:Nat) (p:cD):Prop where
 ex:∃ a c b d e,w.cell? ⟨g,o,none⟩=some (.int .i64 p.kind)∧w.cell? ⟨g,o+1,none⟩=some (aB p.space)∧w.cell? ⟨g,o+2,none⟩=some (aB p.loc)∧w.cell? ⟨g,o+3,none⟩=some (.slice a c b)∧w.cell? ⟨g,o+4,none⟩=some (aB p.text)∧w.cell? ⟨g,o+5,none⟩=some (.int .i64 p.at') ∧
  w.cell? ⟨g,o+6,none⟩=some (.int .i64 d)∧w.cell? ⟨g,o+7,none⟩=some (.int .i64 e)∧w.ownsRow 0 67 3 (.slice a c b) p.attrs.length (aR p.attrs)
 len:p.attrs.length≤1000000000
def Gm (w0:World) (c:Value) (l:List cD) (k:Nat) (a:Act) (w:World):Prop:=
 ∃ f i out b,a=fr 50 f [(3,out),(9,c),(10,.int .i64 l.length),(11,.int .i64 (i:Nat))]∧Below w0.heap.size w0 w∧w.ownsRow w0.heap.size 35 6 out i b∧cI (kC w w0.heap.size (fun k=>out.ownBlock≠some k)) (l.take i) b∧k=l.length-i∧i≤l.length
theorem LN (w0:World) (l:List cD) (N:l.length≤1000000000) (g ro E:Nat) (hg:g<w0.heap.size) (U:∀ i p,l[i]?=some p→D3 w0 g (ro+i*8) p) :
  Calls prog 11 #[.slice (some ⟨g,ro,none⟩) l.length E] w0 fun en w'=>∃ out xs,en=.returned out∧Below w0.heap.size w0 w'∧w'.ownsRow w0.heap.size 35 6 out l.length xs∧cI (kC w' w0.heap.size (fun _=>True)) l xs:=by
 have ⟨H,L,a9⟩:=mJ N U hg;clear N U hg;refine eI 50 func11 [_] fun f=>?_;simp only [aF];refine vg ?_;intro K hK;refine cP [3,9,10,11] fun f=>?_;refine wp_loop_ghost_k (Gm w0 (.slice (some ⟨g,ro,none⟩) l.length E) l) l.length ⟨f,0,.slice none 0 0,[],rfl,Below.refl _ w0,⟨rfl,aH ⟨rfl,rfl⟩⟩,.nil,by simp,iW _⟩ ?_;rintro k _ w ⟨f,i,out,xs,rfl,hb,R,y,b,hi⟩ J K2 hJ aL;have ⟨HJ,bA,W,m,s,HK⟩:=iH hJ aL hb R y b;clear hJ aL hb R y b;by_cases a4:i<l.length
 ·have h1:(i:Int)<(l.length:Int):=by omega
  have h0:(0:Int)≤(i:Int):=by omega
  have dT:IntKind.i64.wrap ((i:Int)+1)=((i+1:Nat):Int):=by rw [IntKind.wrap_i64];have:=H.o;omega
  obtain ⟨p,hp⟩:∃ p,l[i]?=some p:=⟨l[i],by simp [a4]⟩;obtain ⟨sa,sl,sc,i6,i7,c0,c1,c2,c3,c4,c5,c6,c7,X⟩:=(L.o i p hp).ex;have a8:=(L.o i p hp).len;have a2:∀ j,w.cell? ⟨g,j,none⟩=w0.cell? ⟨g,j,none⟩:=fun j=>W.o.cell (p:=⟨g,j,none⟩) a9.o;rw [←a2] at c0 c1 c2 c3 c4 c5 c6 c7;obtain ⟨w1,n⟩:=cY (w.alloc (.cells #[.int .i64 p.kind,aB p.space,aB p.loc,.slice sa sl sc,aB p.text,.int .i64 p.at',.int .i64 i6,.int .i64 i7] 38));have Y:Below w.heap.size w w1:=by rw [n];exact (Below.refl _ w).alloc (dD _) _
  have F:aJ w1 w.heap.size #[.int .i64 p.kind,aB p.space,aB p.loc,.slice sa sl sc,aB p.text,.int .i64 p.at',.int .i64 i6,.int .i64 i7] 38:=by rw [n];exact aJ.new w _ _
  have M:w1.ownsRow 0 67 3 (.slice sa sl sc) p.attrs.length (aR p.attrs):=aE (S:=fun _=>False) (aE (S:=fun _=>False) X (aG (W.o) _) (fun _ _=>id)) (aG Y _) (fun _ _=>id);have b4:sl=p.attrs.length:=by
   rcases X.2 with ⟨t,h8⟩|⟨g9,cap9,cur9,t,_⟩
   ·simp only [Value.slice.injEq] at t;rw [t.2.1,h8]
   ·simp only [Value.slice.injEq] at t;exact t.2.1
  subst b4;have z:l.take (i+1)=l.take i++[p]:=by rw [List.take_succ,hp];rfl
  have aC:=Lh (fun o3 p5 v9 b8 b9 Q hQ f c1 e=>Ft w1 o3 p5 v9 b8 b9 sa p.attrs.length sc p.attrs a8 M Q hQ f c1 e);have ⟨D,aA,bL⟩:=mJ Y F z;clear X M a8 a2 hp z;revert K;refine vT 5 ?_;intro K hK K hK;rw [show w.alloc (.cells #[.int .i64 p.kind,.string ⟨List.toArray p.space⟩,.string ⟨List.toArray p.loc⟩,.slice sa p.attrs.length sc,.string ⟨List.toArray p.text⟩,.int .i64 p.at',.int .i64 i6,.int .i64 i7] 38)=w1 from n.symm];clear n c0 c1 c2 c3 c4 c5 c6 c7 Y;have b1:=F.cell;have b2:=F.frozen;clear F;(repeat revert K);refine vg ?_;intro K hK K hK K hK;refine cP [3,5,6,9,10,11,16,17,18] fun f=>?_;refine aC.o _ _ _ _ _ _ ?_ f _ (by kernel_rfl);intro f r av u d;obtain ⟨A,C,B,rfl⟩:=iG d;have b5:=W.o.size;have b6:=D.o.size;have b7:=u.size;have x:aM (fun _=>False) w r:=(aG D.o _).trans (aG u _) (fun _ _ h=>h);obtain ⟨V,w4,T,P,a3,q⟩:=JP r w0.heap.size (by omega) out i (by have:=H.o;omega) xs (aE m.o x (fun _ _=>id)) p A C B;have v:aJ r w.heap.size _ _:=aJ.mod (S:=fun _=>False) aA.o (aG u _) id;have cT:=v.cell;have c8:=v.frozen;have ⟨c9,c,Z,HO,bC,I⟩:=iH u d a3 P q x;clear u d a3 P q x v aC b1 b2 b5 b6 b7;(repeat revert K);refine vB ?_;intro K hK K hK;refine eV rfl (.tmp 33) (.tmp 46) _ _ rfl _ _ _ (by rw [cC (by decide)];(try simp only [aK,aQ,aS,aX,Nat.reduceEqDiff,↓reduceIte]);(try rfl)) (by rw [cC (by decide)];(try simp only [aK,aQ,aS,aX,Nat.reduceEqDiff,↓reduceIte]);(try rfl)) T ?_;clear T;rw [fR (by decide)];(repeat revert K);refine vg ?_;intro K hK;refine Kk [3,9,10,11] fun f=>?_;have a5:aM (fun k=>out.ownBlock=some k) r w4:=(aG ((Below.refl _ r).alloc (dD _) _) _).trans (S':=fun k=>out.ownBlock=some k) ⟨Z.o.os,Z.o.tape,Z.o.output,Z.o.size,fun k b hn=>Z.o.block k b (fun G=>hn G.symm)⟩ (fun i _ hi=>hi);have O:aM (fun k=>out.ownBlock=some k) w w4:=(I.o.mono (fun _ _ h=>h.elim)).trans a5 (fun _ _ h=>h);have b0:∀ k,out.ownBlock=some k→w0.heap.size≤k:=fun k b=>(aU m.o b).2;have dI:r.heap.size+1≤w4.heap.size:=by have t:=Z.o.size;rw [show ∀ o:Obj,(r.alloc o).heap.size=r.heap.size+1 from fun o=>Array.size_push _] at t;exact t
  have a6:∀ k,k<r.heap.size→out.ownBlock≠some k→V.ownBlock≠some k:=fun k b hn G=>by
   rcases bC.o with q|q
   ·exact hn (q▸G)
   ·rw [q] at G;have:r.heap.size+1=k:=by simpa using G
    omega
  refine bA.o _ _ ⟨l.length-(i+1),by rw [HK.o];omega,HJ.o _ _ _ ⟨f,i+1,V,_,rfl,aM.below W.o W.o.size O b0,HO.o,?_,rfl,a4⟩⟩;rw [bL.o];refine .snoc (s.o.mono (fun a ys hr=>hr.mod O (fun k b hl=>⟨b,a6 k (oX hl I.o.size) b⟩))) ?_;have a1:∀ k,(Value.slice A C B).ownBlock=some k→k<r.heap.size∧w1.heap.size≤k:=fun k b=>aU c.o b;have a7:∀ k,(Value.slice A C B).ownBlock=some k→out.ownBlock≠some k:=fun k b G=>by
   have h8:=(a1 k b).2;have t:=(aU m.o G).1;have h7:=aA.o.lt;have h6:=D.o.size;omega
  have a0:r.ownsRow w0.heap.size 68 3 (.slice A C B) p.attrs.length (aR p.attrs):=by
   refine ⟨c.o.1,?_⟩;rcases c.o.2 with t|⟨g,E,cur,e1,e2,e3⟩
   ·exact aH t
   ·exact aW ⟨g,E,cur,e1,fX (fX W.o.size D.o.size) e2,e3⟩
  exact ⟨A,C,B,rfl,aE a0 a5 (fun k b G=>a7 k b G),fun k b=>a6 k (a1 k b).1 (a7 k b)⟩
 ·have b3:i=l.length:=by omega
  subst b3;have h1:¬ ((l.length:Int)<(l.length:Int)):=by omega
  revert K;refine vg ?_;refine cO ?_;have h2:=s.o;rw [List.take_length] at h2;exact ⟨out,xs,rfl,W.o,m.o,h2.mono (fun a ys hr=>hr.mod (aM.refl (fun _=>False) w) (fun _ _ _=>⟨id,trivial⟩))⟩
theorem N0 (w:World):Calls prog 11 #[.slice none 0 0] w fun b w'=>b=.returned (.slice none 0 0)∧w'=w:=by
 have e:¬ (0:Int)<0:=by omega
 refine eI 50 func11 [_] fun f=>?_;simp only [aF];refine vg ?_;intro K hK;refine cP [3,10,11] fun f=>?_;refine wp_loop_ghost_k (fun _ a w'=>(∃ f,a=fr 50 f [(3,.slice none 0 0),(10,.int .i64 0),(11,.int .i64 0)])∧w'=w) 0 ⟨⟨f,rfl⟩,rfl⟩ ?_;rintro k _ _ ⟨⟨f,rfl⟩,rfl⟩ J d g c;revert K;refine vg ?_;refine cO ?_;exact ⟨rfl,rfl⟩
theorem eW {w:World} {b:Nat} {e:TypeId} {r:Nat} {v:Value} {n:Nat} {j:List Value} (h:w.ownsRow b e r v n j) (t:0<n):∃ g a,v=.slice (some ⟨g,0,none⟩) n a∧b≤g∧g<w.heap.size∧n≤a∧a≤maxLen∧∀ k u,j[k]?=some u→w.cell? ⟨g,k,none⟩=some u:=by
 rcases h.2 with ⟨_,f⟩|⟨g,a,cur,l,m,o,p,q,s,f⟩
 ·omega
 ·have i:aJ w g cur e:=o;refine ⟨g,a,l,m,i.lt,p,q,fun k u c=>?_⟩;rw [i.cell];rw [←f] at c;have d:=(A1.1 c).1;rw [List.getElem?_take,aV (by simp at d;omega),Array.getElem?_toList] at c;exact c
theorem qG {w:World} {e g:Nat} {T:Bs} {l:List (aO×St)} {s:List Value} {G:Nat→Prop} (d:cI (nN w e G T) l s) (c:∀ k u,s[k]?=some u→w.cell? ⟨g,k,none⟩=some u) {i:Nat} {a:aO×St} (v:l[i]?=some a) (f:(a.1.itok (T.take (T.length-a.2.rest.length))).attrs.length≤1000000000) :
  D3 w g (i*8) (a.1.itok (T.take (T.length-a.2.rest.length))):=by
 obtain ⟨C,⟨p,r,q,A,B,rfl,o,_⟩,z⟩:=d.get (n:=8) (fun _ _ h=>h.len) v;have b:∀ j u,j<8→(jT _ _ _ _ _ _ _ _)[j]?=some u→w.cell? ⟨g,i*8+j,none⟩=some u:=fun j u x y=>c _ _ ((z j x).trans y);have m:w.ownsRow 0 67 3 (.slice p r q) (a.1.itok (T.take (T.length-a.2.rest.length))).attrs.length (aR (a.1.itok (T.take (T.length-a.2.rest.length))).attrs):=by
  refine ⟨o.1,?_⟩;rcases o.2 with t|⟨g9,cap,cur,e1,e2,e3⟩
  ·exact aH t
  ·exact aW ⟨g9,cap,cur,e1,iW _,e3⟩
 exact ⟨⟨p,r,q,A,B,b 0 _ (by omega) rfl,b 1 _ (by omega) rfl,b 2 _ (by omega) rfl,b 3 _ (by omega) rfl,b 4 _ (by omega) rfl,b 5 _ (by omega) rfl,b 6 _ (by omega) rfl,b 7 _ (by omega) rfl,m⟩,f⟩
theorem LO (w:World) (n:oQ w):Calls prog 12 #[] w fun r w'=>r=.returned (.bool true)∧Below w.heap.size w w':=by
 have j:=Lh (rR Fg (by decide) mU rfl rfl none 0 none 0 0 [] w n (X2.nil w none 0) ⟨by omega,by omega,fun h=>by omega⟩);clear n;refine eI 36 func12 [] fun f=>?_;simp only [aF];refine vg ?_;intro K hK K hK;refine j.o.mono ?_;rintro y w1 ⟨l,e,D,E,rfl,d,o,c,b,_⟩;obtain ⟨rfl,rfl⟩:=d.det (U6 bG);obtain ⟨g,q,rfl,t,u,z,s,a⟩:=eW c (by decide);have v:=qG (i:=0) b a rfl (by decide);have x:=qG (i:=1) b a rfl (by decide);obtain ⟨⟨_,_,_,_,_,k,_⟩,_⟩:=v;obtain ⟨⟨_,_,_,_,_,b0,b1,m,_⟩,_⟩:=x;have A:w1.cell? ⟨g,0,none⟩=some (.int .i64 1):=k;have B:w1.cell? ⟨g,8,none⟩=some (.int .i64 2):=b0;have C:w1.cell? ⟨g,10,none⟩=some (.string ⟨#[97]⟩):=m;have p:=Lh o;clear k b0 b1 m d o c b a j;rw [show ((EK.code .eof:Nat):Int)=0 from rfl];(repeat revert K);refine vS ?_;refine cO ?_;exact ⟨rfl,p.o⟩
end Go.Proofs.YthapcchcahnfaaaGreatDoor
