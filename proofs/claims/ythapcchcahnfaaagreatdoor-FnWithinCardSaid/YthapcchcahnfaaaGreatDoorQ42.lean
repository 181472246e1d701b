/- Part of the proof that laws.FnWithin returns true for every argument. No conditions. -/
import Derived.Test.YthapcchcahnfaaaGreatDoorQ36
import Derived.Test.YthapcchcahnfaaaGreatDoorQ37
import Derived.Laws.OwnMore
set_option linter.all false
set_option maxHeartbeats 8000000
set_option maxRecDepth 100000
namespace Go.Proofs.YthapcchcahnfaaaGreatDoor
open Go Go.RowKit Go.Proofs.Tryz
theorem QF {b k:UInt8} (h:b≠k):((b.toNat:Int) != (k.toNat:Int))=true:=by
 rw [bne,nM h];rfl
theorem IC (w:World):Calls prog 59 #[.int .i64 (-1)] w fun e w'=>e=.returned (.bool false)∧w'=w:=by
 refine eT 37 func59 [_] fun f=>?_;simp only [aF];refine vg ?_;refine cX ?_;exact ⟨rfl,rfl⟩
theorem L7 (n:Int) (h:-1≤n) (w:World):Calls prog 59 #[.int .i64 n] w fun e w'=>e=.returned (.bool (jB n))∧w'=w:=by
 by_cases a:0≤n
 ·obtain ⟨m,rfl⟩:∃ m:Nat,n=m:=⟨n.toNat,by omega⟩;refine (tL m w).mono ?_;rintro e w' ⟨rfl,rfl⟩;exact ⟨by unfold jB;simp,rfl⟩
 ·have:n=-1:=by omega
  subst this;refine (IC w).mono ?_;rintro e w' ⟨rfl,rfl⟩;exact ⟨rfl,rfl⟩
def pK (x:PX) (a:Nat) (ents:aN) (w:World):Prop:=
 ents.length≤2147483647∧((ents=[]∧x.ents=.slice none 0 0)∨∃ b o C,x.ents=.slice (some ⟨b,o,none⟩) ents.length C∧b<a∧b<w.heap.size∧∀ j u,(cO ents)[j]?=some u→w.cell? ⟨b,o+j,none⟩=some u)
theorem pK.below {x:PX} {a:Nat} {ents:aN} {w w':World} (h:pK x a ents w) (f:Below a w w'):pK x a ents w':=by
 obtain ⟨d,c|⟨b,o,C,c,e,g,i⟩⟩:=h
 ·exact ⟨d,aG c⟩
 ·exact ⟨d,aX ⟨b,o,C,c,e,rS g f.size,fun j u k=>(f.cell (p:=⟨b,o+j,none⟩) e).trans (i j u k)⟩⟩
theorem QG:(prog.info? 177).map (fun i=>(i.zero,i.size,i.bytes))=some (some (.agg #[.string ⟨#[]⟩,.string ⟨#[]⟩]),2,32):=by kernel_rfl
theorem wC (a b:aN):cO (a++b)=cO a++cO b:=by simp [cO]
theorem E2 (a:aN):(cO a).length=a.length*2:=by
 induction a with
 | nil=>rfl
 | cons p l ih=>rw [cO,List.flatMap_cons,fU];rw [cO] at ih;rw [ih];simp;omega
theorem qT:∀ (l:aN) (i:Nat) (p:Bs×Bs),l[i]?=some p→(cO l)[i*2]?=some (aB p.1)∧(cO l)[i*2+1]?=some (aB p.2)
 | [],i,p,h=>by simp at h
 | q::l,0,p,h=>by
  simp at h;subst h;exact ⟨rfl,rfl⟩
 | q::l,i+1,p,h=>by
  have:=qT l i p (by simpa using h);have e:cO (q::l)=[aB q.1,aB q.2]++cO l:=rfl;rw [e];constructor
  ·rw [C0 (by simp;omega)];simpa [Nat.add_mul] using this.1
  ·rw [C0 (by simp;omega)];have a:(i+1)*2+1-[aB q.1,aB q.2].length=i*2+1:=by simp;omega
   rw [a];exact this.2
theorem T4 (x:PX) (d:Nat) (ents:aN) (W:World) (r:pK x d ents W) (g:Nat) (c:aJ W g (cO oF).toArray 177) :
  ∃ v' e,(Builtin.append_ #[47,47] 47 #[.slice (some ⟨g,0,none⟩) 5 5,x.ents]).run prog W=.ok v' e∧e.ownsRow 0 177 2 v' (oF++ents).length (cO (oF++ents))∧aK (fun k=>k=g) W e:=by
 obtain ⟨i,l,A,n,q⟩:=info_parts QG;have a:W.ownsRow 0 177 2 (.slice (some ⟨g,0,none⟩) 5 5) 5 (cO oF):=⟨rfl,aX ⟨g,5,(cO oF).toArray,rfl,kW _,c,dC _,by decide,rfl,rfl⟩⟩;obtain ⟨m,h|⟨b,o,C,h,_,_,s⟩⟩:=r
 ·obtain ⟨rfl,h⟩:=h;rw [h];refine ⟨_,_,run_append_owned_none W 0 _ _ _ i 2 underlying47 l _ 5 (cO oF) a,?_,aK.refl _ _⟩;rw [List.append_nil];exact a
 ·rw [h]
  obtain ⟨v',e,z,y,c,_,_⟩:=run_append_own_at (P:=prog) W 0 47 47 177 i _ 2 32 underlying47 l A n q rfl (by omega) _ 5 (cO oF) a ⟨b,o,none⟩ ents.length C (cO ents) (E2 ents)
   (fun j u v=>by rw [show ((⟨b,o,none⟩:Addr).add j)=⟨b,o+j,none⟩ by cases j<;>simp [Addr.add]];exact s j u v)
   (fun u f=>by
    obtain ⟨p,_,f⟩:=List.mem_flatMap.1 f;simp only [l6,zF,or_false] at f;rcases f with rfl|rfl<;>rfl) (by unfold maxLen;omega) (by omega) (kW _)
  refine ⟨v',e,z,?_,⟨c.os,c.tape,c.output,c.size,fun k w m=>c.block k w (fun t=>m (by simpa [Value.ownBlock] using t))⟩⟩;rw [wC,fU];exact y
theorem XR {T:Bs} {a:Nat} (b:a<T.length) (h:T.getD a 0=59):iG 59 (T.drop a)=some []:=by
 rw [bX T a b];unfold iG;rw [aT h]
theorem T5 {T:Bs} {a:Nat} (b:a<T.length) (h:¬ T.getD a 0=59):iG 59 (T.drop a)=(iG 59 (T.drop (a+1))).map (T.getD a 0::·):=by
 rw [bX T a b];conv=>lhs;unfold iG
 rw [aM h]
theorem XS {T:Bs} {a:Nat} (b:T.length≤a):iG 59 (T.drop a)=none:=by rw [t6 b];rfl
def sL (T:Bs) (i a:Nat):Prop:=iG 59 (T.drop i)=(iG 59 (T.drop a)).map ((T.drop i).take (a-i)++·)
theorem sL.start (T:Bs) (i:Nat):sL T i i:=by
 unfold sL;cases iG 59 (T.drop i)<;>simp
theorem sL.next {T:Bs} {i a:Nat} (h:sL T i a) (b:i≤a) (c:a<T.length) (d:¬ T.getD a 0=59):sL T i (a+1):=by
 unfold sL at h ⊢;rw [h,T5 c d,uM T i a b c];cases iG 59 (T.drop (a+1))<;>simp
theorem sL.hit {T:Bs} {i a:Nat} (h:sL T i a) (b:a<T.length) (c:T.getD a 0=59):iG 59 (T.drop i)=some ((T.drop i).take (a-i)):=by
 unfold sL at h;rw [h,XR b c];simp
theorem sL.none {T:Bs} {i a:Nat} (h:sL T i a) (b:T.length≤a):iG 59 (T.drop i)=none:=by
 unfold sL at h;rw [h,XS b];rfl
def Z7 (x:PX) (c:PC) (w0:World) (k:Nat) (b:Act) (w:World):Prop:=
 ∃ f a,b=fr 118 f [(0,jA x),(4,.int .i64 (a:Nat))]∧w0=w∧k=x.T.length-a∧a≤x.T.length∧c.at'≤a∧sL x.T c.at' a
theorem yT {l:aN} {k:Bs} {i:Nat} {p:Bs×Bs} (h:l[i]?=some p):eJ (l.drop i) k=if p.1=k then some p.2 else eJ (l.drop (i+1)) k:=by
 obtain ⟨b,rfl⟩:=FP.1 h;rw [CZ b];unfold eJ;by_cases a:l[i].1=k
 ·rw [aT a,List.find?_cons_of_pos (by simpa using a)];rfl
 ·rw [aM a,List.find?_cons_of_neg (by simpa using a)]
def Z8 (l:aN) (nm:Bs) (b:Value) (v:Value) (w0:World) (k:Nat) (a:Act) (w:World):Prop:=
 ∃ f i,a=fr 118 f [(0,b),(5,aB nm),(103,v),(104,.int .i64 (l.length:Nat)),(105,.int .i64 (i:Nat))]∧Below w0.heap.size w0 w∧k=l.length-i∧i≤l.length∧eJ l nm=eJ (l.drop i) nm
theorem XT (x:PX) (hT:x.T.length≤1000000000) (E:Nat) (b4:E≤x.p) (ents:aN) (w:World) (c:PC) (h:aV x w c) (ha:c.at'≤x.T.length) (hE:pK x E ents w) :
  Calls prog 87 #[jA x] w (eY x w c (fun s=>.returned (.tuple #[aB s,.bool true])) (.returned (.tuple #[aB [],.bool false])) (jI ents (x.T.drop c.at'))):=by
 have hc:=h.cell;have hf:=h.frozen;have ⟨H,HT,HA,HE⟩:=kY h hT ha hE;clear h hT ha hE;refine eT 118 func87 [_] fun f=>?_;simp only [aF];refine vg ?_;intro K hK;refine cM [0,4] fun f=>?_;refine wp_loop_ghost_k (Z7 x c w) (x.T.length-c.at') ⟨f,c.at',rfl,rfl,rfl,HA.o,dC _,sL.start _ _⟩ ?_;rintro k _ _ ⟨f,a,rfl,rfl,hk,d5,d2,d6⟩ J K2 hJ Q;have ⟨HJ,X,HK,c2,N,b1⟩:=iD hJ Q hk d5 d2 d6;clear hJ Q hk d5 d2 d6;have w1:IntKind.i64.wrap ((a:Int)+1)=((a+1:Nat):Int):=by rw [IntKind.wrap_i64];have:=HT.o;have:=c2.o;omega
 by_cases U:a<x.T.length
 rotate_left
 ·have f1:a=x.T.length:=by have:=c2.o;omega
  subst f1;have t1:¬ ((x.T.length:Int)<(x.T.length:Int)):=by omega
  have A:=Lh (show jI ents (x.T.drop c.at')=.error .bad by unfold jI;rw [b1.o.none (dC _)]);have HF:=Lh (lG x w c H.o 1);revert K;refine vg ?_;intro K hK K hK K hK;refine HF.o.mono ?_;rintro e3 w3 ⟨rfl,e,d⟩;have ⟨o,j⟩:=cH e d;clear e d;(repeat revert K);refine vS ?_;intro K hK;refine jV ?_;exact eY.bad A.o o.o j.o
 have t0:(0:Int)≤(a:Int):=by omega
 have t1:(a:Int)<(x.T.length:Int):=by omega
 obtain ⟨b,hb⟩:=cR (x.T.getD a 0);have ix:∀ h,(⟨x.T.toArray⟩:ByteArray)[a]'h=b:=by rw [hb];exact iP x.T a U
 by_cases L:b=59
 rotate_left
 ·have he:((b.toNat:Int) != 59)=true:=QF L;have B:=Lh (b1.o.next N.o U (by rw [←hb];exact L));clear hb L;revert K;refine vg ?_;intro K hK;refine Kk [0,4] fun f=>?_;exact X.o _ _ ⟨x.T.length-(a+1),by rw [HK.o];omega,HJ.o _ _ _ ⟨f,a+1,rfl,rfl,rfl,U,by have:=N.o;omega,B.o⟩⟩
 have B:=Lh (b1.o.hit U (by rw [←hb];exact L));have he:((b.toNat:Int) != 59)=false:=by rw [L];rfl
 have f4:((a:Int)==(x.T.length:Int))=false:=by rw [m6];omega
 have z1:(0:Int)≤(c.at':Int):=by omega
 have z2:(c.at':Int)≤(a:Int):=by have:=N.o;omega
 have z3:(a:Int)≤(x.T.length:Int):=by omega
 clear hb L X HJ;revert K;refine vg ?_;intro K hK;(refine lI [0,0,0,1,0,0,0,1,0,0,0] [0,1,2,3,4,5,6,7,8,9,10] ?_;refine vP ?_;repeat with_reducible intro nq)
 rw [kG];obtain ⟨nm,q⟩:=cR ((x.T.drop c.at').take (a-c.at'));have bA:=Lh (show nm.length=a-c.at' by rw [q,rJ,eO];omega);have O:=Lh (show nm.length≤1000000000 by rw [bA.o];have:=HT.o;omega);rw [←q] at B ⊢;clear q ix he f4 hc hf;have hc:=(show aV x (w.drewN nq) c from H.o).cell;have hf:=(show aV x (w.drewN nq) c from H.o).frozen;revert K;refine vT 8 ?_;obtain ⟨w5,aA⟩:=cR ((w.drewN nq).setCell ⟨x.p,1,none⟩ (.int .i64 ((a:Int)+1)));have u:=Lh (show aV x w5 { c with at':=a+1 } by rw [aA];exact aJ.set (w:=w.drewN nq) (cs:=fR x c) H.o 1 _);have z:=Lh (show aK (fun k=>k=x.p) w w5 by rw [aA];exact aK.setCell (S:=fun k=>k=x.p) ((aK.refl _ w).drewN _) (p:=⟨x.p,1,none⟩) (aG rfl) _);rw [←aA];clear aA hc hf;have b0:=Lh (show (x.T.drop c.at').drop (nm.length+1)=x.T.drop (a+1) by rw [List.drop_drop,bA.o];congr 1;have:=N.o;omega);have b6:=Lh (show a+1≤x.T.length from U);have b7:=Lh (show c.at'≤a+1 by have:=N.o;omega);have I:=Lh (fun (w':World) (h1:aV x w' { c with at':=a+1 }) (h2:aK (fun k=>k=x.p) w w') (v:Int)=>hZ x w w' { c with at':=a+1 } h1 h2 v);have a9:=Lh (fun w=>pG nm O.o w);cases nm with
 | nil=>
  have A:=Lh (show jI ents (x.T.drop c.at')=.error .bad by unfold jI;rw [B.o]);refine vg ?_;intro K hK K hK K hK;refine (a9.o _).mono ?_;rintro e6 W ⟨rfl,rfl⟩;rw [show bH []=1 from rfl];(repeat revert K);refine vS ?_;intro K hK K hK K hK;refine (I.o _ (by exact u.o) (by exact eM z.o rfl rfl rfl rfl) _).mono ?_;rintro e3 w3 ⟨rfl,e,d⟩;have ⟨o,j⟩:=cH e d;clear e d;(repeat revert K);refine vS ?_;intro K hK;refine jV ?_;exact eY.bad A.o o.o j.o
 | cons c0 t=>
  have c5:=Lh (show t.length≤1000000000 by have:=O.o;simp at this;omega);obtain ⟨nm,q⟩:∃ nm:Bs,nm=c0::t:=⟨_,rfl⟩;have g6:∀ h,(⟨nm.toArray⟩:ByteArray)[0]'h=c0:=by rw [q];exact fun h=>rfl
  have g3:nm.isEmpty=false:=by rw [q];rfl
  have g2:(1:Int)≤(nm.length:Int):=by rw [q];simp;omega
  have g1:(0:Int)<(nm.length:Int):=by omega
  have g4:0<nm.length:=by omega
  have e5:=Lh q;have d0:nm.drop 1=t:=by rw [q];rfl
  have b8:=Lh d0;clear d0;by_cases P:c0=35
  ·have A := Lh (show jI ents (x.T.drop c.at') = match iE t with
     | none=>.error .bad
     | some n=>if jB n then .ok (gH n.toNat,x.T.drop (a+1)) else .error .opn by
    have h9:=b0.o;rw [gF] at h9;unfold jI;rw [B.o];simp only [aT P,h9];rfl)
   have c6:=Lh (fun w=>P3 t c5.o w);rw [←q];clear q;subst P;refine vg ?_;intro K hK K hK K hK;rw [iR,b8.o];refine (c6.o _).mono ?_;rintro e6 W ⟨Z,k6,rfl⟩;cases hn:iE t with
   | none=>
    rw [hn] at Z A;have V:e6=.returned (.tuple #[.int .i64 0,.bool false]):=Z;subst V;(repeat revert K);refine vS ?_;intro K hK K hK K hK K hK;refine (I.o _ (by exact u.o) (by exact eM z.o rfl rfl rfl rfl) _).mono ?_;rintro e3 w3 ⟨rfl,e,d⟩;have ⟨o,j⟩:=cH e d;clear e d;(repeat revert K);refine vS ?_;intro K hK K hK;refine jV ?_;exact eY.bad A.o o.o j.o
   | some n=>
    rw [hn] at Z A;obtain ⟨V,f3,g5⟩:e6=.returned (.tuple #[.int .i64 n,.bool true])∧-1≤n∧n≤1114111:=Z;subst V;have c1:=Lh (fun w=>L7 n f3 w);(repeat revert K);refine vS ?_;intro K hK K hK K hK K hK;refine (c1.o _).mono ?_;rintro e7 w7 ⟨rfl,rfl⟩;go_simp;cases C:jB n with
    | false=>
     have r:=Lh (show jI ents (x.T.drop c.at')=.error .opn by rw [A.o];simp only [C];rfl);(repeat revert K);refine vg ?_;intro K hK K hK K hK K hK;refine (I.o _ (by exact u.o) (by exact eM z.o rfl rfl rfl rfl) _).mono ?_;rintro e3 w3 ⟨rfl,e,d⟩;have ⟨o,j⟩:=cH e d;clear e d;(repeat revert K);refine vS ?_;intro K hK K hK;refine jV ?_;exact eY.bad r.o o.o j.o
    | true=>
     have r:=Lh (show jI ents (x.T.drop c.at')=.ok (gH n.toNat,x.T.drop (a+1)) by rw [A.o];simp only [C];rfl);obtain ⟨m,rfl⟩:∃ m:Nat,n=m:=⟨n.toNat,by unfold jB at C;rw [FO,IN] at C;omega⟩;have b9:=Lh (fun w=>P4 m (by unfold jB at C;rw [FO] at C;exact C.2) w);(repeat revert K);refine vg ?_;intro K hK K hK K hK;refine (b9.o _).mono ?_;rintro e8 w8 ⟨rfl,y⟩;have a8:=Lh y;clear y;(repeat revert K);refine vS ?_;intro K hK;refine jV ?_;exact eY.okk r.o b6.o b7.o (aJ.mod (S:=fun _=>False) (w:=w5.drewN _) u.o a8.o id) ((show aK (fun k=>k=x.p) w (w5.drewN _) from eM z.o rfl rfl rfl rfl).trans a8.o (fun _ _ h=>h.elim))
  ·have f7:((c0.toNat:Int)==35)=false:=nM P
   have A:=Lh (show jI ents (x.T.drop c.at')=if bH (c0::t)=2 then .error .opn else if bH (c0::t)=1 then .error .bad
     else match eJ (oF++ents) (c0::t) with
      | some s=>.ok (s,x.T.drop (a+1))
      | none=>.error .bad by
    have h9:=b0.o;rw [gF] at h9;unfold jI;rw [B.o];simp only [aM P,h9];rfl)
   rw [←q] at A a9 ⊢;clear q P c5 b0 bA O B e5 b8;refine vg ?_;intro K hK K hK K hK;refine (a9.o _).mono ?_;rintro e6 W ⟨rfl,rfl⟩;go_simp;by_cases T:bH nm=2
   ·have r:=Lh (A.o.trans (aT T));rw [T];(repeat revert K);refine vg ?_;intro K hK K hK K hK;refine (I.o _ (by exact u.o) (by exact eM z.o rfl rfl rfl rfl) _).mono ?_;rintro e3 w3 ⟨rfl,e,d⟩;have ⟨o,j⟩:=cH e d;clear e d;(repeat revert K);refine vS ?_;intro K hK;refine jV ?_;exact eY.bad r.o o.o j.o
   by_cases Y:bH nm=1
   ·have r:=Lh ((A.o.trans (aM T)).trans (aT Y));rw [Y];(repeat revert K);refine vg ?_;intro K hK K hK K hK;refine (I.o _ (by exact u.o) (by exact eM z.o rfl rfl rfl rfl) _).mono ?_;rintro e3 w3 ⟨rfl,e,d⟩;have ⟨o,j⟩:=cH e d;clear e d;(repeat revert K);refine vS ?_;intro K hK;refine jV ?_;exact eY.bad r.o o.o j.o
   have e2:((bH nm:Int)==2)=false:=by rw [m6];omega
   have e1:((bH nm:Int)==1)=false:=by rw [m6];omega
   have r:=Lh ((A.o.trans (aM T)).trans (aM Y));clear Y T A;have b3:=aJ.alloc (w:=W) (b:=x.p) u.o (.cells #[.string ⟨#[108,116]⟩,.string ⟨#[60]⟩,.string ⟨#[103,116]⟩,.string ⟨#[62]⟩,.string ⟨#[97,109,112]⟩,.string ⟨#[38]⟩,.string ⟨#[97,112,111,115]⟩,.string ⟨#[39]⟩,.string ⟨#[113,117,111,116]⟩,.string ⟨#[34]⟩] 177);have hc:=b3.cell;have hf:=b3.frozen;have d1:aJ (W.alloc (.cells #[.string ⟨#[108,116]⟩,.string ⟨#[60]⟩,.string ⟨#[103,116]⟩,.string ⟨#[62]⟩,.string ⟨#[97,109,112]⟩,.string ⟨#[38]⟩,.string ⟨#[97,112,111,115]⟩,.string ⟨#[39]⟩,.string ⟨#[113,117,111,116]⟩,.string ⟨#[34]⟩] 177)) W.heap.size (cO oF).toArray 177:=aJ.new W _ _;have c9:Below E w W:=aK.below (Below.refl _ w) (gA b4 (Nat.le_of_lt (aJ.lt H.o))) z.o (fun i hi=>by rw [hi];exact b4);have c7:=HE.o.below (c9.trans ((Below.refl _ W).alloc (gA b4 (Nat.le_of_lt (aJ.lt u.o))) (.cells #[.string ⟨#[108,116]⟩,.string ⟨#[60]⟩,.string ⟨#[103,116]⟩,.string ⟨#[62]⟩,.string ⟨#[97,109,112]⟩,.string ⟨#[38]⟩,.string ⟨#[97,112,111,115]⟩,.string ⟨#[39]⟩,.string ⟨#[113,117,111,116]⟩,.string ⟨#[34]⟩] 177)));obtain ⟨v',w8,a5,F,y⟩:=T4 x E ents (W.alloc (.cells #[.string ⟨#[108,116]⟩,.string ⟨#[60]⟩,.string ⟨#[103,116]⟩,.string ⟨#[62]⟩,.string ⟨#[97,109,112]⟩,.string ⟨#[38]⟩,.string ⟨#[97,112,111,115]⟩,.string ⟨#[39]⟩,.string ⟨#[113,117,111,116]⟩,.string ⟨#[34]⟩] 177)) c7 W.heap.size d1;have a2:aK (fun _=>False) W w8:=⟨y.os,y.tape,y.output,by have:=y.size;simp at this;omega,fun k hk _=>(y.block k (by simp;omega) (by omega)).trans (nQ _ _ _ hk)⟩;obtain ⟨l,hl⟩:=cR (oF++ents);have d9:=Lh (show l.length≤3000000000 by rw [hl,fU];have:=HE.o.1;have:oF.length=5:=rfl;omega);have d8:=Lh (show 0<l.length by rw [hl,fU];have:oF.length=5:=rfl;omega);rw [←hl] at F r;obtain ⟨g,f0,rfl,_,d3,_,_,R⟩:=gY F d8.o;have ⟨M,cT,D,f6,a8⟩:=pI R d3 a2 F y;clear b3 d1 F y a2 hl R d3 c9 c7;(repeat revert K);refine vB ?_;intro K hK K hK;refine fI rfl (.tmp 98) (.tmp 102) _ _ rfl _ _ _ (by rw [cB (by decide)];(try simp only [aL,aP,aR,aZ,Nat.reduceEqDiff,↓reduceIte]);(try rfl)) (by rw [cB (by decide)];(try simp only [aL,aP,aR,aZ,Nat.reduceEqDiff,↓reduceIte]);(try rfl)) a5 ?_;clear a5;rw [fO (by decide)];(repeat revert K);refine vg ?_;intro K hK;refine cM [0,5,103,104,105] fun f=>?_;refine wp_loop_ghost_k (Z8 l nm (jA x) (.slice (some ⟨g,0,none⟩) l.length f0) w8) l.length ⟨f,0,rfl,Below.refl _ w8,rfl,kW _,by simp⟩ ?_;rintro k9 _ w9 ⟨f,i,rfl,c8,d4,g0,a0⟩ J K2 hJ Q;have ⟨HJ,X,G,d7,c3⟩:=pI hJ Q c8 d4 a0;clear hJ Q c8 d4 a0 hc hf;by_cases a1:i<l.length
   ·have t0:(0:Int)≤(i:Int):=by omega
    have t1:(i:Int)<(l.length:Int):=by omega
    have wi:IntKind.i64.wrap ((i:Int)+1)=((i+1:Nat):Int):=by rw [IntKind.wrap_i64];have h2:=d9.o;omega
    obtain ⟨p,hp⟩:∃ p,l[i]?=some p:=⟨l[i],by simp [a1]⟩;obtain ⟨q1,q2⟩:=qT l i p hp;have dI:w9.cell? ⟨g,i*2,none⟩=some (aB p.1):=(G.o.cell (p:=⟨g,i*2,none⟩) cT.o).trans (M.o _ _ q1);have dT:w9.cell? ⟨g,i*2+1,none⟩=some (aB p.2):=(G.o.cell (p:=⟨g,i*2+1,none⟩) cT.o).trans (M.o _ _ q2);have c4:=Lh (c3.o.trans (yT hp));obtain ⟨wa,aC⟩:=cR (w9.alloc (.cells #[aB p.1,aB p.2] 177));have b2:aJ wa w9.heap.size #[aB p.1,aB p.2] 177:=by rw [aC];exact aJ.new w9 _ _
    have a6:=Lh (show Below w8.heap.size w8 wa by rw [aC];exact G.o.alloc G.o.size _);have f9:=b2.cell;have gB:=b2.frozen;clear q1 q2 hp b2;revert K;refine vT 23 ?_;intro K hK K hK;rw [←aC];clear aC dI dT;cases b5:(p.1==nm) with
    | true=>
     have a7:=Lh (show eJ l nm=some p.2 by rw [c4.o,aT (beq_iff_eq.1 b5)]);have bC:=Lh (show jI ents (x.T.drop c.at')=.ok (p.2,x.T.drop (a+1)) by rw [r.o,a7.o]);(repeat revert K);refine vg ?_;intro K hK K hK;refine jV ?_;exact eY.okk bC.o b6.o b7.o ((aJ.mod (S:=fun _=>False) u.o D.o id).mod (aH a6.o (fun _=>False)) id) ((z.o.trans D.o (fun _ _ h=>h.elim)).trans (aH a6.o (fun _=>False)) (fun _ _ h=>h.elim))
    | false=>
     have e0:=Lh (show eJ l nm=eJ (l.drop (i+1)) nm by rw [c4.o,aM (fun h=>by rw [beq_iff_eq.2 h] at b5;cases b5)]);(repeat revert K);refine vg ?_;intro K hK;refine Kk [0,5,103,104,105] fun f=>?_;exact X.o _ _ ⟨l.length-(i+1),by rw [d7.o];omega,HJ.o _ _ _ ⟨f,i+1,rfl,a6.o,rfl,a1,e0.o⟩⟩
   ·have f2:i=l.length:=by omega
    subst f2;have t1:¬ ((l.length:Int)<(l.length:Int)):=by omega
    have a7:=Lh (show eJ l nm=none by rw [c3.o,List.drop_length];rfl);have bC:=Lh (show jI ents (x.T.drop c.at')=.error .bad by rw [r.o,a7.o]);have a3:=(z.o.trans D.o (fun _ _ h=>h.elim)).trans (aH G.o (fun _=>False)) (fun _ _ h=>h.elim);have a4:=(aJ.mod (S:=fun _=>False) u.o D.o id).mod (aH G.o (fun _=>False)) id;have ⟨e4,e9⟩:=cH a3 a4;clear a3 a4;revert K;refine vg ?_;intro K hK K hK;refine (I.o _ (by exact e9.o) (by exact e4.o) _).mono ?_;rintro e3 w3 ⟨rfl,e,d⟩;have ⟨o,j⟩:=cH e d;clear e d;(repeat revert K);refine vS ?_;refine jV ?_;exact eY.bad bC.o o.o j.o
end Go.Proofs.YthapcchcahnfaaaGreatDoor
