/- Part of the proof that laws.FnSkip returns true for every argument. No conditions. -/
import Derived.Test.YthapcchcahnfaaaGreatDoorS39
import Derived.Test.YthapcchcahnfaaaGreatDoorS34
import Derived.Test.YthapcchcahnfaaaGreatDoorS35
import Derived.Laws.OwnMore
set_option linter.all false
set_option maxHeartbeats 8000000
set_option maxRecDepth 100000
namespace Go.Proofs.YthapcchcahnfaaaGreatDoor
open Go Go.RowKit Go.Proofs.Tryz
theorem PN {b k:UInt8} (h:b≠k):((b.toNat:Int) != (k.toNat:Int))=true:=by
 rw [bne,nK h];rfl
theorem GY (w:World):Calls prog 59 #[.int .i64 (-1)] w fun e w'=>e=.returned (.bool false)∧w'=w:=by
 refine eL 37 func59 [_] fun f=>?_;simp only [aF];refine vg ?_;refine cM ?_;exact ⟨rfl,rfl⟩
theorem LV (n:Int) (h:-1≤n) (w:World):Calls prog 59 #[.int .i64 n] w fun e w'=>e=.returned (.bool (iV n))∧w'=w:=by
 by_cases a:0≤n
 ·obtain ⟨m,rfl⟩:∃ m:Nat,n=m:=⟨n.toNat,by omega⟩;refine (tD m w).mono ?_;rintro e w' ⟨rfl,rfl⟩;exact ⟨by unfold iV;simp,rfl⟩
 ·have:n=-1:=by omega
  subst this;refine (GY w).mono ?_;rintro e w' ⟨rfl,rfl⟩;exact ⟨rfl,rfl⟩
def pF (x:PX) (a:Nat) (ents:aM) (w:World):Prop:=
 ents.length≤2147483647∧((ents=[]∧x.ents=.slice none 0 0)∨∃ b o C,x.ents=.slice (some ⟨b,o,none⟩) ents.length C∧b<a∧b<w.heap.size∧∀ j u,(cJ ents)[j]?=some u→w.cell? ⟨b,o+j,none⟩=some u)
theorem pF.below {x:PX} {a:Nat} {ents:aM} {w w':World} (h:pF x a ents w) (f:Below a w w'):pF x a ents w':=by
 obtain ⟨d,c|⟨b,o,C,c,e,g,i⟩⟩:=h
 ·exact ⟨d,aG c⟩
 ·exact ⟨d,aU ⟨b,o,C,c,e,pL g f.size,fun j u k=>(f.cell (p:=⟨b,o+j,none⟩) e).trans (i j u k)⟩⟩
theorem PO:(prog.info? 177).map (fun i=>(i.zero,i.size,i.bytes))=some (some (.agg #[.string ⟨#[]⟩,.string ⟨#[]⟩]),2,32):=by kernel_rfl
theorem vM (a b:aM):cJ (a++b)=cJ a++cJ b:=by simp [cJ]
theorem EJ (a:aM):(cJ a).length=a.length*2:=by
 induction a with
 | nil=>rfl
 | cons p l ih=>rw [cJ,List.flatMap_cons,fP];rw [cJ] at ih;rw [ih];simp;omega
theorem qP:∀ (l:aM) (i:Nat) (p:Bs×Bs),l[i]?=some p→(cJ l)[i*2]?=some (aB p.1)∧(cJ l)[i*2+1]?=some (aB p.2)
 | [],i,p,h=>by simp at h
 | q::l,0,p,h=>by
  simp at h;subst h;exact ⟨rfl,rfl⟩
 | q::l,i+1,p,h=>by
  have:=qP l i p (by simpa using h);have e:cJ (q::l)=[aB q.1,aB q.2]++cJ l:=rfl;rw [e];constructor
  ·rw [CQ (by simp;omega)];simpa [Nat.add_mul] using this.1
  ·rw [CQ (by simp;omega)];have a:(i+1)*2+1-[aB q.1,aB q.2].length=i*2+1:=by simp;omega
   rw [a];exact this.2
theorem TN (x:PX) (d:Nat) (ents:aM) (W:World) (r:pF x d ents W) (g:Nat) (c:aL W g (cJ oF).toArray 177) :
  ∃ v' e,(Builtin.append_ #[47,47] 47 #[.slice (some ⟨g,0,none⟩) 5 5,x.ents]).run prog W=.ok v' e∧e.ownsRow 0 177 2 v' (oF++ents).length (cJ (oF++ents))∧aJ (fun k=>k=g) W e:=by
 obtain ⟨i,l,A,n,q⟩:=info_parts PO;have a:W.ownsRow 0 177 2 (.slice (some ⟨g,0,none⟩) 5 5) 5 (cJ oF):=⟨rfl,aU ⟨g,5,(cJ oF).toArray,rfl,jU _,c,dF _,by decide,rfl,rfl⟩⟩;obtain ⟨m,h|⟨b,o,C,h,_,_,s⟩⟩:=r
 ·obtain ⟨rfl,h⟩:=h;rw [h];refine ⟨_,_,run_append_owned_none W 0 _ _ _ i 2 underlying47 l _ 5 (cJ oF) a,?_,aJ.refl _ _⟩;rw [List.append_nil];exact a
 ·rw [h]
  obtain ⟨v',e,z,y,c,_,_⟩:=run_append_own_at (P:=prog) W 0 47 47 177 i _ 2 32 underlying47 l A n q rfl (by omega) _ 5 (cJ oF) a ⟨b,o,none⟩ ents.length C (cJ ents) (EJ ents)
   (fun j u v=>by rw [show ((⟨b,o,none⟩:Addr).add j)=⟨b,o+j,none⟩ by cases j<;>simp [Addr.add]];exact s j u v)
   (fun u f=>by
    obtain ⟨p,_,f⟩:=List.mem_flatMap.1 f;simp only [mF,y5,or_false] at f;rcases f with rfl|rfl<;>rfl) (by unfold maxLen;omega) (by omega) (jU _)
  refine ⟨v',e,z,?_,⟨c.os,c.tape,c.output,c.size,fun k w m=>c.block k w (fun t=>m (by simpa [Value.ownBlock] using t))⟩⟩;rw [vM,fP];exact y
theorem W2 {T:Bs} {a:Nat} (b:a<T.length) (h:T.getD a 0=59):hZ 59 (T.drop a)=some []:=by
 rw [bV T a b];unfold hZ;rw [aY h]
theorem TO {T:Bs} {a:Nat} (b:a<T.length) (h:¬ T.getD a 0=59):hZ 59 (T.drop a)=(hZ 59 (T.drop (a+1))).map (T.getD a 0::·):=by
 rw [bV T a b];conv=>lhs;unfold hZ
 rw [aQ h]
theorem W3 {T:Bs} {a:Nat} (b:T.length≤a):hZ 59 (T.drop a)=none:=by rw [tW b];rfl
def sG (T:Bs) (i a:Nat):Prop:=hZ 59 (T.drop i)=(hZ 59 (T.drop a)).map ((T.drop i).take (a-i)++·)
theorem sG.start (T:Bs) (i:Nat):sG T i i:=by
 unfold sG;cases hZ 59 (T.drop i)<;>simp
theorem sG.next {T:Bs} {i a:Nat} (h:sG T i a) (b:i≤a) (c:a<T.length) (d:¬ T.getD a 0=59):sG T i (a+1):=by
 unfold sG at h ⊢;rw [h,TO c d,uN T i a b c];cases hZ 59 (T.drop (a+1))<;>simp
theorem sG.hit {T:Bs} {i a:Nat} (h:sG T i a) (b:a<T.length) (c:T.getD a 0=59):hZ 59 (T.drop i)=some ((T.drop i).take (a-i)):=by
 unfold sG at h;rw [h,W2 b c];simp
theorem sG.none {T:Bs} {i a:Nat} (h:sG T i a) (b:T.length≤a):hZ 59 (T.drop i)=none:=by
 unfold sG at h;rw [h,W3 b];rfl
def ZQ (x:PX) (c:PC) (w0:World) (k:Nat) (b:Act) (w:World):Prop:=
 ∃ f a,b=fr 118 f [(0,iU x),(4,.int .i64 (a:Nat))]∧w0=w∧k=x.T.length-a∧a≤x.T.length∧c.at'≤a∧sG x.T c.at' a
theorem yB {l:aM} {k:Bs} {i:Nat} {p:Bs×Bs} (h:l[i]?=some p):eA (l.drop i) k=if p.1=k then some p.2 else eA (l.drop (i+1)) k:=by
 obtain ⟨b,rfl⟩:=A9.1 h;rw [CN b];unfold eA;by_cases a:l[i].1=k
 ·rw [aY a,List.find?_cons_of_pos (by simpa using a)];rfl
 ·rw [aQ a,List.find?_cons_of_neg (by simpa using a)]
def ZR (l:aM) (nm:Bs) (b:Value) (v:Value) (w0:World) (k:Nat) (a:Act) (w:World):Prop:=
 ∃ f i,a=fr 118 f [(0,b),(5,aB nm),(103,v),(104,.int .i64 (l.length:Nat)),(105,.int .i64 (i:Nat))]∧Below w0.heap.size w0 w∧k=l.length-i∧i≤l.length∧eA l nm=eA (l.drop i) nm
theorem W4 (x:PX) (hT:x.T.length≤1000000000) (E:Nat) (b4:E≤x.p) (ents:aM) (w:World) (c:PC) (h:aV x w c) (ha:c.at'≤x.T.length) (hE:pF x E ents w) :
  Calls prog 87 #[iU x] w (eR x w c (fun s=>.returned (.tuple #[aB s,.bool true])) (.returned (.tuple #[aB [],.bool false])) (jE ents (x.T.drop c.at'))):=by
 have hc:=h.cell;have hf:=h.frozen;have ⟨H,HT,HA,HE⟩:=kS h hT ha hE;clear h hT ha hE;refine eL 118 func87 [_] fun f=>?_;simp only [aF];refine vg ?_;intro K hK;refine cG [0,4] fun f=>?_;refine wp_loop_ghost_k (ZQ x c w) (x.T.length-c.at') ⟨f,c.at',rfl,rfl,rfl,HA.o,dF _,sG.start _ _⟩ ?_;rintro k _ _ ⟨f,a,rfl,rfl,hk,d6,d3,d7⟩ J K2 hJ Q;have ⟨HJ,X,HK,c3,N,b1⟩:=gT hJ Q hk d6 d3 d7;clear hJ Q hk d6 d3 d7;have w1:IntKind.i64.wrap ((a:Int)+1)=((a+1:Nat):Int):=by rw [IntKind.wrap_i64];have:=HT.o;have:=c3.o;omega
 by_cases U:a<x.T.length
 rotate_left
 ·have f3:a=x.T.length:=by have:=c3.o;omega
  subst f3;have t1:¬ ((x.T.length:Int)<(x.T.length:Int)):=by omega
  have A:=Lh (show jE ents (x.T.drop c.at')=.error .bad by unfold jE;rw [b1.o.none (dF _)]);have HF:=Lh (lF x w c H.o 1);revert K;refine vg ?_;intro K hK K hK K hK;refine HF.o.mono ?_;rintro e3 w3 ⟨rfl,e,d⟩;have ⟨o,j⟩:=cB e d;clear e d;(repeat revert K);refine vS ?_;intro K hK;refine kW ?_;exact eR.bad A.o o.o j.o
 have t0:(0:Int)≤(a:Int):=by omega
 have t1:(a:Int)<(x.T.length:Int):=by omega
 obtain ⟨b,hb⟩:=cK (x.T.getD a 0);have ix:∀ h,(⟨x.T.toArray⟩:ByteArray)[a]'h=b:=by rw [hb];exact iL x.T a U
 by_cases L:b=59
 rotate_left
 ·have he:((b.toNat:Int) != 59)=true:=PN L;have B:=Lh (b1.o.next N.o U (by rw [←hb];exact L));clear hb L;revert K;refine vg ?_;intro K hK;refine Kk [0,4] fun f=>?_;exact X.o _ _ ⟨x.T.length-(a+1),by rw [HK.o];omega,HJ.o _ _ _ ⟨f,a+1,rfl,rfl,rfl,U,by have:=N.o;omega,B.o⟩⟩
 have B:=Lh (b1.o.hit U (by rw [←hb];exact L));have he:((b.toNat:Int) != 59)=false:=by rw [L];rfl
 have f7:((a:Int)==(x.T.length:Int))=false:=by rw [lQ];omega
 have z1:(0:Int)≤(c.at':Int):=by omega
 have z2:(c.at':Int)≤(a:Int):=by have:=N.o;omega
 have z3:(a:Int)≤(x.T.length:Int):=by omega
 clear hb L X HJ;revert K;refine vg ?_;intro K hK;(refine lD [0,0,0,1,0,0,0,1,0,0,0] [0,1,2,3,4,5,6,7,8,9,10] ?_;refine vP ?_;repeat with_reducible intro nq)
 rw [kP];obtain ⟨nm,q⟩:=cK ((x.T.drop c.at').take (a-c.at'));have bA:=Lh (show nm.length=a-c.at' by rw [q,pI,eC];omega);have O:=Lh (show nm.length≤1000000000 by rw [bA.o];have:=HT.o;omega);rw [←q] at B ⊢;clear q ix he f7 hc hf;have hc:=(show aV x (w.drewN nq) c from H.o).cell;have hf:=(show aV x (w.drewN nq) c from H.o).frozen;revert K;refine vT 8 ?_;obtain ⟨w5,aA⟩:=cK ((w.drewN nq).setCell ⟨x.p,1,none⟩ (.int .i64 ((a:Int)+1)));have u:=Lh (show aV x w5 { c with at':=a+1 } by rw [aA];exact aL.set (w:=w.drewN nq) (cs:=fN x c) H.o 1 _);have z:=Lh (show aJ (fun k=>k=x.p) w w5 by rw [aA];exact aJ.setCell (S:=fun k=>k=x.p) ((aJ.refl _ w).drewN _) (p:=⟨x.p,1,none⟩) (aG rfl) _);rw [←aA];clear aA hc hf;have b0:=Lh (show (x.T.drop c.at').drop (nm.length+1)=x.T.drop (a+1) by rw [List.drop_drop,bA.o];congr 1;have:=N.o;omega);have b6:=Lh (show a+1≤x.T.length from U);have b7:=Lh (show c.at'≤a+1 by have:=N.o;omega);have I:=Lh (fun (w':World) (h1:aV x w' { c with at':=a+1 }) (h2:aJ (fun k=>k=x.p) w w') (v:Int)=>gW x w w' { c with at':=a+1 } h1 h2 v);have a9:=Lh (fun w=>pB nm O.o w);cases nm with
 | nil=>
  have A:=Lh (show jE ents (x.T.drop c.at')=.error .bad by unfold jE;rw [B.o]);refine vg ?_;intro K hK K hK K hK;refine (a9.o _).mono ?_;rintro e6 W ⟨rfl,rfl⟩;rw [show bH []=1 from rfl];(repeat revert K);refine vS ?_;intro K hK K hK K hK;refine (I.o _ (by exact u.o) (by exact eE z.o rfl rfl rfl rfl) _).mono ?_;rintro e3 w3 ⟨rfl,e,d⟩;have ⟨o,j⟩:=cB e d;clear e d;(repeat revert K);refine vS ?_;intro K hK;refine kW ?_;exact eR.bad A.o o.o j.o
 | cons c0 t=>
  have c6:=Lh (show t.length≤1000000000 by have:=O.o;simp at this;omega);obtain ⟨nm,q⟩:∃ nm:Bs,nm=c0::t:=⟨_,rfl⟩;have g9:∀ h,(⟨nm.toArray⟩:ByteArray)[0]'h=c0:=by rw [q];exact fun h=>rfl
  have g7:nm.isEmpty=false:=by rw [q];rfl
  have g2:(1:Int)≤(nm.length:Int):=by rw [q];simp;omega
  have g1:(0:Int)<(nm.length:Int):=by omega
  have g4:0<nm.length:=by omega
  have e9:=Lh q;have d1:nm.drop 1=t:=by rw [q];rfl
  have b9:=Lh d1;clear d1;by_cases P:c0=35
  ·have A := Lh (show jE ents (x.T.drop c.at') = match hH t with
     | none=>.error .bad
     | some n=>if iV n then .ok (gD n.toNat,x.T.drop (a+1)) else .error .opn by
    have h9:=b0.o;rw [f5] at h9;unfold jE;rw [B.o];simp only [aY P,h9];rfl)
   have c7:=Lh (fun w=>PM t c6.o w);rw [←q];clear q;subst P;refine vg ?_;intro K hK K hK K hK;rw [iM,b9.o];refine (c7.o _).mono ?_;rintro e6 W ⟨Z,k6,rfl⟩;cases hn:hH t with
   | none=>
    rw [hn] at Z A;have V:e6=.returned (.tuple #[.int .i64 0,.bool false]):=Z;subst V;(repeat revert K);refine vS ?_;intro K hK K hK K hK K hK;refine (I.o _ (by exact u.o) (by exact eE z.o rfl rfl rfl rfl) _).mono ?_;rintro e3 w3 ⟨rfl,e,d⟩;have ⟨o,j⟩:=cB e d;clear e d;(repeat revert K);refine vS ?_;intro K hK K hK;refine kW ?_;exact eR.bad A.o o.o j.o
   | some n=>
    rw [hn] at Z A;obtain ⟨V,f6,g8⟩:e6=.returned (.tuple #[.int .i64 n,.bool true])∧-1≤n∧n≤1114111:=Z;subst V;have c2:=Lh (fun w=>LV n f6 w);(repeat revert K);refine vS ?_;intro K hK K hK K hK K hK;refine (c2.o _).mono ?_;rintro e7 w7 ⟨rfl,rfl⟩;go_simp;cases C:iV n with
    | false=>
     have r:=Lh (show jE ents (x.T.drop c.at')=.error .opn by rw [A.o];simp only [C];rfl);(repeat revert K);refine vg ?_;intro K hK K hK K hK K hK;refine (I.o _ (by exact u.o) (by exact eE z.o rfl rfl rfl rfl) _).mono ?_;rintro e3 w3 ⟨rfl,e,d⟩;have ⟨o,j⟩:=cB e d;clear e d;(repeat revert K);refine vS ?_;intro K hK K hK;refine kW ?_;exact eR.bad r.o o.o j.o
    | true=>
     have r:=Lh (show jE ents (x.T.drop c.at')=.ok (gD n.toNat,x.T.drop (a+1)) by rw [A.o];simp only [C];rfl);obtain ⟨m,rfl⟩:∃ m:Nat,n=m:=⟨n.toNat,by unfold iV at C;rw [FI,IC] at C;omega⟩;have cT:=Lh (fun w=>PB m (by unfold iV at C;rw [FI] at C;exact C.2) w);(repeat revert K);refine vg ?_;intro K hK K hK K hK;refine (cT.o _).mono ?_;rintro e8 w8 ⟨rfl,y⟩;have a8:=Lh y;clear y;(repeat revert K);refine vS ?_;intro K hK;refine kW ?_;exact eR.okk r.o b6.o b7.o (aL.mod (S:=fun _=>False) (w:=w5.drewN _) u.o a8.o id) ((show aJ (fun k=>k=x.p) w (w5.drewN _) from eE z.o rfl rfl rfl rfl).trans a8.o (fun _ _ h=>h.elim))
  ·have g0:((c0.toNat:Int)==35)=false:=nK P
   have A:=Lh (show jE ents (x.T.drop c.at')=if bH (c0::t)=2 then .error .opn else if bH (c0::t)=1 then .error .bad
     else match eA (oF++ents) (c0::t) with
      | some s=>.ok (s,x.T.drop (a+1))
      | none=>.error .bad by
    have h9:=b0.o;rw [f5] at h9;unfold jE;rw [B.o];simp only [aQ P,h9];rfl)
   rw [←q] at A a9 ⊢;clear q P c6 b0 bA O B e9 b9;refine vg ?_;intro K hK K hK K hK;refine (a9.o _).mono ?_;rintro e6 W ⟨rfl,rfl⟩;go_simp;by_cases T:bH nm=2
   ·have r:=Lh (A.o.trans (aY T));rw [T];(repeat revert K);refine vg ?_;intro K hK K hK K hK;refine (I.o _ (by exact u.o) (by exact eE z.o rfl rfl rfl rfl) _).mono ?_;rintro e3 w3 ⟨rfl,e,d⟩;have ⟨o,j⟩:=cB e d;clear e d;(repeat revert K);refine vS ?_;intro K hK;refine kW ?_;exact eR.bad r.o o.o j.o
   by_cases Y:bH nm=1
   ·have r:=Lh ((A.o.trans (aQ T)).trans (aY Y));rw [Y];(repeat revert K);refine vg ?_;intro K hK K hK K hK;refine (I.o _ (by exact u.o) (by exact eE z.o rfl rfl rfl rfl) _).mono ?_;rintro e3 w3 ⟨rfl,e,d⟩;have ⟨o,j⟩:=cB e d;clear e d;(repeat revert K);refine vS ?_;intro K hK;refine kW ?_;exact eR.bad r.o o.o j.o
   have e2:((bH nm:Int)==2)=false:=by rw [lQ];omega
   have e1:((bH nm:Int)==1)=false:=by rw [lQ];omega
   have r:=Lh ((A.o.trans (aQ T)).trans (aQ Y));clear Y T A;have b3:=aL.alloc (w:=W) (b:=x.p) u.o (.cells #[.string ⟨#[108,116]⟩,.string ⟨#[60]⟩,.string ⟨#[103,116]⟩,.string ⟨#[62]⟩,.string ⟨#[97,109,112]⟩,.string ⟨#[38]⟩,.string ⟨#[97,112,111,115]⟩,.string ⟨#[39]⟩,.string ⟨#[113,117,111,116]⟩,.string ⟨#[34]⟩] 177);have hc:=b3.cell;have hf:=b3.frozen;have d2:aL (W.alloc (.cells #[.string ⟨#[108,116]⟩,.string ⟨#[60]⟩,.string ⟨#[103,116]⟩,.string ⟨#[62]⟩,.string ⟨#[97,109,112]⟩,.string ⟨#[38]⟩,.string ⟨#[97,112,111,115]⟩,.string ⟨#[39]⟩,.string ⟨#[113,117,111,116]⟩,.string ⟨#[34]⟩] 177)) W.heap.size (cJ oF).toArray 177:=aL.new W _ _;have dI:Below E w W:=aJ.below (Below.refl _ w) (fQ b4 (Nat.le_of_lt (aL.lt H.o))) z.o (fun i hi=>by rw [hi];exact b4);have c8:=HE.o.below (dI.trans ((Below.refl _ W).alloc (fQ b4 (Nat.le_of_lt (aL.lt u.o))) (.cells #[.string ⟨#[108,116]⟩,.string ⟨#[60]⟩,.string ⟨#[103,116]⟩,.string ⟨#[62]⟩,.string ⟨#[97,109,112]⟩,.string ⟨#[38]⟩,.string ⟨#[97,112,111,115]⟩,.string ⟨#[39]⟩,.string ⟨#[113,117,111,116]⟩,.string ⟨#[34]⟩] 177)));obtain ⟨v',w8,a5,F,y⟩:=TN x E ents (W.alloc (.cells #[.string ⟨#[108,116]⟩,.string ⟨#[60]⟩,.string ⟨#[103,116]⟩,.string ⟨#[62]⟩,.string ⟨#[97,109,112]⟩,.string ⟨#[38]⟩,.string ⟨#[97,112,111,115]⟩,.string ⟨#[39]⟩,.string ⟨#[113,117,111,116]⟩,.string ⟨#[34]⟩] 177)) c8 W.heap.size d2;have a2:aJ (fun _=>False) W w8:=⟨y.os,y.tape,y.output,by have:=y.size;simp at this;omega,fun k hk _=>(y.block k (by simp;omega) (by omega)).trans (nP _ _ _ hk)⟩;obtain ⟨l,hl⟩:=cK (oF++ents);have e0:=Lh (show l.length≤3000000000 by rw [hl,fP];have:=HE.o.1;have:oF.length=5:=rfl;omega);have d9:=Lh (show 0<l.length by rw [hl,fP];have:oF.length=5:=rfl;omega);rw [←hl] at F r;obtain ⟨g,f2,rfl,_,d4,_,_,R⟩:=gL F d9.o;have ⟨M,c1,D,gB,a8⟩:=pM R d4 a2 F y;clear b3 d2 F y a2 hl R d4 dI c8;(repeat revert K);refine vB ?_;intro K hK K hK;refine eP rfl (.tmp 98) (.tmp 102) _ _ rfl _ _ _ (by rw [bU (by decide)];(try simp only [aK,aO,aR,aW,Nat.reduceEqDiff,↓reduceIte]);(try rfl)) (by rw [bU (by decide)];(try simp only [aK,aO,aR,aW,Nat.reduceEqDiff,↓reduceIte]);(try rfl)) a5 ?_;clear a5;rw [fG (by decide)];(repeat revert K);refine vg ?_;intro K hK;refine cG [0,5,103,104,105] fun f=>?_;refine wp_loop_ghost_k (ZR l nm (iU x) (.slice (some ⟨g,0,none⟩) l.length f2) w8) l.length ⟨f,0,rfl,Below.refl _ w8,rfl,jU _,by simp⟩ ?_;rintro k9 _ w9 ⟨f,i,rfl,c9,d5,g6,a0⟩ J K2 hJ Q;have ⟨HJ,X,G,d8,c4⟩:=pM hJ Q c9 d5 a0;clear hJ Q c9 d5 a0 hc hf;by_cases a1:i<l.length
   ·have t0:(0:Int)≤(i:Int):=by omega
    have t1:(i:Int)<(l.length:Int):=by omega
    have wi:IntKind.i64.wrap ((i:Int)+1)=((i+1:Nat):Int):=by rw [IntKind.wrap_i64];have h2:=e0.o;omega
    obtain ⟨p,hp⟩:∃ p,l[i]?=some p:=⟨l[i],by simp [a1]⟩;obtain ⟨q1,q2⟩:=qP l i p hp;have dT:w9.cell? ⟨g,i*2,none⟩=some (aB p.1):=(G.o.cell (p:=⟨g,i*2,none⟩) c1.o).trans (M.o _ _ q1);have d0:w9.cell? ⟨g,i*2+1,none⟩=some (aB p.2):=(G.o.cell (p:=⟨g,i*2+1,none⟩) c1.o).trans (M.o _ _ q2);have c5:=Lh (c4.o.trans (yB hp));obtain ⟨wa,aC⟩:=cK (w9.alloc (.cells #[aB p.1,aB p.2] 177));have b2:aL wa w9.heap.size #[aB p.1,aB p.2] 177:=by rw [aC];exact aL.new w9 _ _
    have a6:=Lh (show Below w8.heap.size w8 wa by rw [aC];exact G.o.alloc G.o.size _);have g3:=b2.cell;have g5:=b2.frozen;clear q1 q2 hp b2;revert K;refine vT 23 ?_;intro K hK K hK;rw [←aC];clear aC dT d0;cases b5:(p.1==nm) with
    | true=>
     have a7:=Lh (show eA l nm=some p.2 by rw [c5.o,aY (beq_iff_eq.1 b5)]);have bC:=Lh (show jE ents (x.T.drop c.at')=.ok (p.2,x.T.drop (a+1)) by rw [r.o,a7.o]);(repeat revert K);refine vg ?_;intro K hK K hK;refine kW ?_;exact eR.okk bC.o b6.o b7.o ((aL.mod (S:=fun _=>False) u.o D.o id).mod (aH a6.o (fun _=>False)) id) ((z.o.trans D.o (fun _ _ h=>h.elim)).trans (aH a6.o (fun _=>False)) (fun _ _ h=>h.elim))
    | false=>
     have e4:=Lh (show eA l nm=eA (l.drop (i+1)) nm by rw [c5.o,aQ (fun h=>by rw [beq_iff_eq.2 h] at b5;cases b5)]);(repeat revert K);refine vg ?_;intro K hK;refine Kk [0,5,103,104,105] fun f=>?_;exact X.o _ _ ⟨l.length-(i+1),by rw [d8.o];omega,HJ.o _ _ _ ⟨f,i+1,rfl,a6.o,rfl,a1,e4.o⟩⟩
   ·have f4:i=l.length:=by omega
    subst f4;have t1:¬ ((l.length:Int)<(l.length:Int)):=by omega
    have a7:=Lh (show eA l nm=none by rw [c4.o,List.drop_length];rfl);have bC:=Lh (show jE ents (x.T.drop c.at')=.error .bad by rw [r.o,a7.o]);have a3:=(z.o.trans D.o (fun _ _ h=>h.elim)).trans (aH G.o (fun _=>False)) (fun _ _ h=>h.elim);have a4:=(aL.mod (S:=fun _=>False) u.o D.o id).mod (aH G.o (fun _=>False)) id;have ⟨e5,f1⟩:=cB a3 a4;clear a3 a4;revert K;refine vg ?_;intro K hK K hK;refine (I.o _ (by exact f1.o) (by exact e5.o) _).mono ?_;rintro e3 w3 ⟨rfl,e,d⟩;have ⟨o,j⟩:=cB e d;clear e d;(repeat revert K);refine vS ?_;refine kW ?_;exact eR.bad bC.o o.o j.o
end Go.Proofs.YthapcchcahnfaaaGreatDoor
