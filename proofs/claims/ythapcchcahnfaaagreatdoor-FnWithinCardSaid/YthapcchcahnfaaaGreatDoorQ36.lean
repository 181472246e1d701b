/- Part of the proof that laws.FnWithin returns true for every argument. No conditions. -/
import Derived.Test.YthapcchcahnfaaaGreatDoorQ19
import Derived.Test.YthapcchcahnfaaaGreatDoorQ20
import Derived.Test.YthapcchcahnfaaaGreatDoorQ17
import Derived.Test.YthapcchcahnfaaaGreatDoorQ18
set_option linter.all false
set_option maxHeartbeats 8000000
set_option maxRecDepth 100000
namespace Go.Proofs.YthapcchcahnfaaaGreatDoor
open Go Go.RowKit Go.Proofs.Tryz
theorem tL (n:Nat) (w:World):Calls prog 59 #[.int .i64 n] w fun e w'=>e=.returned (.bool (bY n))∧w=w':=by
 have b:=Lh (vL n);have a:n<9∨n=9∨n=10∨(11≤n∧n≤12)∨n=13∨(14≤n∧n≤31)∨(32≤n∧n≤55295)∨(55296≤n∧n≤57343)∨(57344≤n∧n≤65533)∨(65534≤n∧n≤65535)∨(65536≤n∧n≤1114111)∨1114112≤n:=by omega
 rcases a with h|h|h|h|h|h|h|h|h|h|h|h
 all_goals
  have c:=Lh h;first|have:(32:Int)≤(n:Int):=by omega|have:¬ ((32:Int)≤(n:Int)):=by omega
  first|have:(n:Int)≤55295:=by omega|have:¬ ((n:Int)≤55295):=by omega
  first|have:(57344:Int)≤(n:Int):=by omega|have:¬ ((57344:Int)≤(n:Int)):=by omega
  first|have:(n:Int)≤65533:=by omega|have:¬ ((n:Int)≤65533):=by omega
  first|have:(65536:Int)≤(n:Int):=by omega|have:¬ ((65536:Int)≤(n:Int)):=by omega
  first|have:(n:Int)≤1114111:=by omega|have:¬ ((n:Int)≤1114111):=by omega
  first|have:(((n:Int))==(9))=true:=by (simp;omega)|have:(((n:Int))==(9))=false:=by (simp;omega)
  first|have:(((n:Int))==(10))=true:=by (simp;omega)|have:(((n:Int))==(10))=false:=by (simp;omega)
  first|have:(((n:Int))==(13))=true:=by (simp;omega)|have:(((n:Int))==(13))=false:=by (simp;omega)
  clear h;go_enter func59,ntmps59
  go_wp2;go_ret
  refine ⟨?_,rfl⟩;have:=c.o
  first
   | (rw [show bY n=true from b.o.2 (by omega)];rfl)
   | (rw [show bY n=false from by
     rw [←Bool.not_eq_true];intro d;have:=b.o.1 d;omega];rfl)
theorem yP (l:Bs):(aI l).1≤1114111:=by
 have:=B1 l;unfold aI;split
 ·simp
 ·exact this
theorem lO (l:Bs) (h:l≠[]):(aI l).2≤l.length:=by
 have:=tD l h;unfold aI;split
 ·simp
 ·exact this
theorem qP:∀ (k a:Nat) (l:Bs),l.length≤k→l.length≤a→cY k l=cY a l
 | 0,a,l,h,_=>by
  have:l=[]:=by cases l with
   | nil=>rfl
   | cons=>simp at h
  subst this;rw [gD,gD]
 | k+1,0,l,_,h=>by
  have:l=[]:=by cases l with
   | nil=>rfl
   | cons=>simp at h
  subst this;rw [gD,gD]
 | k+1,a+1,l,h,h'=>by
  by_cases b:l=[]
  ·subst b;rw [gD,gD]
  ·have c:=pZ l b;have d:=tD l b;have ih:=qP k a (l.drop (dF l).2) (by rw [eO];omega) (by rw [eO];omega);rw [cY,cY,ih]
theorem ER (l:Bs) (h:l≠[]):bI l=(if (aI l).2=0 then false else if bY (aI l).1 then bI (l.drop (aI l).2) else false):=by
 have d:=pZ l h;have e:=tD l h;obtain ⟨k,c⟩:∃ k,l.length=k+1:=⟨l.length-1,by omega⟩;have b:bI l=(if (dF l).1=65533∧(dF l).2=1 then false else if bY (dF l).1 then bI (l.drop (dF l).2) else false):=by
  unfold bI;rw [c,cY,aM h];rw [qP k (l.drop (dF l).2).length _ (by rw [eO];omega) (dC _)]
 rw [b];unfold aI;by_cases a:(dF l).1=65533∧(dF l).2=1
 ·rw [aT a,aT a];rfl
 ·simp only [aM a];rw [aM (show ¬ (dF l).2=0 by omega)]
theorem iR (l:Bs) (n:Nat):(⟨l.toArray⟩:ByteArray).extract n l.length=⟨(l.drop n).toArray⟩:=by
 have h:=sY ⟨l.toArray⟩ n;have a:(⟨l.toArray⟩:ByteArray).size=l.length:=by simp [ByteArray.size]
 rw [a] at h;apply ByteArray.ext
 apply Array.toList_inj.1
 rw [h]
def ZW (b:Bs) (w:World) (k:Nat) (a:Act) (w':World):Prop:=
 ∃ f l,a=fr 22 f [(0,aB l),(2,.bool false)]∧w=w'∧k=l.length∧bI b=bI l∧l.length≤4000000000
theorem ES (c:Bs) (h:c.length≤4000000000) (w:World):Calls prog 88 #[aB c] w fun e w'=>e=.returned (.bool (bI c))∧w=w':=by
 refine eT 22 func88 [_] fun f=>?_;simp only [aF];refine vg ?_;intro K hK;refine cM [0,2] fun f=>?_;refine wp_loop_ghost_k (ZW c w) c.length ⟨f,c,rfl,rfl,rfl,rfl,h⟩ ?_;rintro k _ _ ⟨f,l,rfl,rfl,x,u,y⟩ J G t g;have ⟨z,p,m,A⟩:=kY t g u x;clear t g u x h;by_cases a:l=[]
 ·subst a;revert K;refine vg ?_;refine cX ?_;refine ⟨?_,rfl⟩;rw [m.o];rfl
 ·have C:l.isEmpty=false:=by cases l with
   | nil=>exact absurd rfl a
   | cons=>rfl
  have o:=Lh (mB l a w);have q:=yP l;have j:=lO l a;have d:=Lh (ER l a);have B:=Lh a;clear a;obtain ⟨r,i⟩:=cR ((aI l).1);obtain ⟨n,b⟩:=cR ((aI l).2);rw [←i] at o q d;rw [←b] at o j d;clear i b;revert K;refine vg ?_;intro K hK K hK K hK;refine o.o.mono ?_;rintro e w' ⟨rfl,rfl⟩;clear o;by_cases b:n=0
  ·subst b;(repeat revert K);refine vS ?_;intro K hK K hK;refine cX ?_;refine ⟨?_,rfl⟩;rw [m.o,d.o,aT rfl]
  ·have D:((n:Int)==0)=false:=by simp;omega
   have v:=Lh (tL r w);(repeat revert K);refine vS ?_;intro K hK K hK K hK K hK;refine v.o.mono ?_;rintro e w' ⟨rfl,rfl⟩;clear v;cases i:bY r
   ·(repeat revert K);refine vS ?_;intro K hK K hK;refine cX ?_;refine ⟨?_,rfl⟩;rw [m.o,d.o,aM b,i];rfl
   ·have E:(0:Int)≤(n:Int):=by omega
    have F:(n:Int)≤(l.length:Int):=by omega
    (repeat revert K);refine vS ?_;intro K hK;refine Kk [0,2] fun f=>?_;rw [iR];have s:(l.drop n).length<k:=by rw [eO,A.o];omega
    exact p.o _ _ ⟨(l.drop n).length,s,z.o _ _ _ ⟨f,l.drop n,rfl,rfl,rfl,by rw [m.o,d.o,aM b,i,aT rfl],by rw [eO];omega⟩⟩
theorem TU (a:Bs) (b:a.length≤1000000000) (w:World):Calls prog 88 #[aB a] w fun e w'=>e=.returned (.bool (bI a))∧w=w':=ES a (by omega) w
theorem TV (m:Nat) (first:Bool) (k:Nat) (l:Bs) (b:l≠[]) (c:l.length≤m) :
  ∃ a,m=a+1∧hH m first k l=if (aI l).2=0∨(128≤(aI l).1∧lJ (aI l).1=false) then 2
   else if lJ (aI l).1=false∨(first=true∧rL (aI l).1=false) then hH a false 1 (l.drop (aI l).2) else hH a false k (l.drop (aI l).2):=by
 have d:0<l.length:=by cases l with
  | nil=>exact absurd rfl b
  | cons=>simp
 obtain ⟨a,rfl⟩:∃ a,m=a+1:=⟨m-1,by omega⟩;refine ⟨a,rfl,?_⟩;conv=>lhs;unfold hH
 rw [aM b]
def VK (l:Bs) (w0:World) (k:Nat) (b:Act) (w:World):Prop:=
 ∃ f i a m,b=fr 49 f [(0,aB l),(3,.int .i64 (a:Nat)),(4,.int .i64 (i:Nat))]∧w0=w∧k=l.length-i∧i≤l.length∧l.length-i≤m∧bH l=hH m (decide (i=0)) a (l.drop i)
theorem pG (l:Bs) (hl:l.length≤1000000000) (w:World):Calls prog 53 #[aB l] w fun e w'=>e=.returned (.int .i64 (bH l:Nat))∧w'=w:=by
 have HL:=Lh hl;clear hl;refine eT 49 func53 [_] fun f=>?_;simp only [aF];by_cases g:l=[]
 ·have D:l.isEmpty=true:=by rw [g];rfl
  have H:bH l=1:=by rw [g];rfl
  rw [H];subst g;clear H D;refine vg ?_;intro K hK;refine wp_loop_once ?_;revert K;refine vg ?_;refine cX ?_;exact ⟨rfl,rfl⟩
 have D:l.isEmpty=false:=by cases l with
  | nil=>exact absurd rfl g
  | cons=>rfl
 have Z:=Lh (show bH l=hH l.length true 0 l by unfold bH;rw [aM g]);clear g;refine vg ?_;intro K hK;refine cM [0,3,4] fun f=>?_;refine wp_loop_ghost_k (VK l w) l.length ⟨f,0,0,l.length,rfl,rfl,rfl,kW _,dC _,Z.o⟩ ?_;rintro k _ _ ⟨f,i,F,m,rfl,rfl,hk,hi,hm,L⟩ J K2 hJ G;have ⟨B,q,HK,X,C⟩:=pI hJ G hk hm L;clear hJ G hk hm L Z D;by_cases aC:i<l.length
 ·have g:l.drop i≠[]:=fun u=>by have:=congrArg List.length u;simp at this;omega
  have t0:(0:Int)≤(i:Int):=by omega
  have t1:(i:Int)<(l.length:Int):=by omega
  have t2:(i:Int)≤(l.length:Int):=by omega
  have O:=Lh (mB (l.drop i) g w);have P:=Lh (yP (l.drop i));have S:=Lh (lO (l.drop i) g);obtain ⟨m',I,M⟩:=TV m (decide (i=0)) F (l.drop i) g (by rw [eO];exact X.o);have s:=Lh (C.o.trans M);have Q:=Lh I;clear M I g C;obtain ⟨r,hr⟩:=cR ((aI (l.drop i)).1);obtain ⟨n,E⟩:=cR ((aI (l.drop i)).2);rw [←hr] at O P s;rw [←E] at O S s;clear hr E;revert K;refine vg ?_;intro K hK K hK K hK;rw [iR];refine O.o.mono ?_;rintro e w' ⟨rfl,rfl⟩;clear O;by_cases E:n=0
  ·subst E;(repeat revert K);refine vS ?_;intro K hK K hK;refine cX ?_;exact ⟨by rw [s.o,aT (aG rfl)];rfl,rfl⟩
  have a0:((n:Int)==0)=false:=by simp;omega
  have Y:=Lh E;clear E;have N:=Lh (fun w=>vM r w);have W:=Lh (fun w=>DO r w);have wi:IntKind.i64.wrap ((i:Int)+(n:Int))=((i+n:Nat):Int):=by rw [IntKind.wrap_i64];have U:=S.o;have h2:=HL.o;rw [eO] at U;omega
  have x:∀ (f:Nat→Value) (z:Nat),bH l=hH m' false z ((l.drop i).drop n)→∃ p,p<k∧VK l w p (fr 49 f [(0,aB l),(3,.int .i64 (z:Nat)),(4,.int .i64 ((i+n:Nat):Int))]) w:=by
   intro f z h;have U:=S.o;have h2:=X.o;have h3:=Q.o;have h4:=Y.o;have h5:=HK.o;rw [eO] at U;refine ⟨l.length-(i+n),by omega,f,i+n,z,m',rfl,rfl,rfl,by omega,by omega,?_⟩;rw [h,List.drop_drop,decide_eq_false (by omega)]
  have b:=Lh x;clear x;by_cases j:128≤r∧lJ r=false
  ·have g1:(128:Int)≤(r:Int):=by omega
   have R:=Lh j;have aA:=j.2;clear j;(repeat revert K);refine vS ?_;intro K hK K hK K hK K hK;refine (N.o _).mono ?_;rintro e w' ⟨rfl,rfl⟩;(repeat revert K);refine vS ?_;intro K hK K hK;refine cX ?_;exact ⟨by rw [s.o,aT (aX R.o)];rfl,rfl⟩
  have d:=Lh (s.o.trans (aM (fun u=>u.elim (fun h=>Y.o h) j)));clear s;have y:r<128∨(128≤r∧lJ r=true):=by
   by_cases h:r<128
   ·exact aG h
   ·refine aX ⟨by omega,?_⟩;cases u:lJ r with
    | true=>rfl
    | false=>exact absurd ⟨by omega,u⟩ j
  clear j;rcases y with hs|⟨hs,t⟩
  ·have g1:¬ (128:Int)≤(r:Int):=by omega
   (repeat revert K);refine vS ?_;intro K hK K hK K hK K hK;refine (N.o _).mono ?_;rintro e w' ⟨rfl,rfl⟩;go_simp;cases t:lJ r with
   | false=>
    (repeat revert K);refine vg ?_;intro K hK;refine Kk [0,3,4] fun f=>?_;obtain ⟨p,c,a⟩:=b.o f 1 (d.o.trans (aT (aG t)));exact q.o _ _ ⟨p,c,B.o _ _ _ a⟩
   | true=>
    by_cases o:i=0
    ·have T:((i:Int)==0)=true:=by simp;omega
     have A:=Lh o;clear o;(repeat revert K);refine vg ?_;intro K hK K hK K hK K hK;refine (W.o _).mono ?_;rintro e w' ⟨rfl,rfl⟩;go_simp;cases v:rL r with
     | false=>
      (repeat revert K);refine vg ?_;intro K hK;refine Kk [0,3,4] fun f=>?_;obtain ⟨p,c,a⟩:=b.o f 1 (d.o.trans (aT (aX ⟨decide_eq_true A.o,v⟩)));exact q.o _ _ ⟨p,c,B.o _ _ _ a⟩
     | true=>
      (repeat revert K);refine vg ?_;intro K hK;refine Kk [0,3,4] fun f=>?_;obtain ⟨p,c,a⟩:=b.o f F (d.o.trans (aM (fun u=>u.elim (fun h=>Bool.noConfusion (t.symm.trans h)) (fun h=>Bool.noConfusion (v.symm.trans h.2)))));exact q.o _ _ ⟨p,c,B.o _ _ _ a⟩
    ·have T:((i:Int)==0)=false:=by simp;omega
     have A:=Lh o;clear o;(repeat revert K);refine vg ?_;intro K hK;refine Kk [0,3,4] fun f=>?_;obtain ⟨p,c,a⟩:=b.o f F (d.o.trans (aM (fun u=>u.elim (fun h=>Bool.noConfusion (t.symm.trans h)) (fun h=>A.o (of_decide_eq_true h.1)))));exact q.o _ _ ⟨p,c,B.o _ _ _ a⟩
  ·have g1:(128:Int)≤(r:Int):=by omega
   (repeat revert K);refine vS ?_;intro K hK K hK K hK K hK;refine (N.o _).mono ?_;rintro e w' ⟨rfl,rfl⟩;(repeat revert K);refine vS ?_;intro K hK K hK K hK K hK;refine (N.o _).mono ?_;rintro e w' ⟨rfl,rfl⟩;go_simp;by_cases o:i=0
   ·have T:((i:Int)==0)=true:=by simp;omega
    have A:=Lh o;clear o;(repeat revert K);refine vg ?_;intro K hK K hK K hK K hK;refine (W.o _).mono ?_;rintro e w' ⟨rfl,rfl⟩;go_simp;cases v:rL r with
    | false=>
     (repeat revert K);refine vg ?_;intro K hK;refine Kk [0,3,4] fun f=>?_;obtain ⟨p,c,a⟩:=b.o f 1 (d.o.trans (aT (aX ⟨decide_eq_true A.o,v⟩)));exact q.o _ _ ⟨p,c,B.o _ _ _ a⟩
    | true=>
     (repeat revert K);refine vg ?_;intro K hK;refine Kk [0,3,4] fun f=>?_;obtain ⟨p,c,a⟩:=b.o f F (d.o.trans (aM (fun u=>u.elim (fun h=>Bool.noConfusion (t.symm.trans h)) (fun h=>Bool.noConfusion (v.symm.trans h.2)))));exact q.o _ _ ⟨p,c,B.o _ _ _ a⟩
   ·have T:((i:Int)==0)=false:=by simp;omega
    have A:=Lh o;clear o;(repeat revert K);refine vg ?_;intro K hK;refine Kk [0,3,4] fun f=>?_;obtain ⟨p,c,a⟩:=b.o f F (d.o.trans (aM (fun u=>u.elim (fun h=>Bool.noConfusion (t.symm.trans h)) (fun h=>A.o (of_decide_eq_true h.1)))));exact q.o _ _ ⟨p,c,B.o _ _ _ a⟩
 ·have V:i=l.length:=by omega
  subst V;have t1:¬ ((l.length:Int)<(l.length:Int)):=by omega
  have R:=Lh (show bH l=F by
   rw [C.o,List.drop_length];cases m<;>simp [hH])
  revert K;refine vg ?_;refine cX ?_;exact ⟨by rw [R.o],rfl⟩
theorem bX (T:Bs) (a:Nat) (b:a<T.length):T.drop a=T.getD a 0::T.drop (a+1):=by
 rw [CZ b];simp [rI,b]
theorem yQ (l:Bs) (i:Nat) (h:i<l.length) (c:UInt8):(l.take (i+1)).contains c=((l.take i).contains c||(c==l.getD i 0)):=by
 rw [List.take_add_one,List.getElem?_eq_getElem h];have e:l.getD i 0=l[i]:=by simp [rI,h]
 rw [e,Bool.eq_iff_iff];simp only [List.contains_iff_mem,List.mem_append,Option.toList_some,List.mem_singleton,Bool.or_eq_true,beq_iff_eq]
theorem nM {b k:UInt8} (h:b≠k):((b.toNat:Int)==(k.toNat:Int))=false:=by
 rw [m6];intro a;exact h (UInt8.toNat_inj.1 (by omega))
def ZX (l:Bs) (w0:World) (k:Nat) (a:Act) (w:World):Prop:=
 ∃ f i,a=fr 17 f [(0,aB l),(5,.int .i64 (l.length:Nat)),(6,.int .i64 (i:Nat))]∧w0=w∧k=l.length-i∧i≤l.length∧(l.take i).contains 58=false
theorem uS (l:Bs) (s:l.length≤1000000000) (w:World):Calls prog 54 #[aB l] w fun e w'=>e=.returned (.bool (eL l))∧w'=w:=by
 have B:=Lh s;have p:=Lh (pG l s w);clear s;refine eT 17 func54 [_] fun f=>?_;simp only [aF];refine vg ?_;intro K hK;refine cM [0,5,6] fun f=>?_;refine wp_loop_ghost_k (ZX l w) l.length ⟨f,0,rfl,rfl,rfl,kW _,rfl⟩ ?_;rintro k _ _ ⟨f,i,rfl,rfl,x,H,v⟩ J E u j;have ⟨z,o,A,t⟩:=kY u j x v;clear u j x v;by_cases c:i<l.length
 ·have L:(0:Int)≤(i:Int):=by omega
  have D:(i:Int)<(l.length:Int):=by omega
  have M:IntKind.i64.wrap ((i:Int)+1)=((i+1:Nat):Int):=by rw [IntKind.wrap_i64];have F:=B.o;omega
  have d:=Lh (yQ l i c 58);obtain ⟨b,m⟩:=cR (l.getD i 0);have I:∀ h,(⟨l.toArray⟩:ByteArray)[i]'h=b:=by rw [m];exact iP l i c
  rw [←m] at d;have g:=Lh m;clear m;by_cases a:b=58
  ·have y:eL l=false:=by
    have C:l.contains 58=true:=by
     rw [List.contains_iff_mem];have:l[i]=58:=by rw [←a,g.o];simp [rI,c]
     rw [←this];exact List.getElem_mem c
    unfold eL;rw [C];rfl
   have q:=Lh y;clear y g d;subst a;revert K;refine vg ?_;intro K hK K hK;refine cX ?_;exact ⟨by rw [q.o],rfl⟩
  ·have G:((b.toNat:Int)==58)=false:=nM a;have n:=Lh (show (l.take (i+1)).contains 58=false by rw [d.o,t.o,Bool.false_or,m6];exact fun h=>a h.symm);clear a g d;revert K;refine vg ?_;intro K hK;refine Kk [0,5,6] fun f=>?_;exact o.o _ _ ⟨l.length-(i+1),by rw [A.o];omega,z.o _ _ _ ⟨f,i+1,rfl,rfl,rfl,c,n.o⟩⟩
 ·have r:i=l.length:=by omega
  subst r;have D:¬ ((l.length:Int)<(l.length:Int)):=by omega
  have q:=Lh (show eL l=(bH l==0) by
   have:=t.o;rw [List.take_length] at this;unfold eL;rw [this];rfl)
  revert K;refine vg ?_;intro K hK K hK;refine p.o.mono ?_;rintro e w' ⟨rfl,rfl⟩;(repeat revert K);refine vS ?_;refine cX ?_;refine ⟨?_,rfl⟩;rw [q.o]
  congr 2
  rw [Bool.eq_iff_iff];simp
theorem G2 {l:Bs} (h:l.contains 58=false):jH l=some ([],l):=by
 have d:∀ c∈l,(c != 58)=true:=fun c a=>by
  rw [bne_iff_ne];rintro rfl;rw [←List.contains_iff_mem,h] at a;cases a
 have e:∀ (l:Bs),(∀ c∈l,(c != 58)=true)→l.dropWhile (· != 58)=[]:=by
  intro l;induction l with
  | nil=>exact fun _=>rfl
  | cons b r ih=>intro h;rw [List.dropWhile_cons,aT (h b (by simp))];exact ih (fun c a=>h c (by simp [a]))
 unfold jH;rw [e l d]
theorem A6 {a b:Bs} (h:a.contains 58=false):(a++58::b).dropWhile (· != 58)=58::b∧(a++58::b).takeWhile (· != 58)=a:=by
 have d:∀ c∈a,(c != 58)=true:=fun c e=>by
  rw [bne_iff_ne];rintro rfl;rw [←List.contains_iff_mem,h] at e;cases e
 constructor
 ·rw [List.dropWhile_append_of_pos d];rfl
 ·rw [List.takeWhile_append_of_pos d];simp
theorem L0 {a b:Bs} (h:a.contains 58=false) (e:b.contains 58=false):jH (a++58::b)=if a=[]∨b=[] then none else some (a,b):=by
 obtain ⟨c,d⟩:=A6 (b:=b) h;unfold jH;rw [c,d];simp only [e];rfl
theorem L1 {a b:Bs} (h:a.contains 58=false) (d:b.contains 58=true):jH (a++58::b)=none:=by
 obtain ⟨c,e⟩:=A6 (b:=b) h;unfold jH;rw [c];simp only [d];rfl
def XK (l:Bs) (i:Nat) (a:Int):Prop:=
 (a=-1∧(l.take i).contains 58=false)∨∃ j:Nat,a=j∧j<i∧j<l.length∧l.getD j 0=58∧(l.take j).contains 58=false∧((l.take i).drop (j+1)).contains 58=false
def ZY (l:Bs) (w0:World) (k:Nat) (b:Act) (w:World):Prop:=
 ∃ f i a,b=fr 39 f [(0,aB l),(5,.int .i64 a),(8,.int .i64 (l.length:Nat)),(9,.int .i64 (i:Nat))]∧w0=w∧k=l.length-i∧i≤l.length∧XK l i a
theorem P2 (l:Bs) (j:Nat) (h:j<l.length) (a:l.getD j 0=58):l=l.take j++58::l.drop (j+1):=by
 have:l[j]=58:=by rw [←a];simp [rI,h]
 conv=>lhs;rw [←List.take_append_drop j l,CZ h,this]
theorem TW (l:Bs) (Q:l.length≤1000000000) (w:World):Calls prog 89 #[aB l] w fun e w'=>(∃ p q R,e=.returned (.tuple #[aB p,aB q,.bool R])∧(if R then some (p,q) else none)=jH l∧p.length≤l.length∧q.length≤l.length)∧∃ k,w'=w.drewN k:=by
 have M:=Lh Q;clear Q;refine eT 39 func89 [_] fun f=>?_;simp only [aF];refine vg ?_;intro K hK;refine cM [0,5,8,9] fun f=>?_;refine wp_loop_ghost_k (ZY l w) l.length ⟨f,0,-1,rfl,rfl,rfl,kW _,aG ⟨rfl,rfl⟩⟩ ?_;rintro k _ _ ⟨f,i,t,rfl,rfl,P,Z,F⟩ J Y N D;have ⟨I,B,L,n⟩:=kY N D P F;clear N D P F;by_cases a:i<l.length
 ·have t0:(0:Int)≤(i:Int):=by omega
  have X:(i:Int)<(l.length:Int):=by omega
  have wi:IntKind.i64.wrap ((i:Int)+1)=((i+1:Nat):Int):=by rw [IntKind.wrap_i64];have d:=M.o;omega
  obtain ⟨b,G⟩:=cR (l.getD i 0);have ix:∀ h,(⟨l.toArray⟩:ByteArray)[i]'h=b:=by rw [G];exact iP l i a
  have A:=Lh (yQ l i a 58);rw [←G] at A;have o:=Lh G;clear G;by_cases c:b=58
  ·have W:((b.toNat:Int) != 58)=false:=by rw [c];rfl
   have z:=Lh c;clear c;by_cases V:(0:Int)≤t
   ·have m:jH l=none:=by
     rcases n.o with ⟨g,_⟩|⟨j,g,d,u,v,x,y⟩
     ·omega
     ·rw [P2 l j u v];refine L1 x ?_;rw [List.contains_iff_mem];have U:(l.drop (j+1))[i-(j+1)]?=some 58:=by
       rw [List.getElem?_drop,show j+1+(i-(j+1))=i by omega,List.getElem?_eq_getElem a];rw [←z.o,o.o];simp [rI,a]
      exact List.mem_of_getElem? U
    have r:=Lh m;clear m;revert K;refine vg ?_;intro K hK K hK K hK;refine MM ?_;exact ⟨⟨[],[],false,rfl,by rw [r.o];rfl,kW _,kW _⟩,0,rfl⟩
   ·have s:=Lh (show XK l (i+1) (i:Int) by
     rcases n.o with ⟨g,d⟩|⟨j,g,_⟩
     ·refine aX ⟨i,rfl,by omega,a,by rw [←o.o];exact z.o,d,?_⟩;rw [t6 (by rw [rJ];omega)];rfl
     ·omega)
    revert K;refine vg ?_;intro K hK;refine Kk [0,5,8,9] fun f=>?_;exact B.o _ _ ⟨l.length-(i+1),by rw [L.o];omega,I.o _ _ _ ⟨f,i+1,i,rfl,rfl,rfl,a,s.o⟩⟩
  ·have W:((b.toNat:Int) != 58)=true:=by
    have:((b.toNat:Int)==58)=false:=nM c;rw [bne,this];rfl
   have s:=Lh (show XK l (i+1) t by
    rcases n.o with ⟨g,d⟩|⟨j,g,d,u,v,x,y⟩
    ·refine aG ⟨g,?_⟩;rw [A.o,d,Bool.false_or,m6];exact fun h=>c h.symm
    ·refine aX ⟨j,g,by omega,u,v,x,?_⟩;rw [List.take_add_one,List.drop_append_of_le_length (by rw [rJ];omega),List.getElem?_eq_getElem a];have e:l[i]=b:=by rw [o.o];simp [rI,a]
     rw [e];have C:=y;simp only [List.contains_eq_mem,decide_eq_false_iff_not] at C ⊢;simp only [Option.toList_some,List.mem_append,List.mem_singleton,not_or];exact ⟨C,fun h=>c h.symm⟩)
   clear c;revert K;refine vg ?_;intro K hK;refine Kk [0,5,8,9] fun f=>?_;exact B.o _ _ ⟨l.length-(i+1),by rw [L.o];omega,I.o _ _ _ ⟨f,i+1,t,rfl,rfl,rfl,a,s.o⟩⟩
 ·have H:i=l.length:=by omega
  subst H;have X:¬ ((l.length:Int)<(l.length:Int)):=by omega
  rcases n.o with ⟨g,d⟩|⟨j,g,d,u,v,x,y⟩
  ·rw [List.take_length] at d;have r:=Lh (G2 d);subst g;clear d;revert K;refine vg ?_;intro K hK;refine MM ?_;exact ⟨⟨[],l,true,rfl,by rw [r.o];rfl,kW _,dC _⟩,0,rfl⟩
  ·rw [List.take_length] at y;subst g;have r:=Lh (show jH l=if l.take j=[]∨l.drop (j+1)=[] then none else some (l.take j,l.drop (j+1)) by
    conv=>lhs;rw [P2 l j u v]
    exact L0 x y)
   have n1:¬ ((j:Int)<0):=by omega
   have n2:(0:Int)≤(j:Int):=by omega
   have n3:(j:Int)≤(l.length:Int):=by omega
   have wj:IntKind.i64.wrap ((j:Int)+1)=((j+1:Nat):Int):=by rw [IntKind.wrap_i64];have d:=M.o;omega
   have n4:(0:Int)≤(j:Int)+1:=by omega
   have n5:(j:Int)+1≤(l.length:Int):=by omega
   have n6:((j:Int)+1).toNat=j+1:=by omega
   clear d v x y;by_cases O:0<j
   ·have S:decide (0<j)=true:=decide_eq_true O;by_cases E:j+1<l.length
    ·have T:decide (j+1<l.length)=true:=decide_eq_true E;revert K;refine vg ?_;intro K hK;(refine lI [0,0,0,0,0,0,0,0,0,0,0,0,0,0,0,0,0,0,0] [0,1,2,3,4,5,6,7,8,9,10,11,12,13,14,15,16,17,18] ?_;refine vP ?_;repeat with_reducible intro nq)
     revert K;refine vg ?_;refine MM ?_;rw [kG,iR];refine ⟨⟨l.take j,l.drop (j+1),true,?_,?_,by rw [rJ];omega,by rw [eO];omega⟩,_,rfl⟩
     ·first|(simp;done)|(simp;omega)
     ·rw [r.o,aT rfl,aM];rintro (h|h)
      ·rcases List.take_eq_nil_iff.1 h with h|h
       ·omega
       ·rw [h] at u;simp at u
      ·exact absurd (List.drop_eq_nil_iff.1 h) (by omega)
    ·have T:decide (j+1<l.length)=false:=decide_eq_false E;revert K;refine vg ?_;intro K hK;(refine lI [0,0,0,0,0,0,0,0,0,0,0,0,0,0,0,0,0,0,0] [0,1,2,3,4,5,6,7,8,9,10,11,12,13,14,15,16,17,18] ?_;refine vP ?_;repeat with_reducible intro nq)
     revert K;refine vg ?_;refine MM ?_;rw [kG,iR];refine ⟨⟨l.take j,l.drop (j+1),false,?_,?_,by rw [rJ];omega,by rw [eO];omega⟩,_,rfl⟩
     ·first|(simp;done)|(simp;omega)
     ·rw [r.o,aT (aX (t6 (by omega)))];rfl
   ·have S:decide (0<j)=false:=decide_eq_false O;revert K;refine vg ?_;intro K hK;(refine lI [0,0,0,0,0,0,0,0,0,0,0,0,0,0,0,0,0,0,0] [0,1,2,3,4,5,6,7,8,9,10,11,12,13,14,15,16,17,18] ?_;refine vP ?_;repeat with_reducible intro nq)
    revert K;refine vg ?_;refine MM ?_;rw [kG,iR];refine ⟨⟨l.take j,l.drop (j+1),false,?_,?_,by rw [rJ];omega,by rw [eO];omega⟩,_,rfl⟩
    ·first|(simp;done)|(simp;omega)
    ·have:j=0:=by omega
     rw [r.o,this];rfl
def SV.num:SV→Int
 | .bad=>1
 | .opn=>2
def eY {α:Type} (x:PX) (w:World) (c:PC) (d:α→Ending) (b:Ending) (r:Except SV (α×Bs)) (e:Ending) (w':World):Prop:=
 aK (fun k=>k=x.p) w w'∧match r with
  | .ok p=>∃ a,p.2=x.T.drop a∧a≤x.T.length∧c.at'≤a∧aV x w' { c with at':=a }∧e=d p.1
  | .error k=>(∃ a,aV x w' { c with at':=a,verd:=k.num })∧e=b
theorem eY.okk {α:Type} {x:PX} {w:World} {c:PC} {b:α→Ending} {d:Ending} {r:Except SV (α×Bs)} {w':World} {v:α} {a:Nat} (h:r=.ok (v,x.T.drop a)) (e:a≤x.T.length) (f:c.at'≤a) (i:aV x w' { c with at':=a }) (g:aK (fun k=>k=x.p) w w'):eY x w c b d r (b v) w':=by
 subst h;exact ⟨g,a,rfl,e,f,i,rfl⟩
theorem eY.bad {α:Type} {x:PX} {w:World} {c:PC} {d:α→Ending} {b:Ending} {r:Except SV (α×Bs)} {w':World} {k:SV} {a:Nat} (h:r=.error k) (f:aV x w' { c with at':=a,verd:=k.num }) (e:aK (fun k=>k=x.p) w w'):eY x w c d b r b w':=by
 subst h;exact ⟨e,⟨a,f⟩,rfl⟩
theorem qQ (l:Bs):(aD l).1.length+(aD l).2.length=l.length:=by
 have:=congrArg List.length (pT l).1;rw [fU] at this;exact this
theorem hZ (x:PX) (w0 w:World) (c:PC) (h:aV x w c) (d:aK (fun k=>k=x.p) w0 w) (v:Int):Calls prog 32 #[jA x,.int .i64 v] w fun e w'=>e=.returned (.bool false)∧aV x w' { c with verd:=v }∧aK (fun k=>k=x.p) w0 w':=by
 refine (lG x w c h v).mono ?_;rintro e w' ⟨rfl,a,b⟩;exact ⟨rfl,a,d.trans b (fun _ _ h=>h)⟩
theorem eM {S:Nat→Prop} {w0 w w':World} (h:aK S w0 w) (b:w'.os=w.os) (c:w'.tape=w.tape) (d:w'.output=w.output) (a:w'.heap=w.heap):aK S w0 w':=
 ⟨b.trans h.os,c.trans h.tape,d.trans h.output,by rw [a];exact h.size,fun k e f=>by rw [a];exact h.block k e f⟩
theorem CG (x:PX) (Z:x.T.length≤1000000000) (w:World) (c:PC) (h:aV x w c) (ha:c.at'≤x.T.length):Calls prog 49 #[jA x] w (eY x w c (fun nm=>.returned (.tuple #[aB nm.1,aB nm.2,.bool true])) (.returned (.tuple #[aB [],aB [],.bool false])) (fP (x.T.drop c.at'))):=by
 have X:=Lh (B4 x Z w c h ha);have H:=Lh (qQ (x.T.drop c.at'));have HT:=Lh Z;clear h ha Z;refine eT 45 func49 [_] fun f=>?_;simp only [aF];obtain ⟨s,hs⟩:=cR ((aD (x.T.drop c.at')).1);obtain ⟨rr,B⟩:=cR ((aD (x.T.drop c.at')).2);have R:=Lh (show fP (x.T.drop c.at')=if bH s=1 then .error .bad else if bH s=2 then .error .opn else match jH s with
   | none=>.error .opn
   | some (p,l)=>if eL l=false∨(p≠[]∧eL p=false) then .error .opn else .ok ((p,l),rr) by rw [hs,B];rfl)
 rw [←hs,←B] at X H;clear hs B;have r:s.length≤1000000000:=by have Y:=H.o;have h2:=HT.o;rw [eO] at Y;omega
 have aA:=Lh r;have S:=Lh (fun w=>pG s r w);have W:=Lh (fun w=>TW s r w);have u:=Lh (fun (l:Bs) (hl:l.length≤s.length) w=>uS l (gA hl r) w);clear r;refine vg ?_;intro K hK K hK;refine X.o.mono ?_;rintro e1 w1 ⟨a,rfl,hp,hm,L,J,o⟩;have ⟨A,z,E,D,G⟩:=pI hp hm L J o;have C:=Lh (fun (w':World) (Y:aV x w' { c with at':=a }) (h2:aK (fun k=>k=x.p) w w') (v:Int)=>hZ x w w' { c with at':=a } Y h2 v);clear hp hm L J o X;(repeat revert K);refine vS ?_;intro K hK K hK K hK;refine (S.o _).mono ?_;rintro e2 w2 ⟨rfl,rfl⟩;go_simp;by_cases i:bH s=1
 ·have j:=Lh (R.o.trans (aT i));rw [i];clear i;(repeat revert K);refine vg ?_;intro K hK K hK K hK;refine (C.o _ (by exact A.o) (by exact eM z.o rfl rfl rfl rfl) _).mono ?_;rintro I Q ⟨rfl,d,b⟩;have ⟨g,e⟩:=cH d b;clear d b;(repeat revert K);refine vS ?_;intro K hK;refine MM ?_;exact eY.bad j.o g.o e.o
 have e1:((bH s:Int)==1)=false:=by simp;omega
 by_cases m:bH s=2
 ·have j:=Lh ((R.o.trans (aM i)).trans (aT m));rw [m];clear i m e1;(repeat revert K);refine vg ?_;intro K hK K hK K hK;refine (C.o _ (by exact A.o) (by exact eM z.o rfl rfl rfl rfl) _).mono ?_;rintro I Q ⟨rfl,d,b⟩;have ⟨g,e⟩:=cH d b;clear d b;(repeat revert K);refine vS ?_;intro K hK;refine MM ?_;exact eY.bad j.o g.o e.o
 have e2:((bH s:Int)==2)=false:=by simp;omega
 have F:=Lh ((R.o.trans (aM i)).trans (aM m));clear i m R;(repeat revert K);refine vg ?_;intro K hK K hK;refine (W.o _).mono ?_;rintro I Q ⟨⟨p,q,ok,rfl,P,M,O⟩,k3,rfl⟩;have ⟨y,U,V⟩:=lQ P M O;clear P M O;go_simp;cases ok with
 | false=>
  have j:=Lh (show fP (x.T.drop c.at')=.error .opn by rw [F.o,←y.o];rfl);(repeat revert K);refine vg ?_;intro K hK K hK K hK;refine (C.o _ (by exact A.o) (by exact eM z.o rfl rfl rfl rfl) _).mono ?_;rintro I Q ⟨rfl,d,b⟩;have ⟨g,e⟩:=cH d b;clear d b;(repeat revert K);refine vS ?_;intro K hK;refine MM ?_;exact eY.bad j.o g.o e.o
 | true=>
  have t:=Lh (show fP (x.T.drop c.at')=if eL q=false∨(p≠[]∧eL p=false) then .error .opn else .ok ((p,q),rr) by rw [F.o,←y.o];rfl);(repeat revert K);refine vg ?_;intro K hK K hK K hK;refine (u.o q V.o _).mono ?_;rintro e4 w4 ⟨rfl,rfl⟩;go_simp;cases hq:eL q with
  | false=>
   have j:=Lh (t.o.trans (aT (aG hq)));(repeat revert K);refine vg ?_;intro K hK K hK K hK;refine (C.o _ (by exact A.o) (by exact eM z.o rfl rfl rfl rfl) _).mono ?_;rintro I Q ⟨rfl,d,b⟩;have ⟨g,e⟩:=cH d b;clear d b;(repeat revert K);refine vS ?_;intro K hK;refine MM ?_;exact eY.bad j.o g.o e.o
  | true=>
   by_cases n:p=[]
   ·have j:=Lh (t.o.trans (aM (fun hh=>hh.elim (fun h=>Bool.noConfusion (hq.symm.trans h)) (fun h=>h.1 n))));subst n;(repeat revert K);refine vg ?_;refine MM ?_;exact eY.okk (v:=([],q)) (by rw [j.o,G.o]) E.o D.o A.o (eM z.o rfl rfl rfl rfl)
   ·have aC:p.isEmpty=false:=by cases p with
     | nil=>exact absurd rfl n
     | cons=>rfl
    have T:=Lh n;clear n;(repeat revert K);refine vg ?_;intro K hK K hK K hK;refine (u.o p U.o _).mono ?_;rintro e4 w4 ⟨rfl,rfl⟩;go_simp;cases N:eL p with
    | false=>
     have j:=Lh (t.o.trans (aT (aX ⟨T.o,N⟩)));(repeat revert K);refine vg ?_;intro K hK K hK K hK;refine (C.o _ (by exact A.o) (by exact eM z.o rfl rfl rfl rfl) _).mono ?_;rintro I Q ⟨rfl,d,b⟩;have ⟨g,e⟩:=cH d b;clear d b;(repeat revert K);refine vS ?_;intro K hK;refine MM ?_;exact eY.bad j.o g.o e.o
    | true=>
     have j:=Lh (t.o.trans (aM (fun hh=>hh.elim (fun h=>Bool.noConfusion (hq.symm.trans h)) (fun h=>Bool.noConfusion (N.symm.trans h.2)))));(repeat revert K);refine vg ?_;refine MM ?_;exact eY.okk (v:=(p,q)) (by rw [j.o,G.o]) E.o D.o A.o (eM z.o rfl rfl rfl rfl)
theorem ET (a:Bool) (n:Int) (s:Bs) (i:Nat) (b:i<s.length):bQ a n (s.drop i)=if eW a (s.getD i 0) then bQ a (if 1114111<(if 0≤n then n*(if a then 16 else 10)+dW (s.getD i 0) else n) then -1 else (if 0≤n then n*(if a then 16 else 10)+dW (s.getD i 0) else n)) (s.drop (i+1)) else none:=by
 rw [bX s i b];conv=>lhs;unfold bQ
def VL (a:Bool) (s:Bs) (w0:World) (k:Nat) (b:Act) (w:World):Prop:=
 ∃ f i n,b=fr 74 f [(0,aB s),(4,.int .i64 (if a then 16 else 10)),(5,.int .i64 n),(20,.int .i64 (s.length:Nat)),(21,.int .i64 (i:Nat))]∧w0=w∧k=s.length-i∧i≤s.length∧-1≤n∧n≤1114111∧bQ a 0 s=bQ a n (s.drop i)
def Bm (r:Option Int) (e:Ending):Prop:=match r with
 | some n=>e=.returned (.tuple #[.int .i64 n,.bool true])∧-1≤n∧n≤1114111
 | none=>e=.returned (.tuple #[.int .i64 0,.bool false])
theorem A7 (a:Bool) (b:UInt8):(48≤b.toNat∧b.toNat≤57∧eW a b=true∧dW b=b.toNat-48)∨(a=true∧97≤b.toNat∧b.toNat≤102∧eW a b=true∧dW b=b.toNat-87)∨(a=true∧65≤b.toNat∧b.toNat≤70∧eW a b=true∧dW b=b.toNat-55)∨(¬ (48≤b.toNat∧b.toNat≤57)∧¬ (a=true∧97≤b.toNat∧b.toNat≤102)∧¬ (a=true∧65≤b.toNat∧b.toNat≤70)∧eW a b=false):=by
 have h:(48≤b)↔48≤b.toNat:=UInt8.le_iff_toNat_le;have f:(b≤57)↔b.toNat≤57:=UInt8.le_iff_toNat_le;have g:(97≤b)↔97≤b.toNat:=UInt8.le_iff_toNat_le;have i:(b≤102)↔b.toNat≤102:=UInt8.le_iff_toNat_le;have j:(65≤b)↔65≤b.toNat:=UInt8.le_iff_toNat_le;have k:(b≤70)↔b.toNat≤70:=UInt8.le_iff_toNat_le;have l:eW a b=((decide (48≤b.toNat)&&decide (b.toNat≤57))||(a&&decide (97≤b.toNat)&&decide (b.toNat≤102))||(a&&decide (65≤b.toNat)&&decide (b.toNat≤70))):=by
  unfold eW;simp only [h,f,g,i,j,k]
 have m:dW b=if b.toNat≤57 then b.toNat-48 else if 97≤b.toNat then b.toNat-87 else b.toNat-55:=by
  unfold dW;simp only [f,g]
 rw [l,m];by_cases e:48≤b.toNat∧b.toNat≤57
 ·left;refine ⟨e.1,e.2,?_,aT e.2⟩;simp [e.1,e.2]
 ·by_cases c:a=true∧97≤b.toNat∧b.toNat≤102
  ·right;left;refine ⟨c.1,c.2.1,c.2.2,?_,?_⟩
   ·simp [c.1,c.2.1,c.2.2]
   ·rw [aM (by omega),aT c.2.1]
  ·by_cases d:a=true∧65≤b.toNat∧b.toNat≤70
   ·right;right;left;refine ⟨d.1,d.2.1,d.2.2,?_,?_⟩
    ·simp [d.1,d.2.1,d.2.2]
    ·rw [aM (by omega),aM (by omega)]
   ·right;right;right;refine ⟨e,c,d,?_⟩;cases a<;>simp_all<;>omega
theorem P3 (s:Bs) (hl:s.length≤1000000000) (w:World):Calls prog 112 #[aB s] w fun e w'=>Bm (iE s) e∧∃ k,w'=w.drewN k:=by
 refine eT 74 func112 [_] fun f=>?_;simp only [aF];cases s with
 | nil=>
  refine vg ?_;intro K hK;refine jV ?_;exact ⟨rfl,0,rfl⟩
 | cons b t=>
  have W:=Lh (show t.length+1≤1000000000 from hl);clear hl;have S:∀ h,(⟨(b::t).toArray⟩:ByteArray)[0]'h=b:=fun h=>rfl;by_cases z:b=120
  ·subst z;obtain ⟨I,H⟩:∃ I:Bs,I=120::t:=⟨_,rfl⟩;have U:I.isEmpty=false:=by rw [H];rfl
   have N:=Lh H;have z1:(0:Int)≤(I.length:Int):=by omega
   have z2:(1:Int)≤(I.length:Int):=by rw [H];simp;omega
   have z3:(0:Int)<(I.length:Int):=by omega
   have z4:0<I.length:=by omega
   rw [←H] at S ⊢;clear H;refine vg ?_;intro K hK;(refine lI [0,0,0,0] [0,1,2,3] ?_;refine vP ?_;repeat with_reducible intro nq)
   rw [iR,show I.drop 1=t by rw [N.o];rfl];clear U z1 z2 z3 z4 S;cases t with
   | nil=>
    revert K;refine vg ?_;intro K hK;refine jV ?_;exact ⟨by rw [N.o];rfl,_,rfl⟩
   | cons c t2=>
    obtain ⟨s,C⟩:∃ s:Bs,s=c::t2:=⟨_,rfl⟩;have Z:s.isEmpty=false:=by rw [C];rfl
    have L:=Lh (show s.length≤1000000000 by rw [C];have:=W.o;simp at this ⊢;omega);have M:=Lh (show iE I=bQ true 0 s by rw [N.o,C];rfl);rw [←C];clear C W;revert K;refine vg ?_;intro K hK;refine cM [0,4,5,20,21] fun f=>?_;refine wp_loop_ghost_k (VL true s (w.drewN nq)) s.length ⟨f,0,0,rfl,rfl,rfl,kW _,by omega,by omega,rfl⟩ ?_;rintro k _ _ ⟨f,i,n,rfl,rfl,V,hi,F,G,u⟩ J K2 T E;have ⟨A,q,B,r,v,g⟩:=iD T E V u F G;clear T E V u F G;simp only [if_true];by_cases d:i<s.length
    ·have t0:(0:Int)≤(i:Int):=by omega
     have t1:(i:Int)<(s.length:Int):=by omega
     have wi:IntKind.i64.wrap ((i:Int)+1)=((i+1:Nat):Int):=by rw [IntKind.wrap_i64];have h2:=L.o;omega
     have y:=ET true n s i d;obtain ⟨b,O⟩:=cR (s.getD i 0);have ix:∀ h,(⟨s.toArray⟩:ByteArray)[i]'h=b:=by rw [O];exact iP s i d
     rw [←O] at y;have l:=Lh (r.o.trans y);have X:=b.toNat_lt;have wb:IntKind.i64.wrap (b.toNat:Int)=(b.toNat:Int):=by rw [IntKind.wrap_i64];omega
     clear O y;rcases A7 true b with ⟨g1,g2,g3,g4⟩|⟨g0,g1,g2,g3,g4⟩|⟨g0,g1,g2,g3,g4⟩|⟨g1,g2,g3,g4⟩
     ·have wc:IntKind.i64.wrap ((b.toNat:Int)-48)=((b.toNat-48:Nat):Int):=by rw [IntKind.wrap_i64];omega
      obtain ⟨c,m⟩:∃ c:Nat,c=b.toNat-48:=⟨_,rfl⟩;have P:c≤15:=by omega
      have p:=Lh (show eW true b=true∧dW b=c from ⟨g3,g4.trans m.symm⟩);rw [←m] at wc;first|have:(48:Int)≤(b.toNat:Int):=by omega|have:¬ ((48:Int)≤(b.toNat:Int)):=by omega
      first|have:(b.toNat:Int)≤57:=by omega|have:¬ ((b.toNat:Int)≤57):=by omega
      first|have:(97:Int)≤(b.toNat:Int):=by omega|have:¬ ((97:Int)≤(b.toNat:Int)):=by omega
      first|have:(b.toNat:Int)≤102:=by omega|have:¬ ((b.toNat:Int)≤102):=by omega
      first|have:(65:Int)≤(b.toNat:Int):=by omega|have:¬ ((65:Int)≤(b.toNat:Int)):=by omega
      first|have:(b.toNat:Int)≤70:=by omega|have:¬ ((b.toNat:Int)≤70):=by omega
      clear g3 g4 m;by_cases o:0≤n
      ·have wm:IntKind.i64.wrap (n*16)=n*16:=by rw [IntKind.wrap_i64];have:=g.o;omega
       have wa:IntKind.i64.wrap (n*16+(c:Int))=n*16+(c:Int):=by rw [IntKind.wrap_i64];have:=g.o;omega
       by_cases a:1114111<n*16+(c:Int)
       ·have j:=Lh (show bQ true 0 s=bQ true (-1) (s.drop (i+1)) by
         rw [l.o,p.o.1,p.o.2,aT rfl,aT o];rw [aT (by simpa using a)])
        revert K;refine vg ?_;intro K hK;refine Kk [0,4,5,20,21] fun f=>?_;exact q.o _ _ ⟨s.length-(i+1),by rw [B.o];omega,A.o _ _ _ ⟨f,i+1,-1,rfl,rfl,rfl,d,by omega,by omega,j.o⟩⟩
       ·have j:=Lh (show bQ true 0 s=bQ true (n*16+(c:Int)) (s.drop (i+1)) by
         rw [l.o,p.o.1,p.o.2,aT rfl,aT o];rw [aM (by simpa using a)];simp)
        revert K;refine vg ?_;intro K hK;refine Kk [0,4,5,20,21] fun f=>?_;exact q.o _ _ ⟨s.length-(i+1),by rw [B.o];omega,A.o _ _ _ ⟨f,i+1,n*16+(c:Int),rfl,rfl,rfl,d,by omega,by omega,j.o⟩⟩
      ·have x:¬ 1114111<n:=by omega
       have j:=Lh (show bQ true 0 s=bQ true n (s.drop (i+1)) by
        rw [l.o,p.o.1,p.o.2,aT rfl,aM o,aM x])
       revert K;refine vg ?_;intro K hK;refine Kk [0,4,5,20,21] fun f=>?_;exact q.o _ _ ⟨s.length-(i+1),by rw [B.o];omega,A.o _ _ _ ⟨f,i+1,n,rfl,rfl,rfl,d,v.o,g.o,j.o⟩⟩
     ·have wc:IntKind.i64.wrap ((b.toNat:Int)-87)=((b.toNat-87:Nat):Int):=by rw [IntKind.wrap_i64];omega
      obtain ⟨c,m⟩:∃ c:Nat,c=b.toNat-87:=⟨_,rfl⟩;have P:c≤15:=by omega
      have p:=Lh (show eW true b=true∧dW b=c from ⟨g3,g4.trans m.symm⟩);rw [←m] at wc;first|have:(48:Int)≤(b.toNat:Int):=by omega|have:¬ ((48:Int)≤(b.toNat:Int)):=by omega
      first|have:(b.toNat:Int)≤57:=by omega|have:¬ ((b.toNat:Int)≤57):=by omega
      first|have:(97:Int)≤(b.toNat:Int):=by omega|have:¬ ((97:Int)≤(b.toNat:Int)):=by omega
      first|have:(b.toNat:Int)≤102:=by omega|have:¬ ((b.toNat:Int)≤102):=by omega
      first|have:(65:Int)≤(b.toNat:Int):=by omega|have:¬ ((65:Int)≤(b.toNat:Int)):=by omega
      first|have:(b.toNat:Int)≤70:=by omega|have:¬ ((b.toNat:Int)≤70):=by omega
      clear g3 g4 m;by_cases o:0≤n
      ·have wm:IntKind.i64.wrap (n*16)=n*16:=by rw [IntKind.wrap_i64];have:=g.o;omega
       have wa:IntKind.i64.wrap (n*16+(c:Int))=n*16+(c:Int):=by rw [IntKind.wrap_i64];have:=g.o;omega
       by_cases a:1114111<n*16+(c:Int)
       ·have j:=Lh (show bQ true 0 s=bQ true (-1) (s.drop (i+1)) by
         rw [l.o,p.o.1,p.o.2,aT rfl,aT o];rw [aT (by simpa using a)])
        revert K;refine vg ?_;intro K hK;refine Kk [0,4,5,20,21] fun f=>?_;exact q.o _ _ ⟨s.length-(i+1),by rw [B.o];omega,A.o _ _ _ ⟨f,i+1,-1,rfl,rfl,rfl,d,by omega,by omega,j.o⟩⟩
       ·have j:=Lh (show bQ true 0 s=bQ true (n*16+(c:Int)) (s.drop (i+1)) by
         rw [l.o,p.o.1,p.o.2,aT rfl,aT o];rw [aM (by simpa using a)];simp)
        revert K;refine vg ?_;intro K hK;refine Kk [0,4,5,20,21] fun f=>?_;exact q.o _ _ ⟨s.length-(i+1),by rw [B.o];omega,A.o _ _ _ ⟨f,i+1,n*16+(c:Int),rfl,rfl,rfl,d,by omega,by omega,j.o⟩⟩
      ·have x:¬ 1114111<n:=by omega
       have j:=Lh (show bQ true 0 s=bQ true n (s.drop (i+1)) by
        rw [l.o,p.o.1,p.o.2,aT rfl,aM o,aM x])
       revert K;refine vg ?_;intro K hK;refine Kk [0,4,5,20,21] fun f=>?_;exact q.o _ _ ⟨s.length-(i+1),by rw [B.o];omega,A.o _ _ _ ⟨f,i+1,n,rfl,rfl,rfl,d,v.o,g.o,j.o⟩⟩
     ·have wc:IntKind.i64.wrap ((b.toNat:Int)-55)=((b.toNat-55:Nat):Int):=by rw [IntKind.wrap_i64];omega
      obtain ⟨c,m⟩:∃ c:Nat,c=b.toNat-55:=⟨_,rfl⟩;have P:c≤15:=by omega
      have p:=Lh (show eW true b=true∧dW b=c from ⟨g3,g4.trans m.symm⟩);rw [←m] at wc;first|have:(48:Int)≤(b.toNat:Int):=by omega|have:¬ ((48:Int)≤(b.toNat:Int)):=by omega
      first|have:(b.toNat:Int)≤57:=by omega|have:¬ ((b.toNat:Int)≤57):=by omega
      first|have:(97:Int)≤(b.toNat:Int):=by omega|have:¬ ((97:Int)≤(b.toNat:Int)):=by omega
      first|have:(b.toNat:Int)≤102:=by omega|have:¬ ((b.toNat:Int)≤102):=by omega
      first|have:(65:Int)≤(b.toNat:Int):=by omega|have:¬ ((65:Int)≤(b.toNat:Int)):=by omega
      first|have:(b.toNat:Int)≤70:=by omega|have:¬ ((b.toNat:Int)≤70):=by omega
      clear g3 g4 m;by_cases o:0≤n
      ·have wm:IntKind.i64.wrap (n*16)=n*16:=by rw [IntKind.wrap_i64];have:=g.o;omega
       have wa:IntKind.i64.wrap (n*16+(c:Int))=n*16+(c:Int):=by rw [IntKind.wrap_i64];have:=g.o;omega
       by_cases a:1114111<n*16+(c:Int)
       ·have j:=Lh (show bQ true 0 s=bQ true (-1) (s.drop (i+1)) by
         rw [l.o,p.o.1,p.o.2,aT rfl,aT o];rw [aT (by simpa using a)])
        revert K;refine vg ?_;intro K hK;refine Kk [0,4,5,20,21] fun f=>?_;exact q.o _ _ ⟨s.length-(i+1),by rw [B.o];omega,A.o _ _ _ ⟨f,i+1,-1,rfl,rfl,rfl,d,by omega,by omega,j.o⟩⟩
       ·have j:=Lh (show bQ true 0 s=bQ true (n*16+(c:Int)) (s.drop (i+1)) by
         rw [l.o,p.o.1,p.o.2,aT rfl,aT o];rw [aM (by simpa using a)];simp)
        revert K;refine vg ?_;intro K hK;refine Kk [0,4,5,20,21] fun f=>?_;exact q.o _ _ ⟨s.length-(i+1),by rw [B.o];omega,A.o _ _ _ ⟨f,i+1,n*16+(c:Int),rfl,rfl,rfl,d,by omega,by omega,j.o⟩⟩
      ·have x:¬ 1114111<n:=by omega
       have j:=Lh (show bQ true 0 s=bQ true n (s.drop (i+1)) by
        rw [l.o,p.o.1,p.o.2,aT rfl,aM o,aM x])
       revert K;refine vg ?_;intro K hK;refine Kk [0,4,5,20,21] fun f=>?_;exact q.o _ _ ⟨s.length-(i+1),by rw [B.o];omega,A.o _ _ _ ⟨f,i+1,n,rfl,rfl,rfl,d,v.o,g.o,j.o⟩⟩
     ·have j:=Lh (show bQ true 0 s=none by rw [l.o,g4];rfl);clear g4;have R:b.toNat<48∨(57<b.toNat∧b.toNat<65)∨(65≤b.toNat∧b.toNat≤70)∨(70<b.toNat∧b.toNat<97)∨(97≤b.toNat∧b.toNat≤102)∨102<b.toNat:=by omega
      simp only [true_and,false_and,not_false_eq_true,rQ] at g2 g3;rcases R with D|D|D|D|D|D
      all_goals first|(exfalso;omega)|(
       first|have:(48:Int)≤(b.toNat:Int):=by omega|have:¬ ((48:Int)≤(b.toNat:Int)):=by omega
       first|have:(b.toNat:Int)≤57:=by omega|have:¬ ((b.toNat:Int)≤57):=by omega
       first|have:(97:Int)≤(b.toNat:Int):=by omega|have:¬ ((97:Int)≤(b.toNat:Int)):=by omega
       first|have:(b.toNat:Int)≤102:=by omega|have:¬ ((b.toNat:Int)≤102):=by omega
       first|have:(65:Int)≤(b.toNat:Int):=by omega|have:¬ ((65:Int)≤(b.toNat:Int)):=by omega
       first|have:(b.toNat:Int)≤70:=by omega|have:¬ ((b.toNat:Int)≤70):=by omega
       revert K;refine vg ?_;intro K hK K hK K hK;refine jV ?_;refine ⟨?_,_,rfl⟩;rw [M.o,j.o];rfl)
    ·have Q:i=s.length:=by omega
     subst Q;have t1:¬ ((s.length:Int)<(s.length:Int)):=by omega
     have j:=Lh (show bQ true 0 s=some n by rw [r.o,List.drop_length];rfl);revert K;refine vg ?_;refine jV ?_;refine ⟨?_,_,rfl⟩;rw [M.o,j.o];exact ⟨rfl,v.o,g.o⟩
  ·have Y:((b.toNat:Int)==120)=false:=nM z;have z3:(0:Int)<(((b::t:Bs).length:Nat):Int):=by simp
   obtain ⟨s,C⟩:∃ s:Bs,s=b::t:=⟨_,rfl⟩;have Z:s.isEmpty=false:=by rw [C];rfl
   have L:=Lh (show s.length≤1000000000 by rw [C];exact W.o);have M:=Lh (show iE (b::t)=bQ false 0 s by rw [C];unfold iE;simp only [aM z]);rw [←C] at S z3 ⊢;have z4:0<s.length:=by omega
   rw [C] at M;rw [←C] at M;clear C z W;refine vg ?_;intro K hK;refine cM [0,4,5,20,21] fun f=>?_;refine wp_loop_ghost_k (VL false s w) s.length ⟨f,0,0,rfl,rfl,rfl,kW _,by omega,by omega,rfl⟩ ?_;rintro k _ _ ⟨f,i,n,rfl,rfl,V,hi,F,G,u⟩ J K2 T E;have ⟨A,q,B,r,v,g⟩:=iD T E V u F G;clear T E V u F G;simp only [rQ,if_false];by_cases d:i<s.length
   ·have t0:(0:Int)≤(i:Int):=by omega
    have t1:(i:Int)<(s.length:Int):=by omega
    have wi:IntKind.i64.wrap ((i:Int)+1)=((i+1:Nat):Int):=by rw [IntKind.wrap_i64];have h2:=L.o;omega
    have y:=ET false n s i d;obtain ⟨b,O⟩:=cR (s.getD i 0);have ix:∀ h,(⟨s.toArray⟩:ByteArray)[i]'h=b:=by rw [O];exact iP s i d
    rw [←O] at y;have l:=Lh (r.o.trans y);have X:=b.toNat_lt;have wb:IntKind.i64.wrap (b.toNat:Int)=(b.toNat:Int):=by rw [IntKind.wrap_i64];omega
    clear O y;rcases A7 false b with ⟨g1,g2,g3,g4⟩|⟨g0,g1,g2,g3,g4⟩|⟨g0,g1,g2,g3,g4⟩|⟨g1,g2,g3,g4⟩
    ·have wc:IntKind.i64.wrap ((b.toNat:Int)-48)=((b.toNat-48:Nat):Int):=by rw [IntKind.wrap_i64];omega
     obtain ⟨c,m⟩:∃ c:Nat,c=b.toNat-48:=⟨_,rfl⟩;have P:c≤15:=by omega
     have p:=Lh (show eW false b=true∧dW b=c from ⟨g3,g4.trans m.symm⟩);rw [←m] at wc;first|have:(48:Int)≤(b.toNat:Int):=by omega|have:¬ ((48:Int)≤(b.toNat:Int)):=by omega
     first|have:(b.toNat:Int)≤57:=by omega|have:¬ ((b.toNat:Int)≤57):=by omega
     first|have:(97:Int)≤(b.toNat:Int):=by omega|have:¬ ((97:Int)≤(b.toNat:Int)):=by omega
     first|have:(b.toNat:Int)≤102:=by omega|have:¬ ((b.toNat:Int)≤102):=by omega
     first|have:(65:Int)≤(b.toNat:Int):=by omega|have:¬ ((65:Int)≤(b.toNat:Int)):=by omega
     first|have:(b.toNat:Int)≤70:=by omega|have:¬ ((b.toNat:Int)≤70):=by omega
     clear g3 g4 m;by_cases o:0≤n
     ·have wm:IntKind.i64.wrap (n*10)=n*10:=by rw [IntKind.wrap_i64];have:=g.o;omega
      have wa:IntKind.i64.wrap (n*10+(c:Int))=n*10+(c:Int):=by rw [IntKind.wrap_i64];have:=g.o;omega
      by_cases a:1114111<n*10+(c:Int)
      ·have j:=Lh (show bQ false 0 s=bQ false (-1) (s.drop (i+1)) by
        rw [l.o,p.o.1,p.o.2,aT rfl,aT o];rw [aT (by simpa using a)])
       revert K;refine vg ?_;intro K hK;refine Kk [0,4,5,20,21] fun f=>?_;exact q.o _ _ ⟨s.length-(i+1),by rw [B.o];omega,A.o _ _ _ ⟨f,i+1,-1,rfl,rfl,rfl,d,by omega,by omega,j.o⟩⟩
      ·have j:=Lh (show bQ false 0 s=bQ false (n*10+(c:Int)) (s.drop (i+1)) by
        rw [l.o,p.o.1,p.o.2,aT rfl,aT o];rw [aM (by simpa using a)];simp)
       revert K;refine vg ?_;intro K hK;refine Kk [0,4,5,20,21] fun f=>?_;exact q.o _ _ ⟨s.length-(i+1),by rw [B.o];omega,A.o _ _ _ ⟨f,i+1,n*10+(c:Int),rfl,rfl,rfl,d,by omega,by omega,j.o⟩⟩
     ·have x:¬ 1114111<n:=by omega
      have j:=Lh (show bQ false 0 s=bQ false n (s.drop (i+1)) by
       rw [l.o,p.o.1,p.o.2,aT rfl,aM o,aM x])
      revert K;refine vg ?_;intro K hK;refine Kk [0,4,5,20,21] fun f=>?_;exact q.o _ _ ⟨s.length-(i+1),by rw [B.o];omega,A.o _ _ _ ⟨f,i+1,n,rfl,rfl,rfl,d,v.o,g.o,j.o⟩⟩
    ·exact Bool.noConfusion g0
    ·exact Bool.noConfusion g0
    ·have j:=Lh (show bQ false 0 s=none by rw [l.o,g4];rfl);clear g4;have R:b.toNat<48∨(57<b.toNat∧b.toNat<65)∨(65≤b.toNat∧b.toNat≤70)∨(70<b.toNat∧b.toNat<97)∨(97≤b.toNat∧b.toNat≤102)∨102<b.toNat:=by omega
     simp only [true_and,false_and,not_false_eq_true,rQ] at g2 g3;rcases R with D|D|D|D|D|D
     all_goals first|(exfalso;omega)|(
      first|have:(48:Int)≤(b.toNat:Int):=by omega|have:¬ ((48:Int)≤(b.toNat:Int)):=by omega
      first|have:(b.toNat:Int)≤57:=by omega|have:¬ ((b.toNat:Int)≤57):=by omega
      first|have:(97:Int)≤(b.toNat:Int):=by omega|have:¬ ((97:Int)≤(b.toNat:Int)):=by omega
      first|have:(b.toNat:Int)≤102:=by omega|have:¬ ((b.toNat:Int)≤102):=by omega
      first|have:(65:Int)≤(b.toNat:Int):=by omega|have:¬ ((65:Int)≤(b.toNat:Int)):=by omega
      first|have:(b.toNat:Int)≤70:=by omega|have:¬ ((b.toNat:Int)≤70):=by omega
      revert K;refine vg ?_;intro K hK K hK K hK;refine jV ?_;refine ⟨?_,0,rfl⟩;rw [M.o,j.o];rfl)
   ·have Q:i=s.length:=by omega
    subst Q;have t1:¬ ((s.length:Int)<(s.length:Int)):=by omega
    have j:=Lh (show bQ false 0 s=some n by rw [r.o,List.drop_length];rfl);revert K;refine vg ?_;refine jV ?_;refine ⟨?_,0,rfl⟩;rw [M.o,j.o];exact ⟨rfl,v.o,g.o⟩
theorem TX (n:Nat) (h:bY n=true):Utf8.valid (n:Int)=true:=by
 unfold bY at h;unfold Utf8.valid;simp only [Bool.or_eq_true,FO,IN,beq_iff_eq] at h ⊢;omega
theorem wR (w:World) (l:Bs) (k:Nat) (c:k=l.length):(convert 81 9 (.slice (some ⟨w.heap.size,0,none⟩) k k)).run prog (w.alloc (.cells (l.map fun b=>Value.int .u8 b.toNat).toArray 5))=.ok (aB l) (w.alloc (.cells (l.map fun b=>Value.int .u8 b.toNat).toArray 5)):=by
 subst c;refine mT l _ w.heap.size 0 l.length (fun j a=>?_);rw [Nat.zero_add,(aJ.new w _ _).cell];simp [rI,a]
theorem TY (p y:Int) (i:Nat) (b:0≤p) (c:p % 2 ^ i=0) (d:p<1000) (e:0≤y) (a:y<2 ^ i) (f:y<1000):bits .or .i64 p y=p+y:=
 bits_join .i64 60 (by decide) jQ i p y b c (by omega) e a (by omega)
theorem L2 (y:Int) (a:0≤y) (b:y<2000000):bits .and .i64 y 63=y % 64:=bits_mask .i64 60 (by decide) jQ 6 (by decide) y a (by omega)
theorem rZ (y:Int) (n:Nat) (h:y=n) (a:n<256):IntKind.u8.wrap y=((UInt8.ofNat n).toNat:Int):=by
 subst h;rw [IntKind.wrap_u8];simp
theorem P4 (n:Nat) (h:bY n=true) (w:World):Calls prog 113 #[.int .i64 n] w fun e w'=>e=.returned (aB (gH n))∧aK (fun _=>False) w w':=by
 have u:=TX n h;have H:n≤1114111:=by
  unfold bY at h;simp only [Bool.or_eq_true,FO,IN,beq_iff_eq] at h;omega
 have k:gH n=if n<0x80 then [UInt8.ofNat n] else if n<0x800 then [UInt8.ofNat (0xC0+n / 64),UInt8.ofNat (0x80+n % 64)]
   else if n<0x10000 then [UInt8.ofNat (0xE0+n / 4096),UInt8.ofNat (0x80+n / 64 % 64),UInt8.ofNat (0x80+n % 64)]
   else [UInt8.ofNat (0xF0+n / 262144),UInt8.ofNat (0x80+n / 4096 % 64),UInt8.ofNat (0x80+n / 64 % 64),UInt8.ofNat (0x80+n % 64)]:=by
  unfold gH Utf8.encode;rw [u];simp only [if_true,Int.toNat_natCast];split
  ·rfl
  ·split
   ·rfl
   ·split<;>rfl
 have i:=Lh k;clear k u h;refine eT 61 func113 [_] fun f=>?_;simp only [aF];by_cases o:n<128
 ·have B:(n:Int)<128:=by omega
  have b:=Lh (show gH n=[UInt8.ofNat (n)] by rw [i.o,aT o]);have b0:=rZ ((n:Int)) (n) (by omega) (by omega);obtain ⟨j,a⟩:∃ y:UInt8,y=UInt8.ofNat (n):=⟨_,rfl⟩;rw [←a] at b0 b;clear a;have d:=wR w [j] 1 rfl;simp only [List.map_cons,List.map_nil] at d;refine vg ?_;intro K hK;refine cX ?_;exact ⟨by rw [b.o],(aK.refl _ w).alloc _⟩
 have B:¬ (n:Int)<128:=by omega
 by_cases q:n<2048
 ·have C:(n:Int)<2048:=by omega
  have b:=Lh (show gH n=[UInt8.ofNat (0xC0+n / 64),UInt8.ofNat (0x80+n % 64)] by rw [i.o,aM o,aT q]);have v:bits .or .i64 192 ((n:Int) / 64)=192+(n:Int) / 64:=TY _ _ 5 (by decide) (by decide) (by decide) (by omega) (by omega) (by omega);have s:bits .and .i64 (n:Int) 63=(n:Int) % 64:=L2 _ (by omega) (by omega);have x:bits .or .i64 128 ((n:Int) % 64)=128+(n:Int) % 64:=TY _ _ 6 (by decide) (by decide) (by decide) (by omega) (by omega) (by omega);have b0:=rZ (192+(n:Int) / 64) (0xC0+n / 64) (by omega) (by omega);have b1:=rZ (128+(n:Int) % 64) (0x80+n % 64) (by omega) (by omega);obtain ⟨j,a⟩:∃ y:UInt8,y=UInt8.ofNat (0xC0+n / 64):=⟨_,rfl⟩;rw [←a] at b0 b;obtain ⟨m,c⟩:∃ y:UInt8,y=UInt8.ofNat (0x80+n % 64):=⟨_,rfl⟩;rw [←c] at b1 b;clear a c;have d:=wR w [j,m] 2 rfl;simp only [List.map_cons,List.map_nil] at d;refine vg ?_;intro K hK;refine cX ?_;exact ⟨by rw [b.o],(aK.refl _ w).alloc _⟩
 have C:¬ (n:Int)<2048:=by omega
 by_cases t:n<65536
 ·have D:(n:Int)<65536:=by omega
  have b:=Lh (show gH n=[UInt8.ofNat (0xE0+n / 4096),UInt8.ofNat (0x80+n / 64 % 64),UInt8.ofNat (0x80+n % 64)] by rw [i.o,aM o,aM q,aT t]);have v:bits .or .i64 224 ((n:Int) / 4096)=224+(n:Int) / 4096:=TY _ _ 4 (by decide) (by decide) (by decide) (by omega) (by omega) (by omega);have z:bits .and .i64 ((n:Int) / 64) 63=(n:Int) / 64 % 64:=L2 _ (by omega) (by omega);have E:bits .or .i64 128 ((n:Int) / 64 % 64)=128+(n:Int) / 64 % 64:=TY _ _ 6 (by decide) (by decide) (by decide) (by omega) (by omega) (by omega);have s:bits .and .i64 (n:Int) 63=(n:Int) % 64:=L2 _ (by omega) (by omega);have x:bits .or .i64 128 ((n:Int) % 64)=128+(n:Int) % 64:=TY _ _ 6 (by decide) (by decide) (by decide) (by omega) (by omega) (by omega);have b0:=rZ (224+(n:Int) / 4096) (0xE0+n / 4096) (by omega) (by omega);have b1:=rZ (128+(n:Int) / 64 % 64) (0x80+n / 64 % 64) (by omega) (by omega);have p:=rZ (128+(n:Int) % 64) (0x80+n % 64) (by omega) (by omega);obtain ⟨j,a⟩:∃ y:UInt8,y=UInt8.ofNat (0xE0+n / 4096):=⟨_,rfl⟩;rw [←a] at b0 b;obtain ⟨m,c⟩:∃ y:UInt8,y=UInt8.ofNat (0x80+n / 64 % 64):=⟨_,rfl⟩;rw [←c] at b1 b;obtain ⟨r,g⟩:∃ y:UInt8,y=UInt8.ofNat (0x80+n % 64):=⟨_,rfl⟩;rw [←g] at p b;clear a c g;have d:=wR w [j,m,r] 3 rfl;simp only [List.map_cons,List.map_nil] at d;refine vg ?_;intro K hK;refine cX ?_;exact ⟨by rw [b.o],(aK.refl _ w).alloc _⟩
 have D:¬ (n:Int)<65536:=by omega
 have b:=Lh (show gH n=[UInt8.ofNat (0xF0+n / 262144),UInt8.ofNat (0x80+n / 4096 % 64),UInt8.ofNat (0x80+n / 64 % 64),UInt8.ofNat (0x80+n % 64)] by rw [i.o,aM o,aM q,aM t]);have v:bits .or .i64 240 ((n:Int) / 262144)=240+(n:Int) / 262144:=TY _ _ 3 (by decide) (by decide) (by decide) (by omega) (by omega) (by omega);have z:bits .and .i64 ((n:Int) / 4096) 63=(n:Int) / 4096 % 64:=L2 _ (by omega) (by omega);have E:bits .or .i64 128 ((n:Int) / 4096 % 64)=128+(n:Int) / 4096 % 64:=TY _ _ 6 (by decide) (by decide) (by decide) (by omega) (by omega) (by omega);have G:bits .and .i64 ((n:Int) / 64) 63=(n:Int) / 64 % 64:=L2 _ (by omega) (by omega);have I:bits .or .i64 128 ((n:Int) / 64 % 64)=128+(n:Int) / 64 % 64:=TY _ _ 6 (by decide) (by decide) (by decide) (by omega) (by omega) (by omega);have s:bits .and .i64 (n:Int) 63=(n:Int) % 64:=L2 _ (by omega) (by omega);have x:bits .or .i64 128 ((n:Int) % 64)=128+(n:Int) % 64:=TY _ _ 6 (by decide) (by decide) (by decide) (by omega) (by omega) (by omega);have b0:=rZ (240+(n:Int) / 262144) (0xF0+n / 262144) (by omega) (by omega);have b1:=rZ (128+(n:Int) / 4096 % 64) (0x80+n / 4096 % 64) (by omega) (by omega);have p:=rZ (128+(n:Int) / 64 % 64) (0x80+n / 64 % 64) (by omega) (by omega);have A:=rZ (128+(n:Int) % 64) (0x80+n % 64) (by omega) (by omega);obtain ⟨j,a⟩:∃ y:UInt8,y=UInt8.ofNat (0xF0+n / 262144):=⟨_,rfl⟩;rw [←a] at b0 b;obtain ⟨m,c⟩:∃ y:UInt8,y=UInt8.ofNat (0x80+n / 4096 % 64):=⟨_,rfl⟩;rw [←c] at b1 b;obtain ⟨r,g⟩:∃ y:UInt8,y=UInt8.ofNat (0x80+n / 64 % 64):=⟨_,rfl⟩;rw [←g] at p b;obtain ⟨F,l⟩:∃ y:UInt8,y=UInt8.ofNat (0x80+n % 64):=⟨_,rfl⟩;rw [←l] at A b;clear a c g l;have d:=wR w [j,m,r,F] 4 rfl;simp only [List.map_cons,List.map_nil] at d;refine vg ?_;refine cX ?_;exact ⟨by rw [b.o],(aK.refl _ w).alloc _⟩
end Go.Proofs.YthapcchcahnfaaaGreatDoor
