/- Part of the proof that laws.FnSkip returns true for every argument. No conditions. -/
import Derived.Test.YthapcchcahnfaaaGreatDoorS15
import Derived.Test.YthapcchcahnfaaaGreatDoorS14
import Derived.Test.YthapcchcahnfaaaGreatDoorS17
import Derived.Test.YthapcchcahnfaaaGreatDoorS19
import Derived.Test.YthapcchcahnfaaaGreatDoorS16
set_option linter.all false
set_option maxHeartbeats 8000000
set_option maxRecDepth 100000
namespace Go.Proofs.YthapcchcahnfaaaGreatDoor
open Go Go.RowKit Go.Proofs.Tryz
theorem vI (r:Nat) (w:World):Calls prog 92 #[.int .i64 r] w fun e w'=>e=.returned (.bool (lJ r))∧w'=w:=by
 have d:r<45∨r=45∨r=46∨r=47∨(48≤r∧r≤57)∨(57<r∧r<183)∨r=183∨183<r:=by omega
 have c:=Lh (fun w=>DA r w);have b:=Lh (show lJ r=(rJ r||(decide (48≤r)&&decide (r≤57))||r==45||r==46||r==183) from rfl);refine eL 25 func92 [_] fun f=>?_;simp only [aF];refine vg ?_;intro K hK K hK;refine (c.o _).mono ?_;rintro g w1 ⟨rfl,rfl⟩;cases a:rJ r with
 | true=>
  (repeat revert K);refine vS ?_;refine cM ?_;refine ⟨?_,rfl⟩;rw [b.o,a];rfl
 | false=>
  rw [a] at b;rcases d with h|h|h|h|h|h|h|h
  all_goals
   first|have:(48:Int)≤(r:Int):=by omega|have:¬ ((48:Int)≤(r:Int)):=by omega
   first|have:(r:Int)≤57:=by omega|have:¬ ((r:Int)≤57):=by omega
   first|have:(((r:Int))==(45))=true:=by (simp;omega)|have:(((r:Int))==(45))=false:=by (simp;omega)
   first|have:(((r:Int))==(46))=true:=by (simp;omega)|have:(((r:Int))==(46))=false:=by (simp;omega)
   first|have:(((r:Int))==(183))=true:=by (simp;omega)|have:(((r:Int))==(183))=false:=by (simp;omega)
   have H:=Lh h;clear h;(repeat revert K);refine vS ?_;refine cM ?_;refine ⟨?_,rfl⟩
   congr 2
   rw [b.o];have h:=H.o;clear H b;simp;omega
theorem uM (b:UInt8) (w:World):Calls prog 90 #[.int .u8 b.toNat] w fun e w'=>e=.returned (.bool (l6 b))∧w'=w:=by
 have a:b=32∨b=9∨b=10∨b=13∨(b≠32∧b≠9∧b≠10∧b≠13):=by
  by_cases c:b=32
  ·exact aG c
  ·by_cases d:b=9
   ·exact aU (aG d)
   ·by_cases g:b=10
    ·exact aU (aU (aG g))
    ·by_cases h:b=13
     ·exact aU (aU (aU (aG h)))
     ·exact aU (aU (aU (aU ⟨c,d,g,h⟩)))
 rcases a with rfl|rfl|rfl|rfl|⟨c,d,g,h⟩
 ·refine eL 17 func90 [_] fun f=>?_;simp only [aF];refine vg ?_;refine cM ?_;exact ⟨rfl,rfl⟩
 ·refine eL 17 func90 [_] fun f=>?_;simp only [aF];refine vg ?_;refine cM ?_;exact ⟨rfl,rfl⟩
 ·refine eL 17 func90 [_] fun f=>?_;simp only [aF];refine vg ?_;refine cM ?_;exact ⟨rfl,rfl⟩
 ·refine eL 17 func90 [_] fun f=>?_;simp only [aF];refine vg ?_;refine cM ?_;exact ⟨rfl,rfl⟩
 ·have l:=Lh (show l6 b=false by simp [l6,c,d,g,h]);have i:∀ k:UInt8,b≠k→((b.toNat:Int)==(k.toNat:Int))=false:=fun k j=>by
   rw [lQ];intro q;exact j (UInt8.toNat_inj.1 (by omega))
  have m:((b.toNat:Int)==32)=false:=i 32 c;have n:((b.toNat:Int)==9)=false:=i 9 d;have o:((b.toNat:Int)==10)=false:=i 10 g;have p:((b.toNat:Int)==13)=false:=i 13 h;clear i c d g h;refine eL 17 func90 [_] fun f=>?_;simp only [aF];refine vg ?_;refine cM ?_;exact ⟨by rw [l.o],rfl⟩
theorem S9 (T:Bs) (a:Nat) (b:a<T.length) (h:l6 (T.getD a 0)=true):aT (T.drop a)=aT (T.drop (a+1)):=by
 rw [CN b];conv=>lhs;unfold aT
 rw [aY];simpa [rF,b] using h
theorem TA (T:Bs) (a:Nat) (b:a<T.length) (h:l6 (T.getD a 0)=false):aT (T.drop a)=T.drop a:=by
 rw [CN b];conv=>lhs;unfold aT
 rw [aQ];rw [Bool.not_eq_true];simpa [rF,b] using h
def WQ (x:PX) (c:PC) (w0:World) (k:Nat) (b:Act) (w:World):Prop:=
 ∃ f a,b=fr 36 f [(0,iU x),(3,.int .i64 (c.at':Nat))]∧aV x w { c with at':=a }∧aJ (fun k=>k=x.p) w0 w∧k=x.T.length-a∧a≤x.T.length∧c.at'≤a∧aT (x.T.drop c.at')=aT (x.T.drop a)
theorem mL (x:PX) (E:x.T.length≤1000000000) (w:World) (c:PC) (h:aV x w c) (F:c.at'≤x.T.length):Calls prog 50 #[iU x] w fun e w'=>∃ a:Nat,e=.returned (.bool (decide ((c.at':Int)<(a:Int))))∧aV x w' { c with at':=a }∧aJ (fun k=>k=x.p) w w'∧a≤x.T.length∧c.at'≤a∧aT (x.T.drop c.at')=x.T.drop a:=by
 have z:=h.cell;have A:=h.frozen;have ⟨H,P,M⟩:=kV h E F;clear h E F;refine eL 36 func50 [_] fun f=>?_;simp only [aF];refine vg ?_;intro K hK;refine cG [0,3] fun f=>?_;refine wp_loop_ghost_k (WQ x c w) (x.T.length-c.at') ⟨f,c.at',rfl,H.o,aJ.refl _ w,rfl,M.o,dF _,rfl⟩ ?_;clear z A;rintro k _ L ⟨f,a,rfl,B,I,G,r,q,d⟩ J W D o;have ⟨N,t,j,u,O,n⟩:=gT D o B I G r;have ⟨i,l⟩:=cB q d;have C:=Lh (fun U=>sU x (L.drewN U) { c with at':=a } B);clear D o B I G r q d;by_cases g:a<x.T.length
 ·have R:decide (x.T.length≤a)=false:=by rw [decide_eq_false_iff_not];omega
  obtain ⟨b,y⟩:=cK (x.T.getD a 0);have m:=Lh y;have Y:∀ h,(⟨x.T.toArray⟩:ByteArray)[a]'h=b:=fun h=>by
   rw [y];show x.T.toArray[a]=_;simp [rF,g]
  have Z:(0:Int)≤(a:Int):=by omega
  have t1:(a:Int)<(x.T.length:Int):=by omega
  have s:=Lh (fun w=>uM b w);clear y;revert K;refine vg ?_;intro K hK K hK K hK;(refine lD [0,2,0,0,0,0,0,1,0,0,0,1,0,2,0] [0,1,2,3,4,5,6,7,8,9,10,11,12,13,14] ?_;refine vP ?_;repeat with_reducible intro nq)
  refine bI rfl rfl (fun nq K hK=>?_);go_simp;refine (C.o _).mono ?_;rintro Q V ⟨rfl,T,rfl⟩;have z:=j.o.cell;have A:=j.o.frozen;go_simp;refine hK.out _ _ ?_;clear hK K;(refine vP ?_;repeat with_reducible intro nq)
  refine bI rfl rfl (fun nq K hK=>?_);go_simp;refine (s.o _).mono ?_;rintro X w4 ⟨rfl,rfl⟩;go_simp;refine hK.out _ _ ?_;clear hK K;(refine vP ?_;repeat with_reducible intro nq)
  cases d:l6 b with
  | true=>
   have v:=Lh d;(repeat revert K);refine vg ?_;intro K hK;refine Kk [0,3] fun f=>?_;have w1:IntKind.i64.wrap ((a:Int)+1)=((a+1:Nat):Int):=by rw [IntKind.wrap_i64];have:=P.o;omega
   rw [w1];refine t.o _ _ ⟨x.T.length-(a+1),by rw [O.o];omega,N.o _ _ _ ⟨f,a+1,rfl,?_,aJ.setCell (S:=fun k=>k=x.p) (u.o.drewN _) (p:=⟨x.p,1,none⟩) (aG rfl) _,rfl,g,by have:=i.o;omega,l.o.trans (S9 x.T a g (by rw [←m.o];exact v.o))⟩⟩;exact aL.set (w:=L.drewN _) (cs:=fN x { c with at':=a }) j.o 1 _
  | false=>
   have v:=Lh d;(repeat revert K);refine vg ?_;refine cM ?_;exact ⟨a,by simp,j.o,u.o.drewN _,n.o,i.o,l.o.trans (TA x.T a g (by rw [←m.o];exact v.o))⟩
 ·have R:decide (x.T.length≤a)=true:=by rw [decide_eq_true_iff];omega
  revert K;refine vg ?_;intro K hK K hK K hK;(refine lD [0,2,0,0,0,0,0,1,0,0,0,1,0,2,0] [0,1,2,3,4,5,6,7,8,9,10,11,12,13,14] ?_;refine vP ?_;repeat with_reducible intro nq)
  refine bI rfl rfl (fun nq K hK=>?_);go_simp;refine (C.o _).mono ?_;rintro Q V ⟨rfl,T,rfl⟩;go_simp;refine hK.out _ _ ?_;clear hK K;(refine vP ?_;repeat with_reducible intro nq)
  have z:=j.o.cell;have A:=j.o.frozen;(repeat revert K);refine vg ?_;refine cM ?_;exact ⟨a,by simp,j.o,u.o.drewN _,n.o,i.o,l.o.trans (by rw [tW (by omega)];rfl)⟩
theorem kP (T:Bs) (i j:Nat):(⟨T.toArray⟩:ByteArray).extract i j=⟨((T.drop i).take (j-i)).toArray⟩:=by
 apply ByteArray.ext
 rw [ByteArray.data_extract];simp [List.extract_eq_take_drop]
theorem TB (T:Bs) (a:Nat) (b:a<T.length) (h:cW (T.getD a 0)=true):aD (T.drop a)=(T.getD a 0::(aD (T.drop (a+1))).1,(aD (T.drop (a+1))).2):=by
 rw [CN b];have e:T[a]=T.getD a 0:=by simp [rF,b]
 rw [e];conv=>lhs;unfold aD
 rw [aY h]
theorem LN (T:Bs) (a:Nat) (h:a<T.length→cW (T.getD a 0)=false):aD (T.drop a)=([],T.drop a):=by
 by_cases b:a<T.length
 ·have e:T[a]=T.getD a 0:=by simp [rF,b]
  rw [CN b,e];conv=>lhs;unfold aD
  rw [aQ (by rw [h b];simp)]
 ·rw [tW (by omega)];rfl
theorem uN (T:Bs) (i a:Nat) (h:i≤a) (b:a<T.length):(T.drop i).take (a+1-i)=(T.drop i).take (a-i)++[T.getD a 0]:=by
 rw [show a+1-i=(a-i)+1 by omega,List.take_add_one,List.getElem?_drop,show i+(a-i)=a by omega,List.getElem?_eq_getElem b];simp [rF,b]
theorem iL (T:Bs) (a:Nat) (b:a<T.length):∀ h,(⟨T.toArray⟩:ByteArray)[a]'h=T.getD a 0:=fun h=>by
 show T.toArray[a]=_;simp [rF,b]
def UW (x:PX) (c:PC) (w0:World) (k:Nat) (b:Act) (w:World):Prop:=
 ∃ f a,b=fr 53 f [(0,iU x),(3,.int .i64 (c.at':Nat))]∧aV x w { c with at':=a }∧aJ (fun k=>k=x.p) w0 w∧k=x.T.length-a∧a≤x.T.length∧c.at'≤a∧aD (x.T.drop c.at')=((x.T.drop c.at').take (a-c.at')++(aD (x.T.drop a)).1,(aD (x.T.drop a)).2)
theorem ZD {b:UInt8} (h:128≤b.toNat):cW b=true:=by
 unfold cW;rw [Bool.or_eq_true];left;rw [IC];exact UInt8.le_iff_toNat_le.2 h
theorem B8 (x:PX) (X:x.T.length≤1000000000) (w:World) (c:PC) (h:aV x w c) (Y:c.at'≤x.T.length):Calls prog 52 #[iU x] w fun e w'=>∃ a:Nat,e=.returned (aB (aD (x.T.drop c.at')).1)∧aV x w' { c with at':=a }∧aJ (fun k=>k=x.p) w w'∧a≤x.T.length∧c.at'≤a∧(aD (x.T.drop c.at')).2=x.T.drop a:=by
 have F:=h.cell;have G:=h.frozen;have ⟨H,HT,HA⟩:=kV h X Y;clear h X Y;refine eL 53 func52 [_] fun f=>?_;simp only [aF];refine vg ?_;intro K hK;refine cG [0,3] fun f=>?_;refine wp_loop_ghost_k (UW x c w) (x.T.length-c.at') ⟨f,c.at',rfl,H.o,aJ.refl _ w,rfl,HA.o,dF _,by simp⟩ ?_;clear F G;rintro k _ R ⟨f,a,rfl,P,hm,Z,D,B,E⟩ J K2 W z;have ⟨T,u,m,g,U,M⟩:=gT W z P hm Z D;have ⟨r,v⟩:=cB B E;have L:=Lh (fun kk=>sU x (R.drewN kk) { c with at':=a } P);have z1:(0:Int)≤(c.at':Int):=by omega
 have z2:(c.at':Int)≤(a:Int):=by omega
 have z3:(a:Int)≤(x.T.length:Int):=by omega
 clear W z P hm Z D B E;have q:∀ (d:World) (l:aV x d { c with at':=a }) (j:aJ (fun k=>k=x.p) w d),(a<x.T.length→cW (x.T.getD a 0)=false)→∃ b:Nat,Ending.returned (aB ((x.T.drop c.at').take (a-c.at')))=.returned (aB (aD (x.T.drop c.at')).1)∧aV x d { c with at':=b }∧aJ (fun k=>k=x.p) w d∧b≤x.T.length∧c.at'≤b∧(aD (x.T.drop c.at')).2=x.T.drop b:=by
  intro d l j Q;have e:=v.o;rw [LN x.T a Q] at e;refine ⟨a,?_,l,j,M.o,r.o,by rw [e]⟩;rw [e];simp
 have n:=Lh q;clear q;by_cases i:a<x.T.length
 ·have he:decide (x.T.length≤a)=false:=by rw [decide_eq_false_iff_not];omega
  obtain ⟨b,N⟩:=cK (x.T.getD a 0);have ix:∀ h,(⟨x.T.toArray⟩:ByteArray)[a]'h=b:=by rw [N];exact iL x.T a i
  have s:=Lh N;have t0:(0:Int)≤(a:Int):=by omega
  have t1:(a:Int)<(x.T.length:Int):=by omega
  have I:=Lh (fun w=>vI b.toNat w);have aA:b.toNat≤255:=by have:=b.toNat_lt;omega
  have wb:IntKind.i64.wrap (b.toNat:Int)=(b.toNat:Int):=by rw [IntKind.wrap_i64];omega
  clear N;have w1:IntKind.i64.wrap ((a:Int)+1)=((a+1:Nat):Int):=by rw [IntKind.wrap_i64];have:=HT.o;omega
  have C:∀ (f:Nat→Value) (d:World) (l:aV x d { c with at':=a+1 }) (j:aJ (fun k=>k=x.p) w d),cW b=true→UW x c w (x.T.length-(a+1)) (fr 53 f [(0,iU x),(3,.int .i64 (c.at':Nat))]) d:=by
   intro f d l j O;refine ⟨f,a+1,rfl,l,j,rfl,i,by have:=r.o;omega,?_⟩;rw [v.o,TB x.T a i (by rw [←s.o];exact O),uN x.T c.at' a r.o i];simp
  have t:=Lh C;clear C;by_cases y:128≤b.toNat
  ·have hg:(128:Int)≤(b.toNat:Int):=by omega
   revert K;refine vg ?_;intro K hK K hK K hK;(refine lD [0,2,0,0,0,0,0,1,0,0,0,1,0,0,0,0,0,0,1,0,0,0,1,0,0,2,0,0] [0,1,2,3,4,5,6,7,8,9,10,11,12,13,14,15,16,17,18,19,20,21,22,23,24,25,26,27] ?_;refine vP ?_;repeat with_reducible intro nq)
   refine bI rfl rfl (fun nq K hK=>?_);go_simp;refine (L.o _).mono ?_;rintro V d ⟨rfl,k3,rfl⟩;have F:=m.o.cell;have G:=m.o.frozen;go_simp;refine hK.out _ _ ?_;clear hK K;(refine vP ?_;repeat with_reducible intro nq)
   (repeat revert K);refine vg ?_;intro K hK;refine Kk [0,3] fun f=>?_;exact u.o _ _ ⟨x.T.length-(a+1),by rw [U.o];omega,T.o _ _ _ (t.o f _ (aL.set (w:=R.drewN _) (cs:=fN x { c with at':=a }) m.o 1 _) (aJ.setCell (S:=fun k=>k=x.p) (g.o.drewN _) (p:=⟨x.p,1,none⟩) (aG rfl) _) (ZD y))⟩
  ·have hg:¬ (128:Int)≤(b.toNat:Int):=by omega
   have o:cW b=lJ b.toNat:=(AC (by omega)).symm;revert K;refine vg ?_;intro K hK K hK K hK;(refine lD [0,2,0,0,0,0,0,1,0,0,0,1,0,0,0,0,0,0,1,0,0,0,1,0,0,2,0,0] [0,1,2,3,4,5,6,7,8,9,10,11,12,13,14,15,16,17,18,19,20,21,22,23,24,25,26,27] ?_;refine vP ?_;repeat with_reducible intro nq)
   refine bI rfl rfl (fun nq K hK=>?_);go_simp;refine (L.o _).mono ?_;rintro V d ⟨rfl,k3,rfl⟩;have F:=m.o.cell;have G:=m.o.frozen;go_simp;refine hK.out _ _ ?_;clear hK K;(refine vP ?_;repeat with_reducible intro nq)
   refine bI rfl rfl (fun nq K hK=>?_);go_simp;refine (I.o _).mono ?_;rintro e4 w4 ⟨rfl,rfl⟩;go_simp;refine hK.out _ _ ?_;clear hK K;(refine vP ?_;repeat with_reducible intro nq)
   cases A:lJ b.toNat with
   | true=>
    (repeat revert K);refine vg ?_;intro K hK;refine Kk [0,3] fun f=>?_;exact u.o _ _ ⟨x.T.length-(a+1),by rw [U.o];omega,T.o _ _ _ (t.o f _ (aL.set (w:=R.drewN _) (cs:=fN x { c with at':=a }) m.o 1 _) (aJ.setCell (S:=fun k=>k=x.p) (g.o.drewN _) (p:=⟨x.p,1,none⟩) (aG rfl) _) (o.trans A))⟩
   | false=>
    (repeat revert K);refine vg ?_;intro K hK;(refine lD [0,0,0,1,0,0,0,0,1,0,0] [0,1,2,3,4,5,6,7,8,9,10] ?_;refine vP ?_;repeat with_reducible intro nq)
    revert K;refine vg ?_;refine cM ?_;rw [kP];exact n.o _ m.o ⟨g.o.os,g.o.tape,g.o.output,g.o.size,g.o.block⟩ (fun _=>by rw [←s.o,o];exact A)
 ·have he:decide (x.T.length≤a)=true:=by rw [decide_eq_true_iff];omega
  revert K;refine vg ?_;intro K hK K hK K hK;(refine lD [0,2,0,0,0,0,0,1,0,0,0,1,0,0,0,0,0,0,1,0,0,0,1,0,0,2,0,0] [0,1,2,3,4,5,6,7,8,9,10,11,12,13,14,15,16,17,18,19,20,21,22,23,24,25,26,27] ?_;refine vP ?_;repeat with_reducible intro nq)
  refine bI rfl rfl (fun nq K hK=>?_);go_simp;refine (L.o _).mono ?_;rintro V d ⟨rfl,k3,rfl⟩;go_simp;refine hK.out _ _ ?_;clear hK K;(refine vP ?_;repeat with_reducible intro nq)
  have F:=m.o.cell;have G:=m.o.frozen;(repeat revert K);refine vg ?_;intro K hK;(refine lD [0,0,0,1,0,0,0,0,1,0,0] [0,1,2,3,4,5,6,7,8,9,10] ?_;refine vP ?_;repeat with_reducible intro nq)
  revert K;refine vg ?_;refine cM ?_;rw [kP];exact n.o _ m.o ⟨g.o.os,g.o.tape,g.o.output,g.o.size,g.o.block⟩ (fun h=>absurd h i)
theorem tD (n:Nat) (w:World):Calls prog 59 #[.int .i64 n] w fun e w'=>e=.returned (.bool (bW n))∧w=w':=by
 have b:=Lh (u6 n);have a:n<9∨n=9∨n=10∨(11≤n∧n≤12)∨n=13∨(14≤n∧n≤31)∨(32≤n∧n≤55295)∨(55296≤n∧n≤57343)∨(57344≤n∧n≤65533)∨(65534≤n∧n≤65535)∨(65536≤n∧n≤1114111)∨1114112≤n:=by omega
 rcases a with h|h|h|h|h|h|h|h|h|h|h|h
 all_goals
  have c:=Lh h;first|have:(32:Int)≤(n:Int):=by omega|have:¬ ((32:Int)≤(n:Int)):=by omega
  first|have:(n:Int)≤55295:=by omega|have:¬ ((n:Int)≤55295):=by omega
  first|have:(57344:Int)≤(n:Int):=by omega|have:¬ ((57344:Int)≤(n:Int)):=by omega
  first|have:(n:Int)≤65533:=by omega|have:¬ ((n:Int)≤65533):=by omega
  first|have:(65536:Int)≤(n:Int):=by omega|have:¬ ((65536:Int)≤(n:Int)):=by omega
  first|have:(n:Int)≤1114111:=by omega|have:¬ ((n:Int)≤1114111):=by omega
  first|have:(((n:Int))==(9))=true:=by (simp;omega)|have:(((n:Int))==(9))=false:=by (simp;omega)
  first|have:(((n:Int))==(10))=true:=by (simp;omega)|have:(((n:Int))==(10))=false:=by (simp;omega)
  first|have:(((n:Int))==(13))=true:=by (simp;omega)|have:(((n:Int))==(13))=false:=by (simp;omega)
  clear h;go_enter func59,ntmps59
  go_wp2;go_ret
  refine ⟨?_,rfl⟩;have:=c.o
  first
   | (rw [show bW n=true from b.o.2 (by omega)];rfl)
   | (rw [show bW n=false from by
     rw [←Bool.not_eq_true];intro d;have:=b.o.1 d;omega];rfl)
theorem x7 (l:Bs):(aI l).1≤1114111:=by
 have:=BN l;unfold aI;split
 ·simp
 ·exact this
theorem lO (l:Bs) (h:l≠[]):(aI l).2≤l.length:=by
 have:=sZ l h;unfold aI;split
 ·simp
 ·exact this
theorem qM:∀ (k a:Nat) (l:Bs),l.length≤k→l.length≤a→cP k l=cP a l
 | 0,a,l,h,_=>by
  have:l=[]:=by cases l with
   | nil=>rfl
   | cons=>simp at h
  subst this;rw [fZ,fZ]
 | k+1,0,l,_,h=>by
  have:l=[]:=by cases l with
   | nil=>rfl
   | cons=>simp at h
  subst this;rw [fZ,fZ]
 | k+1,a+1,l,h,h'=>by
  by_cases b:l=[]
  ·subst b;rw [fZ,fZ]
  ·have c:=pS l b;have d:=sZ l b;have ih:=qM k a (l.drop (dB l).2) (by rw [eC];omega) (by rw [eC];omega);rw [cP,cP,ih]
theorem D9 (l:Bs) (h:l≠[]):bL l=(if (aI l).2=0 then false else if bW (aI l).1 then bL (l.drop (aI l).2) else false):=by
 have d:=pS l h;have e:=sZ l h;obtain ⟨k,c⟩:∃ k,l.length=k+1:=⟨l.length-1,by omega⟩;have b:bL l=(if (dB l).1=65533∧(dB l).2=1 then false else if bW (dB l).1 then bL (l.drop (dB l).2) else false):=by
  unfold bL;rw [c,cP,aQ h];rw [qM k (l.drop (dB l).2).length _ (by rw [eC];omega) (dF _)]
 rw [b];unfold aI;by_cases a:(dB l).1=65533∧(dB l).2=1
 ·rw [aY a,aY a];rfl
 ·simp only [aQ a];rw [aQ (show ¬ (dB l).2=0 by omega)]
theorem iM (l:Bs) (n:Nat):(⟨l.toArray⟩:ByteArray).extract n l.length=⟨(l.drop n).toArray⟩:=by
 have h:=sP ⟨l.toArray⟩ n;have a:(⟨l.toArray⟩:ByteArray).size=l.length:=by simp [ByteArray.size]
 rw [a] at h;apply ByteArray.ext
 apply Array.toList_inj.1
 rw [h]
def ZE (b:Bs) (w:World) (k:Nat) (a:Act) (w':World):Prop:=
 ∃ f l,a=fr 22 f [(0,aB l),(2,.bool false)]∧w=w'∧k=l.length∧bL b=bL l∧l.length≤4000000000
theorem EA (c:Bs) (h:c.length≤4000000000) (w:World):Calls prog 88 #[aB c] w fun e w'=>e=.returned (.bool (bL c))∧w=w':=by
 refine eL 22 func88 [_] fun f=>?_;simp only [aF];refine vg ?_;intro K hK;refine cG [0,2] fun f=>?_;refine wp_loop_ghost_k (ZE c w) c.length ⟨f,c,rfl,rfl,rfl,rfl,h⟩ ?_;rintro k _ _ ⟨f,l,rfl,rfl,x,u,y⟩ J G t g;have ⟨z,p,m,A⟩:=kS t g u x;clear t g u x h;by_cases a:l=[]
 ·subst a;revert K;refine vg ?_;refine cM ?_;refine ⟨?_,rfl⟩;rw [m.o];rfl
 ·have C:l.isEmpty=false:=by cases l with
   | nil=>exact absurd rfl a
   | cons=>rfl
  have o:=Lh (mB l a w);have q:=x7 l;have j:=lO l a;have d:=Lh (D9 l a);have B:=Lh a;clear a;obtain ⟨r,i⟩:=cK ((aI l).1);obtain ⟨n,b⟩:=cK ((aI l).2);rw [←i] at o q d;rw [←b] at o j d;clear i b;revert K;refine vg ?_;intro K hK K hK K hK;refine o.o.mono ?_;rintro e w' ⟨rfl,rfl⟩;clear o;by_cases b:n=0
  ·subst b;(repeat revert K);refine vS ?_;intro K hK K hK;refine cM ?_;refine ⟨?_,rfl⟩;rw [m.o,d.o,aY rfl]
  ·have D:((n:Int)==0)=false:=by simp;omega
   have v:=Lh (tD r w);(repeat revert K);refine vS ?_;intro K hK K hK K hK K hK;refine v.o.mono ?_;rintro e w' ⟨rfl,rfl⟩;clear v;cases i:bW r
   ·(repeat revert K);refine vS ?_;intro K hK K hK;refine cM ?_;refine ⟨?_,rfl⟩;rw [m.o,d.o,aQ b,i];rfl
   ·have E:(0:Int)≤(n:Int):=by omega
    have F:(n:Int)≤(l.length:Int):=by omega
    (repeat revert K);refine vS ?_;intro K hK;refine Kk [0,2] fun f=>?_;rw [iM];have s:(l.drop n).length<k:=by rw [eC,A.o];omega
    exact p.o _ _ ⟨(l.drop n).length,s,z.o _ _ _ ⟨f,l.drop n,rfl,rfl,rfl,by rw [m.o,d.o,aQ b,i,aY rfl],by rw [eC];omega⟩⟩
theorem TC (a:Bs) (b:a.length≤1000000000) (w:World):Calls prog 88 #[aB a] w fun e w'=>e=.returned (.bool (bL a))∧w=w':=EA a (by omega) w
theorem TD (m:Nat) (first:Bool) (k:Nat) (l:Bs) (b:l≠[]) (c:l.length≤m) :
  ∃ a,m=a+1∧gU m first k l=if (aI l).2=0∨(128≤(aI l).1∧lJ (aI l).1=false) then 2
   else if lJ (aI l).1=false∨(first=true∧rJ (aI l).1=false) then gU a false 1 (l.drop (aI l).2) else gU a false k (l.drop (aI l).2):=by
 have d:0<l.length:=by cases l with
  | nil=>exact absurd rfl b
  | cons=>simp
 obtain ⟨a,rfl⟩:∃ a,m=a+1:=⟨m-1,by omega⟩;refine ⟨a,rfl,?_⟩;conv=>lhs;unfold gU
 rw [aQ b]
def UX (l:Bs) (w0:World) (k:Nat) (b:Act) (w:World):Prop:=
 ∃ f i a m,b=fr 49 f [(0,aB l),(3,.int .i64 (a:Nat)),(4,.int .i64 (i:Nat))]∧w0=w∧k=l.length-i∧i≤l.length∧l.length-i≤m∧bH l=gU m (decide (i=0)) a (l.drop i)
theorem pB (l:Bs) (hl:l.length≤1000000000) (w:World):Calls prog 53 #[aB l] w fun e w'=>e=.returned (.int .i64 (bH l:Nat))∧w'=w:=by
 have HL:=Lh hl;clear hl;refine eL 49 func53 [_] fun f=>?_;simp only [aF];by_cases g:l=[]
 ·have D:l.isEmpty=true:=by rw [g];rfl
  have H:bH l=1:=by rw [g];rfl
  rw [H];subst g;clear H D;refine vg ?_;intro K hK;refine wp_loop_once ?_;revert K;refine vg ?_;refine cM ?_;exact ⟨rfl,rfl⟩
 have D:l.isEmpty=false:=by cases l with
  | nil=>exact absurd rfl g
  | cons=>rfl
 have Z:=Lh (show bH l=gU l.length true 0 l by unfold bH;rw [aQ g]);clear g;refine vg ?_;intro K hK;refine cG [0,3,4] fun f=>?_;refine wp_loop_ghost_k (UX l w) l.length ⟨f,0,0,l.length,rfl,rfl,rfl,jU _,dF _,Z.o⟩ ?_;rintro k _ _ ⟨f,i,F,m,rfl,rfl,hk,hi,hm,L⟩ J K2 hJ G;have ⟨B,q,HK,X,C⟩:=pM hJ G hk hm L;clear hJ G hk hm L Z D;by_cases aC:i<l.length
 ·have g:l.drop i≠[]:=fun u=>by have:=congrArg List.length u;simp at this;omega
  have t0:(0:Int)≤(i:Int):=by omega
  have t1:(i:Int)<(l.length:Int):=by omega
  have t2:(i:Int)≤(l.length:Int):=by omega
  have O:=Lh (mB (l.drop i) g w);have P:=Lh (x7 (l.drop i));have S:=Lh (lO (l.drop i) g);obtain ⟨m',I,M⟩:=TD m (decide (i=0)) F (l.drop i) g (by rw [eC];exact X.o);have s:=Lh (C.o.trans M);have Q:=Lh I;clear M I g C;obtain ⟨r,hr⟩:=cK ((aI (l.drop i)).1);obtain ⟨n,E⟩:=cK ((aI (l.drop i)).2);rw [←hr] at O P s;rw [←E] at O S s;clear hr E;revert K;refine vg ?_;intro K hK K hK K hK;rw [iM];refine O.o.mono ?_;rintro e w' ⟨rfl,rfl⟩;clear O;by_cases E:n=0
  ·subst E;(repeat revert K);refine vS ?_;intro K hK K hK;refine cM ?_;exact ⟨by rw [s.o,aY (aG rfl)];rfl,rfl⟩
  have a0:((n:Int)==0)=false:=by simp;omega
  have Y:=Lh E;clear E;have N:=Lh (fun w=>vI r w);have W:=Lh (fun w=>DA r w);have wi:IntKind.i64.wrap ((i:Int)+(n:Int))=((i+n:Nat):Int):=by rw [IntKind.wrap_i64];have U:=S.o;have h2:=HL.o;rw [eC] at U;omega
  have x:∀ (f:Nat→Value) (z:Nat),bH l=gU m' false z ((l.drop i).drop n)→∃ p,p<k∧UX l w p (fr 49 f [(0,aB l),(3,.int .i64 (z:Nat)),(4,.int .i64 ((i+n:Nat):Int))]) w:=by
   intro f z h;have U:=S.o;have h2:=X.o;have h3:=Q.o;have h4:=Y.o;have h5:=HK.o;rw [eC] at U;refine ⟨l.length-(i+n),by omega,f,i+n,z,m',rfl,rfl,rfl,by omega,by omega,?_⟩;rw [h,List.drop_drop,decide_eq_false (by omega)]
  have b:=Lh x;clear x;by_cases j:128≤r∧lJ r=false
  ·have g1:(128:Int)≤(r:Int):=by omega
   have R:=Lh j;have aA:=j.2;clear j;(repeat revert K);refine vS ?_;intro K hK K hK K hK K hK;refine (N.o _).mono ?_;rintro e w' ⟨rfl,rfl⟩;(repeat revert K);refine vS ?_;intro K hK K hK;refine cM ?_;exact ⟨by rw [s.o,aY (aU R.o)];rfl,rfl⟩
  have d:=Lh (s.o.trans (aQ (fun u=>u.elim (fun h=>Y.o h) j)));clear s;have y:r<128∨(128≤r∧lJ r=true):=by
   by_cases h:r<128
   ·exact aG h
   ·refine aU ⟨by omega,?_⟩;cases u:lJ r with
    | true=>rfl
    | false=>exact absurd ⟨by omega,u⟩ j
  clear j;rcases y with hs|⟨hs,t⟩
  ·have g1:¬ (128:Int)≤(r:Int):=by omega
   (repeat revert K);refine vS ?_;intro K hK K hK K hK K hK;refine (N.o _).mono ?_;rintro e w' ⟨rfl,rfl⟩;go_simp;cases t:lJ r with
   | false=>
    (repeat revert K);refine vg ?_;intro K hK;refine Kk [0,3,4] fun f=>?_;obtain ⟨p,c,a⟩:=b.o f 1 (d.o.trans (aY (aG t)));exact q.o _ _ ⟨p,c,B.o _ _ _ a⟩
   | true=>
    by_cases o:i=0
    ·have T:((i:Int)==0)=true:=by simp;omega
     have A:=Lh o;clear o;(repeat revert K);refine vg ?_;intro K hK K hK K hK K hK;refine (W.o _).mono ?_;rintro e w' ⟨rfl,rfl⟩;go_simp;cases v:rJ r with
     | false=>
      (repeat revert K);refine vg ?_;intro K hK;refine Kk [0,3,4] fun f=>?_;obtain ⟨p,c,a⟩:=b.o f 1 (d.o.trans (aY (aU ⟨decide_eq_true A.o,v⟩)));exact q.o _ _ ⟨p,c,B.o _ _ _ a⟩
     | true=>
      (repeat revert K);refine vg ?_;intro K hK;refine Kk [0,3,4] fun f=>?_;obtain ⟨p,c,a⟩:=b.o f F (d.o.trans (aQ (fun u=>u.elim (fun h=>Bool.noConfusion (t.symm.trans h)) (fun h=>Bool.noConfusion (v.symm.trans h.2)))));exact q.o _ _ ⟨p,c,B.o _ _ _ a⟩
    ·have T:((i:Int)==0)=false:=by simp;omega
     have A:=Lh o;clear o;(repeat revert K);refine vg ?_;intro K hK;refine Kk [0,3,4] fun f=>?_;obtain ⟨p,c,a⟩:=b.o f F (d.o.trans (aQ (fun u=>u.elim (fun h=>Bool.noConfusion (t.symm.trans h)) (fun h=>A.o (of_decide_eq_true h.1)))));exact q.o _ _ ⟨p,c,B.o _ _ _ a⟩
  ·have g1:(128:Int)≤(r:Int):=by omega
   (repeat revert K);refine vS ?_;intro K hK K hK K hK K hK;refine (N.o _).mono ?_;rintro e w' ⟨rfl,rfl⟩;(repeat revert K);refine vS ?_;intro K hK K hK K hK K hK;refine (N.o _).mono ?_;rintro e w' ⟨rfl,rfl⟩;go_simp;by_cases o:i=0
   ·have T:((i:Int)==0)=true:=by simp;omega
    have A:=Lh o;clear o;(repeat revert K);refine vg ?_;intro K hK K hK K hK K hK;refine (W.o _).mono ?_;rintro e w' ⟨rfl,rfl⟩;go_simp;cases v:rJ r with
    | false=>
     (repeat revert K);refine vg ?_;intro K hK;refine Kk [0,3,4] fun f=>?_;obtain ⟨p,c,a⟩:=b.o f 1 (d.o.trans (aY (aU ⟨decide_eq_true A.o,v⟩)));exact q.o _ _ ⟨p,c,B.o _ _ _ a⟩
    | true=>
     (repeat revert K);refine vg ?_;intro K hK;refine Kk [0,3,4] fun f=>?_;obtain ⟨p,c,a⟩:=b.o f F (d.o.trans (aQ (fun u=>u.elim (fun h=>Bool.noConfusion (t.symm.trans h)) (fun h=>Bool.noConfusion (v.symm.trans h.2)))));exact q.o _ _ ⟨p,c,B.o _ _ _ a⟩
   ·have T:((i:Int)==0)=false:=by simp;omega
    have A:=Lh o;clear o;(repeat revert K);refine vg ?_;intro K hK;refine Kk [0,3,4] fun f=>?_;obtain ⟨p,c,a⟩:=b.o f F (d.o.trans (aQ (fun u=>u.elim (fun h=>Bool.noConfusion (t.symm.trans h)) (fun h=>A.o (of_decide_eq_true h.1)))));exact q.o _ _ ⟨p,c,B.o _ _ _ a⟩
 ·have V:i=l.length:=by omega
  subst V;have t1:¬ ((l.length:Int)<(l.length:Int)):=by omega
  have R:=Lh (show bH l=F by
   rw [C.o,List.drop_length];cases m<;>simp [gU])
  revert K;refine vg ?_;refine cM ?_;exact ⟨by rw [R.o],rfl⟩
theorem bV (T:Bs) (a:Nat) (b:a<T.length):T.drop a=T.getD a 0::T.drop (a+1):=by
 rw [CN b];simp [rF,b]
theorem x8 (l:Bs) (i:Nat) (h:i<l.length) (c:UInt8):(l.take (i+1)).contains c=((l.take i).contains c||(c==l.getD i 0)):=by
 rw [List.take_add_one,List.getElem?_eq_getElem h];have e:l.getD i 0=l[i]:=by simp [rF,h]
 rw [e,Bool.eq_iff_iff];simp only [List.contains_iff_mem,List.mem_append,Option.toList_some,List.mem_singleton,Bool.or_eq_true,beq_iff_eq]
theorem nK {b k:UInt8} (h:b≠k):((b.toNat:Int)==(k.toNat:Int))=false:=by
 rw [lQ];intro a;exact h (UInt8.toNat_inj.1 (by omega))
def ZF (l:Bs) (w0:World) (k:Nat) (a:Act) (w:World):Prop:=
 ∃ f i,a=fr 17 f [(0,aB l),(5,.int .i64 (l.length:Nat)),(6,.int .i64 (i:Nat))]∧w0=w∧k=l.length-i∧i≤l.length∧(l.take i).contains 58=false
theorem uO (l:Bs) (s:l.length≤1000000000) (w:World):Calls prog 54 #[aB l] w fun e w'=>e=.returned (.bool (eD l))∧w'=w:=by
 have B:=Lh s;have p:=Lh (pB l s w);clear s;refine eL 17 func54 [_] fun f=>?_;simp only [aF];refine vg ?_;intro K hK;refine cG [0,5,6] fun f=>?_;refine wp_loop_ghost_k (ZF l w) l.length ⟨f,0,rfl,rfl,rfl,jU _,rfl⟩ ?_;rintro k _ _ ⟨f,i,rfl,rfl,x,H,v⟩ J E u j;have ⟨z,o,A,t⟩:=kS u j x v;clear u j x v;by_cases c:i<l.length
 ·have L:(0:Int)≤(i:Int):=by omega
  have D:(i:Int)<(l.length:Int):=by omega
  have M:IntKind.i64.wrap ((i:Int)+1)=((i+1:Nat):Int):=by rw [IntKind.wrap_i64];have F:=B.o;omega
  have d:=Lh (x8 l i c 58);obtain ⟨b,m⟩:=cK (l.getD i 0);have I:∀ h,(⟨l.toArray⟩:ByteArray)[i]'h=b:=by rw [m];exact iL l i c
  rw [←m] at d;have g:=Lh m;clear m;by_cases a:b=58
  ·have y:eD l=false:=by
    have C:l.contains 58=true:=by
     rw [List.contains_iff_mem];have:l[i]=58:=by rw [←a,g.o];simp [rF,c]
     rw [←this];exact List.getElem_mem c
    unfold eD;rw [C];rfl
   have q:=Lh y;clear y g d;subst a;revert K;refine vg ?_;intro K hK K hK;refine cM ?_;exact ⟨by rw [q.o],rfl⟩
  ·have G:((b.toNat:Int)==58)=false:=nK a;have n:=Lh (show (l.take (i+1)).contains 58=false by rw [d.o,t.o,Bool.false_or,lQ];exact fun h=>a h.symm);clear a g d;revert K;refine vg ?_;intro K hK;refine Kk [0,5,6] fun f=>?_;exact o.o _ _ ⟨l.length-(i+1),by rw [A.o];omega,z.o _ _ _ ⟨f,i+1,rfl,rfl,rfl,c,n.o⟩⟩
 ·have r:i=l.length:=by omega
  subst r;have D:¬ ((l.length:Int)<(l.length:Int)):=by omega
  have q:=Lh (show eD l=(bH l==0) by
   have:=t.o;rw [List.take_length] at this;unfold eD;rw [this];rfl)
  revert K;refine vg ?_;intro K hK K hK;refine p.o.mono ?_;rintro e w' ⟨rfl,rfl⟩;(repeat revert K);refine vS ?_;refine cM ?_;refine ⟨?_,rfl⟩;rw [q.o]
  congr 2
  rw [Bool.eq_iff_iff];simp
theorem GP {l:Bs} (h:l.contains 58=false):jD l=some ([],l):=by
 have d:∀ c∈l,(c != 58)=true:=fun c a=>by
  rw [bne_iff_ne];rintro rfl;rw [←List.contains_iff_mem,h] at a;cases a
 have e:∀ (l:Bs),(∀ c∈l,(c != 58)=true)→l.dropWhile (· != 58)=[]:=by
  intro l;induction l with
  | nil=>exact fun _=>rfl
  | cons b r ih=>intro h;rw [List.dropWhile_cons,aY (h b (by simp))];exact ih (fun c a=>h c (by simp [a]))
 unfold jD;rw [e l d]
theorem AP {a b:Bs} (h:a.contains 58=false):(a++58::b).dropWhile (· != 58)=58::b∧(a++58::b).takeWhile (· != 58)=a:=by
 have d:∀ c∈a,(c != 58)=true:=fun c e=>by
  rw [bne_iff_ne];rintro rfl;rw [←List.contains_iff_mem,h] at e;cases e
 constructor
 ·rw [List.dropWhile_append_of_pos d];rfl
 ·rw [List.takeWhile_append_of_pos d];simp
theorem LO {a b:Bs} (h:a.contains 58=false) (e:b.contains 58=false):jD (a++58::b)=if a=[]∨b=[] then none else some (a,b):=by
 obtain ⟨c,d⟩:=AP (b:=b) h;unfold jD;rw [c,d];simp only [e];rfl
theorem LP {a b:Bs} (h:a.contains 58=false) (d:b.contains 58=true):jD (a++58::b)=none:=by
 obtain ⟨c,e⟩:=AP (b:=b) h;unfold jD;rw [c];simp only [d];rfl
def WR (l:Bs) (i:Nat) (a:Int):Prop:=
 (a=-1∧(l.take i).contains 58=false)∨∃ j:Nat,a=j∧j<i∧j<l.length∧l.getD j 0=58∧(l.take j).contains 58=false∧((l.take i).drop (j+1)).contains 58=false
def ZG (l:Bs) (w0:World) (k:Nat) (b:Act) (w:World):Prop:=
 ∃ f i a,b=fr 39 f [(0,aB l),(5,.int .i64 a),(8,.int .i64 (l.length:Nat)),(9,.int .i64 (i:Nat))]∧w0=w∧k=l.length-i∧i≤l.length∧WR l i a
theorem PA (l:Bs) (j:Nat) (h:j<l.length) (a:l.getD j 0=58):l=l.take j++58::l.drop (j+1):=by
 have:l[j]=58:=by rw [←a];simp [rF,h]
 conv=>lhs;rw [←List.take_append_drop j l,CN h,this]
theorem TE (l:Bs) (Q:l.length≤1000000000) (w:World):Calls prog 89 #[aB l] w fun e w'=>(∃ p q R,e=.returned (.tuple #[aB p,aB q,.bool R])∧(if R then some (p,q) else none)=jD l∧p.length≤l.length∧q.length≤l.length)∧∃ k,w'=w.drewN k:=by
 have M:=Lh Q;clear Q;refine eL 39 func89 [_] fun f=>?_;simp only [aF];refine vg ?_;intro K hK;refine cG [0,5,8,9] fun f=>?_;refine wp_loop_ghost_k (ZG l w) l.length ⟨f,0,-1,rfl,rfl,rfl,jU _,aG ⟨rfl,rfl⟩⟩ ?_;rintro k _ _ ⟨f,i,t,rfl,rfl,P,Z,F⟩ J Y N D;have ⟨I,B,L,n⟩:=kS N D P F;clear N D P F;by_cases a:i<l.length
 ·have t0:(0:Int)≤(i:Int):=by omega
  have X:(i:Int)<(l.length:Int):=by omega
  have wi:IntKind.i64.wrap ((i:Int)+1)=((i+1:Nat):Int):=by rw [IntKind.wrap_i64];have d:=M.o;omega
  obtain ⟨b,G⟩:=cK (l.getD i 0);have ix:∀ h,(⟨l.toArray⟩:ByteArray)[i]'h=b:=by rw [G];exact iL l i a
  have A:=Lh (x8 l i a 58);rw [←G] at A;have o:=Lh G;clear G;by_cases c:b=58
  ·have W:((b.toNat:Int) != 58)=false:=by rw [c];rfl
   have z:=Lh c;clear c;by_cases V:(0:Int)≤t
   ·have m:jD l=none:=by
     rcases n.o with ⟨g,_⟩|⟨j,g,d,u,v,x,y⟩
     ·omega
     ·rw [PA l j u v];refine LP x ?_;rw [List.contains_iff_mem];have U:(l.drop (j+1))[i-(j+1)]?=some 58:=by
       rw [List.getElem?_drop,show j+1+(i-(j+1))=i by omega,List.getElem?_eq_getElem a];rw [←z.o,o.o];simp [rF,a]
      exact List.mem_of_getElem? U
    have r:=Lh m;clear m;revert K;refine vg ?_;intro K hK K hK K hK;refine MI ?_;exact ⟨⟨[],[],false,rfl,by rw [r.o];rfl,jU _,jU _⟩,0,rfl⟩
   ·have s:=Lh (show WR l (i+1) (i:Int) by
     rcases n.o with ⟨g,d⟩|⟨j,g,_⟩
     ·refine aU ⟨i,rfl,by omega,a,by rw [←o.o];exact z.o,d,?_⟩;rw [tW (by rw [pI];omega)];rfl
     ·omega)
    revert K;refine vg ?_;intro K hK;refine Kk [0,5,8,9] fun f=>?_;exact B.o _ _ ⟨l.length-(i+1),by rw [L.o];omega,I.o _ _ _ ⟨f,i+1,i,rfl,rfl,rfl,a,s.o⟩⟩
  ·have W:((b.toNat:Int) != 58)=true:=by
    have:((b.toNat:Int)==58)=false:=nK c;rw [bne,this];rfl
   have s:=Lh (show WR l (i+1) t by
    rcases n.o with ⟨g,d⟩|⟨j,g,d,u,v,x,y⟩
    ·refine aG ⟨g,?_⟩;rw [A.o,d,Bool.false_or,lQ];exact fun h=>c h.symm
    ·refine aU ⟨j,g,by omega,u,v,x,?_⟩;rw [List.take_add_one,List.drop_append_of_le_length (by rw [pI];omega),List.getElem?_eq_getElem a];have e:l[i]=b:=by rw [o.o];simp [rF,a]
     rw [e];have C:=y;simp only [List.contains_eq_mem,decide_eq_false_iff_not] at C ⊢;simp only [Option.toList_some,List.mem_append,List.mem_singleton,not_or];exact ⟨C,fun h=>c h.symm⟩)
   clear c;revert K;refine vg ?_;intro K hK;refine Kk [0,5,8,9] fun f=>?_;exact B.o _ _ ⟨l.length-(i+1),by rw [L.o];omega,I.o _ _ _ ⟨f,i+1,t,rfl,rfl,rfl,a,s.o⟩⟩
 ·have H:i=l.length:=by omega
  subst H;have X:¬ ((l.length:Int)<(l.length:Int)):=by omega
  rcases n.o with ⟨g,d⟩|⟨j,g,d,u,v,x,y⟩
  ·rw [List.take_length] at d;have r:=Lh (GP d);subst g;clear d;revert K;refine vg ?_;intro K hK;refine MI ?_;exact ⟨⟨[],l,true,rfl,by rw [r.o];rfl,jU _,dF _⟩,0,rfl⟩
  ·rw [List.take_length] at y;subst g;have r:=Lh (show jD l=if l.take j=[]∨l.drop (j+1)=[] then none else some (l.take j,l.drop (j+1)) by
    conv=>lhs;rw [PA l j u v]
    exact LO x y)
   have n1:¬ ((j:Int)<0):=by omega
   have n2:(0:Int)≤(j:Int):=by omega
   have n3:(j:Int)≤(l.length:Int):=by omega
   have wj:IntKind.i64.wrap ((j:Int)+1)=((j+1:Nat):Int):=by rw [IntKind.wrap_i64];have d:=M.o;omega
   have n4:(0:Int)≤(j:Int)+1:=by omega
   have n5:(j:Int)+1≤(l.length:Int):=by omega
   have n6:((j:Int)+1).toNat=j+1:=by omega
   clear d v x y;by_cases O:0<j
   ·have S:decide (0<j)=true:=decide_eq_true O;by_cases E:j+1<l.length
    ·have T:decide (j+1<l.length)=true:=decide_eq_true E;revert K;refine vg ?_;intro K hK;(refine lD [0,0,0,0,0,0,0,0,0,0,0,0,0,0,0,0,0,0,0] [0,1,2,3,4,5,6,7,8,9,10,11,12,13,14,15,16,17,18] ?_;refine vP ?_;repeat with_reducible intro nq)
     revert K;refine vg ?_;refine MI ?_;rw [kP,iM];refine ⟨⟨l.take j,l.drop (j+1),true,?_,?_,by rw [pI];omega,by rw [eC];omega⟩,_,rfl⟩
     ·first|(simp;done)|(simp;omega)
     ·rw [r.o,aY rfl,aQ];rintro (h|h)
      ·rcases List.take_eq_nil_iff.1 h with h|h
       ·omega
       ·rw [h] at u;simp at u
      ·exact absurd (List.drop_eq_nil_iff.1 h) (by omega)
    ·have T:decide (j+1<l.length)=false:=decide_eq_false E;revert K;refine vg ?_;intro K hK;(refine lD [0,0,0,0,0,0,0,0,0,0,0,0,0,0,0,0,0,0,0] [0,1,2,3,4,5,6,7,8,9,10,11,12,13,14,15,16,17,18] ?_;refine vP ?_;repeat with_reducible intro nq)
     revert K;refine vg ?_;refine MI ?_;rw [kP,iM];refine ⟨⟨l.take j,l.drop (j+1),false,?_,?_,by rw [pI];omega,by rw [eC];omega⟩,_,rfl⟩
     ·first|(simp;done)|(simp;omega)
     ·rw [r.o,aY (aU (tW (by omega)))];rfl
   ·have S:decide (0<j)=false:=decide_eq_false O;revert K;refine vg ?_;intro K hK;(refine lD [0,0,0,0,0,0,0,0,0,0,0,0,0,0,0,0,0,0,0] [0,1,2,3,4,5,6,7,8,9,10,11,12,13,14,15,16,17,18] ?_;refine vP ?_;repeat with_reducible intro nq)
    revert K;refine vg ?_;refine MI ?_;rw [kP,iM];refine ⟨⟨l.take j,l.drop (j+1),false,?_,?_,by rw [pI];omega,by rw [eC];omega⟩,_,rfl⟩
    ·first|(simp;done)|(simp;omega)
    ·have:j=0:=by omega
     rw [r.o,this];rfl
def SV.num:SV→Int
 | .bad=>1
 | .opn=>2
def eR {α:Type} (x:PX) (w:World) (c:PC) (d:α→Ending) (b:Ending) (r:Except SV (α×Bs)) (e:Ending) (w':World):Prop:=
 aJ (fun k=>k=x.p) w w'∧match r with
  | .ok p=>∃ a,p.2=x.T.drop a∧a≤x.T.length∧c.at'≤a∧aV x w' { c with at':=a }∧e=d p.1
  | .error k=>(∃ a,aV x w' { c with at':=a,verd:=k.num })∧e=b
theorem eR.okk {α:Type} {x:PX} {w:World} {c:PC} {b:α→Ending} {d:Ending} {r:Except SV (α×Bs)} {w':World} {v:α} {a:Nat} (h:r=.ok (v,x.T.drop a)) (e:a≤x.T.length) (f:c.at'≤a) (i:aV x w' { c with at':=a }) (g:aJ (fun k=>k=x.p) w w'):eR x w c b d r (b v) w':=by
 subst h;exact ⟨g,a,rfl,e,f,i,rfl⟩
theorem eR.bad {α:Type} {x:PX} {w:World} {c:PC} {d:α→Ending} {b:Ending} {r:Except SV (α×Bs)} {w':World} {k:SV} {a:Nat} (h:r=.error k) (f:aV x w' { c with at':=a,verd:=k.num }) (e:aJ (fun k=>k=x.p) w w'):eR x w c d b r b w':=by
 subst h;exact ⟨e,⟨a,f⟩,rfl⟩
theorem qN (l:Bs):(aD l).1.length+(aD l).2.length=l.length:=by
 have:=congrArg List.length (pV l).1;rw [fP] at this;exact this
theorem gW (x:PX) (w0 w:World) (c:PC) (h:aV x w c) (d:aJ (fun k=>k=x.p) w0 w) (v:Int):Calls prog 32 #[iU x,.int .i64 v] w fun e w'=>e=.returned (.bool false)∧aV x w' { c with verd:=v }∧aJ (fun k=>k=x.p) w0 w':=by
 refine (lF x w c h v).mono ?_;rintro e w' ⟨rfl,a,b⟩;exact ⟨rfl,a,d.trans b (fun _ _ h=>h)⟩
theorem eE {S:Nat→Prop} {w0 w w':World} (h:aJ S w0 w) (b:w'.os=w.os) (c:w'.tape=w.tape) (d:w'.output=w.output) (a:w'.heap=w.heap):aJ S w0 w':=
 ⟨b.trans h.os,c.trans h.tape,d.trans h.output,by rw [a];exact h.size,fun k e f=>by rw [a];exact h.block k e f⟩
theorem B9 (x:PX) (Z:x.T.length≤1000000000) (w:World) (c:PC) (h:aV x w c) (ha:c.at'≤x.T.length):Calls prog 49 #[iU x] w (eR x w c (fun nm=>.returned (.tuple #[aB nm.1,aB nm.2,.bool true])) (.returned (.tuple #[aB [],aB [],.bool false])) (fL (x.T.drop c.at'))):=by
 have X:=Lh (B8 x Z w c h ha);have H:=Lh (qN (x.T.drop c.at'));have HT:=Lh Z;clear h ha Z;refine eL 45 func49 [_] fun f=>?_;simp only [aF];obtain ⟨s,hs⟩:=cK ((aD (x.T.drop c.at')).1);obtain ⟨rr,B⟩:=cK ((aD (x.T.drop c.at')).2);have R:=Lh (show fL (x.T.drop c.at')=if bH s=1 then .error .bad else if bH s=2 then .error .opn else match jD s with
   | none=>.error .opn
   | some (p,l)=>if eD l=false∨(p≠[]∧eD p=false) then .error .opn else .ok ((p,l),rr) by rw [hs,B];rfl)
 rw [←hs,←B] at X H;clear hs B;have r:s.length≤1000000000:=by have Y:=H.o;have h2:=HT.o;rw [eC] at Y;omega
 have aA:=Lh r;have S:=Lh (fun w=>pB s r w);have W:=Lh (fun w=>TE s r w);have u:=Lh (fun (l:Bs) (hl:l.length≤s.length) w=>uO l (fQ hl r) w);clear r;refine vg ?_;intro K hK K hK;refine X.o.mono ?_;rintro e1 w1 ⟨a,rfl,hp,hm,L,J,o⟩;have ⟨A,z,E,D,G⟩:=pM hp hm L J o;have C:=Lh (fun (w':World) (Y:aV x w' { c with at':=a }) (h2:aJ (fun k=>k=x.p) w w') (v:Int)=>gW x w w' { c with at':=a } Y h2 v);clear hp hm L J o X;(repeat revert K);refine vS ?_;intro K hK K hK K hK;refine (S.o _).mono ?_;rintro e2 w2 ⟨rfl,rfl⟩;go_simp;by_cases i:bH s=1
 ·have j:=Lh (R.o.trans (aY i));rw [i];clear i;(repeat revert K);refine vg ?_;intro K hK K hK K hK;refine (C.o _ (by exact A.o) (by exact eE z.o rfl rfl rfl rfl) _).mono ?_;rintro I Q ⟨rfl,d,b⟩;have ⟨g,e⟩:=cB d b;clear d b;(repeat revert K);refine vS ?_;intro K hK;refine MI ?_;exact eR.bad j.o g.o e.o
 have e1:((bH s:Int)==1)=false:=by simp;omega
 by_cases m:bH s=2
 ·have j:=Lh ((R.o.trans (aQ i)).trans (aY m));rw [m];clear i m e1;(repeat revert K);refine vg ?_;intro K hK K hK K hK;refine (C.o _ (by exact A.o) (by exact eE z.o rfl rfl rfl rfl) _).mono ?_;rintro I Q ⟨rfl,d,b⟩;have ⟨g,e⟩:=cB d b;clear d b;(repeat revert K);refine vS ?_;intro K hK;refine MI ?_;exact eR.bad j.o g.o e.o
 have e2:((bH s:Int)==2)=false:=by simp;omega
 have F:=Lh ((R.o.trans (aQ i)).trans (aQ m));clear i m R;(repeat revert K);refine vg ?_;intro K hK K hK;refine (W.o _).mono ?_;rintro I Q ⟨⟨p,q,ok,rfl,P,M,O⟩,k3,rfl⟩;have ⟨y,U,V⟩:=kV P M O;clear P M O;go_simp;cases ok with
 | false=>
  have j:=Lh (show fL (x.T.drop c.at')=.error .opn by rw [F.o,←y.o];rfl);(repeat revert K);refine vg ?_;intro K hK K hK K hK;refine (C.o _ (by exact A.o) (by exact eE z.o rfl rfl rfl rfl) _).mono ?_;rintro I Q ⟨rfl,d,b⟩;have ⟨g,e⟩:=cB d b;clear d b;(repeat revert K);refine vS ?_;intro K hK;refine MI ?_;exact eR.bad j.o g.o e.o
 | true=>
  have t:=Lh (show fL (x.T.drop c.at')=if eD q=false∨(p≠[]∧eD p=false) then .error .opn else .ok ((p,q),rr) by rw [F.o,←y.o];rfl);(repeat revert K);refine vg ?_;intro K hK K hK K hK;refine (u.o q V.o _).mono ?_;rintro e4 w4 ⟨rfl,rfl⟩;go_simp;cases hq:eD q with
  | false=>
   have j:=Lh (t.o.trans (aY (aG hq)));(repeat revert K);refine vg ?_;intro K hK K hK K hK;refine (C.o _ (by exact A.o) (by exact eE z.o rfl rfl rfl rfl) _).mono ?_;rintro I Q ⟨rfl,d,b⟩;have ⟨g,e⟩:=cB d b;clear d b;(repeat revert K);refine vS ?_;intro K hK;refine MI ?_;exact eR.bad j.o g.o e.o
  | true=>
   by_cases n:p=[]
   ·have j:=Lh (t.o.trans (aQ (fun hh=>hh.elim (fun h=>Bool.noConfusion (hq.symm.trans h)) (fun h=>h.1 n))));subst n;(repeat revert K);refine vg ?_;refine MI ?_;exact eR.okk (v:=([],q)) (by rw [j.o,G.o]) E.o D.o A.o (eE z.o rfl rfl rfl rfl)
   ·have aC:p.isEmpty=false:=by cases p with
     | nil=>exact absurd rfl n
     | cons=>rfl
    have T:=Lh n;clear n;(repeat revert K);refine vg ?_;intro K hK K hK K hK;refine (u.o p U.o _).mono ?_;rintro e4 w4 ⟨rfl,rfl⟩;go_simp;cases N:eD p with
    | false=>
     have j:=Lh (t.o.trans (aY (aU ⟨T.o,N⟩)));(repeat revert K);refine vg ?_;intro K hK K hK K hK;refine (C.o _ (by exact A.o) (by exact eE z.o rfl rfl rfl rfl) _).mono ?_;rintro I Q ⟨rfl,d,b⟩;have ⟨g,e⟩:=cB d b;clear d b;(repeat revert K);refine vS ?_;intro K hK;refine MI ?_;exact eR.bad j.o g.o e.o
    | true=>
     have j:=Lh (t.o.trans (aQ (fun hh=>hh.elim (fun h=>Bool.noConfusion (hq.symm.trans h)) (fun h=>Bool.noConfusion (N.symm.trans h.2)))));(repeat revert K);refine vg ?_;refine MI ?_;exact eR.okk (v:=(p,q)) (by rw [j.o,G.o]) E.o D.o A.o (eE z.o rfl rfl rfl rfl)
theorem TF (n:Nat) (h:bW n=true):Utf8.valid (n:Int)=true:=by
 unfold bW at h;unfold Utf8.valid;simp only [Bool.or_eq_true,FI,IC,beq_iff_eq] at h ⊢;omega
theorem wJ (w:World) (l:Bs) (k:Nat) (c:k=l.length):(convert 81 9 (.slice (some ⟨w.heap.size,0,none⟩) k k)).run prog (w.alloc (.cells (l.map fun b=>Value.int .u8 b.toNat).toArray 5))=.ok (aB l) (w.alloc (.cells (l.map fun b=>Value.int .u8 b.toNat).toArray 5)):=by
 subst c;refine mP l _ w.heap.size 0 l.length (fun j a=>?_);rw [Nat.zero_add,(aL.new w _ _).cell];simp [rF,a]
theorem TG (p y:Int) (i:Nat) (b:0≤p) (c:p % 2 ^ i=0) (d:p<1000) (e:0≤y) (a:y<2 ^ i) (f:y<1000):bits .or .i64 p y=p+y:=
 bits_join .i64 60 (by decide) jO i p y b c (by omega) e a (by omega)
theorem LQ (y:Int) (a:0≤y) (b:y<2000000):bits .and .i64 y 63=y % 64:=bits_mask .i64 60 (by decide) jO 6 (by decide) y a (by omega)
theorem rU (y:Int) (n:Nat) (h:y=n) (a:n<256):IntKind.u8.wrap y=((UInt8.ofNat n).toNat:Int):=by
 subst h;rw [IntKind.wrap_u8];simp
theorem PB (n:Nat) (h:bW n=true) (w:World):Calls prog 113 #[.int .i64 n] w fun e w'=>e=.returned (aB (gD n))∧aJ (fun _=>False) w w':=by
 have u:=TF n h;have H:n≤1114111:=by
  unfold bW at h;simp only [Bool.or_eq_true,FI,IC,beq_iff_eq] at h;omega
 have k:gD n=if n<0x80 then [UInt8.ofNat n] else if n<0x800 then [UInt8.ofNat (0xC0+n / 64),UInt8.ofNat (0x80+n % 64)]
   else if n<0x10000 then [UInt8.ofNat (0xE0+n / 4096),UInt8.ofNat (0x80+n / 64 % 64),UInt8.ofNat (0x80+n % 64)]
   else [UInt8.ofNat (0xF0+n / 262144),UInt8.ofNat (0x80+n / 4096 % 64),UInt8.ofNat (0x80+n / 64 % 64),UInt8.ofNat (0x80+n % 64)]:=by
  unfold gD Utf8.encode;rw [u];simp only [if_true,Int.toNat_natCast];split
  ·rfl
  ·split
   ·rfl
   ·split<;>rfl
 have i:=Lh k;clear k u h;refine eL 61 func113 [_] fun f=>?_;simp only [aF];by_cases o:n<128
 ·have B:(n:Int)<128:=by omega
  have b:=Lh (show gD n=[UInt8.ofNat (n)] by rw [i.o,aY o]);have b0:=rU ((n:Int)) (n) (by omega) (by omega);obtain ⟨j,a⟩:∃ y:UInt8,y=UInt8.ofNat (n):=⟨_,rfl⟩;rw [←a] at b0 b;clear a;have d:=wJ w [j] 1 rfl;simp only [List.map_cons,List.map_nil] at d;refine vg ?_;intro K hK;refine cM ?_;exact ⟨by rw [b.o],(aJ.refl _ w).alloc _⟩
 have B:¬ (n:Int)<128:=by omega
 by_cases q:n<2048
 ·have C:(n:Int)<2048:=by omega
  have b:=Lh (show gD n=[UInt8.ofNat (0xC0+n / 64),UInt8.ofNat (0x80+n % 64)] by rw [i.o,aQ o,aY q]);have v:bits .or .i64 192 ((n:Int) / 64)=192+(n:Int) / 64:=TG _ _ 5 (by decide) (by decide) (by decide) (by omega) (by omega) (by omega);have s:bits .and .i64 (n:Int) 63=(n:Int) % 64:=LQ _ (by omega) (by omega);have x:bits .or .i64 128 ((n:Int) % 64)=128+(n:Int) % 64:=TG _ _ 6 (by decide) (by decide) (by decide) (by omega) (by omega) (by omega);have b0:=rU (192+(n:Int) / 64) (0xC0+n / 64) (by omega) (by omega);have b1:=rU (128+(n:Int) % 64) (0x80+n % 64) (by omega) (by omega);obtain ⟨j,a⟩:∃ y:UInt8,y=UInt8.ofNat (0xC0+n / 64):=⟨_,rfl⟩;rw [←a] at b0 b;obtain ⟨m,c⟩:∃ y:UInt8,y=UInt8.ofNat (0x80+n % 64):=⟨_,rfl⟩;rw [←c] at b1 b;clear a c;have d:=wJ w [j,m] 2 rfl;simp only [List.map_cons,List.map_nil] at d;refine vg ?_;intro K hK;refine cM ?_;exact ⟨by rw [b.o],(aJ.refl _ w).alloc _⟩
 have C:¬ (n:Int)<2048:=by omega
 by_cases t:n<65536
 ·have D:(n:Int)<65536:=by omega
  have b:=Lh (show gD n=[UInt8.ofNat (0xE0+n / 4096),UInt8.ofNat (0x80+n / 64 % 64),UInt8.ofNat (0x80+n % 64)] by rw [i.o,aQ o,aQ q,aY t]);have v:bits .or .i64 224 ((n:Int) / 4096)=224+(n:Int) / 4096:=TG _ _ 4 (by decide) (by decide) (by decide) (by omega) (by omega) (by omega);have z:bits .and .i64 ((n:Int) / 64) 63=(n:Int) / 64 % 64:=LQ _ (by omega) (by omega);have E:bits .or .i64 128 ((n:Int) / 64 % 64)=128+(n:Int) / 64 % 64:=TG _ _ 6 (by decide) (by decide) (by decide) (by omega) (by omega) (by omega);have s:bits .and .i64 (n:Int) 63=(n:Int) % 64:=LQ _ (by omega) (by omega);have x:bits .or .i64 128 ((n:Int) % 64)=128+(n:Int) % 64:=TG _ _ 6 (by decide) (by decide) (by decide) (by omega) (by omega) (by omega);have b0:=rU (224+(n:Int) / 4096) (0xE0+n / 4096) (by omega) (by omega);have b1:=rU (128+(n:Int) / 64 % 64) (0x80+n / 64 % 64) (by omega) (by omega);have p:=rU (128+(n:Int) % 64) (0x80+n % 64) (by omega) (by omega);obtain ⟨j,a⟩:∃ y:UInt8,y=UInt8.ofNat (0xE0+n / 4096):=⟨_,rfl⟩;rw [←a] at b0 b;obtain ⟨m,c⟩:∃ y:UInt8,y=UInt8.ofNat (0x80+n / 64 % 64):=⟨_,rfl⟩;rw [←c] at b1 b;obtain ⟨r,g⟩:∃ y:UInt8,y=UInt8.ofNat (0x80+n % 64):=⟨_,rfl⟩;rw [←g] at p b;clear a c g;have d:=wJ w [j,m,r] 3 rfl;simp only [List.map_cons,List.map_nil] at d;refine vg ?_;intro K hK;refine cM ?_;exact ⟨by rw [b.o],(aJ.refl _ w).alloc _⟩
 have D:¬ (n:Int)<65536:=by omega
 have b:=Lh (show gD n=[UInt8.ofNat (0xF0+n / 262144),UInt8.ofNat (0x80+n / 4096 % 64),UInt8.ofNat (0x80+n / 64 % 64),UInt8.ofNat (0x80+n % 64)] by rw [i.o,aQ o,aQ q,aQ t]);have v:bits .or .i64 240 ((n:Int) / 262144)=240+(n:Int) / 262144:=TG _ _ 3 (by decide) (by decide) (by decide) (by omega) (by omega) (by omega);have z:bits .and .i64 ((n:Int) / 4096) 63=(n:Int) / 4096 % 64:=LQ _ (by omega) (by omega);have E:bits .or .i64 128 ((n:Int) / 4096 % 64)=128+(n:Int) / 4096 % 64:=TG _ _ 6 (by decide) (by decide) (by decide) (by omega) (by omega) (by omega);have G:bits .and .i64 ((n:Int) / 64) 63=(n:Int) / 64 % 64:=LQ _ (by omega) (by omega);have I:bits .or .i64 128 ((n:Int) / 64 % 64)=128+(n:Int) / 64 % 64:=TG _ _ 6 (by decide) (by decide) (by decide) (by omega) (by omega) (by omega);have s:bits .and .i64 (n:Int) 63=(n:Int) % 64:=LQ _ (by omega) (by omega);have x:bits .or .i64 128 ((n:Int) % 64)=128+(n:Int) % 64:=TG _ _ 6 (by decide) (by decide) (by decide) (by omega) (by omega) (by omega);have b0:=rU (240+(n:Int) / 262144) (0xF0+n / 262144) (by omega) (by omega);have b1:=rU (128+(n:Int) / 4096 % 64) (0x80+n / 4096 % 64) (by omega) (by omega);have p:=rU (128+(n:Int) / 64 % 64) (0x80+n / 64 % 64) (by omega) (by omega);have A:=rU (128+(n:Int) % 64) (0x80+n % 64) (by omega) (by omega);obtain ⟨j,a⟩:∃ y:UInt8,y=UInt8.ofNat (0xF0+n / 262144):=⟨_,rfl⟩;rw [←a] at b0 b;obtain ⟨m,c⟩:∃ y:UInt8,y=UInt8.ofNat (0x80+n / 4096 % 64):=⟨_,rfl⟩;rw [←c] at b1 b;obtain ⟨r,g⟩:∃ y:UInt8,y=UInt8.ofNat (0x80+n / 64 % 64):=⟨_,rfl⟩;rw [←g] at p b;obtain ⟨F,l⟩:∃ y:UInt8,y=UInt8.ofNat (0x80+n % 64):=⟨_,rfl⟩;rw [←l] at A b;clear a c g l;have d:=wJ w [j,m,r,F] 4 rfl;simp only [List.map_cons,List.map_nil] at d;refine vg ?_;refine cM ?_;exact ⟨by rw [b.o],(aJ.refl _ w).alloc _⟩
end Go.Proofs.YthapcchcahnfaaaGreatDoor
