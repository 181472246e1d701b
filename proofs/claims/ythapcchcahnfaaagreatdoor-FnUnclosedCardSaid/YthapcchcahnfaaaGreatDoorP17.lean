/- Part of the proof that laws.FnStrictIsLoose, laws.FnUnclosed, laws.FnReaderFails, laws.FnWithin, laws.FnSkip returns true for every argument. No conditions. -/
import Derived.Test.YthapcchcahnfaaaGreatDoorP09
import Derived.Test.YthapcchcahnfaaaGreatDoorP15
import Derived.Test.YthapcchcahnfaaaGreatDoorP04
set_option linter.all false
set_option maxHeartbeats 8000000
set_option maxRecDepth 100000
namespace Go.Proofs.YthapcchcahnfaaaGreatDoor
open Go Go.RowKit Tryz
structure PX where
 p:Nat
 T:Bs
 raw:Bool
 ents:Value
 space:Bs
structure PC where
 at':Nat
 out:Value
 op:Value
 bd:Value
 verd:Int
abbrev gA (x:PX) (c:PC):Array Value:=#[aB x.T,.int .i64 c.at',.bool x.raw,x.ents,aB x.space,c.out,c.op,c.bd,.int .i64 c.verd]
abbrev aY (x:PX) (w:World) (c:PC):Prop:=aJ w x.p (gA x c) 51
abbrev jP (x:PX):Value:=.pointer (some ⟨x.p,0,none⟩)
theorem uL (x:PX) (w:World) (c:PC) (h:aY x w c):Calls prog 14 #[jP x] w fun e w'=>e=.returned (.bool (decide ((x.T.length:Int)≤(c.at':Int))))∧∃ k,w'=w.drewN k:=by
 have a:=h.cell;have b:=h.frozen;clear h;refine eI 13 func14 [_] fun f=>?_;simp only [aF];refine vg ?_;intro K hK;go_quiet (fail);revert K;refine vg ?_;refine cO ?_;refine ⟨?_,_,rfl⟩;simp
theorem lZ (x:PX) (w:World) (c:PC) (h:aY x w c) (v:Int):Calls prog 32 #[jP x,.int .i64 v] w fun e w'=>e=.returned (.bool false)∧aY x w' { c with verd:=v }∧aM (fun k=>k=x.p) w w':=by
 have a:=h.cell;have b:=h.frozen;have H:=Lh h;clear h;refine eI 9 func32 [_,_] fun f=>?_;simp only [aF];refine vg ?_;refine cO ?_;refine ⟨rfl,?_,?_⟩
 ·have:=H.o.set 8 (.int .i64 v);simpa [gA] using this
 ·exact aM.setCell (S:=fun k=>k=x.p) (aM.refl _ w) (p:=⟨x.p,8,none⟩) (aH rfl) _
theorem QH (T s:Bs) (a:Nat):(((⟨T.toArray⟩:ByteArray).extract a ((a:Int)+(s.length:Int)).toNat).toList==s)=s.isPrefixOf (T.drop a):=by
 have e:((a:Int)+(s.length:Int)).toNat=a+s.length:=by omega
 have b:((⟨T.toArray⟩:ByteArray).extract a (a+s.length)).toList=(T.drop a).take s.length:=by
  rw [ByteArray.toList_eq,ByteArray.data_extract];simp [List.extract_eq_take_drop]
 rw [e,b,Bool.eq_iff_iff,beq_iff_eq,List.isPrefixOf_iff_prefix,List.prefix_iff_eq_take];exact ⟨fun h=>h.symm,fun h=>h.symm⟩
theorem DN {s l:Bs} (h:s.isPrefixOf l=true):s.length≤l.length:=(List.isPrefixOf_iff_prefix.1 h).length_le
theorem wB (x:PX) (q:x.T.length≤1000000000) (w:World) (c:PC) (h:aY x w c) (r:c.at'≤x.T.length) (s:Bs) (t:s.length≤1000000000):Calls prog 26 #[jP x,aB s] w fun e w'=>e=.returned (.bool (s.isPrefixOf (x.T.drop c.at')))∧aY x w' { c with at':=if s.isPrefixOf (x.T.drop c.at') then c.at'+s.length else c.at' }∧aM (fun k=>k=x.p) w w':=by
 have b:=h.cell;have g:=h.frozen;have H:=Lh h;have w1:IntKind.i64.wrap ((x.T.length:Int)-(c.at':Int))=((x.T.length-c.at':Nat):Int):=by rw [IntKind.wrap_i64];omega
 have u:IntKind.i64.wrap ((c.at':Int)+(s.length:Int))=((c.at'+s.length:Nat):Int):=by rw [IntKind.wrap_i64];omega
 clear h;refine eI 47 func26 [_,_] fun f=>?_;simp only [aF];by_cases j:((x.T.length-c.at':Nat):Int)<(s.length:Int)
 ·refine vg ?_;intro K hK K hK;go_quiet (fail);(repeat revert K);refine vg ?_;intro K hK;refine cO ?_;have a:s.isPrefixOf (x.T.drop c.at')=false:=by
   cases i:s.isPrefixOf (x.T.drop c.at') with
   | false=>rfl
   | true=>have:=DN i;rw [eY] at this;omega
  rw [a];exact ⟨rfl,H.o,(aM.refl _ w).drewN _⟩
 ·have l:(0:Int)≤(c.at':Int):=by omega
  have m:(c.at':Int)≤(c.at':Int)+(s.length:Int):=by omega
  have n:(c.at':Int)+(s.length:Int)≤(x.T.length:Int):=by omega
  have o:(0:Int)≤(c.at':Int)+(s.length:Int):=by omega
  refine vg ?_;intro K hK K hK;(refine lX [0,0,0,1,0,0,0,0,1,0,0,0,0,0,0,0,0,1,0,0,0,1,0,0,0,1,0,0,0,0,0,0,0] [0,1,2,3,4,5,6,7,8,9,10,11,12,13,14,15,16,17,18,19,20,21,22,23,24,25,26,27,28,29,30,31,32] ?_;refine vP ?_;repeat with_reducible intro nq)
  cases a:s.isPrefixOf (x.T.drop c.at') with
  | false=>
   have d:=(QH x.T s c.at').trans a;(repeat revert K);refine vg ?_;intro K hK;refine cO ?_;rw [a];exact ⟨rfl,H.o,(aM.refl _ w).drewN _⟩
  | true=>
   have d:=(QH x.T s c.at').trans a;have b:=(show aY x (w.drewN nq) c from H.o).cell;have g:=(show aY x (w.drewN nq) c from H.o).frozen;(repeat revert K);refine vg ?_;refine cO ?_;rw [a];refine ⟨rfl,?_,?_⟩
   ·have:=(show aY x (w.drewN nq) c from H.o).set 1 (.int .i64 ((c.at':Int)+(s.length:Int)));have e:((c.at'+s.length:Nat):Int)=(c.at':Int)+(s.length:Int):=by omega
    rw [aV rfl];show aJ _ x.p #[aB x.T,.int .i64 ((c.at'+s.length:Nat):Int),.bool x.raw,x.ents,aB x.space,c.out,c.op,c.bd,.int .i64 c.verd] _;rw [e];simpa [gA] using this
   ·exact aM.setCell (S:=fun k=>k=x.p) ((aM.refl _ w).drewN _) (p:=⟨x.p,1,none⟩) (aH rfl) _
theorem E7 (r:Nat) (w:World):Calls prog 93 #[.int .i64 r] w fun e w'=>e=.returned (.bool (sU r))∧w'=w:=by
 have b:r<58∨r=58∨(58<r∧r<65)∨(65≤r∧r≤90)∨(90<r∧r<95)∨r=95∨r=96∨(97≤r∧r≤122)∨(122<r∧r<192)∨(192≤r∧r<215)∨r=215∨(215<r∧r<247)∨r=247∨(247<r∧r≤255)∨255<r:=by omega
 refine eI 41 func93 [_] fun f=>?_;simp only [aF];have a:=Lh (show sU r=((decide (97≤r)&&decide (r≤122))||(decide (65≤r)&&decide (r≤90))||r==95||r==58||(decide (192≤r)&&decide (r≤255)&&r != 215&&r != 247)) from rfl);rcases b with h|h|h|h|h|h|h|h|h|h|h|h|h|h|h
 all_goals
  first|have:(97:Int)≤(r:Int):=by omega|have:¬ ((97:Int)≤(r:Int)):=by omega
  first|have:(r:Int)≤122:=by omega|have:¬ ((r:Int)≤122):=by omega
  first|have:(65:Int)≤(r:Int):=by omega|have:¬ ((65:Int)≤(r:Int)):=by omega
  first|have:(r:Int)≤90:=by omega|have:¬ ((r:Int)≤90):=by omega
  first|have:(192:Int)≤(r:Int):=by omega|have:¬ ((192:Int)≤(r:Int)):=by omega
  first|have:(r:Int)≤255:=by omega|have:¬ ((r:Int)≤255):=by omega
  first|have:(((r:Int))==(95))=true:=by (simp;omega)|have:(((r:Int))==(95))=false:=by (simp;omega)
  first|have:(((r:Int))==(58))=true:=by (simp;omega)|have:(((r:Int))==(58))=false:=by (simp;omega)
  first|have:(((r:Int))==(215))=true:=by (simp;omega)|have:(((r:Int))==(215))=false:=by (simp;omega)
  first|have:(((r:Int))==(247))=true:=by (simp;omega)|have:(((r:Int))==(247))=false:=by (simp;omega)
  first|have:((r:Int) != 215)=true:=by (simp;omega)|have:((r:Int) != 215)=false:=by (simp;omega)
  first|have:((r:Int) != 247)=true:=by (simp;omega)|have:((r:Int) != 247)=false:=by (simp;omega)
  have H:=Lh h;clear h;refine vg ?_;refine cO ?_;refine ⟨?_,rfl⟩
  congr 2
  rw [a.o];have h:=H.o;clear H a;simp;omega
theorem xC (r:Nat) (w:World):Calls prog 92 #[.int .i64 r] w fun e w'=>e=.returned (.bool (l6 r))∧w'=w:=by
 have d:r<45∨r=45∨r=46∨r=47∨(48≤r∧r≤57)∨(57<r∧r<183)∨r=183∨183<r:=by omega
 have c:=Lh (fun w=>E7 r w);have b:=Lh (show l6 r=(sU r||(decide (48≤r)&&decide (r≤57))||r==45||r==46||r==183) from rfl);refine eI 25 func92 [_] fun f=>?_;simp only [aF];refine vg ?_;intro K hK K hK;refine (c.o _).mono ?_;rintro g w1 ⟨rfl,rfl⟩;cases a:sU r with
 | true=>
  (repeat revert K);refine vS ?_;refine cO ?_;refine ⟨?_,rfl⟩;rw [b.o,a];rfl
 | false=>
  rw [a] at b;rcases d with h|h|h|h|h|h|h|h
  all_goals
   first|have:(48:Int)≤(r:Int):=by omega|have:¬ ((48:Int)≤(r:Int)):=by omega
   first|have:(r:Int)≤57:=by omega|have:¬ ((r:Int)≤57):=by omega
   first|have:(((r:Int))==(45))=true:=by (simp;omega)|have:(((r:Int))==(45))=false:=by (simp;omega)
   first|have:(((r:Int))==(46))=true:=by (simp;omega)|have:(((r:Int))==(46))=false:=by (simp;omega)
   first|have:(((r:Int))==(183))=true:=by (simp;omega)|have:(((r:Int))==(183))=false:=by (simp;omega)
   have H:=Lh h;clear h;(repeat revert K);refine vS ?_;refine cO ?_;refine ⟨?_,rfl⟩
   congr 2
   rw [b.o];have h:=H.o;clear H b;simp;omega
theorem wC (b:UInt8) (w:World):Calls prog 90 #[.int .u8 b.toNat] w fun e w'=>e=.returned (.bool (mG b))∧w'=w:=by
 have a:b=32∨b=9∨b=10∨b=13∨(b≠32∧b≠9∧b≠10∧b≠13):=by
  by_cases c:b=32
  ·exact aH c
  ·by_cases d:b=9
   ·exact aW (aH d)
   ·by_cases g:b=10
    ·exact aW (aW (aH g))
    ·by_cases h:b=13
     ·exact aW (aW (aW (aH h)))
     ·exact aW (aW (aW (aW ⟨c,d,g,h⟩)))
 rcases a with rfl|rfl|rfl|rfl|⟨c,d,g,h⟩
 ·refine eI 17 func90 [_] fun f=>?_;simp only [aF];refine vg ?_;refine cO ?_;exact ⟨rfl,rfl⟩
 ·refine eI 17 func90 [_] fun f=>?_;simp only [aF];refine vg ?_;refine cO ?_;exact ⟨rfl,rfl⟩
 ·refine eI 17 func90 [_] fun f=>?_;simp only [aF];refine vg ?_;refine cO ?_;exact ⟨rfl,rfl⟩
 ·refine eI 17 func90 [_] fun f=>?_;simp only [aF];refine vg ?_;refine cO ?_;exact ⟨rfl,rfl⟩
 ·have l:=Lh (show mG b=false by simp [mG,c,d,g,h]);have i:∀ k:UInt8,b≠k→((b.toNat:Int)==(k.toNat:Int))=false:=fun k j=>by
   rw [lV];intro q;exact j (UInt8.toNat_inj.1 (by omega))
  have m:((b.toNat:Int)==32)=false:=i 32 c;have n:((b.toNat:Int)==9)=false:=i 9 d;have o:((b.toNat:Int)==10)=false:=i 10 g;have p:((b.toNat:Int)==13)=false:=i 13 h;clear i c d g h;refine eI 17 func90 [_] fun f=>?_;simp only [aF];refine vg ?_;refine cO ?_;exact ⟨by rw [l.o],rfl⟩
theorem UH (T:Bs) (a:Nat) (b:a<T.length) (h:mG (T.getD a 0)=true):aT (T.drop a)=aT (T.drop (a+1)):=by
 rw [EF b];conv=>lhs;unfold aT
 rw [aV];simpa [sR,b] using h
theorem UI (T:Bs) (a:Nat) (b:a<T.length) (h:mG (T.getD a 0)=false):aT (T.drop a)=T.drop a:=by
 rw [EF b];conv=>lhs;unfold aT
 rw [aN];rw [Bool.not_eq_true];simpa [sR,b] using h
def YP (x:PX) (c:PC) (w0:World) (k:Nat) (b:Act) (w:World):Prop:=
 ∃ f a,b=fr 36 f [(0,jP x),(3,.int .i64 (c.at':Nat))]∧aY x w { c with at':=a }∧aM (fun k=>k=x.p) w0 w∧k=x.T.length-a∧a≤x.T.length∧c.at'≤a∧aT (x.T.drop c.at')=aT (x.T.drop a)
theorem m9 (x:PX) (E:x.T.length≤1000000000) (w:World) (c:PC) (h:aY x w c) (F:c.at'≤x.T.length):Calls prog 50 #[jP x] w fun e w'=>∃ a:Nat,e=.returned (.bool (decide ((c.at':Int)<(a:Int))))∧aY x w' { c with at':=a }∧aM (fun k=>k=x.p) w w'∧a≤x.T.length∧c.at'≤a∧aT (x.T.drop c.at')=x.T.drop a:=by
 have z:=h.cell;have A:=h.frozen;have ⟨H,P,M⟩:=mJ h E F;clear h E F;refine eI 36 func50 [_] fun f=>?_;simp only [aF];refine vg ?_;intro K hK;refine cP [0,3] fun f=>?_;refine wp_loop_ghost_k (YP x c w) (x.T.length-c.at') ⟨f,c.at',rfl,H.o,aM.refl _ w,rfl,M.o,dD _,rfl⟩ ?_;clear z A;rintro k _ L ⟨f,a,rfl,B,I,G,r,q,d⟩ J W D o;have ⟨N,t,j,u,O,n⟩:=iH D o B I G r;have ⟨i,l⟩:=cN q d;have C:=Lh (fun U=>uL x (L.drewN U) { c with at':=a } B);clear D o B I G r q d;by_cases g:a<x.T.length
 ·have R:decide (x.T.length≤a)=false:=by rw [decide_eq_false_iff_not];omega
  obtain ⟨b,y⟩:=cY (x.T.getD a 0);have m:=Lh y;have Y:∀ h,(⟨x.T.toArray⟩:ByteArray)[a]'h=b:=fun h=>by
   rw [y];show x.T.toArray[a]=_;simp [sR,g]
  have Z:(0:Int)≤(a:Int):=by omega
  have t1:(a:Int)<(x.T.length:Int):=by omega
  have s:=Lh (fun w=>wC b w);clear y;revert K;refine vg ?_;intro K hK K hK K hK;(refine lX [0,2,0,0,0,0,0,1,0,0,0,1,0,2,0] [0,1,2,3,4,5,6,7,8,9,10,11,12,13,14] ?_;refine vP ?_;repeat with_reducible intro nq)
  refine bK rfl rfl (fun nq K hK=>?_);go_simp;refine (C.o _).mono ?_;rintro Q V ⟨rfl,T,rfl⟩;have z:=j.o.cell;have A:=j.o.frozen;go_simp;refine hK.out _ _ ?_;clear hK K;(refine vP ?_;repeat with_reducible intro nq)
  refine bK rfl rfl (fun nq K hK=>?_);go_simp;refine (s.o _).mono ?_;rintro X w4 ⟨rfl,rfl⟩;go_simp;refine hK.out _ _ ?_;clear hK K;(refine vP ?_;repeat with_reducible intro nq)
  cases d:mG b with
  | true=>
   have v:=Lh d;(repeat revert K);refine vg ?_;intro K hK;refine Kk [0,3] fun f=>?_;have w1:IntKind.i64.wrap ((a:Int)+1)=((a+1:Nat):Int):=by rw [IntKind.wrap_i64];have:=P.o;omega
   rw [w1];refine t.o _ _ ⟨x.T.length-(a+1),by rw [O.o];omega,N.o _ _ _ ⟨f,a+1,rfl,?_,aM.setCell (S:=fun k=>k=x.p) (u.o.drewN _) (p:=⟨x.p,1,none⟩) (aH rfl) _,rfl,g,by have:=i.o;omega,l.o.trans (UH x.T a g (by rw [←m.o];exact v.o))⟩⟩;exact aJ.set (w:=L.drewN _) (cs:=gA x { c with at':=a }) j.o 1 _
  | false=>
   have v:=Lh d;(repeat revert K);refine vg ?_;refine cO ?_;exact ⟨a,by simp,j.o,u.o.drewN _,n.o,i.o,l.o.trans (UI x.T a g (by rw [←m.o];exact v.o))⟩
 ·have R:decide (x.T.length≤a)=true:=by rw [decide_eq_true_iff];omega
  revert K;refine vg ?_;intro K hK K hK K hK;(refine lX [0,2,0,0,0,0,0,1,0,0,0,1,0,2,0] [0,1,2,3,4,5,6,7,8,9,10,11,12,13,14] ?_;refine vP ?_;repeat with_reducible intro nq)
  refine bK rfl rfl (fun nq K hK=>?_);go_simp;refine (C.o _).mono ?_;rintro Q V ⟨rfl,T,rfl⟩;go_simp;refine hK.out _ _ ?_;clear hK K;(refine vP ?_;repeat with_reducible intro nq)
  have z:=j.o.cell;have A:=j.o.frozen;(repeat revert K);refine vg ?_;refine cO ?_;exact ⟨a,by simp,j.o,u.o.drewN _,n.o,i.o,l.o.trans (by rw [vN (by omega)];rfl)⟩
theorem lD (T:Bs) (i j:Nat):(⟨T.toArray⟩:ByteArray).extract i j=⟨((T.drop i).take (j-i)).toArray⟩:=by
 apply ByteArray.ext
 rw [ByteArray.data_extract];simp [List.extract_eq_take_drop]
theorem UJ (T:Bs) (a:Nat) (b:a<T.length) (h:dC (T.getD a 0)=true):aD (T.drop a)=(T.getD a 0::(aD (T.drop (a+1))).1,(aD (T.drop (a+1))).2):=by
 rw [EF b];have e:T[a]=T.getD a 0:=by simp [sR,b]
 rw [e];conv=>lhs;unfold aD
 rw [aV h]
theorem MO (T:Bs) (a:Nat) (h:a<T.length→dC (T.getD a 0)=false):aD (T.drop a)=([],T.drop a):=by
 by_cases b:a<T.length
 ·have e:T[a]=T.getD a 0:=by simp [sR,b]
  rw [EF b,e];conv=>lhs;unfold aD
  rw [aN (by rw [h b];simp)]
 ·rw [vN (by omega)];rfl
theorem wD (T:Bs) (i a:Nat) (h:i≤a) (b:a<T.length):(T.drop i).take (a+1-i)=(T.drop i).take (a-i)++[T.getD a 0]:=by
 rw [show a+1-i=(a-i)+1 by omega,List.take_add_one,List.getElem?_drop,show i+(a-i)=a by omega,List.getElem?_eq_getElem b];simp [sR,b]
theorem jE (T:Bs) (a:Nat) (b:a<T.length):∀ h,(⟨T.toArray⟩:ByteArray)[a]'h=T.getD a 0:=fun h=>by
 show T.toArray[a]=_;simp [sR,b]
def XW (x:PX) (c:PC) (w0:World) (k:Nat) (b:Act) (w:World):Prop:=
 ∃ f a,b=fr 53 f [(0,jP x),(3,.int .i64 (c.at':Nat))]∧aY x w { c with at':=a }∧aM (fun k=>k=x.p) w0 w∧k=x.T.length-a∧a≤x.T.length∧c.at'≤a∧aD (x.T.drop c.at')=((x.T.drop c.at').take (a-c.at')++(aD (x.T.drop a)).1,(aD (x.T.drop a)).2)
theorem Bh {b:UInt8} (h:128≤b.toNat):dC b=true:=by
 unfold dC;rw [Bool.or_eq_true];left;rw [KF];exact UInt8.le_iff_toNat_le.2 h
theorem DO (x:PX) (X:x.T.length≤1000000000) (w:World) (c:PC) (h:aY x w c) (Y:c.at'≤x.T.length):Calls prog 52 #[jP x] w fun e w'=>∃ a:Nat,e=.returned (aB (aD (x.T.drop c.at')).1)∧aY x w' { c with at':=a }∧aM (fun k=>k=x.p) w w'∧a≤x.T.length∧c.at'≤a∧(aD (x.T.drop c.at')).2=x.T.drop a:=by
 have F:=h.cell;have G:=h.frozen;have ⟨H,HT,HA⟩:=mJ h X Y;clear h X Y;refine eI 53 func52 [_] fun f=>?_;simp only [aF];refine vg ?_;intro K hK;refine cP [0,3] fun f=>?_;refine wp_loop_ghost_k (XW x c w) (x.T.length-c.at') ⟨f,c.at',rfl,H.o,aM.refl _ w,rfl,HA.o,dD _,by simp⟩ ?_;clear F G;rintro k _ R ⟨f,a,rfl,P,hm,Z,D,B,E⟩ J K2 W z;have ⟨T,u,m,g,U,M⟩:=iH W z P hm Z D;have ⟨r,v⟩:=cN B E;have L:=Lh (fun kk=>uL x (R.drewN kk) { c with at':=a } P);have z1:(0:Int)≤(c.at':Int):=by omega
 have z2:(c.at':Int)≤(a:Int):=by omega
 have z3:(a:Int)≤(x.T.length:Int):=by omega
 clear W z P hm Z D B E;have q:∀ (d:World) (l:aY x d { c with at':=a }) (j:aM (fun k=>k=x.p) w d),(a<x.T.length→dC (x.T.getD a 0)=false)→∃ b:Nat,Ending.returned (aB ((x.T.drop c.at').take (a-c.at')))=.returned (aB (aD (x.T.drop c.at')).1)∧aY x d { c with at':=b }∧aM (fun k=>k=x.p) w d∧b≤x.T.length∧c.at'≤b∧(aD (x.T.drop c.at')).2=x.T.drop b:=by
  intro d l j Q;have e:=v.o;rw [MO x.T a Q] at e;refine ⟨a,?_,l,j,M.o,r.o,by rw [e]⟩;rw [e];simp
 have n:=Lh q;clear q;by_cases i:a<x.T.length
 ·have he:decide (x.T.length≤a)=false:=by rw [decide_eq_false_iff_not];omega
  obtain ⟨b,N⟩:=cY (x.T.getD a 0);have ix:∀ h,(⟨x.T.toArray⟩:ByteArray)[a]'h=b:=by rw [N];exact jE x.T a i
  have s:=Lh N;have t0:(0:Int)≤(a:Int):=by omega
  have t1:(a:Int)<(x.T.length:Int):=by omega
  have I:=Lh (fun w=>xC b.toNat w);have aA:b.toNat≤255:=by have:=b.toNat_lt;omega
  have wb:IntKind.i64.wrap (b.toNat:Int)=(b.toNat:Int):=by rw [IntKind.wrap_i64];omega
  clear N;have w1:IntKind.i64.wrap ((a:Int)+1)=((a+1:Nat):Int):=by rw [IntKind.wrap_i64];have:=HT.o;omega
  have C:∀ (f:Nat→Value) (d:World) (l:aY x d { c with at':=a+1 }) (j:aM (fun k=>k=x.p) w d),dC b=true→XW x c w (x.T.length-(a+1)) (fr 53 f [(0,jP x),(3,.int .i64 (c.at':Nat))]) d:=by
   intro f d l j O;refine ⟨f,a+1,rfl,l,j,rfl,i,by have:=r.o;omega,?_⟩;rw [v.o,UJ x.T a i (by rw [←s.o];exact O),wD x.T c.at' a r.o i];simp
  have t:=Lh C;clear C;by_cases y:128≤b.toNat
  ·have hg:(128:Int)≤(b.toNat:Int):=by omega
   revert K;refine vg ?_;intro K hK K hK K hK;(refine lX [0,2,0,0,0,0,0,1,0,0,0,1,0,0,0,0,0,0,1,0,0,0,1,0,0,2,0,0] [0,1,2,3,4,5,6,7,8,9,10,11,12,13,14,15,16,17,18,19,20,21,22,23,24,25,26,27] ?_;refine vP ?_;repeat with_reducible intro nq)
   refine bK rfl rfl (fun nq K hK=>?_);go_simp;refine (L.o _).mono ?_;rintro V d ⟨rfl,k3,rfl⟩;have F:=m.o.cell;have G:=m.o.frozen;go_simp;refine hK.out _ _ ?_;clear hK K;(refine vP ?_;repeat with_reducible intro nq)
   (repeat revert K);refine vg ?_;intro K hK;refine Kk [0,3] fun f=>?_;exact u.o _ _ ⟨x.T.length-(a+1),by rw [U.o];omega,T.o _ _ _ (t.o f _ (aJ.set (w:=R.drewN _) (cs:=gA x { c with at':=a }) m.o 1 _) (aM.setCell (S:=fun k=>k=x.p) (g.o.drewN _) (p:=⟨x.p,1,none⟩) (aH rfl) _) (Bh y))⟩
  ·have hg:¬ (128:Int)≤(b.toNat:Int):=by omega
   have o:dC b=l6 b.toNat:=(BK (by omega)).symm;revert K;refine vg ?_;intro K hK K hK K hK;(refine lX [0,2,0,0,0,0,0,1,0,0,0,1,0,0,0,0,0,0,1,0,0,0,1,0,0,2,0,0] [0,1,2,3,4,5,6,7,8,9,10,11,12,13,14,15,16,17,18,19,20,21,22,23,24,25,26,27] ?_;refine vP ?_;repeat with_reducible intro nq)
   refine bK rfl rfl (fun nq K hK=>?_);go_simp;refine (L.o _).mono ?_;rintro V d ⟨rfl,k3,rfl⟩;have F:=m.o.cell;have G:=m.o.frozen;go_simp;refine hK.out _ _ ?_;clear hK K;(refine vP ?_;repeat with_reducible intro nq)
   refine bK rfl rfl (fun nq K hK=>?_);go_simp;refine (I.o _).mono ?_;rintro e4 w4 ⟨rfl,rfl⟩;go_simp;refine hK.out _ _ ?_;clear hK K;(refine vP ?_;repeat with_reducible intro nq)
   cases A:l6 b.toNat with
   | true=>
    (repeat revert K);refine vg ?_;intro K hK;refine Kk [0,3] fun f=>?_;exact u.o _ _ ⟨x.T.length-(a+1),by rw [U.o];omega,T.o _ _ _ (t.o f _ (aJ.set (w:=R.drewN _) (cs:=gA x { c with at':=a }) m.o 1 _) (aM.setCell (S:=fun k=>k=x.p) (g.o.drewN _) (p:=⟨x.p,1,none⟩) (aH rfl) _) (o.trans A))⟩
   | false=>
    (repeat revert K);refine vg ?_;intro K hK;(refine lX [0,0,0,1,0,0,0,0,1,0,0] [0,1,2,3,4,5,6,7,8,9,10] ?_;refine vP ?_;repeat with_reducible intro nq)
    revert K;refine vg ?_;refine cO ?_;rw [lD];exact n.o _ m.o ⟨g.o.os,g.o.tape,g.o.output,g.o.size,g.o.block⟩ (fun _=>by rw [←s.o,o];exact A)
 ·have he:decide (x.T.length≤a)=true:=by rw [decide_eq_true_iff];omega
  revert K;refine vg ?_;intro K hK K hK K hK;(refine lX [0,2,0,0,0,0,0,1,0,0,0,1,0,0,0,0,0,0,1,0,0,0,1,0,0,2,0,0] [0,1,2,3,4,5,6,7,8,9,10,11,12,13,14,15,16,17,18,19,20,21,22,23,24,25,26,27] ?_;refine vP ?_;repeat with_reducible intro nq)
  refine bK rfl rfl (fun nq K hK=>?_);go_simp;refine (L.o _).mono ?_;rintro V d ⟨rfl,k3,rfl⟩;go_simp;refine hK.out _ _ ?_;clear hK K;(refine vP ?_;repeat with_reducible intro nq)
  have F:=m.o.cell;have G:=m.o.frozen;(repeat revert K);refine vg ?_;intro K hK;(refine lX [0,0,0,1,0,0,0,0,1,0,0] [0,1,2,3,4,5,6,7,8,9,10] ?_;refine vP ?_;repeat with_reducible intro nq)
  revert K;refine vg ?_;refine cO ?_;rw [lD];exact n.o _ m.o ⟨g.o.os,g.o.tape,g.o.output,g.o.size,g.o.block⟩ (fun h=>absurd h i)
end Go.Proofs.YthapcchcahnfaaaGreatDoor
