/- Part of the proof that laws.FnWithin returns true for every argument. No conditions. -/
import Derived.Test.YthapcchcahnfaaaGreatDoorQ04
import Derived.Test.YthapcchcahnfaaaGreatDoorQ15
import Derived.Test.YthapcchcahnfaaaGreatDoorQ09
set_option linter.all false
set_option maxHeartbeats 8000000
set_option maxRecDepth 100000
namespace Go.Proofs.YthapcchcahnfaaaGreatDoor
open Go Go.RowKit Go.Proofs.Tryz
structure PX where
 p:Nat
 T:Bs
 raw:Bool
 ents:Value
 space:Bs
structure PC where
 at':Nat
 out:Value
 op:Value
 bd:Value
 verd:Int
abbrev fR (x:PX) (c:PC):Array Value:=#[aB x.T,.int .i64 c.at',.bool x.raw,x.ents,aB x.space,c.out,c.op,c.bd,.int .i64 c.verd]
abbrev aV (x:PX) (w:World) (c:PC):Prop:=aJ w x.p (fR x c) 51
abbrev jA (x:PX):Value:=.pointer (some ⟨x.p,0,none⟩)
theorem s7 (x:PX) (w:World) (c:PC) (h:aV x w c):Calls prog 14 #[jA x] w fun e w'=>e=.returned (.bool (decide ((x.T.length:Int)≤(c.at':Int))))∧∃ k,w'=w.drewN k:=by
 have a:=h.cell;have b:=h.frozen;clear h;refine eT 13 func14 [_] fun f=>?_;simp only [aF];refine vg ?_;intro K hK;go_quiet (fail);revert K;refine vg ?_;refine cX ?_;refine ⟨?_,_,rfl⟩;simp
theorem lG (x:PX) (w:World) (c:PC) (h:aV x w c) (v:Int):Calls prog 32 #[jA x,.int .i64 v] w fun e w'=>e=.returned (.bool false)∧aV x w' { c with verd:=v }∧aK (fun k=>k=x.p) w w':=by
 have a:=h.cell;have b:=h.frozen;have H:=Lh h;clear h;refine eT 9 func32 [_,_] fun f=>?_;simp only [aF];refine vg ?_;refine cX ?_;refine ⟨rfl,?_,?_⟩
 ·have:=H.o.set 8 (.int .i64 v);simpa [fR] using this
 ·exact aK.setCell (S:=fun k=>k=x.p) (aK.refl _ w) (p:=⟨x.p,8,none⟩) (aG rfl) _
theorem OF (T s:Bs) (a:Nat):(((⟨T.toArray⟩:ByteArray).extract a ((a:Int)+(s.length:Int)).toNat).toList==s)=s.isPrefixOf (T.drop a):=by
 have e:((a:Int)+(s.length:Int)).toNat=a+s.length:=by omega
 have b:((⟨T.toArray⟩:ByteArray).extract a (a+s.length)).toList=(T.drop a).take s.length:=by
  rw [ByteArray.toList_eq,ByteArray.data_extract];simp [List.extract_eq_take_drop]
 rw [e,b,Bool.eq_iff_iff,beq_iff_eq,List.isPrefixOf_iff_prefix,List.prefix_iff_eq_take];exact ⟨fun h=>h.symm,fun h=>h.symm⟩
theorem B3 {s l:Bs} (h:s.isPrefixOf l=true):s.length≤l.length:=(List.isPrefixOf_iff_prefix.1 h).length_le
theorem uK (x:PX) (q:x.T.length≤1000000000) (w:World) (c:PC) (h:aV x w c) (r:c.at'≤x.T.length) (s:Bs) (t:s.length≤1000000000):Calls prog 26 #[jA x,aB s] w fun e w'=>e=.returned (.bool (s.isPrefixOf (x.T.drop c.at')))∧aV x w' { c with at':=if s.isPrefixOf (x.T.drop c.at') then c.at'+s.length else c.at' }∧aK (fun k=>k=x.p) w w':=by
 have b:=h.cell;have g:=h.frozen;have H:=Lh h;have w1:IntKind.i64.wrap ((x.T.length:Int)-(c.at':Int))=((x.T.length-c.at':Nat):Int):=by rw [IntKind.wrap_i64];omega
 have u:IntKind.i64.wrap ((c.at':Int)+(s.length:Int))=((c.at'+s.length:Nat):Int):=by rw [IntKind.wrap_i64];omega
 clear h;refine eT 47 func26 [_,_] fun f=>?_;simp only [aF];by_cases j:((x.T.length-c.at':Nat):Int)<(s.length:Int)
 ·refine vg ?_;intro K hK K hK;go_quiet (fail);(repeat revert K);refine vg ?_;intro K hK;refine cX ?_;have a:s.isPrefixOf (x.T.drop c.at')=false:=by
   cases i:s.isPrefixOf (x.T.drop c.at') with
   | false=>rfl
   | true=>have:=B3 i;rw [eO] at this;omega
  rw [a];exact ⟨rfl,H.o,(aK.refl _ w).drewN _⟩
 ·have l:(0:Int)≤(c.at':Int):=by omega
  have m:(c.at':Int)≤(c.at':Int)+(s.length:Int):=by omega
  have n:(c.at':Int)+(s.length:Int)≤(x.T.length:Int):=by omega
  have o:(0:Int)≤(c.at':Int)+(s.length:Int):=by omega
  refine vg ?_;intro K hK K hK;(refine lI [0,0,0,1,0,0,0,0,1,0,0,0,0,0,0,0,0,1,0,0,0,1,0,0,0,1,0,0,0,0,0,0,0] [0,1,2,3,4,5,6,7,8,9,10,11,12,13,14,15,16,17,18,19,20,21,22,23,24,25,26,27,28,29,30,31,32] ?_;refine vP ?_;repeat with_reducible intro nq)
  cases a:s.isPrefixOf (x.T.drop c.at') with
  | false=>
   have d:=(OF x.T s c.at').trans a;(repeat revert K);refine vg ?_;intro K hK;refine cX ?_;rw [a];exact ⟨rfl,H.o,(aK.refl _ w).drewN _⟩
  | true=>
   have d:=(OF x.T s c.at').trans a;have b:=(show aV x (w.drewN nq) c from H.o).cell;have g:=(show aV x (w.drewN nq) c from H.o).frozen;(repeat revert K);refine vg ?_;refine cX ?_;rw [a];refine ⟨rfl,?_,?_⟩
   ·have:=(show aV x (w.drewN nq) c from H.o).set 1 (.int .i64 ((c.at':Int)+(s.length:Int)));have e:((c.at'+s.length:Nat):Int)=(c.at':Int)+(s.length:Int):=by omega
    rw [aT rfl];show aJ _ x.p #[aB x.T,.int .i64 ((c.at'+s.length:Nat):Int),.bool x.raw,x.ents,aB x.space,c.out,c.op,c.bd,.int .i64 c.verd] _;rw [e];simpa [fR] using this
   ·exact aK.setCell (S:=fun k=>k=x.p) ((aK.refl _ w).drewN _) (p:=⟨x.p,1,none⟩) (aG rfl) _
theorem DO (r:Nat) (w:World):Calls prog 93 #[.int .i64 r] w fun e w'=>e=.returned (.bool (rL r))∧w'=w:=by
 have b:r<58∨r=58∨(58<r∧r<65)∨(65≤r∧r≤90)∨(90<r∧r<95)∨r=95∨r=96∨(97≤r∧r≤122)∨(122<r∧r<192)∨(192≤r∧r<215)∨r=215∨(215<r∧r<247)∨r=247∨(247<r∧r≤255)∨255<r:=by omega
 refine eT 41 func93 [_] fun f=>?_;simp only [aF];have a:=Lh (show rL r=((decide (97≤r)&&decide (r≤122))||(decide (65≤r)&&decide (r≤90))||r==95||r==58||(decide (192≤r)&&decide (r≤255)&&r != 215&&r != 247)) from rfl);rcases b with h|h|h|h|h|h|h|h|h|h|h|h|h|h|h
 all_goals
  first|have:(97:Int)≤(r:Int):=by omega|have:¬ ((97:Int)≤(r:Int)):=by omega
  first|have:(r:Int)≤122:=by omega|have:¬ ((r:Int)≤122):=by omega
  first|have:(65:Int)≤(r:Int):=by omega|have:¬ ((65:Int)≤(r:Int)):=by omega
  first|have:(r:Int)≤90:=by omega|have:¬ ((r:Int)≤90):=by omega
  first|have:(192:Int)≤(r:Int):=by omega|have:¬ ((192:Int)≤(r:Int)):=by omega
  first|have:(r:Int)≤255:=by omega|have:¬ ((r:Int)≤255):=by omega
  first|have:(((r:Int))==(95))=true:=by (simp;omega)|have:(((r:Int))==(95))=false:=by (simp;omega)
  first|have:(((r:Int))==(58))=true:=by (simp;omega)|have:(((r:Int))==(58))=false:=by (simp;omega)
  first|have:(((r:Int))==(215))=true:=by (simp;omega)|have:(((r:Int))==(215))=false:=by (simp;omega)
  first|have:(((r:Int))==(247))=true:=by (simp;omega)|have:(((r:Int))==(247))=false:=by (simp;omega)
  first|have:((r:Int) != 215)=true:=by (simp;omega)|have:((r:Int) != 215)=false:=by (simp;omega)
  first|have:((r:Int) != 247)=true:=by (simp;omega)|have:((r:Int) != 247)=false:=by (simp;omega)
  have H:=Lh h;clear h;refine vg ?_;refine cX ?_;refine ⟨?_,rfl⟩
  congr 2
  rw [a.o];have h:=H.o;clear H a;simp;omega
theorem vM (r:Nat) (w:World):Calls prog 92 #[.int .i64 r] w fun e w'=>e=.returned (.bool (lJ r))∧w'=w:=by
 have d:r<45∨r=45∨r=46∨r=47∨(48≤r∧r≤57)∨(57<r∧r<183)∨r=183∨183<r:=by omega
 have c:=Lh (fun w=>DO r w);have b:=Lh (show lJ r=(rL r||(decide (48≤r)&&decide (r≤57))||r==45||r==46||r==183) from rfl);refine eT 25 func92 [_] fun f=>?_;simp only [aF];refine vg ?_;intro K hK K hK;refine (c.o _).mono ?_;rintro g w1 ⟨rfl,rfl⟩;cases a:rL r with
 | true=>
  (repeat revert K);refine vS ?_;refine cX ?_;refine ⟨?_,rfl⟩;rw [b.o,a];rfl
 | false=>
  rw [a] at b;rcases d with h|h|h|h|h|h|h|h
  all_goals
   first|have:(48:Int)≤(r:Int):=by omega|have:¬ ((48:Int)≤(r:Int)):=by omega
   first|have:(r:Int)≤57:=by omega|have:¬ ((r:Int)≤57):=by omega
   first|have:(((r:Int))==(45))=true:=by (simp;omega)|have:(((r:Int))==(45))=false:=by (simp;omega)
   first|have:(((r:Int))==(46))=true:=by (simp;omega)|have:(((r:Int))==(46))=false:=by (simp;omega)
   first|have:(((r:Int))==(183))=true:=by (simp;omega)|have:(((r:Int))==(183))=false:=by (simp;omega)
   have H:=Lh h;clear h;(repeat revert K);refine vS ?_;refine cX ?_;refine ⟨?_,rfl⟩
   congr 2
   rw [b.o];have h:=H.o;clear H b;simp;omega
theorem uL (b:UInt8) (w:World):Calls prog 90 #[.int .u8 b.toNat] w fun e w'=>e=.returned (.bool (lR b))∧w'=w:=by
 have a:b=32∨b=9∨b=10∨b=13∨(b≠32∧b≠9∧b≠10∧b≠13):=by
  by_cases c:b=32
  ·exact aG c
  ·by_cases d:b=9
   ·exact aX (aG d)
   ·by_cases g:b=10
    ·exact aX (aX (aG g))
    ·by_cases h:b=13
     ·exact aX (aX (aX (aG h)))
     ·exact aX (aX (aX (aX ⟨c,d,g,h⟩)))
 rcases a with rfl|rfl|rfl|rfl|⟨c,d,g,h⟩
 ·refine eT 17 func90 [_] fun f=>?_;simp only [aF];refine vg ?_;refine cX ?_;exact ⟨rfl,rfl⟩
 ·refine eT 17 func90 [_] fun f=>?_;simp only [aF];refine vg ?_;refine cX ?_;exact ⟨rfl,rfl⟩
 ·refine eT 17 func90 [_] fun f=>?_;simp only [aF];refine vg ?_;refine cX ?_;exact ⟨rfl,rfl⟩
 ·refine eT 17 func90 [_] fun f=>?_;simp only [aF];refine vg ?_;refine cX ?_;exact ⟨rfl,rfl⟩
 ·have l:=Lh (show lR b=false by simp [lR,c,d,g,h]);have i:∀ k:UInt8,b≠k→((b.toNat:Int)==(k.toNat:Int))=false:=fun k j=>by
   rw [m6];intro q;exact j (UInt8.toNat_inj.1 (by omega))
  have m:((b.toNat:Int)==32)=false:=i 32 c;have n:((b.toNat:Int)==9)=false:=i 9 d;have o:((b.toNat:Int)==10)=false:=i 10 g;have p:((b.toNat:Int)==13)=false:=i 13 h;clear i c d g h;refine eT 17 func90 [_] fun f=>?_;simp only [aF];refine vg ?_;refine cX ?_;exact ⟨by rw [l.o],rfl⟩
theorem R0 (T:Bs) (a:Nat) (b:a<T.length) (h:lR (T.getD a 0)=true):aQ (T.drop a)=aQ (T.drop (a+1)):=by
 rw [CZ b];conv=>lhs;unfold aQ
 rw [aT];simpa [rI,b] using h
theorem R1 (T:Bs) (a:Nat) (b:a<T.length) (h:lR (T.getD a 0)=false):aQ (T.drop a)=T.drop a:=by
 rw [CZ b];conv=>lhs;unfold aQ
 rw [aM];rw [Bool.not_eq_true];simpa [rI,b] using h
def V8 (x:PX) (c:PC) (w0:World) (k:Nat) (b:Act) (w:World):Prop:=
 ∃ f a,b=fr 36 f [(0,jA x),(3,.int .i64 (c.at':Nat))]∧aV x w { c with at':=a }∧aK (fun k=>k=x.p) w0 w∧k=x.T.length-a∧a≤x.T.length∧c.at'≤a∧aQ (x.T.drop c.at')=aQ (x.T.drop a)
theorem mH (x:PX) (E:x.T.length≤1000000000) (w:World) (c:PC) (h:aV x w c) (F:c.at'≤x.T.length):Calls prog 50 #[jA x] w fun e w'=>∃ a:Nat,e=.returned (.bool (decide ((c.at':Int)<(a:Int))))∧aV x w' { c with at':=a }∧aK (fun k=>k=x.p) w w'∧a≤x.T.length∧c.at'≤a∧aQ (x.T.drop c.at')=x.T.drop a:=by
 have z:=h.cell;have A:=h.frozen;have ⟨H,P,M⟩:=lQ h E F;clear h E F;refine eT 36 func50 [_] fun f=>?_;simp only [aF];refine vg ?_;intro K hK;refine cM [0,3] fun f=>?_;refine wp_loop_ghost_k (V8 x c w) (x.T.length-c.at') ⟨f,c.at',rfl,H.o,aK.refl _ w,rfl,M.o,dC _,rfl⟩ ?_;clear z A;rintro k _ L ⟨f,a,rfl,B,I,G,r,q,d⟩ J W D o;have ⟨N,t,j,u,O,n⟩:=iD D o B I G r;have ⟨i,l⟩:=cH q d;have C:=Lh (fun U=>s7 x (L.drewN U) { c with at':=a } B);clear D o B I G r q d;by_cases g:a<x.T.length
 ·have R:decide (x.T.length≤a)=false:=by rw [decide_eq_false_iff_not];omega
  obtain ⟨b,y⟩:=cR (x.T.getD a 0);have m:=Lh y;have Y:∀ h,(⟨x.T.toArray⟩:ByteArray)[a]'h=b:=fun h=>by
   rw [y];show x.T.toArray[a]=_;simp [rI,g]
  have Z:(0:Int)≤(a:Int):=by omega
  have t1:(a:Int)<(x.T.length:Int):=by omega
  have s:=Lh (fun w=>uL b w);clear y;revert K;refine vg ?_;intro K hK K hK K hK;(refine lI [0,2,0,0,0,0,0,1,0,0,0,1,0,2,0] [0,1,2,3,4,5,6,7,8,9,10,11,12,13,14] ?_;refine vP ?_;repeat with_reducible intro nq)
  refine bN rfl rfl (fun nq K hK=>?_);go_simp;refine (C.o _).mono ?_;rintro Q V ⟨rfl,T,rfl⟩;have z:=j.o.cell;have A:=j.o.frozen;go_simp;refine hK.out _ _ ?_;clear hK K;(refine vP ?_;repeat with_reducible intro nq)
  refine bN rfl rfl (fun nq K hK=>?_);go_simp;refine (s.o _).mono ?_;rintro X w4 ⟨rfl,rfl⟩;go_simp;refine hK.out _ _ ?_;clear hK K;(refine vP ?_;repeat with_reducible intro nq)
  cases d:lR b with
  | true=>
   have v:=Lh d;(repeat revert K);refine vg ?_;intro K hK;refine Kk [0,3] fun f=>?_;have w1:IntKind.i64.wrap ((a:Int)+1)=((a+1:Nat):Int):=by rw [IntKind.wrap_i64];have:=P.o;omega
   rw [w1];refine t.o _ _ ⟨x.T.length-(a+1),by rw [O.o];omega,N.o _ _ _ ⟨f,a+1,rfl,?_,aK.setCell (S:=fun k=>k=x.p) (u.o.drewN _) (p:=⟨x.p,1,none⟩) (aG rfl) _,rfl,g,by have:=i.o;omega,l.o.trans (R0 x.T a g (by rw [←m.o];exact v.o))⟩⟩;exact aJ.set (w:=L.drewN _) (cs:=fR x { c with at':=a }) j.o 1 _
  | false=>
   have v:=Lh d;(repeat revert K);refine vg ?_;refine cX ?_;exact ⟨a,by simp,j.o,u.o.drewN _,n.o,i.o,l.o.trans (R1 x.T a g (by rw [←m.o];exact v.o))⟩
 ·have R:decide (x.T.length≤a)=true:=by rw [decide_eq_true_iff];omega
  revert K;refine vg ?_;intro K hK K hK K hK;(refine lI [0,2,0,0,0,0,0,1,0,0,0,1,0,2,0] [0,1,2,3,4,5,6,7,8,9,10,11,12,13,14] ?_;refine vP ?_;repeat with_reducible intro nq)
  refine bN rfl rfl (fun nq K hK=>?_);go_simp;refine (C.o _).mono ?_;rintro Q V ⟨rfl,T,rfl⟩;go_simp;refine hK.out _ _ ?_;clear hK K;(refine vP ?_;repeat with_reducible intro nq)
  have z:=j.o.cell;have A:=j.o.frozen;(repeat revert K);refine vg ?_;refine cX ?_;exact ⟨a,by simp,j.o,u.o.drewN _,n.o,i.o,l.o.trans (by rw [t6 (by omega)];rfl)⟩
theorem kG (T:Bs) (i j:Nat):(⟨T.toArray⟩:ByteArray).extract i j=⟨((T.drop i).take (j-i)).toArray⟩:=by
 apply ByteArray.ext
 rw [ByteArray.data_extract];simp [List.extract_eq_take_drop]
theorem R2 (T:Bs) (a:Nat) (b:a<T.length) (h:cW (T.getD a 0)=true):aD (T.drop a)=(T.getD a 0::(aD (T.drop (a+1))).1,(aD (T.drop (a+1))).2):=by
 rw [CZ b];have e:T[a]=T.getD a 0:=by simp [rI,b]
 rw [e];conv=>lhs;unfold aD
 rw [aT h]
theorem KP (T:Bs) (a:Nat) (h:a<T.length→cW (T.getD a 0)=false):aD (T.drop a)=([],T.drop a):=by
 by_cases b:a<T.length
 ·have e:T[a]=T.getD a 0:=by simp [rI,b]
  rw [CZ b,e];conv=>lhs;unfold aD
  rw [aM (by rw [h b];simp)]
 ·rw [t6 (by omega)];rfl
theorem uM (T:Bs) (i a:Nat) (h:i≤a) (b:a<T.length):(T.drop i).take (a+1-i)=(T.drop i).take (a-i)++[T.getD a 0]:=by
 rw [show a+1-i=(a-i)+1 by omega,List.take_add_one,List.getElem?_drop,show i+(a-i)=a by omega,List.getElem?_eq_getElem b];simp [rI,b]
theorem iP (T:Bs) (a:Nat) (b:a<T.length):∀ h,(⟨T.toArray⟩:ByteArray)[a]'h=T.getD a 0:=fun h=>by
 show T.toArray[a]=_;simp [rI,b]
def U9 (x:PX) (c:PC) (w0:World) (k:Nat) (b:Act) (w:World):Prop:=
 ∃ f a,b=fr 53 f [(0,jA x),(3,.int .i64 (c.at':Nat))]∧aV x w { c with at':=a }∧aK (fun k=>k=x.p) w0 w∧k=x.T.length-a∧a≤x.T.length∧c.at'≤a∧aD (x.T.drop c.at')=((x.T.drop c.at').take (a-c.at')++(aD (x.T.drop a)).1,(aD (x.T.drop a)).2)
theorem YJ {b:UInt8} (h:128≤b.toNat):cW b=true:=by
 unfold cW;rw [Bool.or_eq_true];left;rw [IN];exact UInt8.le_iff_toNat_le.2 h
theorem B4 (x:PX) (X:x.T.length≤1000000000) (w:World) (c:PC) (h:aV x w c) (Y:c.at'≤x.T.length):Calls prog 52 #[jA x] w fun e w'=>∃ a:Nat,e=.returned (aB (aD (x.T.drop c.at')).1)∧aV x w' { c with at':=a }∧aK (fun k=>k=x.p) w w'∧a≤x.T.length∧c.at'≤a∧(aD (x.T.drop c.at')).2=x.T.drop a:=by
 have F:=h.cell;have G:=h.frozen;have ⟨H,HT,HA⟩:=lQ h X Y;clear h X Y;refine eT 53 func52 [_] fun f=>?_;simp only [aF];refine vg ?_;intro K hK;refine cM [0,3] fun f=>?_;refine wp_loop_ghost_k (U9 x c w) (x.T.length-c.at') ⟨f,c.at',rfl,H.o,aK.refl _ w,rfl,HA.o,dC _,by simp⟩ ?_;clear F G;rintro k _ R ⟨f,a,rfl,P,hm,Z,D,B,E⟩ J K2 W z;have ⟨T,u,m,g,U,M⟩:=iD W z P hm Z D;have ⟨r,v⟩:=cH B E;have L:=Lh (fun kk=>s7 x (R.drewN kk) { c with at':=a } P);have z1:(0:Int)≤(c.at':Int):=by omega
 have z2:(c.at':Int)≤(a:Int):=by omega
 have z3:(a:Int)≤(x.T.length:Int):=by omega
 clear W z P hm Z D B E;have q:∀ (d:World) (l:aV x d { c with at':=a }) (j:aK (fun k=>k=x.p) w d),(a<x.T.length→cW (x.T.getD a 0)=false)→∃ b:Nat,Ending.returned (aB ((x.T.drop c.at').take (a-c.at')))=.returned (aB (aD (x.T.drop c.at')).1)∧aV x d { c with at':=b }∧aK (fun k=>k=x.p) w d∧b≤x.T.length∧c.at'≤b∧(aD (x.T.drop c.at')).2=x.T.drop b:=by
  intro d l j Q;have e:=v.o;rw [KP x.T a Q] at e;refine ⟨a,?_,l,j,M.o,r.o,by rw [e]⟩;rw [e];simp
 have n:=Lh q;clear q;by_cases i:a<x.T.length
 ·have he:decide (x.T.length≤a)=false:=by rw [decide_eq_false_iff_not];omega
  obtain ⟨b,N⟩:=cR (x.T.getD a 0);have ix:∀ h,(⟨x.T.toArray⟩:ByteArray)[a]'h=b:=by rw [N];exact iP x.T a i
  have s:=Lh N;have t0:(0:Int)≤(a:Int):=by omega
  have t1:(a:Int)<(x.T.length:Int):=by omega
  have I:=Lh (fun w=>vM b.toNat w);have aA:b.toNat≤255:=by have:=b.toNat_lt;omega
  have wb:IntKind.i64.wrap (b.toNat:Int)=(b.toNat:Int):=by rw [IntKind.wrap_i64];omega
  clear N;have w1:IntKind.i64.wrap ((a:Int)+1)=((a+1:Nat):Int):=by rw [IntKind.wrap_i64];have:=HT.o;omega
  have C:∀ (f:Nat→Value) (d:World) (l:aV x d { c with at':=a+1 }) (j:aK (fun k=>k=x.p) w d),cW b=true→U9 x c w (x.T.length-(a+1)) (fr 53 f [(0,jA x),(3,.int .i64 (c.at':Nat))]) d:=by
   intro f d l j O;refine ⟨f,a+1,rfl,l,j,rfl,i,by have:=r.o;omega,?_⟩;rw [v.o,R2 x.T a i (by rw [←s.o];exact O),uM x.T c.at' a r.o i];simp
  have t:=Lh C;clear C;by_cases y:128≤b.toNat
  ·have hg:(128:Int)≤(b.toNat:Int):=by omega
   revert K;refine vg ?_;intro K hK K hK K hK;(refine lI [0,2,0,0,0,0,0,1,0,0,0,1,0,0,0,0,0,0,1,0,0,0,1,0,0,2,0,0] [0,1,2,3,4,5,6,7,8,9,10,11,12,13,14,15,16,17,18,19,20,21,22,23,24,25,26,27] ?_;refine vP ?_;repeat with_reducible intro nq)
   refine bN rfl rfl (fun nq K hK=>?_);go_simp;refine (L.o _).mono ?_;rintro V d ⟨rfl,k3,rfl⟩;have F:=m.o.cell;have G:=m.o.frozen;go_simp;refine hK.out _ _ ?_;clear hK K;(refine vP ?_;repeat with_reducible intro nq)
   (repeat revert K);refine vg ?_;intro K hK;refine Kk [0,3] fun f=>?_;exact u.o _ _ ⟨x.T.length-(a+1),by rw [U.o];omega,T.o _ _ _ (t.o f _ (aJ.set (w:=R.drewN _) (cs:=fR x { c with at':=a }) m.o 1 _) (aK.setCell (S:=fun k=>k=x.p) (g.o.drewN _) (p:=⟨x.p,1,none⟩) (aG rfl) _) (YJ y))⟩
  ·have hg:¬ (128:Int)≤(b.toNat:Int):=by omega
   have o:cW b=lJ b.toNat:=(AB (by omega)).symm;revert K;refine vg ?_;intro K hK K hK K hK;(refine lI [0,2,0,0,0,0,0,1,0,0,0,1,0,0,0,0,0,0,1,0,0,0,1,0,0,2,0,0] [0,1,2,3,4,5,6,7,8,9,10,11,12,13,14,15,16,17,18,19,20,21,22,23,24,25,26,27] ?_;refine vP ?_;repeat with_reducible intro nq)
   refine bN rfl rfl (fun nq K hK=>?_);go_simp;refine (L.o _).mono ?_;rintro V d ⟨rfl,k3,rfl⟩;have F:=m.o.cell;have G:=m.o.frozen;go_simp;refine hK.out _ _ ?_;clear hK K;(refine vP ?_;repeat with_reducible intro nq)
   refine bN rfl rfl (fun nq K hK=>?_);go_simp;refine (I.o _).mono ?_;rintro e4 w4 ⟨rfl,rfl⟩;go_simp;refine hK.out _ _ ?_;clear hK K;(refine vP ?_;repeat with_reducible intro nq)
   cases A:lJ b.toNat with
   | true=>
    (repeat revert K);refine vg ?_;intro K hK;refine Kk [0,3] fun f=>?_;exact u.o _ _ ⟨x.T.length-(a+1),by rw [U.o];omega,T.o _ _ _ (t.o f _ (aJ.set (w:=R.drewN _) (cs:=fR x { c with at':=a }) m.o 1 _) (aK.setCell (S:=fun k=>k=x.p) (g.o.drewN _) (p:=⟨x.p,1,none⟩) (aG rfl) _) (o.trans A))⟩
   | false=>
    (repeat revert K);refine vg ?_;intro K hK;(refine lI [0,0,0,1,0,0,0,0,1,0,0] [0,1,2,3,4,5,6,7,8,9,10] ?_;refine vP ?_;repeat with_reducible intro nq)
    revert K;refine vg ?_;refine cX ?_;rw [kG];exact n.o _ m.o ⟨g.o.os,g.o.tape,g.o.output,g.o.size,g.o.block⟩ (fun _=>by rw [←s.o,o];exact A)
 ·have he:decide (x.T.length≤a)=true:=by rw [decide_eq_true_iff];omega
  revert K;refine vg ?_;intro K hK K hK K hK;(refine lI [0,2,0,0,0,0,0,1,0,0,0,1,0,0,0,0,0,0,1,0,0,0,1,0,0,2,0,0] [0,1,2,3,4,5,6,7,8,9,10,11,12,13,14,15,16,17,18,19,20,21,22,23,24,25,26,27] ?_;refine vP ?_;repeat with_reducible intro nq)
  refine bN rfl rfl (fun nq K hK=>?_);go_simp;refine (L.o _).mono ?_;rintro V d ⟨rfl,k3,rfl⟩;go_simp;refine hK.out _ _ ?_;clear hK K;(refine vP ?_;repeat with_reducible intro nq)
  have F:=m.o.cell;have G:=m.o.frozen;(repeat revert K);refine vg ?_;intro K hK;(refine lI [0,0,0,1,0,0,0,0,1,0,0] [0,1,2,3,4,5,6,7,8,9,10] ?_;refine vP ?_;repeat with_reducible intro nq)
  revert K;refine vg ?_;refine cX ?_;rw [kG];exact n.o _ m.o ⟨g.o.os,g.o.tape,g.o.output,g.o.size,g.o.block⟩ (fun h=>absurd h i)
end Go.Proofs.YthapcchcahnfaaaGreatDoor
