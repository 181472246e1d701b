/- Part of the proof that laws.FnSkip returns true for every argument. No conditions. -/
import Derived.Test.YthapcchcahnfaaaGreatDoorS14
import Derived.Test.YthapcchcahnfaaaGreatDoorS12
import Derived.Test.YthapcchcahnfaaaGreatDoorS08
set_option linter.all false
set_option maxHeartbeats 8000000
set_option maxRecDepth 100000
namespace Go.Proofs.YthapcchcahnfaaaGreatDoor
open Go Go.RowKit Go.Proofs.Tryz
structure PX where
 p:Nat
 T:Bs
 raw:Bool
 ents:Value
 space:Bs
structure PC where
 at':Nat
 out:Value
 op:Value
 bd:Value
 verd:Int
abbrev fN (x:PX) (c:PC):Array Value:=#[aB x.T,.int .i64 c.at',.bool x.raw,x.ents,aB x.space,c.out,c.op,c.bd,.int .i64 c.verd]
abbrev aV (x:PX) (w:World) (c:PC):Prop:=aL w x.p (fN x c) 51
abbrev iU (x:PX):Value:=.pointer (some ⟨x.p,0,none⟩)
theorem sU (x:PX) (w:World) (c:PC) (h:aV x w c):Calls prog 14 #[iU x] w fun e w'=>e=.returned (.bool (decide ((x.T.length:Int)≤(c.at':Int))))∧∃ k,w'=w.drewN k:=by
 have a:=h.cell;have b:=h.frozen;clear h;refine eL 13 func14 [_] fun f=>?_;simp only [aF];refine vg ?_;intro K hK;go_quiet (fail);revert K;refine vg ?_;refine cM ?_;refine ⟨?_,_,rfl⟩;simp
theorem lF (x:PX) (w:World) (c:PC) (h:aV x w c) (v:Int):Calls prog 32 #[iU x,.int .i64 v] w fun e w'=>e=.returned (.bool false)∧aV x w' { c with verd:=v }∧aJ (fun k=>k=x.p) w w':=by
 have a:=h.cell;have b:=h.frozen;have H:=Lh h;clear h;refine eL 9 func32 [_,_] fun f=>?_;simp only [aF];refine vg ?_;refine cM ?_;refine ⟨rfl,?_,?_⟩
 ·have:=H.o.set 8 (.int .i64 v);simpa [fN] using this
 ·exact aJ.setCell (S:=fun k=>k=x.p) (aJ.refl _ w) (p:=⟨x.p,8,none⟩) (aG rfl) _
theorem NQ (T s:Bs) (a:Nat):(((⟨T.toArray⟩:ByteArray).extract a ((a:Int)+(s.length:Int)).toNat).toList==s)=s.isPrefixOf (T.drop a):=by
 have e:((a:Int)+(s.length:Int)).toNat=a+s.length:=by omega
 have b:((⟨T.toArray⟩:ByteArray).extract a (a+s.length)).toList=(T.drop a).take s.length:=by
  rw [ByteArray.toList_eq,ByteArray.data_extract];simp [List.extract_eq_take_drop]
 rw [e,b,Bool.eq_iff_iff,beq_iff_eq,List.isPrefixOf_iff_prefix,List.prefix_iff_eq_take];exact ⟨fun h=>h.symm,fun h=>h.symm⟩
theorem BS {s l:Bs} (h:s.isPrefixOf l=true):s.length≤l.length:=(List.isPrefixOf_iff_prefix.1 h).length_le
theorem uF (x:PX) (q:x.T.length≤1000000000) (w:World) (c:PC) (h:aV x w c) (r:c.at'≤x.T.length) (s:Bs) (t:s.length≤1000000000):Calls prog 26 #[iU x,aB s] w fun e w'=>e=.returned (.bool (s.isPrefixOf (x.T.drop c.at')))∧aV x w' { c with at':=if s.isPrefixOf (x.T.drop c.at') then c.at'+s.length else c.at' }∧aJ (fun k=>k=x.p) w w':=by
 have b:=h.cell;have g:=h.frozen;have H:=Lh h;have w1:IntKind.i64.wrap ((x.T.length:Int)-(c.at':Int))=((x.T.length-c.at':Nat):Int):=by rw [IntKind.wrap_i64];omega
 have u:IntKind.i64.wrap ((c.at':Int)+(s.length:Int))=((c.at'+s.length:Nat):Int):=by rw [IntKind.wrap_i64];omega
 clear h;refine eL 47 func26 [_,_] fun f=>?_;simp only [aF];by_cases j:((x.T.length-c.at':Nat):Int)<(s.length:Int)
 ·refine vg ?_;intro K hK K hK;go_quiet (fail);(repeat revert K);refine vg ?_;intro K hK;refine cM ?_;have a:s.isPrefixOf (x.T.drop c.at')=false:=by
   cases i:s.isPrefixOf (x.T.drop c.at') with
   | false=>rfl
   | true=>have:=BS i;rw [eC] at this;omega
  rw [a];exact ⟨rfl,H.o,(aJ.refl _ w).drewN _⟩
 ·have l:(0:Int)≤(c.at':Int):=by omega
  have m:(c.at':Int)≤(c.at':Int)+(s.length:Int):=by omega
  have n:(c.at':Int)+(s.length:Int)≤(x.T.length:Int):=by omega
  have o:(0:Int)≤(c.at':Int)+(s.length:Int):=by omega
  refine vg ?_;intro K hK K hK;(refine lD [0,0,0,1,0,0,0,0,1,0,0,0,0,0,0,0,0,1,0,0,0,1,0,0,0,1,0,0,0,0,0,0,0] [0,1,2,3,4,5,6,7,8,9,10,11,12,13,14,15,16,17,18,19,20,21,22,23,24,25,26,27,28,29,30,31,32] ?_;refine vP ?_;repeat with_reducible intro nq)
  cases a:s.isPrefixOf (x.T.drop c.at') with
  | false=>
   have d:=(NQ x.T s c.at').trans a;(repeat revert K);refine vg ?_;intro K hK;refine cM ?_;rw [a];exact ⟨rfl,H.o,(aJ.refl _ w).drewN _⟩
  | true=>
   have d:=(NQ x.T s c.at').trans a;have b:=(show aV x (w.drewN nq) c from H.o).cell;have g:=(show aV x (w.drewN nq) c from H.o).frozen;(repeat revert K);refine vg ?_;refine cM ?_;rw [a];refine ⟨rfl,?_,?_⟩
   ·have:=(show aV x (w.drewN nq) c from H.o).set 1 (.int .i64 ((c.at':Int)+(s.length:Int)));have e:((c.at'+s.length:Nat):Int)=(c.at':Int)+(s.length:Int):=by omega
    rw [aY rfl];show aL _ x.p #[aB x.T,.int .i64 ((c.at'+s.length:Nat):Int),.bool x.raw,x.ents,aB x.space,c.out,c.op,c.bd,.int .i64 c.verd] _;rw [e];simpa [fN] using this
   ·exact aJ.setCell (S:=fun k=>k=x.p) ((aJ.refl _ w).drewN _) (p:=⟨x.p,1,none⟩) (aG rfl) _
theorem DA (r:Nat) (w:World):Calls prog 93 #[.int .i64 r] w fun e w'=>e=.returned (.bool (rJ r))∧w'=w:=by
 have b:r<58∨r=58∨(58<r∧r<65)∨(65≤r∧r≤90)∨(90<r∧r<95)∨r=95∨r=96∨(97≤r∧r≤122)∨(122<r∧r<192)∨(192≤r∧r<215)∨r=215∨(215<r∧r<247)∨r=247∨(247<r∧r≤255)∨255<r:=by omega
 refine eL 41 func93 [_] fun f=>?_;simp only [aF];have a:=Lh (show rJ r=((decide (97≤r)&&decide (r≤122))||(decide (65≤r)&&decide (r≤90))||r==95||r==58||(decide (192≤r)&&decide (r≤255)&&r != 215&&r != 247)) from rfl);rcases b with h|h|h|h|h|h|h|h|h|h|h|h|h|h|h
 all_goals
  first|have:(97:Int)≤(r:Int):=by omega|have:¬ ((97:Int)≤(r:Int)):=by omega
  first|have:(r:Int)≤122:=by omega|have:¬ ((r:Int)≤122):=by omega
  first|have:(65:Int)≤(r:Int):=by omega|have:¬ ((65:Int)≤(r:Int)):=by omega
  first|have:(r:Int)≤90:=by omega|have:¬ ((r:Int)≤90):=by omega
  first|have:(192:Int)≤(r:Int):=by omega|have:¬ ((192:Int)≤(r:Int)):=by omega
  first|have:(r:Int)≤255:=by omega|have:¬ ((r:Int)≤255):=by omega
  first|have:(((r:Int))==(95))=true:=by (simp;omega)|have:(((r:Int))==(95))=false:=by (simp;omega)
  first|have:(((r:Int))==(58))=true:=by (simp;omega)|have:(((r:Int))==(58))=false:=by (simp;omega)
  first|have:(((r:Int))==(215))=true:=by (simp;omega)|have:(((r:Int))==(215))=false:=by (simp;omega)
  first|have:(((r:Int))==(247))=true:=by (simp;omega)|have:(((r:Int))==(247))=false:=by (simp;omega)
  first|have:((r:Int) != 215)=true:=by (simp;omega)|have:((r:Int) != 215)=false:=by (simp;omega)
  first|have:((r:Int) != 247)=true:=by (simp;omega)|have:((r:Int) != 247)=false:=by (simp;omega)
  have H:=Lh h;clear h;refine vg ?_;refine cM ?_;refine ⟨?_,rfl⟩
  congr 2
  rw [a.o];have h:=H.o;clear H a;simp;omega
end Go.Proofs.YthapcchcahnfaaaGreatDoor
