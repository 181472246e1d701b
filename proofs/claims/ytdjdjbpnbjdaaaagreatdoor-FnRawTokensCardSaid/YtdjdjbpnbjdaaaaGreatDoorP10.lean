/- Part of the proof that laws.FnRawTokens returns true for every argument. No conditions. -/
import Derived.Test.YtdjdjbpnbjdaaaaGreatDoorP01
import Derived.Test.YtdjdjbpnbjdaaaaGreatDoorP06
import Derived.Test.YtdjdjbpnbjdaaaaGreatDoorP02
import Derived.Lib.DecodeN
import Derived.Test.YtdjdjbpnbjdaaaaGreatDoorP08
set_option linter.all false
set_option maxHeartbeats 8000000
set_option maxRecDepth 100000
namespace Go.Proofs.YtdjdjbpnbjdaaaaGreatDoor
open Go Tryz
inductive SV where
 | bad|opn
 deriving DecidableEq,Repr,Inhabited
def aF (l:Bs):Nat×Nat:=if (cV l).1=65533∧(cV l).2=1 then (0,0) else cV l
def vR (r:Nat):Bool:=(97≤r&&r≤122)||(65≤r&&r≤90)||r==95||r==58||(192≤r&&r≤255&&r != 215&&r != 247)
def m5 (r:Nat):Bool:=vR r||(48≤r&&r≤57)||r==45||r==46||r==183
def iN:Nat→Bool→Nat→Bs→Nat
 | 0,_,k,_=>k
 | n+1,first,k,l=>
  if l=[] then k
  else if (aF l).2=0∨(128≤(aF l).1∧m5 (aF l).1=false) then 2
  else if m5 (aF l).1=false∨(first=true∧vR (aF l).1=false) then iN n false 1 (l.drop (aF l).2)
  else iN n false k (l.drop (aF l).2)
def bE (l:Bs):Nat:=iN l.length true (if l=[] then 1 else 0) l
def eV (l:Bs):Bool:=!l.contains 58&&bE l==0
def kE (l:Bs):Option (Bs×Bs):=
 match l.dropWhile (· != 58) with
 | []=>some ([],l)
 | _::loc=>if loc.contains 58 then none else if l.takeWhile (· != 58)=[]∨loc=[] then none else some (l.takeWhile (· != 58),loc)
def iB (rest:Bs):Except SV ((Bs×Bs)×Bs):=
 if bE (aD rest).1=1 then .error .bad
 else if bE (aD rest).1=2 then .error .opn
 else match kE (aD rest).1 with
  | none=>.error .opn
  | some (p,l)=>if eV l=false∨(p≠[]∧eV p=false) then .error .opn else .ok ((p,l),(aD rest).2)
def bM (bQ:Bool):Int→Bs→Option Int
 | n,[]=>some n
 | n,b::r=>
  if eY bQ b then
   let m:=if 0≤n then n*(if bQ then 16 else 10)+dH b else n
   bM bQ (if 1114111<m then -1 else m) r
  else none
def iT (s:Bs):Option Int:=
 match s with
 | []=>none
 | b::t=>if b=120 then (if t=[] then none else bM true 0 t) else bM false 0 (b::t)
abbrev aO:=List (Bs×Bs)
def qT:aO:=[([108,116],[60]),([103,116],[62]),([97,109,112],[38]),([97,112,111,115],[39]),([113,117,111,116],[34])]
def iI (l:aO) (k:Bs):Option Bs:=(l.find? (·.1==k)).map (·.2)
def jW (n:Int):Bool:=0≤n&&bU n.toNat
def kF (ents:aO) (rest:Bs):Except SV (Bs×Bs):=
 match iY 59 rest with
 | none=>.error .bad
 | some []=>.error .bad
 | some (c::t)=>
  if c=35 then
   match iT t with
   | none=>.error .bad
   | some n=>if jW n then .ok (fN n.toNat,rest.drop (t.length+2)) else .error .opn
  else if bE (c::t)=2 then .error .opn
  else if bE (c::t)=1 then .error .bad
  else match iI (qT++ents) (c::t) with
   | some x=>.ok (x,rest.drop (t.length+2))
   | none=>.error .bad
def fR (ents:aO) (rest:Bs):Except SV (Bs×Bs):=
 match rest with
 | []=>.error .bad
 | b::r=>
  if b=38 then
   match kF ents r with
   | .error e=>.error e
   | .ok (t,r2)=>if bI t then .ok (t,r2) else .error .opn
  else if (aF (b::r)).2=0∨bU (aF (b::r)).1=false then .error .bad
  else .ok ((b::r).take (aF (b::r)).2,(b::r).drop (aF (b::r)).2)
def pZ:Bs:=[93,93,62]
def dK (ents:aO):Nat→Bs→Bs→Except SV (Bs×Bs)
 | 0,_,_=>.error .opn
 | k+1,rest,out=>
  match rest with
  | []=>.ok (out,[])
  | b::r=>
   if b=60 then .ok (out,b::r)
   else if pZ.isPrefixOf (b::r) then .error .bad
   else if b=13 then (match r with
    | []=>dK ents k [] (out++[10])
    | c::r2=>if c=10 then dK ents k r2 (out++[10]) else dK ents k (c::r2) (out++[10]))
   else match fR ents (b::r) with
    | .error e=>.error e
    | .ok (t,r2)=>dK ents k r2 (out++t)
def eG:Nat→Bs→Bs→Except SV (Bs×Bs)
 | 0,_,_=>.error .opn
 | k+1,rest,out=>
  match rest with
  | []=>.error .bad
  | b::r=>
   if pZ.isPrefixOf (b::r) then .ok (out,r.drop 2)
   else if b=13 then (match r with
    | []=>eG k [] (out++[10])
    | c::r2=>if c=10 then eG k r2 (out++[10]) else eG k (c::r2) (out++[10]))
   else if (aF (b::r)).2=0∨bU (aF (b::r)).1=false then .error .bad
   else eG k ((b::r).drop (aF (b::r)).2) (out++(b::r).take (aF (b::r)).2)
def m6 (s:Bs):Bool:=!s.contains 13&&bI s
def dC (p:Bs):Bs→Option (Bs×Bs)
 | []=>none
 | b::r=>if p.isPrefixOf (b::r) then some ([],(b::r).drop p.length) else (dC p r).map fun x=>(b::x.1,x.2)
def cZ (rest:Bs):Except SV (Bs×Bs):=
 match dC [45,45] rest with
 | none=>.error .bad
 | some (s,r)=>
  match r with
  | []=>.error .bad
  | c::r2=>if c=62 then (if m6 s then .ok (s,r2) else .error .opn) else .error .bad
def BS (s:Bs):Bool:=(s.take 3).map eH==[120,109,108]
def lM:List Bs:=
 let v1:Bs:=[118,101,114,115,105,111,110,61,34,49,46,48,34]
 let v2:Bs:=[118,101,114,115,105,111,110,61,39,49,46,48,39]
 let e:List Bs:=[[],[32,101,110,99,111,100,105,110,103,61,34,85,84,70,45,56,34],[32,101,110,99,111,100,105,110,103,61,39,117,116,102,45,56,39]]
 let s:List Bs:=[[],[32,115,116,97,110,100,97,108,111,110,101,61,34,121,101,115,34],[32,115,116,97,110,100,97,108,111,110,101,61,39,110,111,39]]
 e.flatMap fun a=>s.flatMap fun b=>[v1++a++b,v2++a++b]
def fW (first:Bool) (rest:Bs):Except SV ((Bs×Bs)×Bs):=
 if bE (aD rest).1=1 then .error .bad
 else if eV (aD rest).1=false then .error .opn
 else
  match dC [63,62] (aM (aD rest).2) with
  | none=>.error .bad
  | some (s,r)=>
   if m6 s=false∨(s≠[]∧(aM (aD rest).2).length=(aD rest).2.length)∨(BS (aD rest).1=true∧¬ (first=true∧(aD rest).1=xR∧lM.contains s=true)) then .error .opn
   else .ok (((aD rest).1,s),r)
def nN:Bs→Option Bs
 | []=>none
 | b::r=>if b=62 then some r else if b=60∨b=91∨b=34∨b=39 then none else nN r
def sC (rest:Bs):Except SV (Bs×Bs):=
 if (aM rest).length=rest.length∨eV (aD (aM rest)).1=false then .error .opn
 else match nN (aD (aM rest)).2 with
  | none=>.error .opn
  | some r=>if m6 (rest.take (rest.length-r.length-1)) then .ok (rest.take (rest.length-r.length-1),r) else .error .opn
def t7 (ents:aO) (q:UInt8):Nat→Bs→Bs→Except SV (Bs×Bs)
 | 0,_,_=>.error .opn
 | k+1,rest,out=>
  match rest with
  | []=>.error .bad
  | b::r=>
   if b=q then .ok (out,r)
   else if b=60 then .error .bad
   else if b≠32∧nO b=true then .error .opn
   else match fR ents (b::r) with
    | .error e=>.error e
    | .ok (t,r2)=>t7 ents q k r2 (out++t)
def eB (ents:aO) (rest:Bs):Except SV (eI×Bs):=
 match iB rest with
 | .error e=>.error e
 | .ok (nm,r)=>
  match aM r with
  | []=>.error .bad
  | b::r2=>
   if b=61 then
    match aM r2 with
    | []=>.error .bad
    | q::r3=>
     if q=34∨q=39 then
      match t7 ents q (r3.length+1) r3 [] with
      | .error e=>.error e
      | .ok (v,r4)=>.ok ((nm.1,nm.2,v),r4)
     else .error .bad
   else .error .bad
def dL (ents:aO):Nat→Bs→List eI→Except SV (List eI×Bool×Bs)
 | 0,_,_=>.error .opn
 | k+1,rest,acc=>
  match aM rest with
  | []=>.error .bad
  | b::r=>
   if b=62 then .ok (acc,false,r)
   else if b=47 then (match r with
    | []=>.error .bad
    | c::r2=>if c=62 then .ok (acc,true,r2) else .error .bad)
   else match eB ents (b::r) with
    | .error e=>.error e
    | .ok (a,r2)=>
     if (aM rest).length=rest.length then .error .opn
     else if acc.any (fun x=>x.1==a.1&&x.2.1==a.2.1) then .error .opn
     else dL ents k r2 (acc++[a])
def UL:Bs:=[104,116,116,112,58,47,47,119,119,119,46,119,51,46,111,114,103,47,50,48,48,48,47,120,109,108,110,115,47]
def Y9:List aO→Bs→Option Bs
 | [],_=>none
 | l::bs,p=>match iI l p with
  | some v=>some v
  | none=>Y9 bs p
def x2 (space:Bs) (bound:List aO) (p:Bs) (elem:Bool):Bs:=
 if (p=[]∧elem=false)∨p=f9 then p
 else if p=xR then fC
 else match Y9 bound p with
  | some v=>v
  | none=>if p=[] then space else p
def ZA:List eI→Except SV aO
 | []=>.ok []
 | (sp,loc,v)::l=>
  if sp≠f9∧(sp≠[]∨loc≠f9) then ZA l
  else
   let name:=if sp=f9 then loc else []
   if name=xR∨name=f9∨(name≠[]∧v=[])∨v=fC∨v=UL then .error .opn
   else match ZA l with
    | .error e=>.error e
    | .ok x=>.ok ((name,v)::x)
def Nq (space:Bs) (bound:List aO):List eI→List eI→Except SV (List eI)
 | acc,[]=>.ok acc
 | acc,(sp,loc,v)::l=>
  if acc.any (fun x=>x.1==x2 space bound sp false&&x.2.1==loc) then .error .opn
  else Nq space bound (acc++[(x2 space bound sp false,loc,v)]) l
structure iV where
 rest:Bs
 opens:List Bs
 bound:List aO
def Nr (nm:Bs×Bs):Bs:=nm.1++58::nm.2
def iO (raw:Bool) (space:Bs) (s:iV) (nm:Bs×Bs):Except SV (aP×iV):=
 if raw then .ok (.fin nm,s)
 else match s.opens with
  | []=>.error .bad
  | x::l=>if x=Nr nm then .ok (.fin (x2 space s.bound nm.1 true,nm.2),{ s with opens:=l,bound:=s.bound.tail }) else .error .bad
def x3 (raw:Bool) (space:Bs) (s:iV) (nm:Bs×Bs) (ats:List eI):Except SV (aP×iV):=
 if raw then .ok (.start nm ats,s)
 else if nm=([],f9) then .error .opn
 else match ZA ats with
  | .error e=>.error e
  | .ok l=>
   match Nq space (l::s.bound) [] ats with
   | .error e=>.error e
   | .ok x=>if nm.1=f9 then .error .opn else .ok (.start (x2 space (l::s.bound) nm.1 true,nm.2) x,{ s with opens:=Nr nm::s.opens,bound:=l::s.bound })
structure m7 where
 raw:Bool
 ents:aO
 space:Bs
def vU:Bs:=[68,79,67,84,89,80,69]
def JB:Bs:=[91,67,68,65,84,65,91]
def pN (r:Bs):Except SV (aP×Bs):=
 if [45,45].isPrefixOf r then (match cZ (r.drop 2) with
  | .error e=>.error e
  | .ok (d,r2)=>.ok (.comment d,r2))
 else if JB.isPrefixOf r then (match eG (r.length+1) (r.drop 7) [] with
  | .error e=>.error e
  | .ok (d,r2)=>.ok (.text d,r2))
 else if vU.isPrefixOf r then (match sC (r.drop 7) with
  | .error e=>.error e
  | .ok (d,r2)=>.ok (.dir (vU++d),r2))
 else match r with
  | []=>.error .bad
  | b::_=>if b=45∨b=91 then .error .bad else .error .opn
def sD (rest:Bs):Except SV ((Bs×Bs)×Bs):=
 match iB rest with
 | .error e=>.error e
 | .ok (nm,r)=>
  match aM r with
  | []=>.error .bad
  | b::r2=>if b=62 then .ok (nm,r2) else .error .bad
def fQ (ents:aO) (rest:Bs):Except SV ((Bs×Bs)×List eI×Bool×Bs):=
 match iB rest with
 | .error e=>.error e
 | .ok (nm,r)=>
  match dL ents (r.length+1) r [] with
  | .error e=>.error e
  | .ok (ats,em,r2)=>.ok (nm,ats,em,r2)
def nF (ents:aO) (first:Bool) (rest:Bs):Except SV (aP×Bool×Bs):=
 match rest with
 | []=>.error .opn
 | b::r=>
  if b≠60 then (match dK ents ((b::r).length+1) (b::r) [] with
   | .error e=>.error e
   | .ok (d,r2)=>.ok (.text d,false,r2))
  else match r with
   | []=>.error .bad
   | c::r2=>
    if c=47 then (match sD r2 with
     | .error e=>.error e
     | .ok (nm,r3)=>.ok (.fin nm,false,r3))
    else if c=63 then (match fW first r2 with
     | .error e=>.error e
     | .ok (x,r3)=>.ok (.proc x.1 x.2,false,r3))
    else if c=33 then (match pN r2 with
     | .error e=>.error e
     | .ok (t,r3)=>.ok (t,false,r3))
    else match fQ ents (c::r2) with
     | .error e=>.error e
     | .ok (nm,ats,em,r3)=>.ok (.start nm ats,em,r3)
def m8 (o:m7) (s:iV) (t:aP) (em:Bool):Except SV (List aP×iV):=
 match t with
 | .start nm ats=>
  match x3 o.raw o.space s nm ats with
  | .error e=>.error e
  | .ok (t,s2)=>
   if em then (match iO o.raw o.space s2 nm with
    | .error e=>.error e
    | .ok (t2,s3)=>.ok ([t,t2],s3))
   else .ok ([t],s2)
 | .fin nm=>
  match iO o.raw o.space s nm with
  | .error e=>.error e
  | .ok (t,s2)=>.ok ([t],s2)
 | t=>.ok ([t],s)
def jQ (o:m7) (first:Bool) (s:iV):Except SV (List aP×iV):=
 match nF o.ents first s.rest with
 | .error e=>.error e
 | .ok (t,em,r)=>m8 o { s with rest:=r } t em
def qU (o:m7) (T:Bs):Nat→iV→List (aP×Nat)→List (aP×Nat)×Option SV
 | 0,_,out=>(out,some .opn)
 | k+1,s,out=>
  if s.rest=[] then (out,if s.opens=[] then none else some .bad)
  else match jQ o (s.rest.length==T.length) s with
   | .error e=>(out,some e)
   | .ok (ts,s2)=>qU o T k s2 (out++ts.map fun t=>(t,T.length-s2.rest.length))
def gI (o:m7) (T:Bs):List (aP×Nat)×Option SV:=qU o T (T.length+1) ⟨T,[],[]⟩ []
end Go.Proofs.YtdjdjbpnbjdaaaaGreatDoor
namespace Go.Proofs.YtdjdjbpnbjdaaaaGreatDoor
open Go Go.RowKit Tryz
structure PX where
 p:Nat
 T:Bs
 raw:Bool
 ents:Value
 space:Bs
structure PC where
 at':Nat
 out:Value
 op:Value
 bd:Value
 verd:Int
abbrev gV (x:PX) (c:PC):Array Value:=#[aB x.T,.int .i64 c.at',.bool x.raw,x.ents,aB x.space,c.out,c.op,c.bd,.int .i64 c.verd]
abbrev aU (x:PX) (w:World) (c:PC):Prop:=aJ w x.p (gV x c) 41
abbrev oM (x:PX):Value:=.pointer (some ⟨x.p,0,none⟩)
theorem x4 (x:PX) (w:World) (c:PC) (h:aU x w c):Calls prog 9 #[oM x] w fun e w'=>e=.returned (.bool (decide ((x.T.length:Int)≤(c.at':Int))))∧∃ k,w'=w.drewN k:=by
 have hc:=h.cell
 have hf:=h.frozen
 clear h
 refine eJ 13 func9 [_] fun f=>?_
 simp only [aE]
 (refine vg ?_;intro K hK)
 go_quiet (fail)
 (revert K;refine vg ?_)
 (refine cW ?_)
 refine ⟨?_,_,rfl⟩
 simp
theorem mV (x:PX) (w:World) (c:PC) (h:aU x w c) (v:Int):Calls prog 25 #[oM x,.int .i64 v] w fun e w'=>e=.returned (.bool false)∧aU x w' { c with verd:=v }∧aK (fun k=>k=x.p) w w':=by
 have hc:=h.cell
 have hf:=h.frozen
 have H:=Lh h
 clear h
 refine eJ 9 func25 [_,_] fun f=>?_
 simp only [aE]
 refine vg ?_
 (refine cW ?_)
 refine ⟨rfl,?_,?_⟩
 ·have:=H.out.set 8 (.int .i64 v)
  simpa [gV] using this
 ·exact aK.setCell (S:=fun k=>k=x.p) (aK.refl _ w) (p:=⟨x.p,8,none⟩) (Or.inl rfl) _
theorem ZB (T s:Bs) (a:Nat):(((⟨T.toArray⟩:ByteArray).extract a ((a:Int)+(s.length:Int)).toNat).toList==s)=s.isPrefixOf (T.drop a):=by
 have e:((a:Int)+(s.length:Int)).toNat=a+s.length:=by omega
 have e2:((⟨T.toArray⟩:ByteArray).extract a (a+s.length)).toList=(T.drop a).take s.length:=by
  rw [ByteArray.toList_eq,ByteArray.data_extract]
  simp [List.extract_eq_take_drop]
 rw [e,e2,Bool.eq_iff_iff,beq_iff_eq,List.isPrefixOf_iff_prefix,List.prefix_iff_eq_take]
 exact ⟨fun h=>h.symm,fun h=>h.symm⟩
theorem JC {s l:Bs} (h:s.isPrefixOf l=true):s.length≤l.length:=(List.isPrefixOf_iff_prefix.1 h).length_le
theorem zI (x:PX) (hT:x.T.length≤1000000000) (w:World) (c:PC) (h:aU x w c) (ha:c.at'≤x.T.length) (s:Bs) (hs:s.length≤1000000000):Calls prog 19 #[oM x,aB s] w fun e w'=>e=.returned (.bool (s.isPrefixOf (x.T.drop c.at')))∧aU x w' { c with at':=if s.isPrefixOf (x.T.drop c.at') then c.at'+s.length else c.at' }∧aK (fun k=>k=x.p) w w':=by
 have hc:=h.cell
 have hf:=h.frozen
 have H:=Lh h
 have w1:IntKind.i64.wrap ((x.T.length:Int)-(c.at':Int))=((x.T.length-c.at':Nat):Int):=by rw [IntKind.wrap_i64];omega
 have w2:IntKind.i64.wrap ((c.at':Int)+(s.length:Int))=((c.at'+s.length:Nat):Int):=by rw [IntKind.wrap_i64];omega
 clear h
 refine eJ 47 func19 [_,_] fun f=>?_
 simp only [aE]
 by_cases bB:((x.T.length-c.at':Nat):Int)<(s.length:Int)
 ·(refine vg ?_;(repeat with_reducible intro K hK))
  go_quiet (fail)
  ((repeat revert K);refine vg ?_;intro K hK)
  (refine cW ?_)
  have hp:s.isPrefixOf (x.T.drop c.at')=false:=by
   cases hh:s.isPrefixOf (x.T.drop c.at') with
   | false=>rfl
   | true=>have:=JC hh;rw [List.length_drop] at this;omega
  rw [hp]
  exact ⟨rfl,H.out,(aK.refl _ w).drewN _⟩
 ·have h0:(0:Int)≤(c.at':Int):=by omega
  have h1:(c.at':Int)≤(c.at':Int)+(s.length:Int):=by omega
  have h2:(c.at':Int)+(s.length:Int)≤(x.T.length:Int):=by omega
  have h3:(0:Int)≤(c.at':Int)+(s.length:Int):=by omega
  (refine vg ?_;(repeat with_reducible intro K hK))
  (refine aI [0,0,0,1,0,0,0,0,1,0,0,0,0,0,0,0,0,1,0,0,0,1,0,0,0,1,0,0,0,0,0,0,0] [0,1,2,3,4,5,6,7,8,9,10,11,12,13,14,15,16,17,18,19,20,21,22,23,24,25,26,27,28,29,30,31,32] (by kernel_rfl) (by kernel_rfl) ?_;refine vP ?_;repeat with_reducible intro nq)
  cases hp:s.isPrefixOf (x.T.drop c.at') with
  | false=>
   have he:=(ZB x.T s c.at').trans hp
   ((repeat revert K);refine vg ?_;intro K hK)
   (refine cW ?_)
   rw [hp]
   exact ⟨rfl,H.out,(aK.refl _ w).drewN _⟩
  | true=>
   have he:=(ZB x.T s c.at').trans hp
   have hc:=(show aU x (w.drewN nq) c from H.out).cell
   have hf:=(show aU x (w.drewN nq) c from H.out).frozen
   ((repeat revert K);refine vg ?_)
   (refine cW ?_)
   rw [hp]
   refine ⟨rfl,?_,?_⟩
   ·have:=(show aU x (w.drewN nq) c from H.out).set 1 (.int .i64 ((c.at':Int)+(s.length:Int)))
    have e:((c.at'+s.length:Nat):Int)=(c.at':Int)+(s.length:Int):=by omega
    rw [if_pos rfl]
    show aJ _ x.p #[aB x.T,.int .i64 ((c.at'+s.length:Nat):Int),.bool x.raw,x.ents,aB x.space,c.out,c.op,c.bd,.int .i64 c.verd] _
    rw [e]
    simpa [gV] using this
   ·exact aK.setCell (S:=fun k=>k=x.p) ((aK.refl _ w).drewN _) (p:=⟨x.p,1,none⟩) (Or.inl rfl) _
theorem LZ (r:Nat) (w:World):Calls prog 86 #[.int .i64 r] w fun e w'=>e=.returned (.bool (vR r))∧w'=w:=by
 have hr:r<58∨r=58∨(58<r∧r<65)∨(65≤r∧r≤90)∨(90<r∧r<95)∨r=95∨r=96∨(97≤r∧r≤122)∨(122<r∧r<192)∨(192≤r∧r<215)∨r=215∨(215<r∧r<247)∨r=247∨(247<r∧r≤255)∨255<r:=by omega
 refine eJ 41 func86 [_] fun f=>?_
 simp only [aE]
 have hb:=Lh (show vR r=((decide (97≤r)&&decide (r≤122))||(decide (65≤r)&&decide (r≤90))||r==95||r==58||(decide (192≤r)&&decide (r≤255)&&r != 215&&r != 247)) from rfl)
 rcases hr with h|h|h|h|h|h|h|h|h|h|h|h|h|h|h
 all_goals
  first|have:(97:Int)≤(r:Int):=by omega|have:¬ ((97:Int)≤(r:Int)):=by omega
  first|have:(r:Int)≤122:=by omega|have:¬ ((r:Int)≤122):=by omega
  first|have:(65:Int)≤(r:Int):=by omega|have:¬ ((65:Int)≤(r:Int)):=by omega
  first|have:(r:Int)≤90:=by omega|have:¬ ((r:Int)≤90):=by omega
  first|have:(192:Int)≤(r:Int):=by omega|have:¬ ((192:Int)≤(r:Int)):=by omega
  first|have:(r:Int)≤255:=by omega|have:¬ ((r:Int)≤255):=by omega
  first|have:(((r:Int))==(95))=true:=by (simp;omega)|have:(((r:Int))==(95))=false:=by (simp;omega)
  first|have:(((r:Int))==(58))=true:=by (simp;omega)|have:(((r:Int))==(58))=false:=by (simp;omega)
  first|have:(((r:Int))==(215))=true:=by (simp;omega)|have:(((r:Int))==(215))=false:=by (simp;omega)
  first|have:(((r:Int))==(247))=true:=by (simp;omega)|have:(((r:Int))==(247))=false:=by (simp;omega)
  first|have:((r:Int) != 215)=true:=by (simp;omega)|have:((r:Int) != 215)=false:=by (simp;omega)
  first|have:((r:Int) != 247)=true:=by (simp;omega)|have:((r:Int) != 247)=false:=by (simp;omega)
  have H:=Lh h
  clear h
  refine vg ?_
  (refine cW ?_)
  refine ⟨?_,rfl⟩
  congr 2
  rw [hb.out]
  have h:=H.out
  clear H hb
  simp
  omega
theorem A4 (r:Nat) (w:World):Calls prog 85 #[.int .i64 r] w fun e w'=>e=.returned (.bool (m5 r))∧w'=w:=by
 have hr:r<45∨r=45∨r=46∨r=47∨(48≤r∧r≤57)∨(57<r∧r<183)∨r=183∨183<r:=by omega
 have HB:=Lh (fun w=>LZ r w)
 have hb:=Lh (show m5 r=(vR r||(decide (48≤r)&&decide (r≤57))||r==45||r==46||r==183) from rfl)
 refine eJ 25 func85 [_] fun f=>?_
 simp only [aE]
 (refine vg ?_;(repeat with_reducible intro K hK))
 refine (HB.out _).mono ?_
 rintro e1 w1 ⟨rfl,rfl⟩
 cases a0H:vR r with
 | true=>
  ((repeat revert K);refine vS ?_)
  (refine cW ?_)
  refine ⟨?_,rfl⟩
  rw [hb.out,a0H];rfl
 | false=>
  rw [a0H] at hb
  rcases hr with h|h|h|h|h|h|h|h
  all_goals
   first|have:(48:Int)≤(r:Int):=by omega|have:¬ ((48:Int)≤(r:Int)):=by omega
   first|have:(r:Int)≤57:=by omega|have:¬ ((r:Int)≤57):=by omega
   first|have:(((r:Int))==(45))=true:=by (simp;omega)|have:(((r:Int))==(45))=false:=by (simp;omega)
   first|have:(((r:Int))==(46))=true:=by (simp;omega)|have:(((r:Int))==(46))=false:=by (simp;omega)
   first|have:(((r:Int))==(183))=true:=by (simp;omega)|have:(((r:Int))==(183))=false:=by (simp;omega)
   have H:=Lh h
   clear h
   ((repeat revert K);refine vS ?_)
   (refine cW ?_)
   refine ⟨?_,rfl⟩
   congr 2
   rw [hb.out]
   have h:=H.out
   clear H hb
   simp
   omega
theorem zJ (b:UInt8) (w:World):Calls prog 83 #[.int .u8 b.toNat] w fun e w'=>e=.returned (.bool (nO b))∧w'=w:=by
 have iZ:b=32∨b=9∨b=10∨b=13∨(b≠32∧b≠9∧b≠10∧b≠13):=by
  by_cases h1:b=32
  ·exact Or.inl h1
  ·by_cases h2:b=9
   ·exact Or.inr (Or.inl h2)
   ·by_cases h3:b=10
    ·exact Or.inr (Or.inr (Or.inl h3))
    ·by_cases h4:b=13
     ·exact Or.inr (Or.inr (Or.inr (Or.inl h4)))
     ·exact Or.inr (Or.inr (Or.inr (Or.inr ⟨h1,h2,h3,h4⟩)))
 rcases iZ with rfl|rfl|rfl|rfl|⟨h1,h2,h3,h4⟩
 ·refine eJ 17 func83 [_] fun f=>?_
  simp only [aE]
  refine vg ?_
  (refine cW ?_)
  exact ⟨rfl,rfl⟩
 ·refine eJ 17 func83 [_] fun f=>?_
  simp only [aE]
  refine vg ?_
  (refine cW ?_)
  exact ⟨rfl,rfl⟩
 ·refine eJ 17 func83 [_] fun f=>?_
  simp only [aE]
  refine vg ?_
  (refine cW ?_)
  exact ⟨rfl,rfl⟩
 ·refine eJ 17 func83 [_] fun f=>?_
  simp only [aE]
  refine vg ?_
  (refine cW ?_)
  exact ⟨rfl,rfl⟩
 ·have hw:=Lh (show nO b=false by simp [nO,h1,h2,h3,h4])
  have ne:∀ k:UInt8,b≠k→((b.toNat:Int)==(k.toNat:Int))=false:=fun k hk=>by
   rw [beq_eq_false_iff_ne]
   intro hh
   exact hk (UInt8.toNat_inj.1 (by omega))
  have e1:((b.toNat:Int)==32)=false:=ne 32 h1
  have e2:((b.toNat:Int)==9)=false:=ne 9 h2
  have e3:((b.toNat:Int)==10)=false:=ne 10 h3
  have e4:((b.toNat:Int)==13)=false:=ne 13 h4
  clear ne h1 h2 h3 h4
  refine eJ 17 func83 [_] fun f=>?_
  simp only [aE]
  refine vg ?_
  (refine cW ?_)
  exact ⟨by rw [hw.out],rfl⟩
theorem Hp (T:Bs) (a:Nat) (ha:a<T.length) (h:nO (T.getD a 0)=true):aM (T.drop a)=aM (T.drop (a+1)):=by
 rw [List.drop_eq_getElem_cons ha]
 conv=>lhs;unfold aM
 rw [if_pos]
 simpa [List.getD_eq_getElem?_getD,ha] using h
theorem Hq (T:Bs) (a:Nat) (ha:a<T.length) (h:nO (T.getD a 0)=false):aM (T.drop a)=T.drop a:=by
 rw [List.drop_eq_getElem_cons ha]
 conv=>lhs;unfold aM
 rw [if_neg]
 rw [Bool.not_eq_true]
 simpa [List.getD_eq_getElem?_getD,ha] using h
def Ru (x:PX) (c:PC) (w0:World) (k:Nat) (ac:Act) (w:World):Prop:=
 ∃ f a,ac=fr 36 f [(0,oM x),(3,.int .i64 (c.at':Nat))]∧aU x w { c with at':=a }∧aK (fun k=>k=x.p) w0 w∧k=x.T.length-a∧a≤x.T.length∧c.at'≤a∧aM (x.T.drop c.at')=aM (x.T.drop a)
theorem oF (x:PX) (hT:x.T.length≤1000000000) (w:World) (c:PC) (h:aU x w c) (ha:c.at'≤x.T.length):Calls prog 43 #[oM x] w fun e w'=>∃ a:Nat,e=.returned (.bool (decide ((c.at':Int)<(a:Int))))∧aU x w' { c with at':=a }∧aK (fun k=>k=x.p) w w'∧a≤x.T.length∧c.at'≤a∧aM (x.T.drop c.at')=x.T.drop a:=by
 have hc:=h.cell
 have hf:=h.frozen
 have H:=Lh h
 have HT:=Lh hT
 have HA:=Lh ha
 clear h hT ha
 refine eJ 36 func43 [_] fun f=>?_
 simp only [aE]
 (refine vg ?_;intro K hK)
 (refine cJ [0,3] fun f=>?_)
 refine wp_loop_ghost_k (Ru x c w) (x.T.length-c.at') ⟨f,c.at',rfl,H.out,aK.refl _ w,rfl,HA.out,Nat.le_refl _,rfl⟩ ?_
 clear hc hf
 rintro k _ w2 ⟨f,a,rfl,hp,hm,hk,iK,vV,mX⟩ J K2 hJ cY
 have HJ:=Lh hJ
 have dN:=Lh cY
 have HP:=Lh hp
 have HM:=Lh hm
 have HK:=Lh hk
 have kA:=Lh iK
 have sN:=Lh vV
 have ZC:=Lh mX
 have HE:=Lh (fun kk=>x4 x (w2.drewN kk) { c with at':=a } hp)
 clear hJ cY hp hm hk iK vV mX
 by_cases bB:a<x.T.length
 ·have he:decide (x.T.length≤a)=false:=by rw [decide_eq_false_iff_not];omega
  obtain ⟨b,hb⟩:∃ b,b=x.T.getD a 0:=⟨_,rfl⟩
  have pO:=Lh hb
  have ix:∀ h,(⟨x.T.toArray⟩:ByteArray)[a]'h=b:=fun h=>by
   rw [hb]
   show x.T.toArray[a]=_
   simp [List.getD_eq_getElem?_getD,bB]
  have t0:(0:Int)≤(a:Int):=by omega
  have t1:(a:Int)<(x.T.length:Int):=by omega
  have YN:=Lh (fun w=>zJ b w)
  clear hb
  (revert K;refine vg ?_;(repeat with_reducible intro K hK))
  (refine aI [0,2,0,0,0,0,0,1,0,0,0,1,0,2,0] [0,1,2,3,4,5,6,7,8,9,10,11,12,13,14] (by kernel_rfl) (by kernel_rfl) ?_;refine vP ?_;repeat with_reducible intro nq)
  (refine bK rfl rfl (fun nq K hK=>?_);go_simp)
  refine (HE.out _).mono ?_
  rintro e3 w3 ⟨rfl,k3,rfl⟩
  have hc:=HP.out.cell
  have hf:=HP.out.frozen
  (go_simp;refine hK.out _ _ ?_;clear hK K)
  (refine vP ?_;repeat with_reducible intro nq)
  (refine bK rfl rfl (fun nq K hK=>?_);go_simp)
  refine (YN.out _).mono ?_
  rintro e4 w4 ⟨rfl,rfl⟩
  (go_simp;refine hK.out _ _ ?_;clear hK K)
  (refine vP ?_;repeat with_reducible intro nq)
  cases mX:nO b with
  | true=>
   have HW:=Lh mX
   ((repeat revert K);refine vg ?_;intro K hK)
   (refine Kk [0,3] fun f=>?_)
   have w1:IntKind.i64.wrap ((a:Int)+1)=((a+1:Nat):Int):=by rw [IntKind.wrap_i64];have:=HT.out;omega
   rw [w1]
   refine dN.out _ _ ⟨x.T.length-(a+1),by rw [HK.out];omega,HJ.out _ _ _ ⟨f,a+1,rfl,?_,aK.setCell (S:=fun k=>k=x.p) (HM.out.drewN _) (p:=⟨x.p,1,none⟩) (Or.inl rfl) _,rfl,bB,by have:=sN.out;omega,ZC.out.trans (Hp x.T a bB (by rw [←pO.out];exact HW.out))⟩⟩
   exact aJ.set (w:=w2.drewN _) (cs:=gV x { c with at':=a }) HP.out 1 _
  | false=>
   have HW:=Lh mX
   ((repeat revert K);refine vg ?_)
   (refine cW ?_)
   exact ⟨a,by simp,HP.out,HM.out.drewN _,kA.out,sN.out,ZC.out.trans (Hq x.T a bB (by rw [←pO.out];exact HW.out))⟩
 ·have he:decide (x.T.length≤a)=true:=by rw [decide_eq_true_iff];omega
  (revert K;refine vg ?_;(repeat with_reducible intro K hK))
  (refine aI [0,2,0,0,0,0,0,1,0,0,0,1,0,2,0] [0,1,2,3,4,5,6,7,8,9,10,11,12,13,14] (by kernel_rfl) (by kernel_rfl) ?_;refine vP ?_;repeat with_reducible intro nq)
  (refine bK rfl rfl (fun nq K hK=>?_);go_simp)
  refine (HE.out _).mono ?_
  rintro e3 w3 ⟨rfl,k3,rfl⟩
  (go_simp;refine hK.out _ _ ?_;clear hK K)
  (refine vP ?_;repeat with_reducible intro nq)
  have hc:=HP.out.cell
  have hf:=HP.out.frozen
  ((repeat revert K);refine vg ?_)
  (refine cW ?_)
  exact ⟨a,by simp,HP.out,HM.out.drewN _,kA.out,sN.out,ZC.out.trans (by rw [List.drop_eq_nil_of_le (by omega)];rfl)⟩
end Go.Proofs.YtdjdjbpnbjdaaaaGreatDoor
namespace Go.Proofs.YtdjdjbpnbjdaaaaGreatDoor
open Go Tryz
theorem SC (l:Bs) (k:Nat):(⟨l.toArray⟩:ByteArray).get! k=l.getD k 0:=by
 show l.toArray[k]! = _
 by_cases h:k<l.length
 ·simp [h]
 ·simp [h];rfl
theorem L0 (l:Bs) (h:1≤l.length):cV l=Lib.decodeN l.length (l.getD 0 0).toNat (l.getD 1 0).toNat (l.getD 2 0).toNat (l.getD 3 0).toNat:=by
 have hs:(⟨l.toArray⟩:ByteArray).size=l.length:=by simp [ByteArray.size]
 unfold cV Lib.decodeGoB
 rw [if_neg (by omega),Lib.decode_at,SC,SC,SC,SC,hs]
 rfl
def eR (c:UInt8):Bool:=c.toNat / 64==2
theorem ZD (b:UInt8) (r:Bs):cV (b::r)=cV (b::r.takeWhile eR):=by
 rw [L0 _ (by simp),L0 _ (by simp)]
 have hb:=b.toNat_lt
 match r with
 | []=>rfl
 | c::r1=>
  have hc:=c.toNat_lt
  by_cases h1:eR c=true
  ·rw [List.takeWhile_cons_of_pos h1]
   match r1 with
   | []=>rfl
   | d::r2=>
    have hd:=d.toNat_lt
    by_cases h2:eR d=true
    ·rw [List.takeWhile_cons_of_pos h2]
     match r2 with
     | []=>rfl
     | e::r3=>
      have he:=e.toNat_lt
      by_cases h3:eR e=true
      ·rw [List.takeWhile_cons_of_pos h3]
       simp only [List.length_cons,List.getD_cons_zero,List.getD_cons_succ]
       unfold Lib.decodeN
       have a1:(1<r3.length+1+1+1+1)=True:=by simp
       have a2:(2<r3.length+1+1+1+1)=True:=by simp
       have a3:(3<r3.length+1+1+1+1)=True:=by simp
       have c1:(1<(r3.takeWhile eR).length+1+1+1+1)=True:=by simp
       have c2:(2<(r3.takeWhile eR).length+1+1+1+1)=True:=by simp
       have c3:(3<(r3.takeWhile eR).length+1+1+1+1)=True:=by simp
       simp only [a1,a2,a3,c1,c2,c3]
      ·have h3':¬ e.toNat / 64=2:=by simpa [eR] using h3
       rw [List.takeWhile_cons_of_neg h3]
       simp only [List.length_cons,List.length_nil,List.getD_cons_zero,List.getD_cons_succ,List.getD_nil]
       unfold Lib.decodeN
       simp [h3']
    ·have Rv:¬ d.toNat / 64=2:=by simpa [eR] using h2
     rw [List.takeWhile_cons_of_neg h2]
     simp only [List.length_cons,List.length_nil,List.getD_cons_zero,List.getD_cons_succ,List.getD_nil]
     unfold Lib.decodeN
     simp [Rv]
  ·have Hr:¬ c.toNat / 64=2:=by simpa [eR] using h1
   rw [List.takeWhile_cons_of_neg h1]
   simp only [List.length_cons,List.length_nil,List.getD_cons_zero,List.getD_cons_succ,List.getD_nil]
   unfold Lib.decodeN
   simp [Hr]
theorem L1 (b:UInt8) (r:Bs):aF (b::r)=aF (b::r.takeWhile eR):=by unfold aF;rw [←ZD]
theorem lN {b:UInt8} (h:b.toNat<128) (r:Bs):aF (b::r)=(b.toNat,1):=by
 unfold aF
 rw [L0 _ (by simp)]
 have:Lib.decodeN (b::r).length ((b::r).getD 0 0).toNat ((b::r).getD 1 0).toNat ((b::r).getD 2 0).toNat ((b::r).getD 3 0).toNat=(b.toNat,1):=by
  unfold Lib.decodeN
  rw [List.getD_cons_zero,if_pos h]
 rw [this,if_neg]
 simp only
 omega
theorem UM (n a b c d:Nat) (h:128≤a) (hb:b<256) (hc:c<256) (hd:d<256):Lib.decodeN n a b c d=(65533,1)∨∃ x k,Lib.decodeN n a b c d=(x,k)∧128≤x∧2≤k∧k≤n∧k≤4∧(1<k→b / 64=2)∧(2<k→c / 64=2)∧(3<k→d / 64=2):=by
 unfold Lib.decodeN
 rw [if_neg (by omega)]
 repeat' split
 all_goals first
  | exact Or.inl rfl
  | exact Or.inr ⟨_,_,rfl,by omega,by omega,by omega,by omega,by omega,by omega,by omega⟩
theorem qV {b:UInt8} (h:128≤b.toNat) (r:Bs):aF (b::r)=(0,0)∨∃ x k,aF (b::r)=(x,k+1)∧128≤x∧1≤k∧k≤3∧k≤r.length∧∀ c∈r.take k,eR c=true:=by
 have h1:=((b::r).getD 1 0).toNat_lt
 have h2:=((b::r).getD 2 0).toNat_lt
 have h3:=((b::r).getD 3 0).toNat_lt
 rcases UM (b::r).length b.toNat ((b::r).getD 1 0).toNat ((b::r).getD 2 0).toNat ((b::r).getD 3 0).toNat h h1 h2 h3 with hh|⟨x,k,hh,q1,q2,q3,q4,q5,q6,q7⟩
 ·left
  unfold aF
  rw [L0 _ (by simp),List.getD_cons_zero,hh]
  rfl
 ·right
  refine ⟨x,k-1,?_,q1,by omega,by omega,by simp at q3;omega,?_⟩
  ·unfold aF
   rw [L0 _ (by simp),List.getD_cons_zero,hh,if_neg (by simp;omega),show k-1+1=k by omega]
  ·intro c hc
   obtain ⟨i,hi,rfl⟩:=List.getElem_of_mem hc
   rw [List.length_take] at hi
   rw [List.getElem_take]
   have hg:∀ j (hj:j<r.length),(b::r).getD (j+1) 0=r[j]:=fun j hj=>by simp [List.getD_eq_getElem?_getD,hj]
   unfold eR
   have Xr:i<r.length:=by omega
   have:i=0∨i=1∨i=2:=by omega
   rcases this with rfl|rfl|rfl
   ·rw [←hg 0 Xr];simpa using q5 (by omega)
   ·rw [←hg 1 Xr];simpa using q6 (by omega)
   ·rw [←hg 2 Xr];simpa using q7 (by omega)
theorem UN (n a b c d x k:Nat) (ha:128≤a) (h:Lib.decodeN n a b c d=(x,k)) (hk:2≤k) (n' b' c' d':Nat) (h1:1<k→1<n'∧b'=b) (h2:2<k→2<n'∧c'=c) (h3:3<k→3<n'∧d'=d):Lib.decodeN n' a b' c' d'=(x,k):=by
 unfold Lib.decodeN at h ⊢
 rw [if_neg (by omega)] at h ⊢
 split at h
 ·rename_i g
  split at h
  ·rename_i g2
   simp only [cC] at h
   obtain ⟨rfl,rfl⟩:=h
   obtain ⟨m1,rfl⟩:=h1 (by omega)
   rw [if_pos ⟨g.1,m1,g.2.2⟩,if_pos g2]
  ·simp only [cC] at h;omega
 ·split at h
  ·rename_i g0 g
   split at h
   ·rename_i g2
    simp only [cC] at h
    obtain ⟨rfl,rfl⟩:=h
    obtain ⟨m1,rfl⟩:=h1 (by omega)
    obtain ⟨m2,rfl⟩:=h2 (by omega)
    rw [if_neg (by omega),if_pos ⟨g.1,⟨m1,g.2.1.2⟩,⟨m2,g.2.2.2⟩⟩,if_pos g2]
   ·simp only [cC] at h;omega
  ·split at h
   ·rename_i g0 g1 g
    split at h
    ·rename_i g2
     simp only [cC] at h
     obtain ⟨rfl,rfl⟩:=h
     obtain ⟨m1,rfl⟩:=h1 (by omega)
     obtain ⟨m2,rfl⟩:=h2 (by omega)
     obtain ⟨m3,rfl⟩:=h3 (by omega)
     rw [if_neg (by omega),if_neg (by omega),if_pos ⟨g.1,⟨m1,g.2.1.2⟩,⟨m2,g.2.2.1.2⟩,⟨m3,g.2.2.2.2⟩⟩,if_pos g2]
    ·simp only [cC] at h;omega
   ·simp only [cC] at h;omega
theorem L2 (l y:Bs) {i:Nat} (h:i<l.length):(l++y).getD i 0=l.getD i 0:=by
 simp [List.getD_eq_getElem?_getD,List.getElem?_append_left h]
theorem GI {b:UInt8} (h:128≤b.toNat) {r:Bs} {x k:Nat} (hd:aF (b::r)=(x,k+1)) (hk:1≤k) (hkr:k≤r.length) {r':Bs} (hr:r'.take k=r.take k):aF (b::r')=(x,k+1):=by
 have a5W:k≤r'.length:=by have:=congrArg List.length hr;simp only [List.length_take] at this;omega
 have qJ:∀ j,j<k→(b::r').getD (j+1) 0=(b::r).getD (j+1) 0:=fun j hj=>by
  simp only [List.getD_cons_succ]
  rw [←List.take_append_drop k r,←List.take_append_drop k r',L2 _ _ (by rw [List.length_take];omega),L2 _ _ (by rw [List.length_take];omega),hr]
 have hn:Lib.decodeN (b::r).length ((b::r).getD 0 0).toNat ((b::r).getD 1 0).toNat ((b::r).getD 2 0).toNat ((b::r).getD 3 0).toNat=(x,k+1):=by
  unfold aF at hd
  split at hd
  ·simp at hd
  ·rw [L0 _ (by simp)] at hd;exact hd
 have Ew:=UN _ _ _ _ _ _ _ (by simpa using h) hn (by omega) (b::r').length ((b::r').getD 1 0).toNat ((b::r').getD 2 0).toNat ((b::r').getD 3 0).toNat
  (fun _=>⟨by simp;omega,by rw [qJ 0 (by omega)]⟩) (fun _=>⟨by simp;omega,by rw [qJ 1 (by omega)]⟩) (fun _=>⟨by simp;omega,by rw [qJ 2 (by omega)]⟩)
 unfold aF
 rw [L0 _ (by simp)]
 rw [show (b::r').getD 0 0=(b::r).getD 0 0 from rfl,Ew,if_neg (by simp;omega)]
theorem PZ (k:Nat):cM k []=true:=by cases k<;>simp [cM]
theorem DJ (b:UInt8) (r:Bs):1≤(cV (b::r)).2∧(cV (b::r)).2≤(b::r).length:=by
 by_cases h:b.toNat<128
 ·have h9:=lN h r
  unfold aF at h9
  split at h9
  ·simp at h9
  ·rw [h9];simp
 ·rcases qV (b:=b) (by omega) r with h9|⟨x,k,h9,_,h1,_,h2,_⟩
  ·unfold aF at h9
   split at h9
   ·rename_i g;rw [g.2];simp
   ·rename_i g
    have hb:=b.toNat_lt
    rw [L0 _ (by simp)] at h9
    exfalso
    unfold Lib.decodeN at h9
    simp only [List.getD_cons_zero] at h9
    rw [if_neg h] at h9
    repeat' split at h9
    all_goals simp at h9
  ·unfold aF at h9
   split at h9
   ·simp at h9
   ·rw [h9];simp;omega
theorem SD:∀ (k k':Nat) (l:Bs),l.length≤k→l.length≤k'→cM k l=cM k' l
 | k,k',[],_,_=>by rw [PZ,PZ]
 | 0,_,_::_,h,_=>by simp at h
 | _,0,_::_,_,h=>by simp at h
 | k+1,k'+1,b::r,h,h'=>by
  obtain ⟨hp,hw⟩:=DJ b r
  have ih:=SD k k' ((b::r).drop (cV (b::r)).2) (by rw [List.length_drop];simp at h ⊢;omega) (by rw [List.length_drop];simp at h' ⊢;omega)
  rw [cM,cM,ih]
theorem oN (b:UInt8) (r:Bs):bI (b::r)=(if (aF (b::r)).2=0 then false else if bU (aF (b::r)).1 then bI ((b::r).drop (aF (b::r)).2) else false):=by
 obtain ⟨hp,hw⟩:=DJ b r
 have h1:bI (b::r)=(if (cV (b::r)).1=65533∧(cV (b::r)).2=1 then false else if bU (cV (b::r)).1 then bI ((b::r).drop (cV (b::r)).2) else false):=by
  unfold bI
  rw [List.length_cons,cM,if_neg (by simp)]
  rw [SD r.length ((b::r).drop (cV (b::r)).2).length _ (by rw [List.length_drop];simp;omega) (Nat.le_refl _)]
 rw [h1]
 unfold aF
 by_cases hb:(cV (b::r)).1=65533∧(cV (b::r)).2=1
 ·rw [if_pos hb,if_pos hb];rfl
 ·simp only [if_neg hb]
  rw [if_neg (show ¬ (cV (b::r)).2=0 by omega)]
theorem jF:bI []=true:=PZ _
theorem zM {b:UInt8} (h:b.toNat<128) (r:Bs):bI (b::r)=(bU b.toNat&&bI r):=by
 rw [oN,lN h]
 simp only [List.drop_succ_cons,List.drop_zero]
 cases bU b.toNat<;>simp
theorem zO:∀ (n:Nat) (x y:Bs),x.length≤n→bI x=true→bI (x++y)=bI y
 | _,[],_,_,_=>rfl
 | 0,_::_,_,h,_=>by simp at h
 | n+1,b::r,y,h,hc=>by
  rw [oN] at hc
  by_cases hb:b.toNat<128
  ·rw [lN hb] at hc
   simp only [List.drop_succ_cons,List.drop_zero] at hc
   rw [List.cons_append,zM hb]
   by_cases hr:bU b.toNat=true
   ·rw [hr] at hc ⊢
    simp only [Nat.succ_ne_self,if_false,if_true,Bool.true_and] at hc ⊢
    exact zO n r y (by simp at h;omega) (by simpa using hc)
   ·simp [hr] at hc
  ·rcases qV (b:=b) (by omega) r with h9|⟨x,k,h9,_,h1,_,h2,_⟩
   ·rw [h9] at hc;simp at hc
   ·rw [h9] at hc
    simp only [List.drop_succ_cons] at hc
    have h8:aF (b::(r++y))=(x,k+1):=GI (by omega) h9 h1 h2 (by rw [List.take_append_of_le_length h2])
    rw [List.cons_append,oN,h8]
    simp only [List.drop_succ_cons]
    by_cases hr:bU x=true
    ·rw [if_neg (by omega),if_pos hr] at hc ⊢
     rw [List.drop_append_of_le_length h2]
     exact zO n (r.drop k) y (by rw [List.length_drop];simp at h;omega) hc
    ·simp [hr] at hc
theorem jX {x:Bs} (h:bI x=true) (y:Bs):bI (x++y)=bI y:=zO x.length x y (Nat.le_refl _) h
theorem GJ {b:UInt8} {r w:Bs} (hd:(aF (b::r)).2=0∨bU (aF (b::r)).1=false) (hw:w.takeWhile eR=r.takeWhile eR):bI (b::w)=false:=by
 rw [oN,L1,hw,←L1]
 rcases hd with hd|hd
 ·rw [if_pos hd]
 ·rw [hd];simp
theorem UO {b:UInt8} {r:Bs} (h2:bU (aF (b::r)).1=true) (h1:(aF (b::r)).2≠0):bI ((b::r).take (aF (b::r)).2)=true∧(aF (b::r)).2≤(b::r).length:=by
 by_cases hb:b.toNat<128
 ·rw [lN hb] at h2 ⊢
  simp only [List.take_succ_cons,List.take_zero]
  rw [zM hb,jF]
  simp only at h2
  simp [h2]
 ·rcases qV (b:=b) (by omega) r with h9|⟨x,k,h9,_,h3,_,h4,_⟩
  ·rw [h9] at h1;simp at h1
  ·rw [h9] at h2 ⊢
   simp only [List.take_succ_cons]
   have h8:aF (b::r.take k)=(x,k+1):=GI (by omega) h9 h3 h4 (by rw [List.take_take,Nat.min_self])
   rw [oN,h8]
   simp only [List.drop_succ_cons]
   rw [if_neg (by omega),if_pos h2,List.drop_eq_nil_of_le (by rw [List.length_take];omega)]
   exact ⟨jF,by simp;omega⟩
theorem Rw:((List.range 256).all fun r=>(!m5 r||f8 r)&&(!vR r||iQ r)&&(!(m5 r&&!vR r)||!iQ r)&&(!(r<128&&!m5 r)||(!f8 r&&!iQ r)))=true:=by decide +kernel
theorem ZE {r:Nat} (h:r<256):(m5 r=true→f8 r=true)∧(vR r=true→iQ r=true)∧(m5 r=true→vR r=false→iQ r=false)∧(r<128→m5 r=false→f8 r=false∧iQ r=false):=by
 have h9:=List.all_eq_true.1 Rw r (List.mem_range.2 h)
 cases h1:m5 r<;>cases h2:vR r<;>cases h3:f8 r<;>cases h4:iQ r<;>simp_all<;>omega
theorem SE {r:Nat} (h:m5 r=true):r<256:=by
 simp only [m5,vR,Bool.or_eq_true,Bool.and_eq_true,decide_eq_true_eq,beq_iff_eq,bne_iff_ne] at h
 omega
theorem ZF:∀ n,n<128→m5 n=cP (UInt8.ofNat n):=by decide +kernel
theorem GK {b:UInt8} (h:b.toNat<128):m5 b.toNat=cP b:=by
 rw [ZF _ h];simp
theorem GL (l:Bs) (h:l≠[]):(aF l).2=0↔(cV l).1=65533∧(cV l).2=1:=by
 cases l with
 | nil=>exact absurd rfl h
 | cons b r=>
  have:=DJ b r
  unfold aF
  split
  ·simp_all
  ·constructor
   ·omega
   ·intro hh;simp_all
theorem B3 (l:Bs) (h:¬ (aF l).2=0):aF l=cV l:=by
 by_cases hh:(cV l).1=65533∧(cV l).2=1
 ·exact absurd (by unfold aF;rw [if_pos hh]) h
 ·unfold aF;rw [if_neg hh]
def Fb (first:Bool):Nat→Bool:=if first then iQ else f8
theorem L3:Fb true=iQ:=by unfold Fb;exact if_pos rfl
theorem SF:Fb false=f8:=by unfold Fb;exact if_neg (by simp)
theorem JD:∀ (n:Nat) (first:Bool) (k:Nat) (l:Bs),iN n first k l=0→k=0∧(l.length≤n→dU (Fb first) n l=true∧∀ b∈l,cP b=true)
 | 0,first,k,l,h=>by
  refine ⟨h,fun hl=>?_⟩
  have:l=[]:=List.eq_nil_of_length_eq_zero (by omega)
  subst this
  exact ⟨rfl,by simp⟩
 | n+1,first,k,l,h=>by
  unfold iN at h
  split at h
  ·rename_i hl;subst hl;exact ⟨h,fun _=>⟨by unfold dU;simp,by simp⟩⟩
  ·rename_i hl
   split at h
   ·omega
   ·rename_i h1
    split at h
    ·have:=(JD n false 1 _ h).1;omega
    ·rename_i h2
     obtain ⟨hk,hr⟩:=JD n false k _ h
     have hz:¬ (aF l).2=0:=fun hh=>h1 (Or.inl hh)
     have cN:m5 (aF l).1=true:=by
      cases hh:m5 (aF l).1 with
      | true=>rfl
      | false=>exact absurd (Or.inl hh) h2
     refine ⟨hk,fun bF=>?_⟩
     have hw:(aF l).2≤l.length∧1≤(aF l).2:=by
      cases l with
      | nil=>exact absurd rfl hl
      | cons b r=>have:=DJ b r;rw [B3 _ hz];omega
     obtain ⟨KP,lY⟩:=hr (by rw [List.length_drop];omega)
     have bB:=SE cN
     have ht:=ZE bB
     refine ⟨?_,fun b hb=>?_⟩
     ·unfold dU
      rw [if_neg hl,if_neg (fun hh=>hz ((GL l hl).2 hh))]
      rw [B3 l hz] at cN KP h2 ht
      have hp:Fb first (cV l).1=true:=by
       cases first with
       | false=>rw [SF];exact ht.1 cN
       | true=>
        rw [L3]
        refine ht.2.1 ?_
        cases hh:vR (cV l).1 with
        | true=>rfl
        | false=>exact absurd (Or.inr ⟨rfl,hh⟩) h2
      rw [if_pos hp]
      rw [SF] at KP
      exact KP
     ·rw [←List.take_append_drop (aF l).2 l,List.mem_append] at hb
      rcases hb with hb|hb
      ·cases l with
       | nil=>exact absurd rfl hl
       | cons c r=>
        by_cases hc:c.toNat<128
        ·rw [lN hc] at hb cN
         simp only [List.take_succ_cons,List.take_zero,List.mem_singleton] at hb
         subst hb
         rw [←GK hc];exact cN
        ·rcases qV (b:=c) (by omega) r with h9|⟨x,k9,h9,_,_,_,_,h8⟩
         ·rw [h9] at hz;exact absurd rfl hz
         ·rw [h9] at hb
          simp only [List.take_succ_cons,List.mem_cons] at hb
          have Rx:128≤b.toNat:=by
           rcases hb with rfl|hb
           ·omega
           ·have:=h8 b hb
            simp only [eR,beq_iff_eq] at this
            omega
          unfold cP
          simp only [Bool.or_eq_true,decide_eq_true_eq]
          left
          exact UInt8.le_iff_toNat_le.2 Rx
      ·exact lY b hb
theorem ZG:∀ (n:Nat) (first:Bool) (k:Nat) (l:Bs),iN n first k l=1→l.length≤n→k=1∨dU (Fb first) n l=false
 | 0,first,k,l,h,_=>Or.inl h
 | n+1,first,k,l,h,bF=>by
  unfold iN at h
  split at h
  ·exact Or.inl h
  ·rename_i hl
   split at h
   ·omega
   ·rename_i h1
    have hz:¬ (aF l).2=0:=fun hh=>h1 (Or.inl hh)
    have hw:(aF l).2≤l.length∧1≤(aF l).2:=by
     cases l with
     | nil=>exact absurd rfl hl
     | cons b r=>have:=DJ b r;rw [B3 _ hz];omega
    have hu:dU (Fb first) (n+1) l=if Fb first (aF l).1 then dU f8 n (l.drop (aF l).2) else false:=by
     conv=>lhs;unfold dU
     rw [if_neg hl,if_neg (fun hh=>hz ((GL l hl).2 hh)),B3 l hz]
    rw [hu]
    split at h
    ·rename_i h2
     refine Or.inr ?_
     have hf:Fb first (aF l).1=false:=by
      cases cN:m5 (aF l).1 with
      | true=>
       rcases h2 with h2|⟨rfl,h2⟩
       ·rw [cN] at h2;cases h2
       ·rw [L3];exact (ZE (SE cN)).2.2.1 cN h2
      | false=>
       have bB:(aF l).1<128:=by
        rcases Nat.lt_or_ge (aF l).1 128 with h8|h8
        ·exact h8
        ·exact absurd (Or.inr ⟨h8,cN⟩) h1
       have:=(ZE (r:=(aF l).1) (by omega)).2.2.2 bB cN
       cases first
       ·rw [SF];exact this.1
       ·rw [L3];exact this.2
     rw [hf];rfl
    ·rename_i h2
     rcases ZG n false k _ h (by rw [List.length_drop];omega) with h9|h9
     ·exact Or.inl h9
     ·refine Or.inr ?_
      rw [SF] at h9
      rw [h9]
      split<;>rfl
theorem qA {l:Bs} (h:bE l=0):l≠[]∧cQ l=true∧∀ b∈l,cP b=true:=by
 unfold bE at h
 obtain ⟨h1,h2⟩:=JD _ _ _ _ h
 have hl:l≠[]:=fun hh=>by rw [if_pos hh] at h1;omega
 obtain ⟨h3,h4⟩:=h2 (Nat.le_refl _)
 rw [L3] at h3
 exact ⟨hl,by unfold cQ;rw [if_neg hl];exact h3,h4⟩
theorem x5 {l:Bs} (h:bE l=1):cQ l=false:=by
 unfold cQ
 split
 ·rfl
 ·rename_i hl
  unfold bE at h
  rw [if_neg hl] at h
  rcases ZG _ _ _ _ h (Nat.le_refl _) with h9|h9
  ·omega
  ·rw [L3] at h9;exact h9
theorem P0:∀ (n:Nat) (first:Bool) (k:Nat) (l:Bs),k≤1→iN n first k l≤2
 | 0,_,k,_,h=>by unfold iN;omega
 | n+1,first,k,l,h=>by
  unfold iN
  repeat' split
  ·omega
  ·omega
  ·exact P0 n false 1 _ (by omega)
  ·exact P0 n false k _ h
theorem L4 (l:Bs):bE l=0∨bE l=1∨bE l=2:=by
 have:=P0 l.length true (if l=[] then 1 else 0) l (by split<;>omega)
 unfold bE
 omega
theorem GM {c:UInt8}:∀ {l a:Bs},iY c l=some a→l=a++c::l.drop (a.length+1)∧c∉a
 | [],a,h=>by simp [iY] at h
 | b::r,a,h=>by
  unfold iY at h
  split at h
  ·rename_i hb;simp only [oY] at h;subst h;subst hb;simp
  ·rename_i hb
   rw [Option.map_eq_some_iff] at h
   obtain ⟨x,hx,rfl⟩:=h
   obtain ⟨h1,h2⟩:=GM hx
   refine ⟨?_,?_⟩
   ·rw [List.cons_append,List.length_cons,List.drop_succ_cons,←h1]
   ·simp only [List.mem_cons,not_or];exact ⟨fun hh=>hb hh.symm,h2⟩
theorem B4 {c:UInt8}:∀ (a r:Bs),c∉a→iY c (a++c::r)=some a
 | [],r,_=>by simp [iY]
 | b::a,r,h=>by
  simp only [List.mem_cons,not_or] at h
  rw [List.cons_append,iY,if_neg (fun hh=>h.1 hh.symm),B4 a r h.2]
  rfl
theorem SG:∀ (a:Bs) (b:UInt8) (r:Bs),(∀ c∈a,cP c=true)→cP b=false→aD (a++b::r)=(a,b::r)
 | [],b,r,_,hb=>by simp [aD,hb]
 | c::a,b,r,h,hb=>by
  rw [List.cons_append,aD,if_pos (h c (by simp)),SG a b r (fun d hd=>h d (by simp [hd])) hb]
theorem uA:∀ (l:Bs),(aD l).1++(aD l).2=l∧∀ c∈(aD l).1,cP c=true
 | []=>by simp [aD]
 | b::r=>by
  unfold aD
  split
  ·rename_i hb
   obtain ⟨h1,h2⟩:=uA r
   refine ⟨by simp [h1],fun c hc=>?_⟩
   simp only [List.mem_cons] at hc
   rcases hc with rfl|hc
   ·exact hb
   ·exact h2 c hc
  ·simp
theorem ZH (bQ:Bool):∀ (a:Bs) (b:UInt8) (r:Bs),(∀ c∈a,eY bQ c=true)→eY bQ b=false→bV bQ (a++b::r)=(a,b::r)
 | [],b,r,_,hb=>by simp [bV,hb]
 | c::a,b,r,h,hb=>by
  rw [List.cons_append,bV,if_pos (h c (by simp)),ZH bQ a b r (fun d hd=>h d (by simp [hd])) hb]
theorem SH (bQ:Bool):∀ (l:Bs),(bV bQ l).1++(bV bQ l).2=l∧∀ c∈(bV bQ l).1,eY bQ c=true
 | []=>by simp [bV]
 | b::r=>by
  unfold bV
  split
  ·rename_i hb
   obtain ⟨h1,h2⟩:=SH bQ r
   refine ⟨by simp [h1],fun c hc=>?_⟩
   simp only [List.mem_cons] at hc
   rcases hc with rfl|hc
   ·exact hb
   ·exact h2 c hc
  ·simp
end Go.Proofs.YtdjdjbpnbjdaaaaGreatDoor
