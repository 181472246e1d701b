/- Part of the proof that laws.FnSkip returns true for every argument. No conditions. -/
import Derived.Test.YthapcchcahnfaaaGreatDoorS01
import Derived.Lib.DecodeN
import Derived.Shelf.Unicode.CaseLaid
set_option linter.all false
set_option maxHeartbeats 8000000
set_option maxRecDepth 100000
namespace Go.Proofs.YthapcchcahnfaaaGreatDoor
open Go
theorem jM (o:cV) (q:Option UInt8) (b:Bool) (b0 b1:UInt8) (a:Bs) :
  bF o q b [] b0 b1 a=if b then .error (bY o.fails) else if bL a then .ok (a,[]) else .error .syn:=by
 rw [bF]
theorem qY (o:cV) (b:Bool) (r:Bs) (a:Bs) :
  bF o none b (62::r) 93 93 a=if b then (if bL (a.take (a.length-2)) then .ok (a.take (a.length-2),r) else .error .syn) else .error .syn:=by
 rw [bF];simp
theorem xK (o:cV) (q:Option UInt8) (r:Bs) (b0 b1:UInt8) (a:Bs) :
  bF o q false (60::r) b0 b1 a=if q=none then (if bL a then .ok (a,60::r) else .error .syn) else .error .syn:=by
 rw [bF];simp
theorem u7 (o:cV) (c:Bool) (b:UInt8) (r:Bs) (b0 b1:UInt8) (a:Bs) (h:¬ (b=60∧c=false)) :
  bF o (some b) c (b::r) b0 b1 a=if bL a then .ok (a,r) else .error .syn:=by
 rw [bF,aQ (by simp),aQ h,aY rfl]
def fH (b b1:UInt8) (a:Bs):Bs:=if b=13 then a++[10] else if b1=13∧b=10 then a else a++[b]
theorem cF (o:cV) (q:Option UInt8) (c:Bool) (b:UInt8) (r:Bs) (b0 b1:UInt8) (a:Bs) (d:¬ (q=none∧b0=93∧b1=93∧b=62)) (e:¬ (b=60∧c=false)) (f:q≠some b) (g:¬ (b=38∧c=false)) :
  bF o q c (b::r) b0 b1 a=bF o q c r b1 b (fH b b1 a):=by
 rw [bF,aQ d,aQ e,aQ f,aQ g];rfl
theorem uB (o:cV) (q:Option UInt8) (r:Bs) (b0 b1:UInt8) (a:Bs) (h:q≠some 38) :
  bF o q false (38::r) b0 b1 a=match iG o.fails o.ents r with
   | .error e=>.error e
   | .ok (_,some t,r')=>bF o q false r' 0 0 (a++t)
   | .ok (raw,none,r')=>if o.strict then .error .syn else bF o q false r' 0 0 (a++raw):=by
 rw [bF,aQ (by simp),aQ (by simp),aQ h,aY (by simp)];split<;>rename_i b<;>rw [b]
inductive SV where
 | bad|opn
 deriving DecidableEq,Repr,Inhabited
def aI (l:Bs):Nat×Nat:=if (dB l).1=65533∧(dB l).2=1 then (0,0) else dB l
def rJ (r:Nat):Bool:=(97≤r&&r≤122)||(65≤r&&r≤90)||r==95||r==58||(192≤r&&r≤255&&r != 215&&r != 247)
def lJ (r:Nat):Bool:=rJ r||(48≤r&&r≤57)||r==45||r==46||r==183
def gU:Nat→Bool→Nat→Bs→Nat
 | 0,_,k,_=>k
 | n+1,first,k,l=>
  if l=[] then k
  else if (aI l).2=0∨(128≤(aI l).1∧lJ (aI l).1=false) then 2
  else if lJ (aI l).1=false∨(first=true∧rJ (aI l).1=false) then gU n false 1 (l.drop (aI l).2)
  else gU n false k (l.drop (aI l).2)
def bH (l:Bs):Nat:=gU l.length true (if l=[] then 1 else 0) l
def eD (l:Bs):Bool:=!l.contains 58&&bH l==0
def jD (l:Bs):Option (Bs×Bs):=
 match l.dropWhile (· != 58) with
 | []=>some ([],l)
 | _::loc=>if loc.contains 58 then none else if l.takeWhile (· != 58)=[]∨loc=[] then none else some (l.takeWhile (· != 58),loc)
def fL (rest:Bs):Except SV ((Bs×Bs)×Bs):=
 if bH (aD rest).1=1 then .error .bad
 else if bH (aD rest).1=2 then .error .opn
 else match jD (aD rest).1 with
  | none=>.error .opn
  | some (p,l)=>if eD l=false∨(p≠[]∧eD p=false) then .error .opn else .ok ((p,l),(aD rest).2)
def bP (a:Bool):Int→Bs→Option Int
 | n,[]=>some n
 | n,b::r=>
  if eU a b then
   let m:=if 0≤n then n*(if a then 16 else 10)+dP b else n
   bP a (if 1114111<m then -1 else m) r
  else none
def hH (s:Bs):Option Int:=
 match s with
 | []=>none
 | b::t=>if b=120 then (if t=[] then none else bP true 0 t) else bP false 0 (b::t)
abbrev aM:=List (Bs×Bs)
def oF:aM:=[([108,116],[60]),([103,116],[62]),([97,109,112],[38]),([97,112,111,115],[39]),([113,117,111,116],[34])]
def eA (l:aM) (k:Bs):Option Bs:=(l.find? (·.1==k)).map (·.2)
def iV (n:Int):Bool:=0≤n&&bW n.toNat
def jE (ents:aM) (rest:Bs):Except SV (Bs×Bs):=
 match hZ 59 rest with
 | none=>.error .bad
 | some []=>.error .bad
 | some (c::t)=>
  if c=35 then
   match hH t with
   | none=>.error .bad
   | some n=>if iV n then .ok (gD n.toNat,rest.drop (t.length+2)) else .error .opn
  else if bH (c::t)=2 then .error .opn
  else if bH (c::t)=1 then .error .bad
  else match eA (oF++ents) (c::t) with
   | some x=>.ok (x,rest.drop (t.length+2))
   | none=>.error .bad
def fJ (ents:aM) (rest:Bs):Except SV (Bs×Bs):=
 match rest with
 | []=>.error .bad
 | b::r=>
  if b=38 then
   match jE ents r with
   | .error e=>.error e
   | .ok (t,r2)=>if bL t then .ok (t,r2) else .error .opn
  else if (aI (b::r)).2=0∨bW (aI (b::r)).1=false then .error .bad
  else .ok ((b::r).take (aI (b::r)).2,(b::r).drop (aI (b::r)).2)
def nQ:Bs:=[93,93,62]
def dO (ents:aM):Nat→Bs→Bs→Except SV (Bs×Bs)
 | 0,_,_=>.error .opn
 | k+1,rest,out=>
  match rest with
  | []=>.ok (out,[])
  | b::r=>
   if b=60 then .ok (out,b::r)
   else if nQ.isPrefixOf (b::r) then .error .bad
   else if b=13 then (match r with
    | []=>dO ents k [] (out++[10])
    | c::r2=>if c=10 then dO ents k r2 (out++[10]) else dO ents k (c::r2) (out++[10]))
   else match fJ ents (b::r) with
    | .error e=>.error e
    | .ok (t,r2)=>dO ents k r2 (out++t)
def eH:Nat→Bs→Bs→Except SV (Bs×Bs)
 | 0,_,_=>.error .opn
 | k+1,rest,out=>
  match rest with
  | []=>.error .bad
  | b::r=>
   if nQ.isPrefixOf (b::r) then .ok (out,r.drop 2)
   else if b=13 then (match r with
    | []=>eH k [] (out++[10])
    | c::r2=>if c=10 then eH k r2 (out++[10]) else eH k (c::r2) (out++[10]))
   else if (aI (b::r)).2=0∨bW (aI (b::r)).1=false then .error .bad
   else eH k ((b::r).drop (aI (b::r)).2) (out++(b::r).take (aI (b::r)).2)
def lK (s:Bs):Bool:=!s.contains 13&&bL s
def dJ (p:Bs):Bs→Option (Bs×Bs)
 | []=>none
 | b::r=>if p.isPrefixOf (b::r) then some ([],(b::r).drop p.length) else (dJ p r).map fun x=>(b::x.1,x.2)
def dD (rest:Bs):Except SV (Bs×Bs):=
 match dJ [45,45] rest with
 | none=>.error .bad
 | some (s,r)=>
  match r with
  | []=>.error .bad
  | c::r2=>if c=62 then (if lK s then .ok (s,r2) else .error .opn) else .error .bad
def vY (s:Bs):Bool:=(s.take 3).map eI==[120,109,108]
def kC:List Bs:=
 let v1:Bs:=[118,101,114,115,105,111,110,61,34,49,46,48,34]
 let v2:Bs:=[118,101,114,115,105,111,110,61,39,49,46,48,39]
 let e:List Bs:=[[],[32,101,110,99,111,100,105,110,103,61,34,85,84,70,45,56,34],[32,101,110,99,111,100,105,110,103,61,39,117,116,102,45,56,39]]
 let s:List Bs:=[[],[32,115,116,97,110,100,97,108,111,110,101,61,34,121,101,115,34],[32,115,116,97,110,100,97,108,111,110,101,61,39,110,111,39]]
 e.flatMap fun a=>s.flatMap fun b=>[v1++a++b,v2++a++b]
def fI (first:Bool) (rest:Bs):Except SV ((Bs×Bs)×Bs):=
 if bH (aD rest).1=1 then .error .bad
 else if eD (aD rest).1=false then .error .opn
 else
  match dJ [63,62] (aT (aD rest).2) with
  | none=>.error .bad
  | some (s,r)=>
   if lK s=false∨(s≠[]∧(aT (aD rest).2).length=(aD rest).2.length)∨(vY (aD rest).1=true∧¬ (first=true∧(aD rest).1=mN∧kC.contains s=true)) then .error .opn
   else .ok (((aD rest).1,s),r)
def lZ:Bs→Option Bs
 | []=>none
 | b::r=>if b=62 then some r else if b=60∨b=91∨b=34∨b=39 then none else lZ r
def oY (rest:Bs):Except SV (Bs×Bs):=
 if (aT rest).length=rest.length∨eD (aD (aT rest)).1=false then .error .opn
 else match lZ (aD (aT rest)).2 with
  | none=>.error .opn
  | some r=>if lK (rest.take (rest.length-r.length-1)) then .ok (rest.take (rest.length-r.length-1),r) else .error .opn
def pU (ents:aM) (q:UInt8):Nat→Bs→Bs→Except SV (Bs×Bs)
 | 0,_,_=>.error .opn
 | k+1,rest,out=>
  match rest with
  | []=>.error .bad
  | b::r=>
   if b=q then .ok (out,r)
   else if b=60 then .error .bad
   else if b≠32∧l6 b=true then .error .opn
   else match fJ ents (b::r) with
    | .error e=>.error e
    | .ok (t,r2)=>pU ents q k r2 (out++t)
def dZ (ents:aM) (rest:Bs):Except SV (cO×Bs):=
 match fL rest with
 | .error e=>.error e
 | .ok (nm,r)=>
  match aT r with
  | []=>.error .bad
  | b::r2=>
   if b=61 then
    match aT r2 with
    | []=>.error .bad
    | q::r3=>
     if q=34∨q=39 then
      match pU ents q (r3.length+1) r3 [] with
      | .error e=>.error e
      | .ok (v,r4)=>.ok ((nm.1,nm.2,v),r4)
     else .error .bad
   else .error .bad
def cZ (ents:aM):Nat→Bs→List cO→Except SV (List cO×Bool×Bs)
 | 0,_,_=>.error .opn
 | k+1,rest,acc=>
  match aT rest with
  | []=>.error .bad
  | b::r=>
   if b=62 then .ok (acc,false,r)
   else if b=47 then (match r with
    | []=>.error .bad
    | c::r2=>if c=62 then .ok (acc,true,r2) else .error .bad)
   else match dZ ents (b::r) with
    | .error e=>.error e
    | .ok (a,r2)=>
     if (aT rest).length=rest.length then .error .opn
     else if acc.any (fun x=>x.1==a.1&&x.2.1==a.2.1) then .error .opn
     else cZ ents k r2 (acc++[a])
def oG:Bs:=[104,116,116,112,58,47,47,119,119,119,46,119,51,46,111,114,103,47,50,48,48,48,47,120,109,108,110,115,47]
def iR:List aM→Bs→Option Bs
 | [],_=>none
 | l::bs,p=>match eA l p with
  | some v=>some v
  | none=>iR bs p
def cC (a:Bs) (bound:List aM) (p:Bs) (b:Bool):Bs:=
 if (p=[]∧b=false)∨p=bD then p
 else if p=mN then dN
 else match iR bound p with
  | some v=>v
  | none=>if p=[] then a else p
def eB:List cO→Except SV aM
 | []=>.ok []
 | (sp,loc,v)::l=>
  if sp≠bD∧(sp≠[]∨loc≠bD) then eB l
  else
   let name:=if sp=bD then loc else []
   if name=mN∨name=bD∨(name≠[]∧v=[])∨v=dN∨v=oG then .error .opn
   else match eB l with
    | .error e=>.error e
    | .ok x=>.ok ((name,v)::x)
def f8 (a:Bs) (bound:List aM):List cO→List cO→Except SV (List cO)
 | acc,[]=>.ok acc
 | acc,(sp,loc,v)::l=>
  if acc.any (fun x=>x.1==cC a bound sp false&&x.2.1==loc) then .error .opn
  else f8 a bound (acc++[(cC a bound sp false,loc,v)]) l
structure gN where
 rest:Bs
 opens:List Bs
 bound:List aM
def dG (nm:Bs×Bs):Bs:=nm.1++58::nm.2
def eJ (b:Bool) (a:Bs) (s:gN) (nm:Bs×Bs):Except SV (aP×gN):=
 if b then .ok (.fin nm,s)
 else match s.opens with
  | []=>.error .bad
  | x::l=>if x=dG nm then .ok (.fin (cC a s.bound nm.1 true,nm.2),{ s with opens:=l,bound:=s.bound.tail }) else .error .bad
def mQ (c:Bool) (a:Bs) (s:gN) (nm:Bs×Bs) (b:List cO):Except SV (aP×gN):=
 if c then .ok (.start nm b,s)
 else if nm=([],bD) then .error .opn
 else match eB b with
  | .error e=>.error e
  | .ok l=>
   match f8 a (l::s.bound) [] b with
   | .error e=>.error e
   | .ok x=>if nm.1=bD then .error .opn else .ok (.start (cC a (l::s.bound) nm.1 true,nm.2) x,{ s with opens:=dG nm::s.opens,bound:=l::s.bound })
structure lR where
 raw:Bool
 ents:aM
 space:Bs
def rK:Bs:=[68,79,67,84,89,80,69]
def BQ:Bs:=[91,67,68,65,84,65,91]
def l4 (r:Bs):Except SV (aP×Bs):=
 if [45,45].isPrefixOf r then (match dD (r.drop 2) with
  | .error e=>.error e
  | .ok (d,r2)=>.ok (.comment d,r2))
 else if BQ.isPrefixOf r then (match eH (r.length+1) (r.drop 7) [] with
  | .error e=>.error e
  | .ok (d,r2)=>.ok (.text d,r2))
 else if rK.isPrefixOf r then (match oY (r.drop 7) with
  | .error e=>.error e
  | .ok (d,r2)=>.ok (.dir (rK++d),r2))
 else match r with
  | []=>.error .bad
  | b::_=>if b=45∨b=91 then .error .bad else .error .opn
def nR (rest:Bs):Except SV ((Bs×Bs)×Bs):=
 match fL rest with
 | .error e=>.error e
 | .ok (nm,r)=>
  match aT r with
  | []=>.error .bad
  | b::r2=>if b=62 then .ok (nm,r2) else .error .bad
def eV (ents:aM) (rest:Bs):Except SV ((Bs×Bs)×List cO×Bool×Bs):=
 match fL rest with
 | .error e=>.error e
 | .ok (nm,r)=>
  match cZ ents (r.length+1) r [] with
  | .error e=>.error e
  | .ok (ats,em,r2)=>.ok (nm,ats,em,r2)
def kD (ents:aM) (first:Bool) (rest:Bs):Except SV (aP×Bool×Bs):=
 match rest with
 | []=>.error .opn
 | b::r=>
  if b≠60 then (match dO ents ((b::r).length+1) (b::r) [] with
   | .error e=>.error e
   | .ok (d,r2)=>.ok (.text d,false,r2))
  else match r with
   | []=>.error .bad
   | c::r2=>
    if c=47 then (match nR r2 with
     | .error e=>.error e
     | .ok (nm,r3)=>.ok (.fin nm,false,r3))
    else if c=63 then (match fI first r2 with
     | .error e=>.error e
     | .ok (x,r3)=>.ok (.proc x.1 x.2,false,r3))
    else if c=33 then (match l4 r2 with
     | .error e=>.error e
     | .ok (t,r3)=>.ok (t,false,r3))
    else match eV ents (c::r2) with
     | .error e=>.error e
     | .ok (nm,ats,em,r3)=>.ok (.start nm ats,em,r3)
def kE (o:lR) (s:gN) (t:aP) (em:Bool):Except SV (List aP×gN):=
 match t with
 | .start nm ats=>
  match mQ o.raw o.space s nm ats with
  | .error e=>.error e
  | .ok (t,s2)=>
   if em then (match eJ o.raw o.space s2 nm with
    | .error e=>.error e
    | .ok (t2,s3)=>.ok ([t,t2],s3))
   else .ok ([t],s2)
 | .fin nm=>
  match eJ o.raw o.space s nm with
  | .error e=>.error e
  | .ok (t,s2)=>.ok ([t],s2)
 | t=>.ok ([t],s)
def iS (o:lR) (first:Bool) (s:gN):Except SV (List aP×gN):=
 match kD o.ents first s.rest with
 | .error e=>.error e
 | .ok (t,em,r)=>kE o { s with rest:=r } t em
def l5 (o:lR) (T:Bs):Nat→gN→List (aP×Nat)→List (aP×Nat)×Option SV
 | 0,_,out=>(out,some .opn)
 | k+1,s,out=>
  if s.rest=[] then (out,if s.opens=[] then none else some .bad)
  else match iS o (s.rest.length==T.length) s with
   | .error e=>(out,some e)
   | .ok (ts,s2)=>l5 o T k s2 (out++ts.map fun t=>(t,T.length-s2.rest.length))
def gC (o:lR) (T:Bs):List (aP×Nat)×Option SV:=l5 o T (T.length+1) ⟨T,[],[]⟩ []
theorem IM (l:Bs) (k:Nat):(⟨l.toArray⟩:ByteArray).get! k=l.getD k 0:=by
 show l.toArray[k]! = _;by_cases h:k<l.length
 ·simp [h]
 ·simp [h];rfl
theorem C4 (l:Bs) (h:1≤l.length):dB l=Lib.decodeN l.length (l.getD 0 0).toNat (l.getD 1 0).toNat (l.getD 2 0).toNat (l.getD 3 0).toNat:=by
 have a:(⟨l.toArray⟩:ByteArray).size=l.length:=by simp [ByteArray.size]
 unfold dB Lib.decodeGoB;rw [aQ (by omega),Lib.decode_at,IM,IM,IM,IM,a];rfl
def fX (c:UInt8):Bool:=c.toNat / 64==2
theorem NJ (b:UInt8) (r:Bs):dB (b::r)=dB (b::r.takeWhile fX):=by
 rw [C4 _ (by simp),C4 _ (by simp)];have q:=b.toNat_lt
 match r with
 | []=>rfl
 | c::r1=>
  have s:=c.toNat_lt;by_cases a:fX c=true
  ·rw [List.takeWhile_cons_of_pos a]
   match r1 with
   | []=>rfl
   | d::r2=>
    have t:=d.toNat_lt;by_cases g:fX d=true
    ·rw [List.takeWhile_cons_of_pos g]
     match r2 with
     | []=>rfl
     | e::r3=>
      have u:=e.toNat_lt;by_cases i:fX e=true
      ·rw [List.takeWhile_cons_of_pos i];simp only [f5,List.getD_cons_zero,List.getD_cons_succ];unfold Lib.decodeN;have k:(1<r3.length+1+1+1+1)=True:=by simp
       have l:(2<r3.length+1+1+1+1)=True:=by simp
       have m:(3<r3.length+1+1+1+1)=True:=by simp
       have n:(1<(r3.takeWhile fX).length+1+1+1+1)=True:=by simp
       have o:(2<(r3.takeWhile fX).length+1+1+1+1)=True:=by simp
       have p:(3<(r3.takeWhile fX).length+1+1+1+1)=True:=by simp
       simp only [k,l,m,n,o,p]
      ·have j:¬ e.toNat / 64=2:=by simpa [fX] using i
       rw [List.takeWhile_cons_of_neg i];simp only [f5,List.length_nil,List.getD_cons_zero,List.getD_cons_succ,List.getD_nil];unfold Lib.decodeN;simp [j]
    ·have h:¬ d.toNat / 64=2:=by simpa [fX] using g
     rw [List.takeWhile_cons_of_neg g];simp only [f5,List.length_nil,List.getD_cons_zero,List.getD_cons_succ,List.getD_nil];unfold Lib.decodeN;simp [h]
  ·have f:¬ c.toNat / 64=2:=by simpa [fX] using a
   rw [List.takeWhile_cons_of_neg a];simp only [f5,List.length_nil,List.getD_cons_zero,List.getD_cons_succ,List.getD_nil];unfold Lib.decodeN;simp [f]
theorem C6 (b:UInt8) (r:Bs):aI (b::r)=aI (b::r.takeWhile fX):=by unfold aI;rw [←NJ]
theorem kF {b:UInt8} (h:b.toNat<128) (r:Bs):aI (b::r)=(b.toNat,1):=by
 unfold aI;rw [C4 _ (by simp)];have:Lib.decodeN (b::r).length ((b::r).getD 0 0).toNat ((b::r).getD 1 0).toNat ((b::r).getD 2 0).toNat ((b::r).getD 3 0).toNat=(b.toNat,1):=by
  unfold Lib.decodeN;rw [List.getD_cons_zero,aY h]
 rw [this,aQ];simp only;omega
theorem KB (n a b c d:Nat) (h:128≤a) (e:b<256) (f:c<256) (g:d<256):Lib.decodeN n a b c d=(65533,1)∨∃ x k,Lib.decodeN n a b c d=(x,k)∧128≤x∧2≤k∧k≤n∧k≤4∧(1<k→b / 64=2)∧(2<k→c / 64=2)∧(3<k→d / 64=2):=by
 unfold Lib.decodeN;rw [aQ (by omega)];repeat' split
 all_goals first
  | exact aG rfl
  | exact aU ⟨_,_,rfl,by omega,by omega,by omega,by omega,by omega,by omega,by omega⟩
theorem oH {b:UInt8} (h:128≤b.toNat) (r:Bs):aI (b::r)=(0,0)∨∃ x k,aI (b::r)=(x,k+1)∧128≤x∧1≤k∧k≤3∧k≤r.length∧∀ c∈r.take k,fX c=true:=by
 have g:=((b::r).getD 1 0).toNat_lt;have l:=((b::r).getD 2 0).toNat_lt;have m:=((b::r).getD 3 0).toNat_lt;rcases KB (b::r).length b.toNat ((b::r).getD 1 0).toNat ((b::r).getD 2 0).toNat ((b::r).getD 3 0).toNat h g l m with e|⟨x,k,e,q1,q2,q3,q4,q5,q6,q7⟩
 ·left;unfold aI;rw [C4 _ (by simp),List.getD_cons_zero,e];rfl
 ·right;refine ⟨x,k-1,?_,q1,by omega,by omega,by simp at q3;omega,?_⟩
  ·unfold aI;rw [C4 _ (by simp),List.getD_cons_zero,e,aQ (by simp;omega),show k-1+1=k by omega]
  ·intro c n;obtain ⟨i,o,rfl⟩:=List.getElem_of_mem n;rw [pI] at o;rw [List.getElem_take];have d:∀ j (f:j<r.length),(b::r).getD (j+1) 0=r[j]:=fun j f=>by simp [rF,f]
   unfold fX;have a:i<r.length:=by omega
   have:i=0∨i=1∨i=2:=by omega
   rcases this with rfl|rfl|rfl
   ·rw [←d 0 a];simpa using q5 (by omega)
   ·rw [←d 1 a];simpa using q6 (by omega)
   ·rw [←d 2 a];simpa using q7 (by omega)
theorem KC (n a b c d x k:Nat) (t:128≤a) (h:Lib.decodeN n a b c d=(x,k)) (u:2≤k) (i m o p:Nat) (j:1<k→1<i∧m=b) (q:2<k→2<i∧o=c) (r:3<k→3<i∧p=d):Lib.decodeN i a m o p=(x,k):=by
 unfold Lib.decodeN at h ⊢;rw [aQ (by omega)] at h ⊢;split at h
 ·rename_i g;split at h
  ·rename_i e;simp only [b8] at h;obtain ⟨rfl,rfl⟩:=h;obtain ⟨f,rfl⟩:=j (by omega);rw [aY ⟨g.1,f,g.2.2⟩,aY e]
  ·simp only [b8] at h;omega
 ·split at h
  ·rename_i g0 g;split at h
   ·rename_i e;simp only [b8] at h;obtain ⟨rfl,rfl⟩:=h;obtain ⟨f,rfl⟩:=j (by omega);obtain ⟨l,rfl⟩:=q (by omega);rw [aQ (by omega),aY ⟨g.1,⟨f,g.2.1.2⟩,⟨l,g.2.2.2⟩⟩,aY e]
   ·simp only [b8] at h;omega
  ·split at h
   ·rename_i g0 g1 g;split at h
    ·rename_i e;simp only [b8] at h;obtain ⟨rfl,rfl⟩:=h;obtain ⟨f,rfl⟩:=j (by omega);obtain ⟨l,rfl⟩:=q (by omega);obtain ⟨s,rfl⟩:=r (by omega);rw [aQ (by omega),aQ (by omega),aY ⟨g.1,⟨f,g.2.1.2⟩,⟨l,g.2.2.1.2⟩,⟨s,g.2.2.2.2⟩⟩,aY e]
    ·simp only [b8] at h;omega
   ·simp only [b8] at h;omega
theorem C7 (l y:Bs) {i:Nat} (h:i<l.length):(l++y).getD i 0=l.getD i 0:=by
 simp [rF,List.getElem?_append_left h]
theorem AA {b:UInt8} (h:128≤b.toNat) {r:Bs} {x k:Nat} (d:aI (b::r)=(x,k+1)) (n:1≤k) (i:k≤r.length) {a:Bs} (g:a.take k=r.take k):aI (b::a)=(x,k+1):=by
 have f:k≤a.length:=by have:=congrArg List.length g;simp only [pI] at this;omega
 have c:∀ j,j<k→(b::a).getD (j+1) 0=(b::r).getD (j+1) 0:=fun j m=>by
  simp only [List.getD_cons_succ];rw [←List.take_append_drop k r,←List.take_append_drop k a,C7 _ _ (by rw [pI];omega),C7 _ _ (by rw [pI];omega),g]
 have l:Lib.decodeN (b::r).length ((b::r).getD 0 0).toNat ((b::r).getD 1 0).toNat ((b::r).getD 2 0).toNat ((b::r).getD 3 0).toNat=(x,k+1):=by
  unfold aI at d;split at d
  ·simp at d
  ·rw [C4 _ (by simp)] at d;exact d
 have e:=KC _ _ _ _ _ _ _ (by simpa using h) l (by omega) (b::a).length ((b::a).getD 1 0).toNat ((b::a).getD 2 0).toNat ((b::a).getD 3 0).toNat
  (fun _=>⟨by simp;omega,by rw [c 0 (by omega)]⟩) (fun _=>⟨by simp;omega,by rw [c 1 (by omega)]⟩) (fun _=>⟨by simp;omega,by rw [c 2 (by omega)]⟩)
 unfold aI;rw [C4 _ (by simp)];rw [show (b::a).getD 0 0=(b::r).getD 0 0 from rfl,e,aQ (by simp;omega)]
theorem FY (k:Nat):cP k []=true:=by cases k<;>simp [cP]
theorem xL (b:UInt8) (r:Bs):1≤(dB (b::r)).2∧(dB (b::r)).2≤(b::r).length:=by
 by_cases h:b.toNat<128
 ·have a:=kF h r;unfold aI at a;split at a
  ·simp at a
  ·rw [a];simp
 ·rcases oH (b:=b) (by omega) r with a|⟨x,k,a,_,c,_,d,_⟩
  ·unfold aI at a;split at a
   ·rename_i g;rw [g.2];simp
   ·rename_i g;have e:=b.toNat_lt;rw [C4 _ (by simp)] at a;exfalso;unfold Lib.decodeN at a;simp only [List.getD_cons_zero] at a;rw [aQ h] at a;repeat' split at a
    all_goals simp at a
  ·unfold aI at a;split at a
   ·simp at a
   ·rw [a];simp;omega
theorem IN:∀ (k a:Nat) (l:Bs),l.length≤k→l.length≤a→cP k l=cP a l
 | k,a,[],_,_=>by rw [FY,FY]
 | 0,_,_::_,h,_=>by simp at h
 | _,0,_::_,_,h=>by simp at h
 | k+1,a+1,b::r,h,h'=>by
  obtain ⟨c,d⟩:=xL b r;have ih:=IN k a ((b::r).drop (dB (b::r)).2) (by rw [eC];simp at h ⊢;omega) (by rw [eC];simp at h' ⊢;omega);rw [cP,cP,ih]
theorem mS (b:UInt8) (r:Bs):bL (b::r)=(if (aI (b::r)).2=0 then false else if bW (aI (b::r)).1 then bL ((b::r).drop (aI (b::r)).2) else false):=by
 obtain ⟨d,e⟩:=xL b r;have c:bL (b::r)=(if (dB (b::r)).1=65533∧(dB (b::r)).2=1 then false else if bW (dB (b::r)).1 then bL ((b::r).drop (dB (b::r)).2) else false):=by
  unfold bL;rw [f5,cP,aQ (by simp)];rw [IN r.length ((b::r).drop (dB (b::r)).2).length _ (by rw [eC];simp;omega) (dF _)]
 rw [c];unfold aI;by_cases a:(dB (b::r)).1=65533∧(dB (b::r)).2=1
 ·rw [aY a,aY a];rfl
 ·simp only [aQ a];rw [aQ (show ¬ (dB (b::r)).2=0 by omega)]
theorem iJ:bL []=true:=FY _
theorem uC {b:UInt8} (h:b.toNat<128) (r:Bs):bL (b::r)=(bW b.toNat&&bL r):=by
 rw [mS,kF h];simp only [List.drop_succ_cons,List.drop_zero];cases bW b.toNat<;>simp
theorem uD:∀ (n:Nat) (x y:Bs),x.length≤n→bL x=true→bL (x++y)=bL y
 | _,[],_,_,_=>rfl
 | 0,_::_,_,h,_=>by simp at h
 | n+1,b::r,y,h,a=>by
  rw [mS] at a;by_cases f:b.toNat<128
  ·rw [kF f] at a;simp only [List.drop_succ_cons,List.drop_zero] at a;rw [rH,uC f];by_cases c:bW b.toNat=true
   ·rw [c] at a ⊢;simp only [Nat.succ_ne_self,if_false,if_true,Bool.true_and] at a ⊢;exact uD n r y (by simp at h;omega) (by simpa using a)
   ·simp [c] at a
  ·rcases oH (b:=b) (by omega) r with d|⟨x,k,d,_,g,_,e,_⟩
   ·rw [d] at a;simp at a
   ·rw [d] at a;simp only [List.drop_succ_cons] at a;have i:aI (b::(r++y))=(x,k+1):=AA (by omega) d g e (by rw [List.take_append_of_le_length e]);rw [rH,mS,i];simp only [List.drop_succ_cons];by_cases c:bW x=true
    ·rw [aQ (by omega),aY c] at a ⊢;rw [List.drop_append_of_le_length e];exact uD n (r.drop k) y (by rw [eC];simp at h;omega) a
    ·simp [c] at a
theorem iW {x:Bs} (h:bL x=true) (y:Bs):bL (x++y)=bL y:=uD x.length x y (dF _) h
theorem AB {b:UInt8} {r w:Bs} (a:(aI (b::r)).2=0∨bW (aI (b::r)).1=false) (c:w.takeWhile fX=r.takeWhile fX):bL (b::w)=false:=by
 rw [mS,C6,c,←C6];rcases a with a|a
 ·rw [aY a]
 ·rw [a];simp
theorem KD {b:UInt8} {r:Bs} (a:bW (aI (b::r)).1=true) (d:(aI (b::r)).2≠0):bL ((b::r).take (aI (b::r)).2)=true∧(aI (b::r)).2≤(b::r).length:=by
 by_cases e:b.toNat<128
 ·rw [kF e] at a ⊢;simp only [List.take_succ_cons,List.take_zero];rw [uC e,iJ];simp only at a;simp [a]
 ·rcases oH (b:=b) (by omega) r with c|⟨x,k,c,_,f,_,g,_⟩
  ·rw [c] at d;simp at d
  ·rw [c] at a ⊢;simp only [List.take_succ_cons];have h:aI (b::r.take k)=(x,k+1):=AA (by omega) c f g (by rw [List.take_take,Nat.min_self]);rw [mS,h];simp only [List.drop_succ_cons];rw [aQ (by omega),aY a,tW (by rw [pI];omega)];exact ⟨iJ,by simp;omega⟩
theorem VF:((List.range 256).all fun r=>(!lJ r||fR r)&&(!rJ r||gY r)&&(!(lJ r&&!rJ r)||!gY r)&&(!(r<128&&!lJ r)||(!fR r&&!gY r)))=true:=by decide +kernel
theorem NK {r:Nat} (h:r<256):(lJ r=true→fR r=true)∧(rJ r=true→gY r=true)∧(lJ r=true→rJ r=false→gY r=false)∧(r<128→lJ r=false→fR r=false∧gY r=false):=by
 have e:=List.all_eq_true.1 VF r (List.mem_range.2 h);cases a:lJ r<;>cases b:rJ r<;>cases c:fR r<;>cases d:gY r<;>simp_all<;>omega
theorem IP {r:Nat} (h:lJ r=true):r<256:=by
 simp only [lJ,rJ,Bool.or_eq_true,FI,IC,beq_iff_eq,bne_iff_ne] at h;omega
theorem NL:∀ n,n<128→lJ n=cW (UInt8.ofNat n):=by decide +kernel
theorem AC {b:UInt8} (h:b.toNat<128):lJ b.toNat=cW b:=by
 rw [NL _ h];simp
theorem AD (l:Bs) (h:l≠[]):(aI l).2=0↔(dB l).1=65533∧(dB l).2=1:=by
 cases l with
 | nil=>exact absurd rfl h
 | cons b r=>
  have:=xL b r;unfold aI;split
  ·simp_all
  ·constructor
   ·omega
   ·intro a;simp_all
theorem wF (l:Bs) (h:¬ (aI l).2=0):aI l=dB l:=by
 by_cases a:(dB l).1=65533∧(dB l).2=1
 ·exact absurd (by unfold aI;rw [aY a]) h
 ·unfold aI;rw [aQ a]
def QX (first:Bool):Nat→Bool:=if first then gY else fR
theorem C8:QX true=gY:=by unfold QX;exact aY rfl
theorem IQ:QX false=fR:=by unfold QX;exact aQ (by simp)
theorem BR:∀ (n:Nat) (first:Bool) (k:Nat) (l:Bs),gU n first k l=0→k=0∧(l.length≤n→dV (QX first) n l=true∧∀ b∈l,cW b=true)
 | 0,first,k,l,h=>by
  refine ⟨h,fun f=>?_⟩;have:l=[]:=wC (by omega);subst this;exact ⟨rfl,by simp⟩
 | n+1,first,k,l,h=>by
  unfold gU at h;split at h
  ·rename_i f;subst f;exact ⟨h,fun _=>⟨by unfold dV;simp,by simp⟩⟩
  ·rename_i f;split at h
   ·omega
   ·rename_i v;split at h
    ·have:=(BR n false 1 _ h).1;omega
    ·rename_i m;obtain ⟨y,A⟩:=BR n false k _ h;have j:¬ (aI l).2=0:=fun e=>v (aG e);have a:lJ (aI l).1=true:=by
      cases e:lJ (aI l).1 with
      | true=>rfl
      | false=>exact absurd (aG e) m
     refine ⟨y,fun u=>?_⟩;have B:(aI l).2≤l.length∧1≤(aI l).2:=by
      cases l with
      | nil=>exact absurd rfl f
      | cons b r=>have:=xL b r;rw [wF _ j];omega
     obtain ⟨g,p⟩:=A (by rw [eC];omega);have q:=IP a;have s:=NK q;refine ⟨?_,fun b d=>?_⟩
     ·unfold dV;rw [aQ f,aQ (fun e=>j ((AD l f).2 e))];rw [wF l j] at a g m s;have z:QX first (dB l).1=true:=by
       cases first with
       | false=>rw [IQ];exact s.1 a
       | true=>
        rw [C8];refine s.2.1 ?_;cases e:rJ (dB l).1 with
        | true=>rfl
        | false=>exact absurd (aU ⟨rfl,e⟩) m
      rw [aY z];rw [IQ] at g;exact g
     ·rw [←List.take_append_drop (aI l).2 l,List.mem_append] at d;rcases d with d|d
      ·cases l with
       | nil=>exact absurd rfl f
       | cons c r=>
        by_cases t:c.toNat<128
        ·rw [kF t] at d a;simp only [List.take_succ_cons,List.take_zero,List.mem_singleton] at d;subst d;rw [←AC t];exact a
        ·rcases oH (b:=c) (by omega) r with o|⟨x,k9,o,_,_,_,_,w⟩
         ·rw [o] at j;exact absurd rfl j
         ·rw [o] at d;simp only [List.take_succ_cons,mF] at d;have i:128≤b.toNat:=by
           rcases d with rfl|d
           ·omega
           ·have:=w b d;simp only [fX,beq_iff_eq] at this;omega
          unfold cW;simp only [Bool.or_eq_true,IC];left;exact UInt8.le_iff_toNat_le.2 i
      ·exact p b d
theorem NM:∀ (n:Nat) (first:Bool) (k:Nat) (l:Bs),gU n first k l=1→l.length≤n→k=1∨dV (QX first) n l=false
 | 0,first,k,l,h,_=>aG h
 | n+1,first,k,l,h,o=>by
  unfold gU at h;split at h
  ·exact aG h
  ·rename_i g;split at h
   ·omega
   ·rename_i m;have j:¬ (aI l).2=0:=fun f=>m (aG f);have s:(aI l).2≤l.length∧1≤(aI l).2:=by
     cases l with
     | nil=>exact absurd rfl g
     | cons b r=>have:=xL b r;rw [wF _ j];omega
    have q:dV (QX first) (n+1) l=if QX first (aI l).1 then dV fR n (l.drop (aI l).2) else false:=by
     conv=>lhs;unfold dV
     rw [aQ g,aQ (fun f=>j ((AD l g).2 f)),wF l j]
    rw [q];split at h
    ·rename_i c;refine aU ?_;have p:QX first (aI l).1=false:=by
      cases a:lJ (aI l).1 with
      | true=>
       rcases c with c|⟨rfl,c⟩
       ·rw [a] at c;cases c
       ·rw [C8];exact (NK (IP a)).2.2.1 a c
      | false=>
       have i:(aI l).1<128:=by
        rcases Nat.lt_or_ge (aI l).1 128 with e|e
        ·exact e
        ·exact absurd (aU ⟨e,a⟩) m
       have:=(NK (r:=(aI l).1) (by omega)).2.2.2 i a;cases first
       ·rw [IQ];exact this.1
       ·rw [C8];exact this.2
     rw [p];rfl
    ·rename_i c;rcases NM n false k _ h (by rw [eC];omega) with d|d
     ·exact aG d
     ·refine aU ?_;rw [IQ] at d;rw [d];split<;>rfl
theorem nS {l:Bs} (h:bH l=0):l≠[]∧cX l=true∧∀ b∈l,cW b=true:=by
 unfold bH at h;obtain ⟨d,e⟩:=BR _ _ _ _ h;have c:l≠[]:=fun g=>by rw [aY g] at d;omega
 obtain ⟨a,f⟩:=e (dF _);rw [C8] at a;exact ⟨c,by unfold cX;rw [aQ c];exact a,f⟩
theorem sS {l:Bs} (h:bH l=1):cX l=false:=by
 unfold cX;split
 ·rfl
 ·rename_i b;unfold bH at h;rw [aQ b] at h;rcases NM _ _ _ _ h (dF _) with a|a
  ·omega
  ·rw [C8] at a;exact a
theorem FZ:∀ (n:Nat) (first:Bool) (k:Nat) (l:Bs),k≤1→gU n first k l≤2
 | 0,_,k,_,h=>by unfold gU;omega
 | n+1,first,k,l,h=>by
  unfold gU;repeat' split
  ·omega
  ·omega
  ·exact FZ n false 1 _ (by omega)
  ·exact FZ n false k _ h
theorem C9 (l:Bs):bH l=0∨bH l=1∨bH l=2:=by
 have:=FZ l.length true (if l=[] then 1 else 0) l (by split<;>omega);unfold bH;omega
theorem AE {c:UInt8}:∀ {l a:Bs},hZ c l=some a→l=a++c::l.drop (a.length+1)∧c∉a
 | [],a,h=>by simp [hZ] at h
 | b::r,a,h=>by
  unfold hZ at h;split at h
  ·rename_i d;simp only [jW] at h;subst h;subst d;simp
  ·rename_i d;rw [Option.map_eq_some_iff] at h;obtain ⟨x,i,rfl⟩:=h;obtain ⟨e,f⟩:=AE i;refine ⟨?_,?_⟩
   ·rw [rH,f5,List.drop_succ_cons,←e]
   ·simp only [mF,not_or];exact ⟨fun g=>d g.symm,f⟩
theorem wG {c:UInt8}:∀ (a r:Bs),c∉a→hZ c (a++c::r)=some a
 | [],r,_=>by simp [hZ]
 | b::a,r,h=>by
  simp only [mF,not_or] at h;rw [rH,hZ,aQ (fun d=>h.1 d.symm),wG a r h.2];rfl
theorem IR:∀ (a:Bs) (b:UInt8) (r:Bs),(∀ c∈a,cW c=true)→cW b=false→aD (a++b::r)=(a,b::r)
 | [],b,r,_,e=>by simp [aD,e]
 | c::a,b,r,h,e=>by
  rw [rH,aD,aY (h c (by simp)),IR a b r (fun d f=>h d (by simp [f])) e]
theorem pV:∀ (l:Bs),(aD l).1++(aD l).2=l∧∀ c∈(aD l).1,cW c=true
 | []=>by simp [aD]
 | b::r=>by
  unfold aD;split
  ·rename_i f;obtain ⟨d,e⟩:=pV r;refine ⟨by simp [d],fun c a=>?_⟩;simp only [mF] at a;rcases a with rfl|a
   ·exact f
   ·exact e c a
  ·simp
theorem NN (e:Bool):∀ (a:Bs) (b:UInt8) (r:Bs),(∀ c∈a,eU e c=true)→eU e b=false→bX e (a++b::r)=(a,b::r)
 | [],b,r,_,f=>by simp [bX,f]
 | c::a,b,r,h,f=>by
  rw [rH,bX,aY (h c (by simp)),NN e a b r (fun d g=>h d (by simp [g])) f]
theorem IS (a:Bool):∀ (l:Bs),(bX a l).1++(bX a l).2=l∧∀ c∈(bX a l).1,eU a c=true
 | []=>by simp [bX]
 | b::r=>by
  unfold bX;split
  ·rename_i g;obtain ⟨e,f⟩:=IS a r;refine ⟨by simp [e],fun c d=>?_⟩;simp only [mF] at d;rcases d with rfl|d
   ·exact g
   ·exact f c d
  ·simp
end Go.Proofs.YthapcchcahnfaaaGreatDoor
namespace Go.Proofs.YthapcchcahnfaaaGreatDoor
open Go Go.Lib
def Bj:List (Nat×Nat):=[(75,107),(83,115),(107,8490),(115,383),(181,924),(197,229),(223,7838),(229,8491),(304,304),(305,305),(383,83),(452,453),(453,454),(454,452),(455,456),(456,457),(457,455),(458,459),(459,460),(460,458),(497,498),(498,499),(499,497),(837,921),(912,8147),(914,946),(917,949),(920,952),(921,953),(922,954),(924,956),(928,960),(929,961),(931,962),(934,966),(937,969),(944,8163),(946,976),(949,1013),(952,977),(953,8126),(954,1008),(956,181),(960,982),(961,1009),(962,963),(963,931),(966,981),(969,8486),(976,914),(977,1012),(981,934),(982,928),(1008,922),(1009,929),(1012,920),(1013,917),(1042,1074),(1044,1076),(1054,1086),(1057,1089),(1058,1090),(1066,1098),(1074,7296),(1076,7297),(1086,7298),(1089,7299),(1090,7300),(1098,7302),(1122,1123),(1123,7303),(7296,1042),(7297,1044),(7298,1054),(7299,1057),(7300,7301),(7301,1058),(7302,1066),(7303,1122),(7304,42570),(7776,7777),(7777,7835),(7835,7776),(7838,223),(8126,837),(8147,912),(8163,944),(8486,937),(8490,75),(8491,197),(42570,42571),(42571,7304),(64261,64262),(64262,64261)]
def Ak (c:Nat):Nat:=if Nat.ble 65 c&&Nat.ble c 90 then c+32 else if Nat.beq c 107 then 8490 else if Nat.beq c 115 then 383 else if Nat.ble 97 c&&Nat.ble c 122 then c-32 else c
inductive Tr (α:Type) where
 | e:Tr α
 | n:Tr α→α→Tr α→Tr α
def Tr.list {α:Type}:Tr α→List α
 | .e=>[]
 | .n l x r=>l.list++x::r.list
def Tr.look {α:Type} (b a:α→Nat) (k:Nat):Tr α→Option α
 | .e=>none
 | .n l x r=>bif Nat.blt k (b x) then l.look b a k else bif Nat.blt (a x) k then r.look b a k else some x
def VG:Tr CaseRow:=(.n (.n (.n (.n (.n (.n (.n (.n (.n .e (65,90,0,32,0) .e) (97,122,-32,0,-32) .e) (181,181,743,0,743) (.n (.n .e (192,214,0,32,0) .e) (216,222,0,32,0) .e)) (224,246,-32,0,-32) (.n (.n (.n .e (248,254,-32,0,-32) .e) (255,255,121,0,121) .e) (256,303,1114112,1114112,1114112) (.n .e (304,304,0,-199,0) .e))) (305,305,-232,0,-232) (.n (.n (.n (.n .e (306,311,1114112,1114112,1114112) .e) (313,328,1114112,1114112,1114112) .e) (330,375,1114112,1114112,1114112) (.n (.n .e (376,376,0,-121,0) .e) (377,382,1114112,1114112,1114112) .e)) (383,383,-300,0,-300) (.n (.n (.n .e (384,384,195,0,195) .e) (385,385,0,210,0) .e) (386,389,1114112,1114112,1114112) (.n .e (390,390,0,206,0) .e)))) (391,392,1114112,1114112,1114112) (.n (.n (.n (.n (.n .e (393,394,0,205,0) .e) (395,396,1114112,1114112,1114112) .e) (398,398,0,79,0) (.n (.n .e (399,399,0,202,0) .e) (400,400,0,203,0) .e)) (401,402,1114112,1114112,1114112) (.n (.n (.n .e (403,403,0,205,0) .e) (404,404,0,207,0) .e) (405,405,97,0,97) (.n .e (406,406,0,211,0) .e))) (407,407,0,209,0) (.n (.n (.n (.n .e (408,409,1114112,1114112,1114112) .e) (410,410,163,0,163) .e) (411,411,42561,0,42561) (.n .e (412,412,0,211,0) .e)) (413,413,0,213,0) (.n (.n (.n .e (414,414,130,0,130) .e) (415,415,0,214,0) .e) (416,421,1114112,1114112,1114112) (.n .e (422,422,0,218,0) .e))))) (423,424,1114112,1114112,1114112) (.n (.n (.n (.n (.n (.n .e (425,425,0,218,0) .e) (428,429,1114112,1114112,1114112) .e) (430,430,0,218,0) (.n (.n .e (431,432,1114112,1114112,1114112) .e) (433,434,0,217,0) .e)) (435,438,1114112,1114112,1114112) (.n (.n (.n .e (439,439,0,219,0) .e) (440,441,1114112,1114112,1114112) .e) (444,445,1114112,1114112,1114112) (.n .e (447,447,56,0,56) .e))) (452,452,0,2,1) (.n (.n (.n (.n .e (453,453,-1,1,0) .e) (454,454,-2,0,-1) .e) (455,455,0,2,1) (.n .e (456,456,-1,1,0) .e)) (457,457,-2,0,-1) (.n (.n (.n .e (458,458,0,2,1) .e) (459,459,-1,1,0) .e) (460,460,-2,0,-1) (.n .e (461,476,1114112,1114112,1114112) .e)))) (477,477,-79,0,-79) (.n (.n (.n (.n (.n .e (478,495,1114112,1114112,1114112) .e) (497,497,0,2,1) .e) (498,498,-1,1,0) (.n (.n .e (499,499,-2,0,-1) .e) (500,501,1114112,1114112,1114112) .e)) (502,502,0,-97,0) (.n (.n (.n .e (503,503,0,-56,0) .e) (504,543,1114112,1114112,1114112) .e) (544,544,0,-130,0) (.n .e (546,563,1114112,1114112,1114112) .e))) (570,570,0,10795,0) (.n (.n (.n (.n .e (571,572,1114112,1114112,1114112) .e) (573,573,0,-163,0) .e) (574,574,0,10792,0) (.n .e (575,576,10815,0,10815) .e)) (577,578,1114112,1114112,1114112) (.n (.n (.n .e (579,579,0,-195,0) .e) (580,580,0,69,0) .e) (581,581,0,71,0) (.n .e (582,591,1114112,1114112,1114112) .e)))))) (592,592,10783,0,10783) (.n (.n (.n (.n (.n (.n (.n .e (593,593,10780,0,10780) .e) (594,594,10782,0,10782) .e) (595,595,-210,0,-210) (.n (.n .e (596,596,-206,0,-206) .e) (598,599,-205,0,-205) .e)) (601,601,-202,0,-202) (.n (.n (.n .e (603,603,-203,0,-203) .e) (604,604,42319,0,42319) .e) (608,608,-205,0,-205) (.n .e (609,609,42315,0,42315) .e))) (611,611,-207,0,-207) (.n (.n (.n (.n .e (612,612,42343,0,42343) .e) (613,613,42280,0,42280) .e) (614,614,42308,0,42308) (.n .e (616,616,-209,0,-209) .e)) (617,617,-211,0,-211) (.n (.n (.n .e (618,618,42308,0,42308) .e) (619,619,10743,0,10743) .e) (620,620,42305,0,42305) (.n .e (623,623,-211,0,-211) .e)))) (625,625,10749,0,10749) (.n (.n (.n (.n (.n .e (626,626,-213,0,-213) .e) (629,629,-214,0,-214) .e) (637,637,10727,0,10727) (.n (.n .e (640,640,-218,0,-218) .e) (642,642,42307,0,42307) .e)) (643,643,-218,0,-218) (.n (.n (.n .e (647,647,42282,0,42282) .e) (648,648,-218,0,-218) .e) (649,649,-69,0,-69) (.n .e (650,651,-217,0,-217) .e))) (652,652,-71,0,-71) (.n (.n (.n (.n .e (658,658,-219,0,-219) .e) (669,669,42261,0,42261) .e) (670,670,42258,0,42258) (.n .e (837,837,84,0,84) .e)) (880,883,1114112,1114112,1114112) (.n (.n (.n .e (886,887,1114112,1114112,1114112) .e) (891,893,130,0,130) .e) (895,895,0,116,0) (.n .e (902,902,0,38,0) .e))))) (904,906,0,37,0) (.n (.n (.n (.n (.n (.n .e (908,908,0,64,0) .e) (910,911,0,63,0) .e) (913,929,0,32,0) (.n (.n .e (931,939,0,32,0) .e) (940,940,-38,0,-38) .e)) (941,943,-37,0,-37) (.n (.n (.n .e (945,961,-32,0,-32) .e) (962,962,-31,0,-31) .e) (963,971,-32,0,-32) (.n .e (972,972,-64,0,-64) .e))) (973,974,-63,0,-63) (.n (.n (.n (.n .e (975,975,0,8,0) .e) (976,976,-62,0,-62) .e) (977,977,-57,0,-57) (.n .e (981,981,-47,0,-47) .e)) (982,982,-54,0,-54) (.n (.n (.n .e (983,983,-8,0,-8) .e) (984,1007,1114112,1114112,1114112) .e) (1008,1008,-86,0,-86) (.n .e (1009,1009,-80,0,-80) .e)))) (1010,1010,7,0,7) (.n (.n (.n (.n (.n .e (1011,1011,-116,0,-116) .e) (1012,1012,0,-60,0) .e) (1013,1013,-96,0,-96) (.n (.n .e (1015,1016,1114112,1114112,1114112) .e) (1017,1017,0,-7,0) .e)) (1018,1019,1114112,1114112,1114112) (.n (.n (.n .e (1021,1023,0,-130,0) .e) (1024,1039,0,80,0) .e) (1040,1071,0,32,0) (.n .e (1072,1103,-32,0,-32) .e))) (1104,1119,-80,0,-80) (.n (.n (.n (.n .e (1120,1153,1114112,1114112,1114112) .e) (1162,1215,1114112,1114112,1114112) .e) (1216,1216,0,15,0) (.n .e (1217,1230,1114112,1114112,1114112) .e)) (1231,1231,-15,0,-15) (.n (.n (.n .e (1232,1327,1114112,1114112,1114112) .e) (1329,1366,0,48,0) .e) (1377,1414,-48,0,-48) (.n .e (4256,4293,0,7264,0) .e))))))) (4295,4295,0,7264,0) (.n (.n (.n (.n (.n (.n (.n (.n .e (4301,4301,0,7264,0) .e) (4304,4346,3008,0,0) .e) (4349,4351,3008,0,0) (.n (.n .e (5024,5103,0,38864,0) .e) (5104,5109,0,8,0) .e)) (5112,5117,-8,0,-8) (.n (.n (.n .e (7296,7296,-6254,0,-6254) .e) (7297,7297,-6253,0,-6253) .e) (7298,7298,-6244,0,-6244) (.n .e (7299,7300,-6242,0,-6242) .e))) (7301,7301,-6243,0,-6243) (.n (.n (.n (.n .e (7302,7302,-6236,0,-6236) .e) (7303,7303,-6181,0,-6181) .e) (7304,7304,35266,0,35266) (.n .e (7305,7306,1114112,1114112,1114112) .e)) (7312,7354,0,-3008,0) (.n (.n (.n .e (7357,7359,0,-3008,0) .e) (7545,7545,35332,0,35332) .e) (7549,7549,3814,0,3814) (.n .e (7566,7566,35384,0,35384) .e)))) (7680,7829,1114112,1114112,1114112) (.n (.n (.n (.n (.n .e (7835,7835,-59,0,-59) .e) (7838,7838,0,-7615,0) .e) (7840,7935,1114112,1114112,1114112) (.n (.n .e (7936,7943,8,0,8) .e) (7944,7951,0,-8,0) .e)) (7952,7957,8,0,8) (.n (.n (.n .e (7960,7965,0,-8,0) .e) (7968,7975,8,0,8) .e) (7976,7983,0,-8,0) (.n .e (7984,7991,8,0,8) .e))) (7992,7999,0,-8,0) (.n (.n (.n (.n .e (8000,8005,8,0,8) .e) (8008,8013,0,-8,0) .e) (8017,8017,8,0,8) (.n .e (8019,8019,8,0,8) .e)) (8021,8021,8,0,8) (.n (.n (.n .e (8023,8023,8,0,8) .e) (8025,8025,0,-8,0) .e) (8027,8027,0,-8,0) (.n .e (8029,8029,0,-8,0) .e))))) (8031,8031,0,-8,0) (.n (.n (.n (.n (.n (.n .e (8032,8039,8,0,8) .e) (8040,8047,0,-8,0) .e) (8048,8049,74,0,74) (.n (.n .e (8050,8053,86,0,86) .e) (8054,8055,100,0,100) .e)) (8056,8057,128,0,128) (.n (.n (.n .e (8058,8059,112,0,112) .e) (8060,8061,126,0,126) .e) (8064,8071,8,0,8) (.n .e (8072,8079,0,-8,0) .e))) (8080,8087,8,0,8) (.n (.n (.n (.n .e (8088,8095,0,-8,0) .e) (8096,8103,8,0,8) .e) (8104,8111,0,-8,0) (.n .e (8112,8113,8,0,8) .e)) (8115,8115,9,0,9) (.n (.n (.n .e (8120,8121,0,-8,0) .e) (8122,8123,0,-74,0) .e) (8124,8124,0,-9,0) (.n .e (8126,8126,-7205,0,-7205) .e)))) (8131,8131,9,0,9) (.n (.n (.n (.n (.n .e (8136,8139,0,-86,0) .e) (8140,8140,0,-9,0) .e) (8144,8145,8,0,8) (.n (.n .e (8152,8153,0,-8,0) .e) (8154,8155,0,-100,0) .e)) (8160,8161,8,0,8) (.n (.n (.n .e (8165,8165,7,0,7) .e) (8168,8169,0,-8,0) .e) (8170,8171,0,-112,0) (.n .e (8172,8172,0,-7,0) .e))) (8179,8179,9,0,9) (.n (.n (.n (.n .e (8184,8185,0,-128,0) .e) (8186,8187,0,-126,0) .e) (8188,8188,0,-9,0) (.n .e (8486,8486,0,-7517,0) .e)) (8490,8490,0,-8383,0) (.n (.n (.n .e (8491,8491,0,-8262,0) .e) (8498,8498,0,28,0) .e) (8526,8526,-28,0,-28) (.n .e (8544,8559,0,16,0) .e)))))) (8560,8575,-16,0,-16) (.n (.n (.n (.n (.n (.n (.n .e (8579,8580,1114112,1114112,1114112) .e) (9398,9423,0,26,0) .e) (9424,9449,-26,0,-26) (.n (.n .e (11264,11311,0,48,0) .e) (11312,11359,-48,0,-48) .e)) (11360,11361,1114112,1114112,1114112) (.n (.n (.n .e (11362,11362,0,-10743,0) .e) (11363,11363,0,-3814,0) .e) (11364,11364,0,-10727,0) (.n .e (11365,11365,-10795,0,-10795) .e))) (11366,11366,-10792,0,-10792) (.n (.n (.n (.n .e (11367,11372,1114112,1114112,1114112) .e) (11373,11373,0,-10780,0) .e) (11374,11374,0,-10749,0) (.n .e (11375,11375,0,-10783,0) .e)) (11376,11376,0,-10782,0) (.n (.n (.n .e (11378,11379,1114112,1114112,1114112) .e) (11381,11382,1114112,1114112,1114112) .e) (11390,11391,0,-10815,0) (.n .e (11392,11491,1114112,1114112,1114112) .e)))) (11499,11502,1114112,1114112,1114112) (.n (.n (.n (.n (.n .e (11506,11507,1114112,1114112,1114112) .e) (11520,11557,-7264,0,-7264) .e) (11559,11559,-7264,0,-7264) (.n (.n .e (11565,11565,-7264,0,-7264) .e) (42560,42605,1114112,1114112,1114112) .e)) (42624,42651,1114112,1114112,1114112) (.n (.n (.n .e (42786,42799,1114112,1114112,1114112) .e) (42802,42863,1114112,1114112,1114112) .e) (42873,42876,1114112,1114112,1114112) (.n .e (42877,42877,0,-35332,0) .e))) (42878,42887,1114112,1114112,1114112) (.n (.n (.n (.n .e (42891,42892,1114112,1114112,1114112) .e) (42893,42893,0,-42280,0) .e) (42896,42899,1114112,1114112,1114112) (.n .e (42900,42900,48,0,48) .e)) (42902,42921,1114112,1114112,1114112) (.n (.n (.n .e (42922,42922,0,-42308,0) .e) (42923,42923,0,-42319,0) .e) (42924,42924,0,-42315,0) (.n .e (42925,42925,0,-42305,0) .e))))) (42926,42926,0,-42308,0) (.n (.n (.n (.n (.n (.n .e (42928,42928,0,-42258,0) .e) (42929,42929,0,-42282,0) .e) (42930,42930,0,-42261,0) (.n (.n .e (42931,42931,0,928,0) .e) (42932,42947,1114112,1114112,1114112) .e)) (42948,42948,0,-48,0) (.n (.n (.n .e (42949,42949,0,-42307,0) .e) (42950,42950,0,-35384,0) .e) (42951,42954,1114112,1114112,1114112) (.n .e (42955,42955,0,-42343,0) .e))) (42956,42971,1114112,1114112,1114112) (.n (.n (.n (.n .e (42972,42972,0,-42561,0) .e) (42997,42998,1114112,1114112,1114112) .e) (43859,43859,-928,0,-928) (.n .e (43888,43967,-38864,0,-38864) .e)) (65313,65338,0,32,0) (.n (.n (.n .e (65345,65370,-32,0,-32) .e) (66560,66599,0,40,0) .e) (66600,66639,-40,0,-40) (.n .e (66736,66771,0,40,0) .e)))) (66776,66811,-40,0,-40) (.n (.n (.n (.n (.n .e (66928,66938,0,39,0) .e) (66940,66954,0,39,0) .e) (66956,66962,0,39,0) (.n (.n .e (66964,66965,0,39,0) .e) (66967,66977,-39,0,-39) .e)) (66979,66993,-39,0,-39) (.n (.n (.n .e (66995,67001,-39,0,-39) .e) (67003,67004,-39,0,-39) .e) (68736,68786,0,64,0) (.n .e (68800,68850,-64,0,-64) .e))) (68944,68965,0,32,0) (.n (.n (.n (.n .e (68976,68997,-32,0,-32) .e) (71840,71871,0,32,0) .e) (71872,71903,-32,0,-32) (.n .e (93760,93791,0,32,0) .e)) (93792,93823,-32,0,-32) (.n (.n (.n .e (93856,93880,0,27,0) .e) (93883,93907,-27,0,-27) .e) (125184,125217,0,34,0) (.n .e (125218,125251,-34,0,-34) .e))))))))
def X1:Tr (Nat×Nat):=(.n (.n (.n (.n (.n (.n (.n .e (75,107) .e) (83,115) .e) (107,8490) (.n (.n .e (115,383) .e) (181,924) .e)) (197,229) (.n (.n (.n .e (223,7838) .e) (229,8491) .e) (304,304) (.n (.n .e (305,305) .e) (383,83) .e))) (452,453) (.n (.n (.n (.n .e (453,454) .e) (454,452) .e) (455,456) (.n (.n .e (456,457) .e) (457,455) .e)) (458,459) (.n (.n (.n .e (459,460) .e) (460,458) .e) (497,498) (.n (.n .e (498,499) .e) (499,497) .e)))) (837,921) (.n (.n (.n (.n (.n .e (912,8147) .e) (914,946) .e) (917,949) (.n (.n .e (920,952) .e) (921,953) .e)) (922,954) (.n (.n (.n .e (924,956) .e) (928,960) .e) (929,961) (.n (.n .e (931,962) .e) (934,966) .e))) (937,969) (.n (.n (.n (.n .e (944,8163) .e) (946,976) .e) (949,1013) (.n (.n .e (952,977) .e) (953,8126) .e)) (954,1008) (.n (.n (.n .e (956,181) .e) (960,982) .e) (961,1009) (.n (.n .e (962,963) .e) (963,931) .e))))) (966,981) (.n (.n (.n (.n (.n (.n .e (969,8486) .e) (976,914) .e) (977,1012) (.n (.n .e (981,934) .e) (982,928) .e)) (1008,922) (.n (.n (.n .e (1009,929) .e) (1012,920) .e) (1013,917) (.n (.n .e (1042,1074) .e) (1044,1076) .e))) (1054,1086) (.n (.n (.n (.n .e (1057,1089) .e) (1058,1090) .e) (1066,1098) (.n (.n .e (1074,7296) .e) (1076,7297) .e)) (1086,7298) (.n (.n (.n .e (1089,7299) .e) (1090,7300) .e) (1098,7302) (.n (.n .e (1122,1123) .e) (1123,7303) .e)))) (7296,1042) (.n (.n (.n (.n (.n .e (7297,1044) .e) (7298,1054) .e) (7299,1057) (.n (.n .e (7300,7301) .e) (7301,1058) .e)) (7302,1066) (.n (.n (.n .e (7303,1122) .e) (7304,42570) .e) (7776,7777) (.n (.n .e (7777,7835) .e) (7835,7776) .e))) (7838,223) (.n (.n (.n (.n .e (8126,837) .e) (8147,912) .e) (8163,944) (.n (.n .e (8486,937) .e) (8490,75) .e)) (8491,197) (.n (.n (.n .e (42570,42571) .e) (42571,7304) .e) (64261,64262) (.n .e (64262,64261) .e))))))
def X2 (r:Nat):Option CaseRow:=VG.look (fun x=>x.1) (fun x=>x.2.1) r
def X3 (r:Nat):Option (Nat×Nat):=X1.look (fun x=>x.1) (fun x=>x.1) r
def NO (c r:Nat) (x:CaseRow):Nat:=(convertR c r x).toNat
def VH (r:Nat) (x:CaseRow):Nat:=bif Nat.beq (NO 1 r x) r then NO 0 r x else NO 1 r x
def NP (r:Nat):Nat:=
 bif Nat.ble 128 r then
  match X3 r with
  | some p=>p.2
  | none=>
   match X2 r with
   | some x=>VH r x
   | none=>r
 else Ak r
end Go.Proofs.YthapcchcahnfaaaGreatDoor
