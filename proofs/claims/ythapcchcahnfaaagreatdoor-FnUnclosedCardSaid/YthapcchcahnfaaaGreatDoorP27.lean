/- Part of the proof that laws.FnStrictIsLoose, laws.FnUnclosed, laws.FnReaderFails, laws.FnWithin, laws.FnSkip returns true for every argument. No conditions. -/
import Derived.Test.YthapcchcahnfaaaGreatDoorP09
import Derived.Test.YthapcchcahnfaaaGreatDoorP23
set_option linter.all false
set_option maxHeartbeats 8000000
set_option maxRecDepth 100000
namespace Go.Proofs.YthapcchcahnfaaaGreatDoor
open Go Go.RowKit
def F8:Nat→Nat→Nat→Nat→Nat
 | 0,_,_,r=>r
 | k+1,sr,tr,r=>if r≠sr∧r<tr then F8 k sr tr (PI r) else r
def RK (a b:Nat):Bool:=if b<128 then decide (65≤a∧a≤90∧b=a+32) else F8 4 a b (PI a)==b
def ZI (a b:Nat):Bool:=if b=a then true else if b<a then RK b a else RK a b
def Gg (S:Bs):Nat→Nat→Bs→Bool
 | 0,_,_=>false
 | k+1,p,T=>
  if p<S.length then
   if T=[] then false
   else if ZI (Utf8.decode ⟨S.toArray⟩ p).1 (Lib.decodeGo ⟨T.toArray⟩).1 then Gg S k (p+(Utf8.decode ⟨S.toArray⟩ p).2) (T.drop (Lib.decodeGo ⟨T.toArray⟩).2) else false
  else decide (T.length=0)
def Gh (s t:Bs):Nat→Nat→Bool
 | 0,_=>decide (s.length=t.length)
 | k+1,i=>
  if 128≤(s.getD i 0).toNat∨128≤(t.getD i 0).toNat then Gg (s.drop i) ((s.drop i).length+1) 0 (t.drop i)
  else if Lib.foldEq (s.getD i 0) (t.getD i 0) then Gh s t k (i+1) else false
def bG (s t:Bs):Bool:=Gh s t (min s.length t.length) 0
end Go.Proofs.YthapcchcahnfaaaGreatDoor
