/- Part of the proof that laws.FnSkip returns true for every argument. No conditions. -/
import Derived.Test.YthapcchcahnfaaaGreatDoorS14
import Derived.Test.YthapcchcahnfaaaGreatDoorS22
set_option linter.all false
set_option maxHeartbeats 8000000
set_option maxRecDepth 100000
namespace Go.Proofs.YthapcchcahnfaaaGreatDoor
open Go Go.RowKit
def D5:Nat→Nat→Nat→Nat→Nat
 | 0,_,_,r=>r
 | k+1,sr,tr,r=>if r≠sr∧r<tr then D5 k sr tr (NP r) else r
def OQ (a b:Nat):Bool:=if b<128 then decide (65≤a∧a≤90∧b=a+32) else D5 4 a b (NP a)==b
def WA (a b:Nat):Bool:=if b=a then true else if b<a then OQ b a else OQ a b
def Bg (S:Bs):Nat→Nat→Bs→Bool
 | 0,_,_=>false
 | k+1,p,T=>
  if p<S.length then
   if T=[] then false
   else if WA (Utf8.decode ⟨S.toArray⟩ p).1 (Lib.decodeGo ⟨T.toArray⟩).1 then Bg S k (p+(Utf8.decode ⟨S.toArray⟩ p).2) (T.drop (Lib.decodeGo ⟨T.toArray⟩).2) else false
  else decide (T.length=0)
def Bh (s t:Bs):Nat→Nat→Bool
 | 0,_=>decide (s.length=t.length)
 | k+1,i=>
  if 128≤(s.getD i 0).toNat∨128≤(t.getD i 0).toNat then Bg (s.drop i) ((s.drop i).length+1) 0 (t.drop i)
  else if Lib.foldEq (s.getD i 0) (t.getD i 0) then Bh s t k (i+1) else false
def bZ (s t:Bs):Bool:=Bh s t (min s.length t.length) 0
end Go.Proofs.YthapcchcahnfaaaGreatDoor
