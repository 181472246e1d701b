/- Part of the proof that laws.FnStrictIsLoose, laws.FnUnclosed, laws.FnReaderFails, laws.FnWithin, laws.FnSkip returns true for every argument. No conditions. -/
import Derived.Test.YthapcchcahnfaaaGreatDoorP01
set_option linter.all false
set_option maxHeartbeats 8000000
set_option maxRecDepth 100000
namespace Go.Proofs.YthapcchcahnfaaaGreatDoor
open Go
theorem kG (o:cM) (q:Option UInt8) (b:Bool) (b0 b1:UInt8) (a:Bs) :
  bE o q b [] b0 b1 a=if b then .error (cE o.fails) else if bM a then .ok (a,[]) else .error .syn:=by
 rw [bE]
theorem sF (o:cM) (b:Bool) (r:Bs) (a:Bs) :
  bE o none b (62::r) 93 93 a=if b then (if bM (a.take (a.length-2)) then .ok (a.take (a.length-2),r) else .error .syn) else .error .syn:=by
 rw [bE];simp
theorem yO (o:cM) (q:Option UInt8) (r:Bs) (b0 b1:UInt8) (a:Bs) :
  bE o q false (60::r) b0 b1 a=if q=none then (if bM a then .ok (a,60::r) else .error .syn) else .error .syn:=by
 rw [bE];simp
theorem wV (o:cM) (c:Bool) (b:UInt8) (r:Bs) (b0 b1:UInt8) (a:Bs) (h:¬ (b=60∧c=false)) :
  bE o (some b) c (b::r) b0 b1 a=if bM a then .ok (a,r) else .error .syn:=by
 rw [bE,aN (by simp),aN h,aV rfl]
def fU (b b1:UInt8) (a:Bs):Bs:=if b=13 then a++[10] else if b1=13∧b=10 then a else a++[b]
theorem cR (o:cM) (q:Option UInt8) (c:Bool) (b:UInt8) (r:Bs) (b0 b1:UInt8) (a:Bs) (d:¬ (q=none∧b0=93∧b1=93∧b=62)) (e:¬ (b=60∧c=false)) (f:q≠some b) (g:¬ (b=38∧c=false)) :
  bE o q c (b::r) b0 b1 a=bE o q c r b1 b (fU b b1 a):=by
 rw [bE,aN d,aN e,aN f,aN g];rfl
theorem vU (o:cM) (q:Option UInt8) (r:Bs) (b0 b1:UInt8) (a:Bs) (h:q≠some 38) :
  bE o q false (38::r) b0 b1 a=match hH o.fails o.ents r with
   | .error e=>.error e
   | .ok (_,some t,r')=>bE o q false r' 0 0 (a++t)
   | .ok (raw,none,r')=>if o.strict then .error .syn else bE o q false r' 0 0 (a++raw):=by
 rw [bE,aN (by simp),aN (by simp),aN h,aV (by simp)];split<;>rename_i b<;>rw [b]
end Go.Proofs.YthapcchcahnfaaaGreatDoor
