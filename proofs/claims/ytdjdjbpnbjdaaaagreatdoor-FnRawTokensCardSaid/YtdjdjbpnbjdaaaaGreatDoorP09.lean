/- Part of the proof that laws.FnRawTokens returns true for every argument. No conditions. -/
import Derived.Test.YtdjdjbpnbjdaaaaGreatDoorP01
set_option linter.all false
set_option maxHeartbeats 8000000
set_option maxRecDepth 100000
namespace Go.Proofs.YtdjdjbpnbjdaaaaGreatDoor
open Go
theorem PY (o:cU) (ns:Bs→Option Bs) (nm:Bs×Bs) (b:Bool):(dF o ns nm b).2=nm.2:=by
 unfold dF
 repeat' split
 all_goals simp only []
 all_goals repeat' split
 all_goals rfl
end Go.Proofs.YtdjdjbpnbjdaaaaGreatDoor
