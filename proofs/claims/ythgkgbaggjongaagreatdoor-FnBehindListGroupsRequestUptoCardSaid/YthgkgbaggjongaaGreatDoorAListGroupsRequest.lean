import Derived.Test.YthgkgbaggjongaaGreatDoorLibH
import Derived.KernelRfl
set_option linter.unusedVariables false
set_option linter.unusedSimpArgs false
set_option maxRecDepth 100000
set_option maxHeartbeats 20000000
namespace Go.Sx
open Go.Proofs
def fs_ListGroupsRequest : List Fd := [.mk 11 4 (-1) (-1) (-1) 0 8 [], .mk 11 5 (-1) (-1) (-1) 0 8 []]
end Go.Sx
