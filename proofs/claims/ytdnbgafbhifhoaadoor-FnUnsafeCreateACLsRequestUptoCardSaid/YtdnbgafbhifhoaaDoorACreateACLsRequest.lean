import Derived.Test.YtdnbgafbhifhoaaDoorLibH
import Derived.KernelRfl
set_option linter.unusedVariables false
set_option linter.unusedSimpArgs false
set_option maxRecDepth 100000
set_option maxHeartbeats 20000000
namespace Go.Sx
open Go.Proofs
def fs_sCreateACLsRequestCreation : List Fd := [.mk 1 0 (-1) (-1) (-1) 0 0 [], .mk 8 0 (-1) (-1) (-1) 0 0 [], .mk 1 1 (-1) (-1) (-1) 3 0 [], .mk 8 0 (-1) (-1) (-1) 0 0 [], .mk 8 0 (-1) (-1) (-1) 0 0 [], .mk 1 0 (-1) (-1) (-1) 0 0 [], .mk 1 0 (-1) (-1) (-1) 0 0 []]
def fs_CreateACLsRequest : List Fd := [.mk 11 0 (-1) (-1) (-1) 0 10 fs_sCreateACLsRequestCreation]
end Go.Sx
