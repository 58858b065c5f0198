import Derived.Test.YtjpidbdhoiagpaaGreatDoorLibH
import Derived.KernelRfl
set_option linter.unusedVariables false
set_option linter.unusedSimpArgs false
set_option maxRecDepth 100000
set_option maxHeartbeats 20000000
namespace Go.Sx
open Go.Proofs
def fs_sDescribeConfigsRequestResource : List Fd := [.mk 1 0 (-1) (-1) (-1) 0 0 [], .mk 8 0 (-1) (-1) (-1) 0 0 [], .mk 11 0 (-1) 0 (-1) 0 8 []]
def fs_DescribeConfigsRequest : List Fd := [.mk 11 0 (-1) (-1) (-1) 0 10 fs_sDescribeConfigsRequestResource, .mk 0 1 (-1) (-1) (-1) 0 0 [], .mk 0 3 (-1) (-1) (-1) 0 0 []]
end Go.Sx
