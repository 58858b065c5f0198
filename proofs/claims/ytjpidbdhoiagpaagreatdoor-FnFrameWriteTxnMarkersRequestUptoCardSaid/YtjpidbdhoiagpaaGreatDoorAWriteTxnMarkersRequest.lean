import Derived.Test.YtjpidbdhoiagpaaGreatDoorLibH
import Derived.KernelRfl
set_option linter.unusedVariables false
set_option linter.unusedSimpArgs false
set_option maxRecDepth 100000
set_option maxHeartbeats 20000000
namespace Go.Sx
open Go.Proofs
def fs_sWriteTxnMarkersRequestMarkerTopic : List Fd := [.mk 8 0 (-1) (-1) (-1) 0 0 [], .mk 11 0 (-1) (-1) (-1) 0 3 []]
def fs_sWriteTxnMarkersRequestMarker : List Fd := [.mk 4 0 (-1) (-1) (-1) 0 0 [], .mk 2 0 (-1) (-1) (-1) 0 0 [], .mk 0 0 (-1) (-1) (-1) 0 0 [], .mk 11 0 (-1) (-1) (-1) 0 10 fs_sWriteTxnMarkersRequestMarkerTopic, .mk 3 0 (-1) (-1) (-1) 0 0 [], .mk 1 2 (-1) (-1) (-1) 0 0 []]
def fs_WriteTxnMarkersRequest : List Fd := [.mk 11 0 (-1) (-1) (-1) 0 10 fs_sWriteTxnMarkersRequestMarker]
end Go.Sx
