import Derived.Test.YtdacadmfdhjpoaaDoorLibH
import Derived.KernelRfl
set_option linter.unusedVariables false
set_option linter.unusedSimpArgs false
set_option maxRecDepth 100000
set_option maxHeartbeats 20000000
namespace Go.Sx
open Go.Proofs
def fs_sStopReplicaRequestTopicPartitionState : List Fd := [.mk 3 0 (-1) (-1) (-1) 0 0 [], .mk 3 0 (-1) (-1) (-1) (-1) 0 [], .mk 0 0 (-1) (-1) (-1) 0 0 []]
def fs_sStopReplicaRequestTopic : List Fd := [.mk 8 0 (-1) (-1) (-1) 0 0 [], .mk 3 0 0 (-1) (-1) 0 0 [], .mk 11 1 2 (-1) (-1) 0 3 [], .mk 11 3 (-1) (-1) (-1) 0 10 fs_sStopReplicaRequestTopicPartitionState]
def fs_StopReplicaRequest : List Fd := [.mk 3 0 (-1) (-1) (-1) 0 0 [], .mk 3 0 (-1) (-1) (-1) 0 0 [], .mk 0 4 (-1) (-1) (-1) 0 0 [], .mk 4 1 (-1) (-1) (-1) (-1) 0 [], .mk 0 0 2 (-1) (-1) 0 0 [], .mk 11 0 (-1) (-1) (-1) 0 10 fs_sStopReplicaRequestTopic]
end Go.Sx
