import Derived.Test.YthgkgbaggjongaaGreatDoorLibH
import Derived.KernelRfl
set_option linter.unusedVariables false
set_option linter.unusedSimpArgs false
set_option maxRecDepth 100000
set_option maxHeartbeats 20000000
namespace Go.Sx
open Go.Proofs
def fs_sAlterPartitionAssignmentsRequestTopicPartition : List Fd := [.mk 3 0 (-1) (-1) (-1) 0 0 [], .mk 11 0 (-1) 0 (-1) 0 3 []]
def fs_sAlterPartitionAssignmentsRequestTopic : List Fd := [.mk 8 0 (-1) (-1) (-1) 0 0 [], .mk 11 0 (-1) (-1) (-1) 0 10 fs_sAlterPartitionAssignmentsRequestTopicPartition]
def fs_AlterPartitionAssignmentsRequest : List Fd := [.mk 3 0 (-1) (-1) (-1) 60000 0 [], .mk 0 1 (-1) (-1) (-1) 1 0 [], .mk 11 0 (-1) (-1) (-1) 0 10 fs_sAlterPartitionAssignmentsRequestTopic]
end Go.Sx
