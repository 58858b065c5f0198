import Derived.Test.YthgkgbaggjongaaGreatDoorLibH
import Derived.KernelRfl
set_option linter.unusedVariables false
set_option linter.unusedSimpArgs false
set_option maxRecDepth 100000
set_option maxHeartbeats 20000000
namespace Go.Sx
open Go.Proofs
def fs_sAlterPartitionRequestTopicPartitionNewEpochISR : List Fd := [.mk 3 0 (-1) (-1) (-1) 0 0 [], .mk 4 0 (-1) (-1) (-1) (-1) 0 []]
def fs_sAlterPartitionRequestTopicPartition : List Fd := [.mk 3 0 (-1) (-1) (-1) 0 0 [], .mk 3 0 (-1) (-1) (-1) 0 0 [], .mk 11 0 2 (-1) (-1) 0 3 [], .mk 11 3 (-1) (-1) (-1) 0 10 fs_sAlterPartitionRequestTopicPartitionNewEpochISR, .mk 1 1 (-1) (-1) (-1) 0 0 [], .mk 3 0 (-1) (-1) (-1) 0 0 []]
def fs_sAlterPartitionRequestTopic : List Fd := [.mk 8 0 1 (-1) (-1) 0 0 [], .mk 7 2 (-1) (-1) (-1) 0 0 [], .mk 11 0 (-1) (-1) (-1) 0 10 fs_sAlterPartitionRequestTopicPartition]
def fs_AlterPartitionRequest : List Fd := [.mk 3 0 (-1) (-1) (-1) 0 0 [], .mk 4 0 (-1) (-1) (-1) (-1) 0 [], .mk 11 0 (-1) (-1) (-1) 0 10 fs_sAlterPartitionRequestTopic]
end Go.Sx
