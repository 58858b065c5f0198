import Derived.Test.YthgkgbaggjongaaGreatDoorLibH
import Derived.KernelRfl
set_option linter.unusedVariables false
set_option linter.unusedSimpArgs false
set_option maxRecDepth 100000
set_option maxHeartbeats 20000000
namespace Go.Sx
open Go.Proofs
def fs_sEndQuorumEpochRequestTopicPartitionPreferredCandidate : List Fd := [.mk 3 0 (-1) (-1) (-1) 0 0 [], .mk 7 0 (-1) (-1) (-1) 0 0 []]
def fs_sEndQuorumEpochRequestTopicPartition : List Fd := [.mk 3 0 (-1) (-1) (-1) 0 0 [], .mk 3 0 (-1) (-1) (-1) 0 0 [], .mk 3 0 (-1) (-1) (-1) 0 0 [], .mk 11 0 0 (-1) (-1) 0 3 [], .mk 11 1 (-1) (-1) (-1) 0 10 fs_sEndQuorumEpochRequestTopicPartitionPreferredCandidate]
def fs_sEndQuorumEpochRequestTopic : List Fd := [.mk 8 0 (-1) (-1) (-1) 0 0 [], .mk 11 0 (-1) (-1) (-1) 0 10 fs_sEndQuorumEpochRequestTopicPartition]
def fs_sEndQuorumEpochRequestLeaderEndpoint : List Fd := [.mk 8 0 (-1) (-1) (-1) 0 0 [], .mk 8 0 (-1) (-1) (-1) 0 0 [], .mk 5 0 (-1) (-1) (-1) 0 0 []]
def fs_EndQuorumEpochRequest : List Fd := [.mk 8 0 (-1) 0 (-1) 0 0 [], .mk 11 0 (-1) (-1) (-1) 0 10 fs_sEndQuorumEpochRequestTopic, .mk 11 1 (-1) (-1) (-1) 0 10 fs_sEndQuorumEpochRequestLeaderEndpoint]
end Go.Sx
