import Derived.Test.YtoncemcnclkpkaaGreatDoorLibH
import Derived.KernelRfl
set_option linter.unusedVariables false
set_option linter.unusedSimpArgs false
set_option maxRecDepth 100000
set_option maxHeartbeats 20000000
namespace Go.Sx
open Go.Proofs
def fs_sDescribeQuorumRequestTopicPartition : List Fd := [.mk 3 0 (-1) (-1) (-1) 0 0 []]
def fs_sDescribeQuorumRequestTopic : List Fd := [.mk 8 0 (-1) (-1) (-1) 0 0 [], .mk 11 0 (-1) (-1) (-1) 0 10 fs_sDescribeQuorumRequestTopicPartition]
def fs_DescribeQuorumRequest : List Fd := [.mk 11 0 (-1) (-1) (-1) 0 10 fs_sDescribeQuorumRequestTopic]
end Go.Sx
