import Derived.Test.YtdjfaejkhpifhaaGreatDoorLibH
import Derived.KernelRfl
set_option linter.unusedVariables false
set_option linter.unusedSimpArgs false
set_option maxRecDepth 100000
set_option maxHeartbeats 20000000
namespace Go.Sx
open Go.Proofs
def fs_sVoteResponseTopicPartition : List Fd := [.mk 3 0 (-1) (-1) (-1) 0 0 [], .mk 2 0 (-1) (-1) (-1) 0 0 [], .mk 3 0 (-1) (-1) (-1) 0 0 [], .mk 3 0 (-1) (-1) (-1) 0 0 [], .mk 0 0 (-1) (-1) (-1) 0 0 []]
def fs_sVoteResponseTopic : List Fd := [.mk 8 0 (-1) (-1) (-1) 0 0 [], .mk 11 0 (-1) (-1) (-1) 0 10 fs_sVoteResponseTopicPartition]
def fs_sVoteResponseNodeEndpoint : List Fd := [.mk 3 1 (-1) (-1) (-1) 0 0 [], .mk 8 1 (-1) (-1) (-1) 0 0 [], .mk 5 1 (-1) (-1) (-1) 0 0 []]
def fs_VoteResponse : List Fd := [.mk 2 0 (-1) (-1) (-1) 0 0 [], .mk 11 0 (-1) (-1) (-1) 0 10 fs_sVoteResponseTopic, .mk 11 0 (-1) (-1) 0 0 10 fs_sVoteResponseNodeEndpoint]
end Go.Sx
