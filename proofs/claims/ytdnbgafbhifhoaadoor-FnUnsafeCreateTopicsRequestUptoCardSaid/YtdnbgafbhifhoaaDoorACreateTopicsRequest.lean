import Derived.Test.YtdnbgafbhifhoaaDoorLibH
import Derived.KernelRfl
set_option linter.unusedVariables false
set_option linter.unusedSimpArgs false
set_option maxRecDepth 100000
set_option maxHeartbeats 20000000
namespace Go.Sx
open Go.Proofs
def fs_sCreateTopicsRequestTopicReplicaAssignment : List Fd := [.mk 3 0 (-1) (-1) (-1) 0 0 [], .mk 11 0 (-1) (-1) (-1) 0 3 []]
def fs_sCreateTopicsRequestTopicConfig : List Fd := [.mk 8 0 (-1) (-1) (-1) 0 0 [], .mk 8 0 (-1) 0 (-1) 0 0 []]
def fs_sCreateTopicsRequestTopic : List Fd := [.mk 8 0 (-1) (-1) (-1) 0 0 [], .mk 3 0 (-1) (-1) (-1) 0 0 [], .mk 2 0 (-1) (-1) (-1) 0 0 [], .mk 11 0 (-1) (-1) (-1) 0 10 fs_sCreateTopicsRequestTopicReplicaAssignment, .mk 11 0 (-1) (-1) (-1) 0 10 fs_sCreateTopicsRequestTopicConfig]
def fs_CreateTopicsRequest : List Fd := [.mk 11 0 (-1) (-1) (-1) 0 10 fs_sCreateTopicsRequestTopic, .mk 3 0 (-1) (-1) (-1) 60000 0 [], .mk 0 1 (-1) (-1) (-1) 0 0 []]
end Go.Sx
