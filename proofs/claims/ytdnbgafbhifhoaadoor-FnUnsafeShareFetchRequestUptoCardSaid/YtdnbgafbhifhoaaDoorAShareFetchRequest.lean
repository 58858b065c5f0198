import Derived.Test.YtdnbgafbhifhoaaDoorLibH
import Derived.KernelRfl
set_option linter.unusedVariables false
set_option linter.unusedSimpArgs false
set_option maxRecDepth 100000
set_option maxHeartbeats 20000000
namespace Go.Sx
open Go.Proofs
def fs_sShareFetchRequestTopicPartitionAcknowledgementBatch : List Fd := [.mk 4 0 (-1) (-1) (-1) 0 0 [], .mk 4 0 (-1) (-1) (-1) 0 0 [], .mk 11 0 (-1) (-1) (-1) 0 1 []]
def fs_sShareFetchRequestTopicPartition : List Fd := [.mk 3 0 (-1) (-1) (-1) 0 0 [], .mk 3 0 0 (-1) (-1) 0 0 [], .mk 11 0 (-1) (-1) (-1) 0 10 fs_sShareFetchRequestTopicPartitionAcknowledgementBatch]
def fs_sShareFetchRequestTopic : List Fd := [.mk 7 0 (-1) (-1) (-1) 0 0 [], .mk 11 0 (-1) (-1) (-1) 0 10 fs_sShareFetchRequestTopicPartition]
def fs_sShareFetchRequestForgottenTopicsData : List Fd := [.mk 7 0 (-1) (-1) (-1) 0 0 [], .mk 11 0 (-1) (-1) (-1) 0 3 []]
def fs_ShareFetchRequest : List Fd := [.mk 8 0 (-1) 0 (-1) 0 0 [], .mk 8 0 (-1) 0 (-1) 0 0 [], .mk 3 0 (-1) (-1) (-1) 0 0 [], .mk 3 0 (-1) (-1) (-1) 0 0 [], .mk 3 0 (-1) (-1) (-1) 0 0 [], .mk 3 0 (-1) (-1) (-1) 2147483647 0 [], .mk 3 1 (-1) (-1) (-1) 0 0 [], .mk 3 1 (-1) (-1) (-1) 0 0 [], .mk 1 2 (-1) (-1) (-1) 0 0 [], .mk 0 2 (-1) (-1) (-1) 0 0 [], .mk 11 0 (-1) (-1) (-1) 0 10 fs_sShareFetchRequestTopic, .mk 11 0 (-1) (-1) (-1) 0 10 fs_sShareFetchRequestForgottenTopicsData]
end Go.Sx
