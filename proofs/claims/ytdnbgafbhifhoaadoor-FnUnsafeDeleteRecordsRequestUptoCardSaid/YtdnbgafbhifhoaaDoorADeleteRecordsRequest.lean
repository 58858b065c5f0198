import Derived.Test.YtdnbgafbhifhoaaDoorLibH
import Derived.KernelRfl
set_option linter.unusedVariables false
set_option linter.unusedSimpArgs false
set_option maxRecDepth 100000
set_option maxHeartbeats 20000000
namespace Go.Sx
open Go.Proofs
def fs_sDeleteRecordsRequestTopicPartition : List Fd := [.mk 3 0 (-1) (-1) (-1) 0 0 [], .mk 4 0 (-1) (-1) (-1) 0 0 []]
def fs_sDeleteRecordsRequestTopic : List Fd := [.mk 8 0 (-1) (-1) (-1) 0 0 [], .mk 11 0 (-1) (-1) (-1) 0 10 fs_sDeleteRecordsRequestTopicPartition]
def fs_DeleteRecordsRequest : List Fd := [.mk 11 0 (-1) (-1) (-1) 0 10 fs_sDeleteRecordsRequestTopic, .mk 3 0 (-1) (-1) (-1) 15000 0 []]
end Go.Sx
