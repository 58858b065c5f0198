import Derived.Test.YtdnbgafbhifhoaaDoorLibH
import Derived.KernelRfl
set_option linter.unusedVariables false
set_option linter.unusedSimpArgs false
set_option maxRecDepth 100000
set_option maxHeartbeats 20000000
namespace Go.Sx
open Go.Proofs
def fs_sListOffsetsResponseTopicPartition : List Fd := [.mk 3 0 (-1) (-1) (-1) 0 0 [], .mk 2 0 (-1) (-1) (-1) 0 0 [], .mk 11 0 0 (-1) (-1) 0 4 [], .mk 4 1 (-1) (-1) (-1) (-1) 0 [], .mk 4 1 (-1) (-1) (-1) (-1) 0 [], .mk 3 4 (-1) (-1) (-1) (-1) 0 []]
def fs_sListOffsetsResponseTopic : List Fd := [.mk 8 0 (-1) (-1) (-1) 0 0 [], .mk 11 0 (-1) (-1) (-1) 0 10 fs_sListOffsetsResponseTopicPartition]
def fs_ListOffsetsResponse : List Fd := [.mk 3 2 (-1) (-1) (-1) 0 0 [], .mk 11 0 (-1) (-1) (-1) 0 10 fs_sListOffsetsResponseTopic]
end Go.Sx
