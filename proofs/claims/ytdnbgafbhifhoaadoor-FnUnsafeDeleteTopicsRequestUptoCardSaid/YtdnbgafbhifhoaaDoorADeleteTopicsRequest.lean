import Derived.Test.YtdnbgafbhifhoaaDoorLibH
import Derived.KernelRfl
set_option linter.unusedVariables false
set_option linter.unusedSimpArgs false
set_option maxRecDepth 100000
set_option maxHeartbeats 20000000
namespace Go.Sx
open Go.Proofs
def fs_sDeleteTopicsRequestTopic : List Fd := [.mk 8 0 (-1) 0 (-1) 0 0 [], .mk 7 0 (-1) (-1) (-1) 0 0 []]
def fs_DeleteTopicsRequest : List Fd := [.mk 11 0 5 (-1) (-1) 0 8 [], .mk 11 6 (-1) (-1) (-1) 0 10 fs_sDeleteTopicsRequestTopic, .mk 3 0 (-1) (-1) (-1) 15000 0 []]
end Go.Sx
