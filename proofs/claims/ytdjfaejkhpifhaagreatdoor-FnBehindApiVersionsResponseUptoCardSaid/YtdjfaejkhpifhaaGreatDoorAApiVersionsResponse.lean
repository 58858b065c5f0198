import Derived.Test.YtdjfaejkhpifhaaGreatDoorLibH
import Derived.KernelRfl
set_option linter.unusedVariables false
set_option linter.unusedSimpArgs false
set_option maxRecDepth 100000
set_option maxHeartbeats 20000000
namespace Go.Sx
open Go.Proofs
def fs_sApiVersionsResponseApiKey : List Fd := [.mk 2 0 (-1) (-1) (-1) 0 0 [], .mk 2 0 (-1) (-1) (-1) 0 0 [], .mk 2 0 (-1) (-1) (-1) 0 0 []]
def fs_sApiVersionsResponseSupportedFeature : List Fd := [.mk 8 0 (-1) (-1) (-1) 0 0 [], .mk 2 0 (-1) (-1) (-1) 0 0 [], .mk 2 0 (-1) (-1) (-1) 0 0 []]
def fs_sApiVersionsResponseFinalizedFeature : List Fd := [.mk 8 0 (-1) (-1) (-1) 0 0 [], .mk 2 0 (-1) (-1) (-1) 0 0 [], .mk 2 0 (-1) (-1) (-1) 0 0 []]
def fs_ApiVersionsResponse : List Fd := [.mk 2 0 (-1) (-1) (-1) 0 0 [], .mk 11 0 (-1) (-1) (-1) 0 10 fs_sApiVersionsResponseApiKey, .mk 3 1 (-1) (-1) (-1) 0 0 [], .mk 11 0 (-1) (-1) 0 0 10 fs_sApiVersionsResponseSupportedFeature, .mk 4 0 (-1) (-1) 1 (-1) 0 [], .mk 11 0 (-1) (-1) 2 0 10 fs_sApiVersionsResponseFinalizedFeature, .mk 0 0 (-1) (-1) 3 0 0 []]
end Go.Sx
