import Derived.Test.YthegbjcccjpbcaaGreatDoorLibH
import Derived.KernelRfl
set_option linter.unusedVariables false
set_option linter.unusedSimpArgs false
set_option maxRecDepth 100000
set_option maxHeartbeats 20000000
namespace Go.Sx
open Go.Proofs
def fs_sMetadataResponseBroker : List Fd := [.mk 3 0 (-1) (-1) (-1) 0 0 [], .mk 8 0 (-1) (-1) (-1) 0 0 [], .mk 3 0 (-1) (-1) (-1) 0 0 [], .mk 8 1 (-1) 1 (-1) 0 0 []]
def fs_sMetadataResponseTopicPartition : List Fd := [.mk 2 0 (-1) (-1) (-1) 0 0 [], .mk 3 0 (-1) (-1) (-1) 0 0 [], .mk 3 0 (-1) (-1) (-1) 0 0 [], .mk 3 7 (-1) (-1) (-1) (-1) 0 [], .mk 11 0 (-1) (-1) (-1) 0 3 [], .mk 11 0 (-1) (-1) (-1) 0 3 [], .mk 11 5 (-1) (-1) (-1) 0 3 []]
def fs_sMetadataResponseTopic : List Fd := [.mk 2 0 (-1) (-1) (-1) 0 0 [], .mk 8 0 (-1) 12 (-1) 0 0 [], .mk 7 10 (-1) (-1) (-1) 0 0 [], .mk 0 1 (-1) (-1) (-1) 0 0 [], .mk 11 0 (-1) (-1) (-1) 0 10 fs_sMetadataResponseTopicPartition, .mk 3 8 (-1) (-1) (-1) (-2147483648) 0 []]
def fs_MetadataResponse : List Fd := [.mk 3 3 (-1) (-1) (-1) 0 0 [], .mk 11 0 (-1) (-1) (-1) 0 10 fs_sMetadataResponseBroker, .mk 8 2 (-1) 2 (-1) 0 0 [], .mk 3 1 (-1) (-1) (-1) (-1) 0 [], .mk 11 0 (-1) (-1) (-1) 0 10 fs_sMetadataResponseTopic, .mk 3 8 10 (-1) (-1) (-2147483648) 0 [], .mk 2 13 (-1) (-1) (-1) 0 0 []]
end Go.Sx
