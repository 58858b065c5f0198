import Derived.Test.YtoncemcnclkpkaaGreatDoorLibH
import Derived.KernelRfl
set_option linter.unusedVariables false
set_option linter.unusedSimpArgs false
set_option maxRecDepth 100000
set_option maxHeartbeats 20000000
namespace Go.Sx
open Go.Proofs
def fs_sDescribeUserSCRAMCredentialsResponseResultCredentialInfo : List Fd := [.mk 1 0 (-1) (-1) (-1) 0 0 [], .mk 3 0 (-1) (-1) (-1) 0 0 []]
def fs_sDescribeUserSCRAMCredentialsResponseResult : List Fd := [.mk 8 0 (-1) (-1) (-1) 0 0 [], .mk 2 0 (-1) (-1) (-1) 0 0 [], .mk 8 0 (-1) 0 (-1) 0 0 [], .mk 11 0 (-1) (-1) (-1) 0 10 fs_sDescribeUserSCRAMCredentialsResponseResultCredentialInfo]
def fs_DescribeUserSCRAMCredentialsResponse : List Fd := [.mk 3 0 (-1) (-1) (-1) 0 0 [], .mk 2 0 (-1) (-1) (-1) 0 0 [], .mk 8 0 (-1) 0 (-1) 0 0 [], .mk 11 0 (-1) (-1) (-1) 0 10 fs_sDescribeUserSCRAMCredentialsResponseResult]
end Go.Sx
