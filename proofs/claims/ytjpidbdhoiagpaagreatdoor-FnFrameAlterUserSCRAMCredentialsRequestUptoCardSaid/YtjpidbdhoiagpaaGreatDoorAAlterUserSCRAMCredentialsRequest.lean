import Derived.Test.YtjpidbdhoiagpaaGreatDoorLibH
import Derived.KernelRfl
set_option linter.unusedVariables false
set_option linter.unusedSimpArgs false
set_option maxRecDepth 100000
set_option maxHeartbeats 20000000
namespace Go.Sx
open Go.Proofs
def fs_sAlterUserSCRAMCredentialsRequestDeletion : List Fd := [.mk 8 0 (-1) (-1) (-1) 0 0 [], .mk 1 0 (-1) (-1) (-1) 0 0 []]
def fs_sAlterUserSCRAMCredentialsRequestUpsertion : List Fd := [.mk 8 0 (-1) (-1) (-1) 0 0 [], .mk 1 0 (-1) (-1) (-1) 0 0 [], .mk 3 0 (-1) (-1) (-1) 0 0 [], .mk 9 0 (-1) (-1) (-1) 0 0 [], .mk 9 0 (-1) (-1) (-1) 0 0 []]
def fs_AlterUserSCRAMCredentialsRequest : List Fd := [.mk 11 0 (-1) (-1) (-1) 0 10 fs_sAlterUserSCRAMCredentialsRequestDeletion, .mk 11 0 (-1) (-1) (-1) 0 10 fs_sAlterUserSCRAMCredentialsRequestUpsertion]
end Go.Sx
