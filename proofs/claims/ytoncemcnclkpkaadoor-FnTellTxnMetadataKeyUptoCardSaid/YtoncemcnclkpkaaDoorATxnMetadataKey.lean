import Derived.Test.YtoncemcnclkpkaaDoorLibH
import Derived.KernelRfl
set_option linter.unusedVariables false
set_option linter.unusedSimpArgs false
set_option maxRecDepth 100000
set_option maxHeartbeats 20000000
namespace Go.Sx
open Go.Proofs
def fs_TxnMetadataKey : List Fd := [.mk 8 0 (-1) (-1) (-1) 0 0 []]
/-- the version, read ahead of a message that is kept -/
def kV (r : Rd) : Tr × Rd := decV 2 (decP [] 0 false) false false r
end Go.Sx
