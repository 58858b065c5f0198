import Derived.Test.YtoncemcnclkpkaaDoorLibH
import Derived.KernelRfl
set_option linter.unusedVariables false
set_option linter.unusedSimpArgs false
set_option maxRecDepth 100000
set_option maxHeartbeats 20000000
namespace Go.Sx
open Go.Proofs
def fs_DescribeTransactionsRequest : List Fd := [.mk 11 0 (-1) (-1) (-1) 0 8 []]
end Go.Sx
