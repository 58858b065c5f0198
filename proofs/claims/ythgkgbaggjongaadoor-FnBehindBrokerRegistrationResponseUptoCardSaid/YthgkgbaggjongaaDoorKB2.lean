import Derived.Test.YthgkgbaggjongaaDoorSxTab
import Derived.Test.YthgkgbaggjongaaDoorT1
import Derived.Test.YthgkgbaggjongaaDoorOkL
import Derived.KernelRfl
set_option linter.unusedVariables false
set_option linter.unusedSimpArgs false
set_option maxRecDepth 100000
set_option maxHeartbeats 20000000
namespace Go.Sx
open Go.Proofs
theorem OutK.cast {P : Program} {f : FuncId} {args : List Value} {H : Fz} {L L0 : Own} {X Y : List UInt8} (h : Fn P f args H L0 (OutK L X H)) (e : X = Y) : Fn P f args H L0 (OutK L Y H) := e ▸ h
end Go.Sx
