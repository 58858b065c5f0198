import Derived.Test.YthgkgbaggjongaaDoorLibE
import Derived.Test.YthgkgbaggjongaaDoorRows
import Derived.Test.YthgkgbaggjongaaDoorLibA
import Derived.KernelRfl
set_option linter.unusedVariables false
set_option linter.unusedSimpArgs false
set_option maxRecDepth 100000
namespace Go.Sx
open Go.Proofs Go.Proofs.YthgkgbaggjongaaDoor
theorem j_laid : laidOutB Tryd.prog = true := by kernel_rfl
theorem j_rowed : mapsRowed Tryd.prog = true := by kernel_rfl
theorem j_stops : (Tryd.prog.stops == []) = true := by kernel_rfl
theorem j_knobs : (Tryd.prog.stopKnobs == []) = true := by kernel_rfl
theorem j_keys : (Rows.fnBehindBrokerRegistrationResponseUptoRow.plainKeys == Tryd.prog.plainKeys) = true := by kernel_rfl
theorem j_heard : Tryd.prog.stopsHeard = true := by kernel_rfl
theorem j_enter : Tryd.prog.mayEnter = true := by kernel_rfl
theorem j_lifts : (Rows.fnBehindBrokerRegistrationResponseUptoRow.lifted == Tryd.prog.liftsFinal) = true := by kernel_rfl
theorem j_make : (Tryd.prog.make == some Rows.fnBehindBrokerRegistrationResponseUptoRow.make) = true := by kernel_rfl
end Go.Sx
