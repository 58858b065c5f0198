import Derived.Test.YtpcgaheplmiglaaGreatLibE
import Derived.Test.YtpcgaheplmiglaaGreatRows
import Derived.Test.YtpcgaheplmiglaaGreatLibA
import Derived.KernelRfl
set_option linter.unusedVariables false
set_option linter.unusedSimpArgs false
set_option maxRecDepth 100000
namespace Go.Sx
open Go.Proofs Go.Proofs.YtpcgaheplmiglaaGreat
theorem j_laid : laidOutB Tryz.prog = true := by kernel_rfl
theorem j_rowed : mapsRowed Tryz.prog = true := by kernel_rfl
theorem j_stops : (Tryz.prog.stops == []) = true := by kernel_rfl
theorem j_knobs : (Tryz.prog.stopKnobs == []) = true := by kernel_rfl
theorem j_keys : (Rows.fnMakeFetchResponseUptoRow.plainKeys == Tryz.prog.plainKeys) = true := by kernel_rfl
theorem j_heard : Tryz.prog.stopsHeard = true := by kernel_rfl
theorem j_enter : Tryz.prog.mayEnter = true := by kernel_rfl
theorem j_lifts : (Rows.fnMakeFetchResponseUptoRow.lifted == Tryz.prog.liftsFinal) = true := by kernel_rfl
theorem j_make : (Tryz.prog.make == some Rows.fnMakeFetchResponseUptoRow.make) = true := by kernel_rfl
end Go.Sx
