import Derived.Test.YtoncemcnclkpkaaDoorLibE
import Derived.Test.YtoncemcnclkpkaaDoorRows
import Derived.Test.YtoncemcnclkpkaaDoorLibA
import Derived.KernelRfl
set_option linter.unusedVariables false
set_option linter.unusedSimpArgs false
set_option maxRecDepth 100000
namespace Go.Sx
open Go.Proofs Go.Proofs.YtoncemcnclkpkaaDoor
theorem j_laid : laidOutB Tryd.prog = true := by kernel_rfl
theorem j_rowed : mapsRowed Tryd.prog = true := by kernel_rfl
theorem j_stops : (Tryd.prog.stops == []) = true := by kernel_rfl
theorem j_knobs : (Tryd.prog.stopKnobs == []) = true := by kernel_rfl
theorem j_keys : (Rows.fnTellAddOffsetsToTxnRequestUptoRow.plainKeys == Tryd.prog.plainKeys) = true := by kernel_rfl
theorem j_heard : Tryd.prog.stopsHeard = true := by kernel_rfl
theorem j_enter : Tryd.prog.mayEnter = true := by kernel_rfl
theorem j_lifts : (Rows.fnTellAddOffsetsToTxnRequestUptoRow.lifted == Tryd.prog.liftsFinal) = true := by kernel_rfl
theorem j_make : (Tryd.prog.make == some Rows.fnTellAddOffsetsToTxnRequestUptoRow.make) = true := by kernel_rfl
end Go.Sx
