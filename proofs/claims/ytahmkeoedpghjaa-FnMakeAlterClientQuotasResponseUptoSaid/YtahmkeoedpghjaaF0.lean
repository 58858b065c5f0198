import Derived.Test.YtahmkeoedpghjaaRowL
import Derived.Test.YtahmkeoedpghjaaRows
import Derived.Test.YtahmkeoedpghjaaSx
import Derived.KernelRfl
set_option linter.unusedVariables false
set_option linter.unusedSimpArgs false
set_option maxRecDepth 100000
namespace Go.Sx
open Go.Proofs Go.Proofs.Ytahmkeoedpghjaa
theorem j_laid : laidOutB Try.prog = true := by kernel_rfl
theorem j_rowed : mapsRowed Try.prog = true := by kernel_rfl
theorem j_stops : (Try.prog.stops == []) = true := by kernel_rfl
theorem j_knobs : (Try.prog.stopKnobs == []) = true := by kernel_rfl
theorem j_keys : (Rows.fnMakeAlterClientQuotasResponseUptoRow.plainKeys == Try.prog.plainKeys) = true := by kernel_rfl
theorem j_heard : Try.prog.stopsHeard = true := by kernel_rfl
theorem j_enter : Try.prog.mayEnter = true := by kernel_rfl
theorem j_lifts : (Rows.fnMakeAlterClientQuotasResponseUptoRow.lifted == Try.prog.liftsFinal) = true := by kernel_rfl
theorem j_make : (Try.prog.make == some Rows.fnMakeAlterClientQuotasResponseUptoRow.make) = true := by kernel_rfl
end Go.Sx
