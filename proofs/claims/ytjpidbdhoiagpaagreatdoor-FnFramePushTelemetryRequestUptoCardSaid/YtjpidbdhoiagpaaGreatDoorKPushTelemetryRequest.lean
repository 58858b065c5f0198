/- FnFramePushTelemetryRequest: its card. -/
import Derived.Test.YtjpidbdhoiagpaaGreatDoorRPushTelemetryRequest
import Derived.Test.YtjpidbdhoiagpaaGreatDoorCards
import Derived.Test.YtjpidbdhoiagpaaGreatDoorTie
set_option linter.unusedVariables false
set_option linter.unusedSimpArgs false
set_option maxRecDepth 100000
set_option maxHeartbeats 20000000
namespace Go.Sx
open Go.Proofs Go.Proofs.YtjpidbdhoiagpaaGreatDoor
theorem q_wf : Rows.fnFramePushTelemetryRequestUptoRow.wfByText (Rows.OpenSpec.upto Rows.fnFramePushTelemetryRequestSpec) = true := by kernel_rfl
theorem q_goes : false = Rows.fnFramePushTelemetryRequestUptoRow.goesBy Tryz.pinned.checked.prog := by kernel_rfl
theorem plain (f : FuncId) (fn : Func) (hf : Tryz.pinned.checked.prog.funcNamed "pub-mailsack/laws.FnFramePushTelemetryRequest" = some f) (hfn : Tryz.pinned.checked.prog.funcs[f]? = some fn) :
    false = Tryz.pinned.checked.prog.looks [] ∧ ∀ (j : Nat) t, fn.params[j]? = some t → Tryz.pinned.checked.prog.wantsStandIn t = false := by
  obtain rfl : f = 6 := Option.some.inj ((show Tryz.prog.funcNamed "pub-mailsack/laws.FnFramePushTelemetryRequest" = some 6 by kernel_rfl).symm.trans hf) |>.symm
  obtain rfl : fn = Tryz.f6 := (Option.some.inj (Tryz.func6.symm.trans hfn)).symm
  refine ⟨q_looks, fun j t ht => ?_⟩
  rw [Tryz.params6] at ht
  have hm := Array.mem_of_getElem? ht
  simp only [List.mem_toArray, List.mem_cons, List.not_mem_nil, or_false] at hm
  rcases hm with rfl | rfl | rfl | rfl
  · exact (show Tryz.prog.wantsStandIn 5 = false by kernel_rfl)
  · exact (show Tryz.prog.wantsStandIn 23 = false by kernel_rfl)
  · exact (show Tryz.prog.wantsStandIn 21 = false by kernel_rfl)
  · exact (show Tryz.prog.wantsStandIn 28 = false by kernel_rfl)
theorem card : Rows.FnFramePushTelemetryRequestUptoCardSaid :=
  Claim7.holds_tied_plain_at .later [] _ _ _ _ over (fun _ h => by cases h) q_wf (fun _ h => by cases h) fnFramePushTelemetryRequestUpto_row_tie rfl ⟨rfl, rfl⟩ q_main rfl plain q_goes
end Go.Sx
namespace Go.Proofs.YtjpidbdhoiagpaaGreatDoor
theorem FnFramePushTelemetryRequestProved : Rows.FnFramePushTelemetryRequestUptoCardSaid := Go.Sx.card
end Go.Proofs.YtjpidbdhoiagpaaGreatDoor
