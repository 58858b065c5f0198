/- FnBehindBrokerRegistrationResponse: its card. -/
import Derived.Test.YthgkgbaggjongaaDoorRBrokerRegistrationResponse
import Derived.Test.YthgkgbaggjongaaDoorCards
import Derived.Test.YthgkgbaggjongaaDoorTie
set_option linter.unusedVariables false
set_option linter.unusedSimpArgs false
set_option maxRecDepth 100000
set_option maxHeartbeats 20000000
namespace Go.Sx
open Go.Proofs Go.Proofs.YthgkgbaggjongaaDoor
theorem q_wf : Rows.fnBehindBrokerRegistrationResponseUptoRow.wfByText (Rows.OpenSpec.upto Rows.fnBehindBrokerRegistrationResponseSpec) = true := by kernel_rfl
theorem q_goes : false = Rows.fnBehindBrokerRegistrationResponseUptoRow.goesBy Tryd.pinned.checked.prog := by kernel_rfl
theorem plain (f : FuncId) (fn : Func) (hf : Tryd.pinned.checked.prog.funcNamed "pub-mailsack/laws.FnBehindBrokerRegistrationResponse" = some f) (hfn : Tryd.pinned.checked.prog.funcs[f]? = some fn) :
    false = Tryd.pinned.checked.prog.looks [] ∧ ∀ (j : Nat) t, fn.params[j]? = some t → Tryd.pinned.checked.prog.wantsStandIn t = false := by
  obtain rfl : f = 3 := Option.some.inj ((show Tryd.prog.funcNamed "pub-mailsack/laws.FnBehindBrokerRegistrationResponse" = some 3 by kernel_rfl).symm.trans hf) |>.symm
  obtain rfl : fn = Tryd.f3 := (Option.some.inj (Tryd.func3.symm.trans hfn)).symm
  refine ⟨q_looks, fun j t ht => ?_⟩
  rw [Tryd.params3] at ht
  have hm := Array.mem_of_getElem? ht
  simp only [List.mem_toArray, List.mem_cons, List.not_mem_nil, or_false] at hm
  rcases hm with rfl | rfl | rfl
  · exact (show Tryd.prog.wantsStandIn 5 = false by kernel_rfl)
  · exact (show Tryd.prog.wantsStandIn 22 = false by kernel_rfl)
  · exact (show Tryd.prog.wantsStandIn 26 = false by kernel_rfl)
theorem card : Rows.FnBehindBrokerRegistrationResponseUptoCardSaid :=
  Claim7.holds_tied_plain_at .later [] _ _ _ _ over (fun _ h => by cases h) q_wf (fun _ h => by cases h) fnBehindBrokerRegistrationResponseUpto_row_tie rfl ⟨rfl, rfl⟩ q_main rfl plain q_goes
end Go.Sx
namespace Go.Proofs.YthgkgbaggjongaaDoor
theorem FnBehindBrokerRegistrationResponseProved : Rows.FnBehindBrokerRegistrationResponseUptoCardSaid := Go.Sx.card
end Go.Proofs.YthgkgbaggjongaaDoor
