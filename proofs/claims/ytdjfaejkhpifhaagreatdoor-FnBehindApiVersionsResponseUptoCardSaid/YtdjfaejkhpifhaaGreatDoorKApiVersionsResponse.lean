/- FnBehindApiVersionsResponse: its card. -/
import Derived.Test.YtdjfaejkhpifhaaGreatDoorRApiVersionsResponse
import Derived.Test.YtdjfaejkhpifhaaGreatDoorCards
import Derived.Test.YtdjfaejkhpifhaaGreatDoorTie
set_option linter.unusedVariables false
set_option linter.unusedSimpArgs false
set_option maxRecDepth 100000
set_option maxHeartbeats 20000000
namespace Go.Sx
open Go.Proofs Go.Proofs.YtdjfaejkhpifhaaGreatDoor
theorem q_wf : Rows.fnBehindApiVersionsResponseUptoRow.wfByText (Rows.OpenSpec.upto Rows.fnBehindApiVersionsResponseSpec) = true := by kernel_rfl
theorem q_goes : false = Rows.fnBehindApiVersionsResponseUptoRow.goesBy Tryz.pinned.checked.prog := by kernel_rfl
theorem plain (f : FuncId) (fn : Func) (hf : Tryz.pinned.checked.prog.funcNamed "pub-mailsack/laws.FnBehindApiVersionsResponse" = some f) (hfn : Tryz.pinned.checked.prog.funcs[f]? = some fn) :
    false = Tryz.pinned.checked.prog.looks [] ∧ ∀ (j : Nat) t, fn.params[j]? = some t → Tryz.pinned.checked.prog.wantsStandIn t = false := by
  obtain rfl : f = 4 := Option.some.inj ((show Tryz.prog.funcNamed "pub-mailsack/laws.FnBehindApiVersionsResponse" = some 4 by kernel_rfl).symm.trans hf) |>.symm
  obtain rfl : fn = Tryz.f4 := (Option.some.inj (Tryz.func4.symm.trans hfn)).symm
  refine ⟨q_looks, fun j t ht => ?_⟩
  rw [Tryz.params4] at ht
  have hm := Array.mem_of_getElem? ht
  simp only [List.mem_toArray, List.mem_cons, List.not_mem_nil, or_false] at hm
  rcases hm with rfl | rfl | rfl
  · exact (show Tryz.prog.wantsStandIn 5 = false by kernel_rfl)
  · exact (show Tryz.prog.wantsStandIn 22 = false by kernel_rfl)
  · exact (show Tryz.prog.wantsStandIn 26 = false by kernel_rfl)
theorem card : Rows.FnBehindApiVersionsResponseUptoCardSaid :=
  Claim7.holds_tied_plain_at .later [] _ _ _ _ over (fun _ h => by cases h) q_wf (fun _ h => by cases h) fnBehindApiVersionsResponseUpto_row_tie rfl ⟨rfl, rfl⟩ q_main rfl plain q_goes
end Go.Sx
namespace Go.Proofs.YtdjfaejkhpifhaaGreatDoor
theorem FnBehindApiVersionsResponseProved : Rows.FnBehindApiVersionsResponseUptoCardSaid := Go.Sx.card
end Go.Proofs.YtdjfaejkhpifhaaGreatDoor
