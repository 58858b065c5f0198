import Derived.Test.YthgkgbaggjongaaDoorSxTab
import Derived.Test.YthgkgbaggjongaaDoorABrokerRegistrationResponse
import Derived.KernelRfl
set_option linter.unusedVariables false
set_option linter.unusedSimpArgs false
set_option maxRecDepth 100000
set_option maxHeartbeats 20000000
namespace Go.Sx
open Go.Proofs
def At_BrokerRegistrationResponse (ver : Int) (H : Fz) (T : Tr) (cs : List Value) : Prop := ∃ (mt : Option Nat), cs = [.int .i16 ver, .int .i32 (IntKind.i32.wrap (T.at 0).n), .int .i16 (IntKind.i16.wrap (T.at 1).n), .int .i64 (T.at 2).n, .map mt] ∧ KvAt H mt T.u
theorem At_BrokerRegistrationResponse.ok {ver : Int} {H : Fz} {T : Tr} {cs : List Value} (h : At_BrokerRegistrationResponse ver H T cs) : cs.length = 5 ∧ ∀ u ∈ cs, u.oneCell' = true := by
  obtain ⟨mt, rfl, h1⟩ := h
  refine ⟨rfl, ?_⟩
  intro u hu
  simp only [List.mem_cons, List.not_mem_nil, or_false] at hu
  rcases hu with rfl | rfl | rfl | rfl | rfl <;> rfl
theorem At_BrokerRegistrationResponse.mono (ver : Int) : RMono (At_BrokerRegistrationResponse ver) := by
  intro H H' T cs hle h
  obtain ⟨mt, rfl, h1⟩ := h
  exact ⟨mt, rfl, h1.mono hle⟩
end Go.Sx
