import Derived.Test.YtoncemcnclkpkaaDoorSxTab
import Derived.Test.YtoncemcnclkpkaaDoorADescribeClusterRequest
import Derived.KernelRfl
set_option linter.unusedVariables false
set_option linter.unusedSimpArgs false
set_option maxRecDepth 100000
set_option maxHeartbeats 20000000
namespace Go.Sx
open Go.Proofs
def At_DescribeClusterRequest (ver : Int) (H : Fz) (T : Tr) (cs : List Value) : Prop := ∃ (mt : Option Nat), cs = [.int .i16 ver, .bool (decide ((T.at 0).n % 2 = 1)), .int .i8 (IntKind.i8.wrap (T.at 1).n), .bool (decide ((T.at 2).n % 2 = 1)), .map mt] ∧ KvAt H mt T.u
theorem At_DescribeClusterRequest.ok {ver : Int} {H : Fz} {T : Tr} {cs : List Value} (h : At_DescribeClusterRequest ver H T cs) : cs.length = 5 ∧ ∀ u ∈ cs, u.oneCell' = true := by
  obtain ⟨mt, rfl, h1⟩ := h
  refine ⟨rfl, ?_⟩
  intro u hu
  simp only [List.mem_cons, List.not_mem_nil, or_false] at hu
  rcases hu with rfl | rfl | rfl | rfl | rfl <;> rfl
theorem At_DescribeClusterRequest.mono (ver : Int) : RMono (At_DescribeClusterRequest ver) := by
  intro H H' T cs hle h
  obtain ⟨mt, rfl, h1⟩ := h
  exact ⟨mt, rfl, h1.mono hle⟩
end Go.Sx
