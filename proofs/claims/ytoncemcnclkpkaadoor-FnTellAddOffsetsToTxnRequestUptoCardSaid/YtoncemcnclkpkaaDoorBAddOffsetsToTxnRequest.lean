import Derived.Test.YtoncemcnclkpkaaDoorSxTab
import Derived.Test.YtoncemcnclkpkaaDoorAAddOffsetsToTxnRequest
import Derived.KernelRfl
set_option linter.unusedVariables false
set_option linter.unusedSimpArgs false
set_option maxRecDepth 100000
set_option maxHeartbeats 20000000
namespace Go.Sx
open Go.Proofs
def At_AddOffsetsToTxnRequest (ver : Int) (H : Fz) (T : Tr) (cs : List Value) : Prop := ∃ (mt : Option Nat), cs = [.int .i16 ver, .string ⟨(T.at 0).s.toArray⟩, .int .i64 (T.at 1).n, .int .i16 (IntKind.i16.wrap (T.at 2).n), .string ⟨(T.at 3).s.toArray⟩, .map mt] ∧ KvAt H mt T.u
theorem At_AddOffsetsToTxnRequest.ok {ver : Int} {H : Fz} {T : Tr} {cs : List Value} (h : At_AddOffsetsToTxnRequest ver H T cs) : cs.length = 6 ∧ ∀ u ∈ cs, u.oneCell' = true := by
  obtain ⟨mt, rfl, h1⟩ := h
  refine ⟨rfl, ?_⟩
  intro u hu
  simp only [List.mem_cons, List.not_mem_nil, or_false] at hu
  rcases hu with rfl | rfl | rfl | rfl | rfl | rfl <;> rfl
theorem At_AddOffsetsToTxnRequest.mono (ver : Int) : RMono (At_AddOffsetsToTxnRequest ver) := by
  intro H H' T cs hle h
  obtain ⟨mt, rfl, h1⟩ := h
  exact ⟨mt, rfl, h1.mono hle⟩
end Go.Sx
