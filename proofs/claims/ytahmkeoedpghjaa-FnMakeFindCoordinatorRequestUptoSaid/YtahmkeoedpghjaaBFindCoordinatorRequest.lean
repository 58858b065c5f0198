import Derived.Test.YtahmkeoedpghjaaAFindCoordinatorRequest
import Derived.KernelRfl
set_option linter.unusedVariables false
set_option linter.unusedSimpArgs false
set_option maxRecDepth 100000
set_option maxHeartbeats 20000000
namespace Go.Sx
open Go.Proofs
def At_FindCoordinatorRequest (ver : Int) (H : Fz) (T : Tr) (cs : List Value) : Prop := ∃ (a2 : Option Addr) (c2 : Nat) (mt : Option Nat), cs = [.int .i16 ver, .string ⟨(T.at 0).s.toArray⟩, .int .i8 (IntKind.i8.wrap (T.at 1).n), .slice a2 (lT (T.at 2)).length c2, .map mt] ∧ ListAt H (T.at 2) 1 RText a2 c2 ∧ KvAt H mt T.u
theorem At_FindCoordinatorRequest.ok {ver : Int} {H : Fz} {T : Tr} {cs : List Value} (h : At_FindCoordinatorRequest ver H T cs) : cs.length = 5 ∧ ∀ u ∈ cs, u.oneCell' = true := by
  obtain ⟨a2, c2, mt, rfl, h1, h2⟩ := h
  refine ⟨rfl, ?_⟩
  intro u hu
  simp only [List.mem_cons, List.not_mem_nil, or_false] at hu
  rcases hu with rfl | rfl | rfl | rfl | rfl <;> rfl
theorem At_FindCoordinatorRequest.mono (ver : Int) : RMono (At_FindCoordinatorRequest ver) := by
  intro H H' T cs hle h
  obtain ⟨a2, c2, mt, rfl, h1, h2⟩ := h
  exact ⟨a2, c2, mt, rfl, h1.mono RText.mono hle, h2.mono hle⟩
end Go.Sx
