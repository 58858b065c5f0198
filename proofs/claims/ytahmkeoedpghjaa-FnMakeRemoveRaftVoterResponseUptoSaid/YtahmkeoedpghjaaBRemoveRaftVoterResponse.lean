import Derived.Test.YtahmkeoedpghjaaARemoveRaftVoterResponse
import Derived.KernelRfl
set_option linter.unusedVariables false
set_option linter.unusedSimpArgs false
set_option maxRecDepth 100000
set_option maxHeartbeats 20000000
namespace Go.Sx
open Go.Proofs
def At_RemoveRaftVoterResponse (ver : Int) (H : Fz) (T : Tr) (cs : List Value) : Prop := ∃ (p2 : Option Addr) (mt : Option Nat), cs = [.int .i16 ver, .int .i32 (IntKind.i32.wrap (T.at 0).n), .int .i16 (IntKind.i16.wrap (T.at 1).n), .pointer p2, .map mt] ∧ TextAt H (T.at 2) p2 ∧ KvAt H mt T.u
theorem At_RemoveRaftVoterResponse.ok {ver : Int} {H : Fz} {T : Tr} {cs : List Value} (h : At_RemoveRaftVoterResponse ver H T cs) : cs.length = 5 ∧ ∀ u ∈ cs, u.oneCell' = true := by
  obtain ⟨p2, mt, rfl, h1, h2⟩ := h
  refine ⟨rfl, ?_⟩
  intro u hu
  simp only [List.mem_cons, List.not_mem_nil, or_false] at hu
  rcases hu with rfl | rfl | rfl | rfl | rfl <;> rfl
theorem At_RemoveRaftVoterResponse.mono (ver : Int) : RMono (At_RemoveRaftVoterResponse ver) := by
  intro H H' T cs hle h
  obtain ⟨p2, mt, rfl, h1, h2⟩ := h
  exact ⟨p2, mt, rfl, h1.mono hle, h2.mono hle⟩
end Go.Sx
