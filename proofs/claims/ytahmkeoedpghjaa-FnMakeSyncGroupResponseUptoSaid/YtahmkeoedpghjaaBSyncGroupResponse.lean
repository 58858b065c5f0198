import Derived.Test.YtahmkeoedpghjaaASyncGroupResponse
import Derived.KernelRfl
set_option linter.unusedVariables false
set_option linter.unusedSimpArgs false
set_option maxRecDepth 100000
set_option maxHeartbeats 20000000
namespace Go.Sx
open Go.Proofs
def At_SyncGroupResponse (ver : Int) (H : Fz) (T : Tr) (cs : List Value) : Prop := ∃ (p2 : Option Addr) (p3 : Option Addr) (a4 : Option Addr) (c4 : Nat) (mt : Option Nat), cs = [.int .i16 ver, .int .i32 (IntKind.i32.wrap (T.at 0).n), .int .i16 (IntKind.i16.wrap (T.at 1).n), .pointer p2, .pointer p3, .slice a4 (sT (T.at 4)).length c4, .map mt] ∧ TextAt H (T.at 2) p2 ∧ TextAt H (T.at 3) p3 ∧ OctAt H (T.at 4) a4 c4 ∧ KvAt H mt T.u
theorem At_SyncGroupResponse.ok {ver : Int} {H : Fz} {T : Tr} {cs : List Value} (h : At_SyncGroupResponse ver H T cs) : cs.length = 7 ∧ ∀ u ∈ cs, u.oneCell' = true := by
  obtain ⟨p2, p3, a4, c4, mt, rfl, h1, h2, h3, h4⟩ := h
  refine ⟨rfl, ?_⟩
  intro u hu
  simp only [List.mem_cons, List.not_mem_nil, or_false] at hu
  rcases hu with rfl | rfl | rfl | rfl | rfl | rfl | rfl <;> rfl
theorem At_SyncGroupResponse.mono (ver : Int) : RMono (At_SyncGroupResponse ver) := by
  intro H H' T cs hle h
  obtain ⟨p2, p3, a4, c4, mt, rfl, h1, h2, h3, h4⟩ := h
  exact ⟨p2, p3, a4, c4, mt, rfl, h1.mono hle, h2.mono hle, h3.mono hle, h4.mono hle⟩
end Go.Sx
