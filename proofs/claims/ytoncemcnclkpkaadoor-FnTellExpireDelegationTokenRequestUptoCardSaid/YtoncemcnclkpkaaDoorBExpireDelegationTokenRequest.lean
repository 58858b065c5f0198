import Derived.Test.YtoncemcnclkpkaaDoorSxTab
import Derived.Test.YtoncemcnclkpkaaDoorAExpireDelegationTokenRequest
import Derived.KernelRfl
set_option linter.unusedVariables false
set_option linter.unusedSimpArgs false
set_option maxRecDepth 100000
set_option maxHeartbeats 20000000
namespace Go.Sx
open Go.Proofs
def At_ExpireDelegationTokenRequest (ver : Int) (H : Fz) (T : Tr) (cs : List Value) : Prop := ∃ (a0 : Option Addr) (c0 : Nat) (mt : Option Nat), cs = [.int .i16 ver, .slice a0 (sT (T.at 0)).length c0, .int .i64 (T.at 1).n, .map mt] ∧ OctAt H (T.at 0) a0 c0 ∧ KvAt H mt T.u
theorem At_ExpireDelegationTokenRequest.ok {ver : Int} {H : Fz} {T : Tr} {cs : List Value} (h : At_ExpireDelegationTokenRequest ver H T cs) : cs.length = 4 ∧ ∀ u ∈ cs, u.oneCell' = true := by
  obtain ⟨a0, c0, mt, rfl, h1, h2⟩ := h
  refine ⟨rfl, ?_⟩
  intro u hu
  simp only [List.mem_cons, List.not_mem_nil, or_false] at hu
  rcases hu with rfl | rfl | rfl | rfl <;> rfl
theorem At_ExpireDelegationTokenRequest.mono (ver : Int) : RMono (At_ExpireDelegationTokenRequest ver) := by
  intro H H' T cs hle h
  obtain ⟨a0, c0, mt, rfl, h1, h2⟩ := h
  exact ⟨a0, c0, mt, rfl, h1.mono hle, h2.mono hle⟩
end Go.Sx
