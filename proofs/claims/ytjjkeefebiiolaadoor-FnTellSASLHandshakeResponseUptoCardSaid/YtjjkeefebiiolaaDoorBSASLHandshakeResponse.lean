import Derived.Test.YtjjkeefebiiolaaDoorSxTab
import Derived.Test.YtjjkeefebiiolaaDoorASASLHandshakeResponse
import Derived.KernelRfl
set_option linter.unusedVariables false
set_option linter.unusedSimpArgs false
set_option maxRecDepth 100000
set_option maxHeartbeats 20000000
namespace Go.Sx
open Go.Proofs
def At_SASLHandshakeResponse (ver : Int) (H : Fz) (T : Tr) (cs : List Value) : Prop := ∃ (a1 : Option Addr) (c1 : Nat), cs = [.int .i16 ver, .int .i16 (IntKind.i16.wrap (T.at 0).n), .slice a1 (lT (T.at 1)).length c1] ∧ ListAt H (T.at 1) 1 RText a1 c1
theorem At_SASLHandshakeResponse.ok {ver : Int} {H : Fz} {T : Tr} {cs : List Value} (h : At_SASLHandshakeResponse ver H T cs) : cs.length = 3 ∧ ∀ u ∈ cs, u.oneCell' = true := by
  obtain ⟨a1, c1, rfl, h1⟩ := h
  refine ⟨rfl, ?_⟩
  intro u hu
  simp only [List.mem_cons, List.not_mem_nil, or_false] at hu
  rcases hu with rfl | rfl | rfl <;> rfl
theorem At_SASLHandshakeResponse.mono (ver : Int) : RMono (At_SASLHandshakeResponse ver) := by
  intro H H' T cs hle h
  obtain ⟨a1, c1, rfl, h1⟩ := h
  exact ⟨a1, c1, rfl, h1.mono RText.mono hle⟩
end Go.Sx
