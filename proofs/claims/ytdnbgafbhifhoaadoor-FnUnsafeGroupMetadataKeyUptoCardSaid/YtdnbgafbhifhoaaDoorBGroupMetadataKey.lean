import Derived.Test.YtdnbgafbhifhoaaDoorSxTab
import Derived.Test.YtdnbgafbhifhoaaDoorAGroupMetadataKey
import Derived.KernelRfl
set_option linter.unusedVariables false
set_option linter.unusedSimpArgs false
set_option maxRecDepth 100000
set_option maxHeartbeats 20000000
namespace Go.Sx
open Go.Proofs
def At_GroupMetadataKey (ver : Int) (H : Fz) (T : Tr) (cs : List Value) : Prop := cs = [.int .i16 ver, .string ⟨(T.at 0).s.toArray⟩]
theorem At_GroupMetadataKey.ok {ver : Int} {H : Fz} {T : Tr} {cs : List Value} (h : At_GroupMetadataKey ver H T cs) : cs.length = 2 ∧ ∀ u ∈ cs, u.oneCell' = true := by
  subst h
  refine ⟨rfl, ?_⟩
  intro u hu
  simp only [List.mem_cons, List.not_mem_nil, or_false] at hu
  rcases hu with rfl | rfl <;> rfl
theorem At_GroupMetadataKey.mono (ver : Int) : RMono (At_GroupMetadataKey ver) := by
  intro H H' T cs hle h
  subst h
  exact rfl
end Go.Sx
