import Derived.Test.YtoncemcnclkpkaaDoorSxTab
import Derived.Test.YtoncemcnclkpkaaDoorATxnMetadataKey
import Derived.KernelRfl
set_option linter.unusedVariables false
set_option linter.unusedSimpArgs false
set_option maxRecDepth 100000
set_option maxHeartbeats 20000000
namespace Go.Sx
open Go.Proofs
def At_TxnMetadataKey (ver : Int) (H : Fz) (T : Tr) (cs : List Value) : Prop := cs = [.int .i16 ver, .string ⟨(T.at 0).s.toArray⟩]
theorem At_TxnMetadataKey.ok {ver : Int} {H : Fz} {T : Tr} {cs : List Value} (h : At_TxnMetadataKey ver H T cs) : cs.length = 2 ∧ ∀ u ∈ cs, u.oneCell' = true := by
  subst h
  refine ⟨rfl, ?_⟩
  intro u hu
  simp only [List.mem_cons, List.not_mem_nil, or_false] at hu
  rcases hu with rfl | rfl <;> rfl
theorem At_TxnMetadataKey.mono (ver : Int) : RMono (At_TxnMetadataKey ver) := by
  intro H H' T cs hle h
  subst h
  exact rfl
end Go.Sx
