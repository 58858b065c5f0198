import Derived.Test.YtdjfaejkhpifhaaGreatDoorAVoteResponse
import Derived.Test.YtdjfaejkhpifhaaGreatDoorTagX
import Derived.KernelRfl
set_option linter.unusedVariables false
set_option linter.unusedSimpArgs false
set_option maxRecDepth 100000
set_option maxHeartbeats 20000000
namespace Go.Sx
open Go.Proofs
theorem kn_fs_VoteResponse : known fs_VoteResponse = 1 := by decide
theorem on_fs_VoteResponse : Once fs_VoteResponse := by decide
theorem ti_fs_VoteResponse_0 : tgI fs_VoteResponse 0 = 2 := by decide
theorem tu_fs_VoteResponse_0 (x : Tr) : tgU fs_VoteResponse x 0 = fieldU (fs_VoteResponse[2]'(by decide)) (x.at 2) := by unfold tgU; rw [ti_fs_VoteResponse_0]; rfl
theorem to_fs_VoteResponse_0 (v : Int) (x : Tr) : tgO fs_VoteResponse v x 0 = tagB 0 (fieldB (fs_VoteResponse[2]'(by decide)) v true (x.at 2)) := by unfold tgO; rw [ti_fs_VoteResponse_0]; rfl
end Go.Sx
