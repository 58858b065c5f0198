import Derived.Test.YtdjfaejkhpifhaaGreatDoorAApiVersionsResponse
import Derived.Test.YtdjfaejkhpifhaaGreatDoorTagX
import Derived.KernelRfl
set_option linter.unusedVariables false
set_option linter.unusedSimpArgs false
set_option maxRecDepth 100000
set_option maxHeartbeats 20000000
namespace Go.Sx
open Go.Proofs
theorem kn_fs_ApiVersionsResponse : known fs_ApiVersionsResponse = 4 := by decide
theorem on_fs_ApiVersionsResponse : Once fs_ApiVersionsResponse := by decide
theorem ti_fs_ApiVersionsResponse_0 : tgI fs_ApiVersionsResponse 0 = 3 := by decide
theorem tu_fs_ApiVersionsResponse_0 (x : Tr) : tgU fs_ApiVersionsResponse x 0 = fieldU (fs_ApiVersionsResponse[3]'(by decide)) (x.at 3) := by unfold tgU; rw [ti_fs_ApiVersionsResponse_0]; rfl
theorem to_fs_ApiVersionsResponse_0 (v : Int) (x : Tr) : tgO fs_ApiVersionsResponse v x 0 = tagB 0 (fieldB (fs_ApiVersionsResponse[3]'(by decide)) v true (x.at 3)) := by unfold tgO; rw [ti_fs_ApiVersionsResponse_0]; rfl
theorem ti_fs_ApiVersionsResponse_1 : tgI fs_ApiVersionsResponse 1 = 4 := by decide
theorem tu_fs_ApiVersionsResponse_1 (x : Tr) : tgU fs_ApiVersionsResponse x 1 = fieldU (fs_ApiVersionsResponse[4]'(by decide)) (x.at 4) := by unfold tgU; rw [ti_fs_ApiVersionsResponse_1]; rfl
theorem to_fs_ApiVersionsResponse_1 (v : Int) (x : Tr) : tgO fs_ApiVersionsResponse v x 1 = tagB 1 (fieldB (fs_ApiVersionsResponse[4]'(by decide)) v true (x.at 4)) := by unfold tgO; rw [ti_fs_ApiVersionsResponse_1]; rfl
theorem ti_fs_ApiVersionsResponse_2 : tgI fs_ApiVersionsResponse 2 = 5 := by decide
theorem tu_fs_ApiVersionsResponse_2 (x : Tr) : tgU fs_ApiVersionsResponse x 2 = fieldU (fs_ApiVersionsResponse[5]'(by decide)) (x.at 5) := by unfold tgU; rw [ti_fs_ApiVersionsResponse_2]; rfl
theorem to_fs_ApiVersionsResponse_2 (v : Int) (x : Tr) : tgO fs_ApiVersionsResponse v x 2 = tagB 2 (fieldB (fs_ApiVersionsResponse[5]'(by decide)) v true (x.at 5)) := by unfold tgO; rw [ti_fs_ApiVersionsResponse_2]; rfl
theorem ti_fs_ApiVersionsResponse_3 : tgI fs_ApiVersionsResponse 3 = 6 := by decide
theorem tu_fs_ApiVersionsResponse_3 (x : Tr) : tgU fs_ApiVersionsResponse x 3 = fieldU (fs_ApiVersionsResponse[6]'(by decide)) (x.at 6) := by unfold tgU; rw [ti_fs_ApiVersionsResponse_3]; rfl
theorem to_fs_ApiVersionsResponse_3 (v : Int) (x : Tr) : tgO fs_ApiVersionsResponse v x 3 = tagB 3 (fieldB (fs_ApiVersionsResponse[6]'(by decide)) v true (x.at 6)) := by unfold tgO; rw [ti_fs_ApiVersionsResponse_3]; rfl
end Go.Sx
