import Derived.Test.YtpcgaheplmiglaaGreatAFetchResponse
import Derived.Test.YtpcgaheplmiglaaGreatTagX
import Derived.KernelRfl
set_option linter.unusedVariables false
set_option linter.unusedSimpArgs false
set_option maxRecDepth 100000
set_option maxHeartbeats 20000000
namespace Go.Sx
open Go.Proofs
theorem kn_fs_FetchResponse : known fs_FetchResponse = 1 := by decide
theorem on_fs_FetchResponse : Once fs_FetchResponse := by decide
theorem ti_fs_FetchResponse_0 : tgI fs_FetchResponse 0 = 4 := by decide
theorem tu_fs_FetchResponse_0 (x : Tr) : tgU fs_FetchResponse x 0 = fieldU (fs_FetchResponse[4]'(by decide)) (x.at 4) := by unfold tgU; rw [ti_fs_FetchResponse_0]; rfl
theorem to_fs_FetchResponse_0 (v : Int) (x : Tr) : tgO fs_FetchResponse v x 0 = tagB 0 (fieldB (fs_FetchResponse[4]'(by decide)) v true (x.at 4)) := by unfold tgO; rw [ti_fs_FetchResponse_0]; rfl
theorem kn_fs_sFetchResponseTopicPartition : known fs_sFetchResponseTopicPartition = 3 := by decide
theorem on_fs_sFetchResponseTopicPartition : Once fs_sFetchResponseTopicPartition := by decide
theorem ti_fs_sFetchResponseTopicPartition_0 : tgI fs_sFetchResponseTopicPartition 0 = 5 := by decide
theorem tu_fs_sFetchResponseTopicPartition_0 (x : Tr) : tgU fs_sFetchResponseTopicPartition x 0 = fieldU (fs_sFetchResponseTopicPartition[5]'(by decide)) (x.at 5) := by unfold tgU; rw [ti_fs_sFetchResponseTopicPartition_0]; rfl
theorem to_fs_sFetchResponseTopicPartition_0 (v : Int) (x : Tr) : tgO fs_sFetchResponseTopicPartition v x 0 = tagB 0 (fieldB (fs_sFetchResponseTopicPartition[5]'(by decide)) v true (x.at 5)) := by unfold tgO; rw [ti_fs_sFetchResponseTopicPartition_0]; rfl
theorem ti_fs_sFetchResponseTopicPartition_1 : tgI fs_sFetchResponseTopicPartition 1 = 6 := by decide
theorem tu_fs_sFetchResponseTopicPartition_1 (x : Tr) : tgU fs_sFetchResponseTopicPartition x 1 = fieldU (fs_sFetchResponseTopicPartition[6]'(by decide)) (x.at 6) := by unfold tgU; rw [ti_fs_sFetchResponseTopicPartition_1]; rfl
theorem to_fs_sFetchResponseTopicPartition_1 (v : Int) (x : Tr) : tgO fs_sFetchResponseTopicPartition v x 1 = tagB 1 (fieldB (fs_sFetchResponseTopicPartition[6]'(by decide)) v true (x.at 6)) := by unfold tgO; rw [ti_fs_sFetchResponseTopicPartition_1]; rfl
theorem ti_fs_sFetchResponseTopicPartition_2 : tgI fs_sFetchResponseTopicPartition 2 = 7 := by decide
theorem tu_fs_sFetchResponseTopicPartition_2 (x : Tr) : tgU fs_sFetchResponseTopicPartition x 2 = fieldU (fs_sFetchResponseTopicPartition[7]'(by decide)) (x.at 7) := by unfold tgU; rw [ti_fs_sFetchResponseTopicPartition_2]; rfl
theorem to_fs_sFetchResponseTopicPartition_2 (v : Int) (x : Tr) : tgO fs_sFetchResponseTopicPartition v x 2 = tagB 2 (fieldB (fs_sFetchResponseTopicPartition[7]'(by decide)) v true (x.at 7)) := by unfold tgO; rw [ti_fs_sFetchResponseTopicPartition_2]; rfl
end Go.Sx
