import Derived.Test.YthgkgbaggjongaaGreatDoorSxTab
import Derived.Test.YthgkgbaggjongaaGreatDoorAAlterPartitionAssignmentsRequest
import Derived.KernelRfl
set_option linter.unusedVariables false
set_option linter.unusedSimpArgs false
set_option maxRecDepth 100000
set_option maxHeartbeats 20000000
namespace Go.Sx
open Go.Proofs
def At_AlterPartitionAssignmentsRequestTopicPartition (H : Fz) (T : Tr) (cs : List Value) : Prop := ∃ (a1 : Option Addr) (c1 : Nat) (mt : Option Nat), cs = [.int .i32 (IntKind.i32.wrap (T.at 0).n), .slice a1 (lT (T.at 1)).length c1, .map mt] ∧ ListAt H (T.at 1) 1 RI32 a1 c1 ∧ KvAt H mt T.u
theorem At_AlterPartitionAssignmentsRequestTopicPartition.ok {H : Fz} {T : Tr} {cs : List Value} (h : At_AlterPartitionAssignmentsRequestTopicPartition H T cs) : cs.length = 3 ∧ ∀ u ∈ cs, u.oneCell' = true := by
  obtain ⟨a1, c1, mt, rfl, h1, h2⟩ := h
  refine ⟨rfl, ?_⟩
  intro u hu
  simp only [List.mem_cons, List.not_mem_nil, or_false] at hu
  rcases hu with rfl | rfl | rfl <;> rfl
theorem At_AlterPartitionAssignmentsRequestTopicPartition.mono : RMono (At_AlterPartitionAssignmentsRequestTopicPartition) := by
  intro H H' T cs hle h
  obtain ⟨a1, c1, mt, rfl, h1, h2⟩ := h
  exact ⟨a1, c1, mt, rfl, h1.mono RI32.mono hle, h2.mono hle⟩
def At_AlterPartitionAssignmentsRequestTopic (H : Fz) (T : Tr) (cs : List Value) : Prop := ∃ (a1 : Option Addr) (c1 : Nat) (mt : Option Nat), cs = [.string ⟨(T.at 0).s.toArray⟩, .slice a1 (lT (T.at 1)).length c1, .map mt] ∧ ListAt H (T.at 1) 3 At_AlterPartitionAssignmentsRequestTopicPartition a1 c1 ∧ KvAt H mt T.u
theorem At_AlterPartitionAssignmentsRequestTopic.ok {H : Fz} {T : Tr} {cs : List Value} (h : At_AlterPartitionAssignmentsRequestTopic H T cs) : cs.length = 3 ∧ ∀ u ∈ cs, u.oneCell' = true := by
  obtain ⟨a1, c1, mt, rfl, h1, h2⟩ := h
  refine ⟨rfl, ?_⟩
  intro u hu
  simp only [List.mem_cons, List.not_mem_nil, or_false] at hu
  rcases hu with rfl | rfl | rfl <;> rfl
theorem At_AlterPartitionAssignmentsRequestTopic.mono : RMono (At_AlterPartitionAssignmentsRequestTopic) := by
  intro H H' T cs hle h
  obtain ⟨a1, c1, mt, rfl, h1, h2⟩ := h
  exact ⟨a1, c1, mt, rfl, h1.mono At_AlterPartitionAssignmentsRequestTopicPartition.mono hle, h2.mono hle⟩
def At_AlterPartitionAssignmentsRequest (ver : Int) (H : Fz) (T : Tr) (cs : List Value) : Prop := ∃ (a2 : Option Addr) (c2 : Nat) (mt : Option Nat), cs = [.int .i16 ver, .int .i32 (IntKind.i32.wrap (T.at 0).n), .bool (decide ((T.at 1).n % 2 = 1)), .slice a2 (lT (T.at 2)).length c2, .map mt] ∧ ListAt H (T.at 2) 3 At_AlterPartitionAssignmentsRequestTopic a2 c2 ∧ KvAt H mt T.u
theorem At_AlterPartitionAssignmentsRequest.ok {ver : Int} {H : Fz} {T : Tr} {cs : List Value} (h : At_AlterPartitionAssignmentsRequest ver H T cs) : cs.length = 5 ∧ ∀ u ∈ cs, u.oneCell' = true := by
  obtain ⟨a2, c2, mt, rfl, h1, h2⟩ := h
  refine ⟨rfl, ?_⟩
  intro u hu
  simp only [List.mem_cons, List.not_mem_nil, or_false] at hu
  rcases hu with rfl | rfl | rfl | rfl | rfl <;> rfl
theorem At_AlterPartitionAssignmentsRequest.mono (ver : Int) : RMono (At_AlterPartitionAssignmentsRequest ver) := by
  intro H H' T cs hle h
  obtain ⟨a2, c2, mt, rfl, h1, h2⟩ := h
  exact ⟨a2, c2, mt, rfl, h1.mono At_AlterPartitionAssignmentsRequestTopic.mono hle, h2.mono hle⟩
end Go.Sx
