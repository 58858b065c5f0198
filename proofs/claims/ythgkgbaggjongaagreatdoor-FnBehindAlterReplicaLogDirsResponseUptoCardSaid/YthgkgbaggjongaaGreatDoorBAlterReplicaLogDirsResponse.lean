import Derived.Test.YthgkgbaggjongaaGreatDoorSxTab
import Derived.Test.YthgkgbaggjongaaGreatDoorAAlterReplicaLogDirsResponse
import Derived.KernelRfl
set_option linter.unusedVariables false
set_option linter.unusedSimpArgs false
set_option maxRecDepth 100000
set_option maxHeartbeats 20000000
namespace Go.Sx
open Go.Proofs
def At_AlterReplicaLogDirsResponseTopicPartition (H : Fz) (T : Tr) (cs : List Value) : Prop := ∃ (mt : Option Nat), cs = [.int .i32 (IntKind.i32.wrap (T.at 0).n), .int .i16 (IntKind.i16.wrap (T.at 1).n), .map mt] ∧ KvAt H mt T.u
theorem At_AlterReplicaLogDirsResponseTopicPartition.ok {H : Fz} {T : Tr} {cs : List Value} (h : At_AlterReplicaLogDirsResponseTopicPartition H T cs) : cs.length = 3 ∧ ∀ u ∈ cs, u.oneCell' = true := by
  obtain ⟨mt, rfl, h1⟩ := h
  refine ⟨rfl, ?_⟩
  intro u hu
  simp only [List.mem_cons, List.not_mem_nil, or_false] at hu
  rcases hu with rfl | rfl | rfl <;> rfl
theorem At_AlterReplicaLogDirsResponseTopicPartition.mono : RMono (At_AlterReplicaLogDirsResponseTopicPartition) := by
  intro H H' T cs hle h
  obtain ⟨mt, rfl, h1⟩ := h
  exact ⟨mt, rfl, h1.mono hle⟩
def At_AlterReplicaLogDirsResponseTopic (H : Fz) (T : Tr) (cs : List Value) : Prop := ∃ (a1 : Option Addr) (c1 : Nat) (mt : Option Nat), cs = [.string ⟨(T.at 0).s.toArray⟩, .slice a1 (lT (T.at 1)).length c1, .map mt] ∧ ListAt H (T.at 1) 3 At_AlterReplicaLogDirsResponseTopicPartition a1 c1 ∧ KvAt H mt T.u
theorem At_AlterReplicaLogDirsResponseTopic.ok {H : Fz} {T : Tr} {cs : List Value} (h : At_AlterReplicaLogDirsResponseTopic H T cs) : cs.length = 3 ∧ ∀ u ∈ cs, u.oneCell' = true := by
  obtain ⟨a1, c1, mt, rfl, h1, h2⟩ := h
  refine ⟨rfl, ?_⟩
  intro u hu
  simp only [List.mem_cons, List.not_mem_nil, or_false] at hu
  rcases hu with rfl | rfl | rfl <;> rfl
theorem At_AlterReplicaLogDirsResponseTopic.mono : RMono (At_AlterReplicaLogDirsResponseTopic) := by
  intro H H' T cs hle h
  obtain ⟨a1, c1, mt, rfl, h1, h2⟩ := h
  exact ⟨a1, c1, mt, rfl, h1.mono At_AlterReplicaLogDirsResponseTopicPartition.mono hle, h2.mono hle⟩
def At_AlterReplicaLogDirsResponse (ver : Int) (H : Fz) (T : Tr) (cs : List Value) : Prop := ∃ (a1 : Option Addr) (c1 : Nat) (mt : Option Nat), cs = [.int .i16 ver, .int .i32 (IntKind.i32.wrap (T.at 0).n), .slice a1 (lT (T.at 1)).length c1, .map mt] ∧ ListAt H (T.at 1) 3 At_AlterReplicaLogDirsResponseTopic a1 c1 ∧ KvAt H mt T.u
theorem At_AlterReplicaLogDirsResponse.ok {ver : Int} {H : Fz} {T : Tr} {cs : List Value} (h : At_AlterReplicaLogDirsResponse ver H T cs) : cs.length = 4 ∧ ∀ u ∈ cs, u.oneCell' = true := by
  obtain ⟨a1, c1, mt, rfl, h1, h2⟩ := h
  refine ⟨rfl, ?_⟩
  intro u hu
  simp only [List.mem_cons, List.not_mem_nil, or_false] at hu
  rcases hu with rfl | rfl | rfl | rfl <;> rfl
theorem At_AlterReplicaLogDirsResponse.mono (ver : Int) : RMono (At_AlterReplicaLogDirsResponse ver) := by
  intro H H' T cs hle h
  obtain ⟨a1, c1, mt, rfl, h1, h2⟩ := h
  exact ⟨a1, c1, mt, rfl, h1.mono At_AlterReplicaLogDirsResponseTopic.mono hle, h2.mono hle⟩
end Go.Sx
