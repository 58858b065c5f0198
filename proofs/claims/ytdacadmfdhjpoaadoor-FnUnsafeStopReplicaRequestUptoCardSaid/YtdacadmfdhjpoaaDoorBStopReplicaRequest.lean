import Derived.Test.YtdacadmfdhjpoaaDoorSxTab
import Derived.Test.YtdacadmfdhjpoaaDoorAStopReplicaRequest
import Derived.KernelRfl
set_option linter.unusedVariables false
set_option linter.unusedSimpArgs false
set_option maxRecDepth 100000
set_option maxHeartbeats 20000000
namespace Go.Sx
open Go.Proofs
def At_StopReplicaRequestTopicPartitionState (H : Fz) (T : Tr) (cs : List Value) : Prop := ∃ (mt : Option Nat), cs = [.int .i32 (IntKind.i32.wrap (T.at 0).n), .int .i32 (IntKind.i32.wrap (T.at 1).n), .bool (decide ((T.at 2).n % 2 = 1)), .map mt] ∧ KvAt H mt T.u
theorem At_StopReplicaRequestTopicPartitionState.ok {H : Fz} {T : Tr} {cs : List Value} (h : At_StopReplicaRequestTopicPartitionState H T cs) : cs.length = 4 ∧ ∀ u ∈ cs, u.oneCell' = true := by
  obtain ⟨mt, rfl, h1⟩ := h
  refine ⟨rfl, ?_⟩
  intro u hu
  simp only [List.mem_cons, List.not_mem_nil, or_false] at hu
  rcases hu with rfl | rfl | rfl | rfl <;> rfl
theorem At_StopReplicaRequestTopicPartitionState.mono : RMono (At_StopReplicaRequestTopicPartitionState) := by
  intro H H' T cs hle h
  obtain ⟨mt, rfl, h1⟩ := h
  exact ⟨mt, rfl, h1.mono hle⟩
def At_StopReplicaRequestTopic (H : Fz) (T : Tr) (cs : List Value) : Prop := ∃ (a2 : Option Addr) (c2 : Nat) (a3 : Option Addr) (c3 : Nat) (mt : Option Nat), cs = [.string ⟨(T.at 0).s.toArray⟩, .int .i32 (IntKind.i32.wrap (T.at 1).n), .slice a2 (lT (T.at 2)).length c2, .slice a3 (lT (T.at 3)).length c3, .map mt] ∧ ListAt H (T.at 2) 1 RI32 a2 c2 ∧ ListAt H (T.at 3) 4 At_StopReplicaRequestTopicPartitionState a3 c3 ∧ KvAt H mt T.u
theorem At_StopReplicaRequestTopic.ok {H : Fz} {T : Tr} {cs : List Value} (h : At_StopReplicaRequestTopic H T cs) : cs.length = 5 ∧ ∀ u ∈ cs, u.oneCell' = true := by
  obtain ⟨a2, c2, a3, c3, mt, rfl, h1, h2, h3⟩ := h
  refine ⟨rfl, ?_⟩
  intro u hu
  simp only [List.mem_cons, List.not_mem_nil, or_false] at hu
  rcases hu with rfl | rfl | rfl | rfl | rfl <;> rfl
theorem At_StopReplicaRequestTopic.mono : RMono (At_StopReplicaRequestTopic) := by
  intro H H' T cs hle h
  obtain ⟨a2, c2, a3, c3, mt, rfl, h1, h2, h3⟩ := h
  exact ⟨a2, c2, a3, c3, mt, rfl, h1.mono RI32.mono hle, h2.mono At_StopReplicaRequestTopicPartitionState.mono hle, h3.mono hle⟩
def At_StopReplicaRequest (ver : Int) (H : Fz) (T : Tr) (cs : List Value) : Prop := ∃ (a5 : Option Addr) (c5 : Nat) (mt : Option Nat), cs = [.int .i16 ver, .int .i32 (IntKind.i32.wrap (T.at 0).n), .int .i32 (IntKind.i32.wrap (T.at 1).n), .bool (decide ((T.at 2).n % 2 = 1)), .int .i64 (T.at 3).n, .bool (decide ((T.at 4).n % 2 = 1)), .slice a5 (lT (T.at 5)).length c5, .map mt] ∧ ListAt H (T.at 5) 5 At_StopReplicaRequestTopic a5 c5 ∧ KvAt H mt T.u
theorem At_StopReplicaRequest.ok {ver : Int} {H : Fz} {T : Tr} {cs : List Value} (h : At_StopReplicaRequest ver H T cs) : cs.length = 8 ∧ ∀ u ∈ cs, u.oneCell' = true := by
  obtain ⟨a5, c5, mt, rfl, h1, h2⟩ := h
  refine ⟨rfl, ?_⟩
  intro u hu
  simp only [List.mem_cons, List.not_mem_nil, or_false] at hu
  rcases hu with rfl | rfl | rfl | rfl | rfl | rfl | rfl | rfl <;> rfl
theorem At_StopReplicaRequest.mono (ver : Int) : RMono (At_StopReplicaRequest ver) := by
  intro H H' T cs hle h
  obtain ⟨a5, c5, mt, rfl, h1, h2⟩ := h
  exact ⟨a5, c5, mt, rfl, h1.mono At_StopReplicaRequestTopic.mono hle, h2.mono hle⟩
end Go.Sx
