import Derived.Test.YtoncemcnclkpkaaGreatDoorSxTab
import Derived.Test.YtoncemcnclkpkaaGreatDoorADescribeQuorumRequest
import Derived.KernelRfl
set_option linter.unusedVariables false
set_option linter.unusedSimpArgs false
set_option maxRecDepth 100000
set_option maxHeartbeats 20000000
namespace Go.Sx
open Go.Proofs
def At_DescribeQuorumRequestTopicPartition (H : Fz) (T : Tr) (cs : List Value) : Prop := ∃ (mt : Option Nat), cs = [.int .i32 (IntKind.i32.wrap (T.at 0).n), .map mt] ∧ KvAt H mt T.u
theorem At_DescribeQuorumRequestTopicPartition.ok {H : Fz} {T : Tr} {cs : List Value} (h : At_DescribeQuorumRequestTopicPartition H T cs) : cs.length = 2 ∧ ∀ u ∈ cs, u.oneCell' = true := by
  obtain ⟨mt, rfl, h1⟩ := h
  refine ⟨rfl, ?_⟩
  intro u hu
  simp only [List.mem_cons, List.not_mem_nil, or_false] at hu
  rcases hu with rfl | rfl <;> rfl
theorem At_DescribeQuorumRequestTopicPartition.mono : RMono (At_DescribeQuorumRequestTopicPartition) := by
  intro H H' T cs hle h
  obtain ⟨mt, rfl, h1⟩ := h
  exact ⟨mt, rfl, h1.mono hle⟩
def At_DescribeQuorumRequestTopic (H : Fz) (T : Tr) (cs : List Value) : Prop := ∃ (a1 : Option Addr) (c1 : Nat) (mt : Option Nat), cs = [.string ⟨(T.at 0).s.toArray⟩, .slice a1 (lT (T.at 1)).length c1, .map mt] ∧ ListAt H (T.at 1) 2 At_DescribeQuorumRequestTopicPartition a1 c1 ∧ KvAt H mt T.u
theorem At_DescribeQuorumRequestTopic.ok {H : Fz} {T : Tr} {cs : List Value} (h : At_DescribeQuorumRequestTopic H T cs) : cs.length = 3 ∧ ∀ u ∈ cs, u.oneCell' = true := by
  obtain ⟨a1, c1, mt, rfl, h1, h2⟩ := h
  refine ⟨rfl, ?_⟩
  intro u hu
  simp only [List.mem_cons, List.not_mem_nil, or_false] at hu
  rcases hu with rfl | rfl | rfl <;> rfl
theorem At_DescribeQuorumRequestTopic.mono : RMono (At_DescribeQuorumRequestTopic) := by
  intro H H' T cs hle h
  obtain ⟨a1, c1, mt, rfl, h1, h2⟩ := h
  exact ⟨a1, c1, mt, rfl, h1.mono At_DescribeQuorumRequestTopicPartition.mono hle, h2.mono hle⟩
def At_DescribeQuorumRequest (ver : Int) (H : Fz) (T : Tr) (cs : List Value) : Prop := ∃ (a0 : Option Addr) (c0 : Nat) (mt : Option Nat), cs = [.int .i16 ver, .slice a0 (lT (T.at 0)).length c0, .map mt] ∧ ListAt H (T.at 0) 3 At_DescribeQuorumRequestTopic a0 c0 ∧ KvAt H mt T.u
theorem At_DescribeQuorumRequest.ok {ver : Int} {H : Fz} {T : Tr} {cs : List Value} (h : At_DescribeQuorumRequest ver H T cs) : cs.length = 3 ∧ ∀ u ∈ cs, u.oneCell' = true := by
  obtain ⟨a0, c0, mt, rfl, h1, h2⟩ := h
  refine ⟨rfl, ?_⟩
  intro u hu
  simp only [List.mem_cons, List.not_mem_nil, or_false] at hu
  rcases hu with rfl | rfl | rfl <;> rfl
theorem At_DescribeQuorumRequest.mono (ver : Int) : RMono (At_DescribeQuorumRequest ver) := by
  intro H H' T cs hle h
  obtain ⟨a0, c0, mt, rfl, h1, h2⟩ := h
  exact ⟨a0, c0, mt, rfl, h1.mono At_DescribeQuorumRequestTopic.mono hle, h2.mono hle⟩
end Go.Sx
