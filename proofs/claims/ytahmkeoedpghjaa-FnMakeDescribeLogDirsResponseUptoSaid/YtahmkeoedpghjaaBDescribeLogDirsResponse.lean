import Derived.Test.YtahmkeoedpghjaaADescribeLogDirsResponse
import Derived.KernelRfl
set_option linter.unusedVariables false
set_option linter.unusedSimpArgs false
set_option maxRecDepth 100000
set_option maxHeartbeats 20000000
namespace Go.Sx
open Go.Proofs
def At_DescribeLogDirsResponseDirTopicPartition (H : Fz) (T : Tr) (cs : List Value) : Prop := ∃ (mt : Option Nat), cs = [.int .i32 (IntKind.i32.wrap (T.at 0).n), .int .i64 (T.at 1).n, .int .i64 (T.at 2).n, .bool (decide ((T.at 3).n % 2 = 1)), .map mt] ∧ KvAt H mt T.u
theorem At_DescribeLogDirsResponseDirTopicPartition.ok {H : Fz} {T : Tr} {cs : List Value} (h : At_DescribeLogDirsResponseDirTopicPartition H T cs) : cs.length = 5 ∧ ∀ u ∈ cs, u.oneCell' = true := by
  obtain ⟨mt, rfl, h1⟩ := h
  refine ⟨rfl, ?_⟩
  intro u hu
  simp only [List.mem_cons, List.not_mem_nil, or_false] at hu
  rcases hu with rfl | rfl | rfl | rfl | rfl <;> rfl
theorem At_DescribeLogDirsResponseDirTopicPartition.mono : RMono (At_DescribeLogDirsResponseDirTopicPartition) := by
  intro H H' T cs hle h
  obtain ⟨mt, rfl, h1⟩ := h
  exact ⟨mt, rfl, h1.mono hle⟩
def At_DescribeLogDirsResponseDirTopic (H : Fz) (T : Tr) (cs : List Value) : Prop := ∃ (a1 : Option Addr) (c1 : Nat) (mt : Option Nat), cs = [.string ⟨(T.at 0).s.toArray⟩, .slice a1 (lT (T.at 1)).length c1, .map mt] ∧ ListAt H (T.at 1) 5 At_DescribeLogDirsResponseDirTopicPartition a1 c1 ∧ KvAt H mt T.u
theorem At_DescribeLogDirsResponseDirTopic.ok {H : Fz} {T : Tr} {cs : List Value} (h : At_DescribeLogDirsResponseDirTopic H T cs) : cs.length = 3 ∧ ∀ u ∈ cs, u.oneCell' = true := by
  obtain ⟨a1, c1, mt, rfl, h1, h2⟩ := h
  refine ⟨rfl, ?_⟩
  intro u hu
  simp only [List.mem_cons, List.not_mem_nil, or_false] at hu
  rcases hu with rfl | rfl | rfl <;> rfl
theorem At_DescribeLogDirsResponseDirTopic.mono : RMono (At_DescribeLogDirsResponseDirTopic) := by
  intro H H' T cs hle h
  obtain ⟨a1, c1, mt, rfl, h1, h2⟩ := h
  exact ⟨a1, c1, mt, rfl, h1.mono At_DescribeLogDirsResponseDirTopicPartition.mono hle, h2.mono hle⟩
def At_DescribeLogDirsResponseDir (H : Fz) (T : Tr) (cs : List Value) : Prop := ∃ (a2 : Option Addr) (c2 : Nat) (mt : Option Nat), cs = [.int .i16 (IntKind.i16.wrap (T.at 0).n), .string ⟨(T.at 1).s.toArray⟩, .slice a2 (lT (T.at 2)).length c2, .int .i64 (T.at 3).n, .int .i64 (T.at 4).n, .bool (decide ((T.at 5).n % 2 = 1)), .map mt] ∧ ListAt H (T.at 2) 3 At_DescribeLogDirsResponseDirTopic a2 c2 ∧ KvAt H mt T.u
theorem At_DescribeLogDirsResponseDir.ok {H : Fz} {T : Tr} {cs : List Value} (h : At_DescribeLogDirsResponseDir H T cs) : cs.length = 7 ∧ ∀ u ∈ cs, u.oneCell' = true := by
  obtain ⟨a2, c2, mt, rfl, h1, h2⟩ := h
  refine ⟨rfl, ?_⟩
  intro u hu
  simp only [List.mem_cons, List.not_mem_nil, or_false] at hu
  rcases hu with rfl | rfl | rfl | rfl | rfl | rfl | rfl <;> rfl
theorem At_DescribeLogDirsResponseDir.mono : RMono (At_DescribeLogDirsResponseDir) := by
  intro H H' T cs hle h
  obtain ⟨a2, c2, mt, rfl, h1, h2⟩ := h
  exact ⟨a2, c2, mt, rfl, h1.mono At_DescribeLogDirsResponseDirTopic.mono hle, h2.mono hle⟩
def At_DescribeLogDirsResponse (ver : Int) (H : Fz) (T : Tr) (cs : List Value) : Prop := ∃ (a2 : Option Addr) (c2 : Nat) (mt : Option Nat), cs = [.int .i16 ver, .int .i32 (IntKind.i32.wrap (T.at 0).n), .int .i16 (IntKind.i16.wrap (T.at 1).n), .slice a2 (lT (T.at 2)).length c2, .map mt] ∧ ListAt H (T.at 2) 7 At_DescribeLogDirsResponseDir a2 c2 ∧ KvAt H mt T.u
theorem At_DescribeLogDirsResponse.ok {ver : Int} {H : Fz} {T : Tr} {cs : List Value} (h : At_DescribeLogDirsResponse ver H T cs) : cs.length = 5 ∧ ∀ u ∈ cs, u.oneCell' = true := by
  obtain ⟨a2, c2, mt, rfl, h1, h2⟩ := h
  refine ⟨rfl, ?_⟩
  intro u hu
  simp only [List.mem_cons, List.not_mem_nil, or_false] at hu
  rcases hu with rfl | rfl | rfl | rfl | rfl <;> rfl
theorem At_DescribeLogDirsResponse.mono (ver : Int) : RMono (At_DescribeLogDirsResponse ver) := by
  intro H H' T cs hle h
  obtain ⟨a2, c2, mt, rfl, h1, h2⟩ := h
  exact ⟨a2, c2, mt, rfl, h1.mono At_DescribeLogDirsResponseDir.mono hle, h2.mono hle⟩
end Go.Sx
