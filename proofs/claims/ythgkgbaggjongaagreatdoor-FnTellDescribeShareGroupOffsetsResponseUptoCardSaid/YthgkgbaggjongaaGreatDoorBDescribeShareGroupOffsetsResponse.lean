import Derived.Test.YthgkgbaggjongaaGreatDoorSxTab
import Derived.Test.YthgkgbaggjongaaGreatDoorADescribeShareGroupOffsetsResponse
import Derived.KernelRfl
set_option linter.unusedVariables false
set_option linter.unusedSimpArgs false
set_option maxRecDepth 100000
set_option maxHeartbeats 20000000
namespace Go.Sx
open Go.Proofs
def At_DescribeShareGroupOffsetsResponseGroupTopicPartition (H : Fz) (T : Tr) (cs : List Value) : Prop := ∃ (p5 : Option Addr) (mt : Option Nat), cs = [.int .i32 (IntKind.i32.wrap (T.at 0).n), .int .i64 (T.at 1).n, .int .i32 (IntKind.i32.wrap (T.at 2).n), .int .i64 (T.at 3).n, .int .i16 (IntKind.i16.wrap (T.at 4).n), .pointer p5, .map mt] ∧ TextAt H (T.at 5) p5 ∧ KvAt H mt T.u
theorem At_DescribeShareGroupOffsetsResponseGroupTopicPartition.ok {H : Fz} {T : Tr} {cs : List Value} (h : At_DescribeShareGroupOffsetsResponseGroupTopicPartition H T cs) : cs.length = 7 ∧ ∀ u ∈ cs, u.oneCell' = true := by
  obtain ⟨p5, mt, rfl, h1, h2⟩ := h
  refine ⟨rfl, ?_⟩
  intro u hu
  simp only [List.mem_cons, List.not_mem_nil, or_false] at hu
  rcases hu with rfl | rfl | rfl | rfl | rfl | rfl | rfl <;> rfl
theorem At_DescribeShareGroupOffsetsResponseGroupTopicPartition.mono : RMono (At_DescribeShareGroupOffsetsResponseGroupTopicPartition) := by
  intro H H' T cs hle h
  obtain ⟨p5, mt, rfl, h1, h2⟩ := h
  exact ⟨p5, mt, rfl, h1.mono hle, h2.mono hle⟩
def At_DescribeShareGroupOffsetsResponseGroupTopic (H : Fz) (T : Tr) (cs : List Value) : Prop := ∃ (a2 : Option Addr) (c2 : Nat) (mt : Option Nat), cs = [.string ⟨(T.at 0).s.toArray⟩, ub (T.at 1).s 0, ub (T.at 1).s 1, ub (T.at 1).s 2, ub (T.at 1).s 3, ub (T.at 1).s 4, ub (T.at 1).s 5, ub (T.at 1).s 6, ub (T.at 1).s 7, ub (T.at 1).s 8, ub (T.at 1).s 9, ub (T.at 1).s 10, ub (T.at 1).s 11, ub (T.at 1).s 12, ub (T.at 1).s 13, ub (T.at 1).s 14, ub (T.at 1).s 15, .slice a2 (lT (T.at 2)).length c2, .map mt] ∧ ListAt H (T.at 2) 7 At_DescribeShareGroupOffsetsResponseGroupTopicPartition a2 c2 ∧ KvAt H mt T.u
theorem At_DescribeShareGroupOffsetsResponseGroupTopic.ok {H : Fz} {T : Tr} {cs : List Value} (h : At_DescribeShareGroupOffsetsResponseGroupTopic H T cs) : cs.length = 19 ∧ ∀ u ∈ cs, u.oneCell' = true := by
  obtain ⟨a2, c2, mt, rfl, h1, h2⟩ := h
  refine ⟨rfl, ?_⟩
  intro u hu
  simp only [List.mem_cons, List.not_mem_nil, or_false] at hu
  rcases hu with rfl | rfl | rfl | rfl | rfl | rfl | rfl | rfl | rfl | rfl | rfl | rfl | rfl | rfl | rfl | rfl | rfl | rfl | rfl <;> rfl
theorem At_DescribeShareGroupOffsetsResponseGroupTopic.mono : RMono (At_DescribeShareGroupOffsetsResponseGroupTopic) := by
  intro H H' T cs hle h
  obtain ⟨a2, c2, mt, rfl, h1, h2⟩ := h
  exact ⟨a2, c2, mt, rfl, h1.mono At_DescribeShareGroupOffsetsResponseGroupTopicPartition.mono hle, h2.mono hle⟩
def At_DescribeShareGroupOffsetsResponseGroup (H : Fz) (T : Tr) (cs : List Value) : Prop := ∃ (a1 : Option Addr) (c1 : Nat) (p3 : Option Addr) (mt : Option Nat), cs = [.string ⟨(T.at 0).s.toArray⟩, .slice a1 (lT (T.at 1)).length c1, .int .i16 (IntKind.i16.wrap (T.at 2).n), .pointer p3, .map mt] ∧ ListAt H (T.at 1) 19 At_DescribeShareGroupOffsetsResponseGroupTopic a1 c1 ∧ TextAt H (T.at 3) p3 ∧ KvAt H mt T.u
theorem At_DescribeShareGroupOffsetsResponseGroup.ok {H : Fz} {T : Tr} {cs : List Value} (h : At_DescribeShareGroupOffsetsResponseGroup H T cs) : cs.length = 5 ∧ ∀ u ∈ cs, u.oneCell' = true := by
  obtain ⟨a1, c1, p3, mt, rfl, h1, h2, h3⟩ := h
  refine ⟨rfl, ?_⟩
  intro u hu
  simp only [List.mem_cons, List.not_mem_nil, or_false] at hu
  rcases hu with rfl | rfl | rfl | rfl | rfl <;> rfl
theorem At_DescribeShareGroupOffsetsResponseGroup.mono : RMono (At_DescribeShareGroupOffsetsResponseGroup) := by
  intro H H' T cs hle h
  obtain ⟨a1, c1, p3, mt, rfl, h1, h2, h3⟩ := h
  exact ⟨a1, c1, p3, mt, rfl, h1.mono At_DescribeShareGroupOffsetsResponseGroupTopic.mono hle, h2.mono hle, h3.mono hle⟩
def At_DescribeShareGroupOffsetsResponse (ver : Int) (H : Fz) (T : Tr) (cs : List Value) : Prop := ∃ (a1 : Option Addr) (c1 : Nat) (mt : Option Nat), cs = [.int .i16 ver, .int .i32 (IntKind.i32.wrap (T.at 0).n), .slice a1 (lT (T.at 1)).length c1, .map mt] ∧ ListAt H (T.at 1) 5 At_DescribeShareGroupOffsetsResponseGroup a1 c1 ∧ KvAt H mt T.u
theorem At_DescribeShareGroupOffsetsResponse.ok {ver : Int} {H : Fz} {T : Tr} {cs : List Value} (h : At_DescribeShareGroupOffsetsResponse ver H T cs) : cs.length = 4 ∧ ∀ u ∈ cs, u.oneCell' = true := by
  obtain ⟨a1, c1, mt, rfl, h1, h2⟩ := h
  refine ⟨rfl, ?_⟩
  intro u hu
  simp only [List.mem_cons, List.not_mem_nil, or_false] at hu
  rcases hu with rfl | rfl | rfl | rfl <;> rfl
theorem At_DescribeShareGroupOffsetsResponse.mono (ver : Int) : RMono (At_DescribeShareGroupOffsetsResponse ver) := by
  intro H H' T cs hle h
  obtain ⟨a1, c1, mt, rfl, h1, h2⟩ := h
  exact ⟨a1, c1, mt, rfl, h1.mono At_DescribeShareGroupOffsetsResponseGroup.mono hle, h2.mono hle⟩
end Go.Sx
