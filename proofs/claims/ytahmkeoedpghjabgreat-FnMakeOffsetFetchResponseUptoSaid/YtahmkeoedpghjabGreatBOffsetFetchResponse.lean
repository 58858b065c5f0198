import Derived.Test.YtahmkeoedpghjabGreatAOffsetFetchResponse
import Derived.KernelRfl
set_option linter.unusedVariables false
set_option linter.unusedSimpArgs false
set_option maxRecDepth 100000
set_option maxHeartbeats 20000000
namespace Go.Sx
open Go.Proofs
def At_OffsetFetchResponseTopicPartition (H : Fz) (T : Tr) (cs : List Value) : Prop := ∃ (p3 : Option Addr) (mt : Option Nat), cs = [.int .i32 (IntKind.i32.wrap (T.at 0).n), .int .i64 (T.at 1).n, .int .i32 (IntKind.i32.wrap (T.at 2).n), .pointer p3, .int .i16 (IntKind.i16.wrap (T.at 4).n), .map mt] ∧ TextAt H (T.at 3) p3 ∧ KvAt H mt T.u
theorem At_OffsetFetchResponseTopicPartition.ok {H : Fz} {T : Tr} {cs : List Value} (h : At_OffsetFetchResponseTopicPartition H T cs) : cs.length = 6 ∧ ∀ u ∈ cs, u.oneCell' = true := by
  obtain ⟨p3, mt, rfl, h1, h2⟩ := h
  refine ⟨rfl, ?_⟩
  intro u hu
  simp only [List.mem_cons, List.not_mem_nil, or_false] at hu
  rcases hu with rfl | rfl | rfl | rfl | rfl | rfl <;> rfl
theorem At_OffsetFetchResponseTopicPartition.mono : RMono (At_OffsetFetchResponseTopicPartition) := by
  intro H H' T cs hle h
  obtain ⟨p3, mt, rfl, h1, h2⟩ := h
  exact ⟨p3, mt, rfl, h1.mono hle, h2.mono hle⟩
def At_OffsetFetchResponseTopic (H : Fz) (T : Tr) (cs : List Value) : Prop := ∃ (a1 : Option Addr) (c1 : Nat) (mt : Option Nat), cs = [.string ⟨(T.at 0).s.toArray⟩, .slice a1 (lT (T.at 1)).length c1, .map mt] ∧ ListAt H (T.at 1) 6 At_OffsetFetchResponseTopicPartition a1 c1 ∧ KvAt H mt T.u
theorem At_OffsetFetchResponseTopic.ok {H : Fz} {T : Tr} {cs : List Value} (h : At_OffsetFetchResponseTopic H T cs) : cs.length = 3 ∧ ∀ u ∈ cs, u.oneCell' = true := by
  obtain ⟨a1, c1, mt, rfl, h1, h2⟩ := h
  refine ⟨rfl, ?_⟩
  intro u hu
  simp only [List.mem_cons, List.not_mem_nil, or_false] at hu
  rcases hu with rfl | rfl | rfl <;> rfl
theorem At_OffsetFetchResponseTopic.mono : RMono (At_OffsetFetchResponseTopic) := by
  intro H H' T cs hle h
  obtain ⟨a1, c1, mt, rfl, h1, h2⟩ := h
  exact ⟨a1, c1, mt, rfl, h1.mono At_OffsetFetchResponseTopicPartition.mono hle, h2.mono hle⟩
def At_OffsetFetchResponseGroupTopicPartition (H : Fz) (T : Tr) (cs : List Value) : Prop := ∃ (p3 : Option Addr) (mt : Option Nat), cs = [.int .i32 (IntKind.i32.wrap (T.at 0).n), .int .i64 (T.at 1).n, .int .i32 (IntKind.i32.wrap (T.at 2).n), .pointer p3, .int .i16 (IntKind.i16.wrap (T.at 4).n), .map mt] ∧ TextAt H (T.at 3) p3 ∧ KvAt H mt T.u
theorem At_OffsetFetchResponseGroupTopicPartition.ok {H : Fz} {T : Tr} {cs : List Value} (h : At_OffsetFetchResponseGroupTopicPartition H T cs) : cs.length = 6 ∧ ∀ u ∈ cs, u.oneCell' = true := by
  obtain ⟨p3, mt, rfl, h1, h2⟩ := h
  refine ⟨rfl, ?_⟩
  intro u hu
  simp only [List.mem_cons, List.not_mem_nil, or_false] at hu
  rcases hu with rfl | rfl | rfl | rfl | rfl | rfl <;> rfl
theorem At_OffsetFetchResponseGroupTopicPartition.mono : RMono (At_OffsetFetchResponseGroupTopicPartition) := by
  intro H H' T cs hle h
  obtain ⟨p3, mt, rfl, h1, h2⟩ := h
  exact ⟨p3, mt, rfl, h1.mono hle, h2.mono hle⟩
def At_OffsetFetchResponseGroupTopic (H : Fz) (T : Tr) (cs : List Value) : Prop := ∃ (a2 : Option Addr) (c2 : Nat) (mt : Option Nat), cs = [.string ⟨(T.at 0).s.toArray⟩, ub (T.at 1).s 0, ub (T.at 1).s 1, ub (T.at 1).s 2, ub (T.at 1).s 3, ub (T.at 1).s 4, ub (T.at 1).s 5, ub (T.at 1).s 6, ub (T.at 1).s 7, ub (T.at 1).s 8, ub (T.at 1).s 9, ub (T.at 1).s 10, ub (T.at 1).s 11, ub (T.at 1).s 12, ub (T.at 1).s 13, ub (T.at 1).s 14, ub (T.at 1).s 15, .slice a2 (lT (T.at 2)).length c2, .map mt] ∧ ListAt H (T.at 2) 6 At_OffsetFetchResponseGroupTopicPartition a2 c2 ∧ KvAt H mt T.u
theorem At_OffsetFetchResponseGroupTopic.ok {H : Fz} {T : Tr} {cs : List Value} (h : At_OffsetFetchResponseGroupTopic H T cs) : cs.length = 19 ∧ ∀ u ∈ cs, u.oneCell' = true := by
  obtain ⟨a2, c2, mt, rfl, h1, h2⟩ := h
  refine ⟨rfl, ?_⟩
  intro u hu
  simp only [List.mem_cons, List.not_mem_nil, or_false] at hu
  rcases hu with rfl | rfl | rfl | rfl | rfl | rfl | rfl | rfl | rfl | rfl | rfl | rfl | rfl | rfl | rfl | rfl | rfl | rfl | rfl <;> rfl
theorem At_OffsetFetchResponseGroupTopic.mono : RMono (At_OffsetFetchResponseGroupTopic) := by
  intro H H' T cs hle h
  obtain ⟨a2, c2, mt, rfl, h1, h2⟩ := h
  exact ⟨a2, c2, mt, rfl, h1.mono At_OffsetFetchResponseGroupTopicPartition.mono hle, h2.mono hle⟩
def At_OffsetFetchResponseGroup (H : Fz) (T : Tr) (cs : List Value) : Prop := ∃ (a1 : Option Addr) (c1 : Nat) (mt : Option Nat), cs = [.string ⟨(T.at 0).s.toArray⟩, .slice a1 (lT (T.at 1)).length c1, .int .i16 (IntKind.i16.wrap (T.at 2).n), .map mt] ∧ ListAt H (T.at 1) 19 At_OffsetFetchResponseGroupTopic a1 c1 ∧ KvAt H mt T.u
theorem At_OffsetFetchResponseGroup.ok {H : Fz} {T : Tr} {cs : List Value} (h : At_OffsetFetchResponseGroup H T cs) : cs.length = 4 ∧ ∀ u ∈ cs, u.oneCell' = true := by
  obtain ⟨a1, c1, mt, rfl, h1, h2⟩ := h
  refine ⟨rfl, ?_⟩
  intro u hu
  simp only [List.mem_cons, List.not_mem_nil, or_false] at hu
  rcases hu with rfl | rfl | rfl | rfl <;> rfl
theorem At_OffsetFetchResponseGroup.mono : RMono (At_OffsetFetchResponseGroup) := by
  intro H H' T cs hle h
  obtain ⟨a1, c1, mt, rfl, h1, h2⟩ := h
  exact ⟨a1, c1, mt, rfl, h1.mono At_OffsetFetchResponseGroupTopic.mono hle, h2.mono hle⟩
def At_OffsetFetchResponse (ver : Int) (H : Fz) (T : Tr) (cs : List Value) : Prop := ∃ (a1 : Option Addr) (c1 : Nat) (a3 : Option Addr) (c3 : Nat) (mt : Option Nat), cs = [.int .i16 ver, .int .i32 (IntKind.i32.wrap (T.at 0).n), .slice a1 (lT (T.at 1)).length c1, .int .i16 (IntKind.i16.wrap (T.at 2).n), .slice a3 (lT (T.at 3)).length c3, .map mt] ∧ ListAt H (T.at 1) 3 At_OffsetFetchResponseTopic a1 c1 ∧ ListAt H (T.at 3) 4 At_OffsetFetchResponseGroup a3 c3 ∧ KvAt H mt T.u
theorem At_OffsetFetchResponse.ok {ver : Int} {H : Fz} {T : Tr} {cs : List Value} (h : At_OffsetFetchResponse ver H T cs) : cs.length = 6 ∧ ∀ u ∈ cs, u.oneCell' = true := by
  obtain ⟨a1, c1, a3, c3, mt, rfl, h1, h2, h3⟩ := h
  refine ⟨rfl, ?_⟩
  intro u hu
  simp only [List.mem_cons, List.not_mem_nil, or_false] at hu
  rcases hu with rfl | rfl | rfl | rfl | rfl | rfl <;> rfl
theorem At_OffsetFetchResponse.mono (ver : Int) : RMono (At_OffsetFetchResponse ver) := by
  intro H H' T cs hle h
  obtain ⟨a1, c1, a3, c3, mt, rfl, h1, h2, h3⟩ := h
  exact ⟨a1, c1, a3, c3, mt, rfl, h1.mono At_OffsetFetchResponseTopic.mono hle, h2.mono At_OffsetFetchResponseGroup.mono hle, h3.mono hle⟩
end Go.Sx
