import Derived.Test.YtahmkeoedpghjaaAReadShareGroupStateSummaryRequest
import Derived.KernelRfl
set_option linter.unusedVariables false
set_option linter.unusedSimpArgs false
set_option maxRecDepth 100000
set_option maxHeartbeats 20000000
namespace Go.Sx
open Go.Proofs
def At_ReadShareGroupStateSummaryRequestTopicPartition (H : Fz) (T : Tr) (cs : List Value) : Prop := ∃ (mt : Option Nat), cs = [.int .i32 (IntKind.i32.wrap (T.at 0).n), .int .i32 (IntKind.i32.wrap (T.at 1).n), .map mt] ∧ KvAt H mt T.u
theorem At_ReadShareGroupStateSummaryRequestTopicPartition.ok {H : Fz} {T : Tr} {cs : List Value} (h : At_ReadShareGroupStateSummaryRequestTopicPartition H T cs) : cs.length = 3 ∧ ∀ u ∈ cs, u.oneCell' = true := by
  obtain ⟨mt, rfl, h1⟩ := h
  refine ⟨rfl, ?_⟩
  intro u hu
  simp only [List.mem_cons, List.not_mem_nil, or_false] at hu
  rcases hu with rfl | rfl | rfl <;> rfl
theorem At_ReadShareGroupStateSummaryRequestTopicPartition.mono : RMono (At_ReadShareGroupStateSummaryRequestTopicPartition) := by
  intro H H' T cs hle h
  obtain ⟨mt, rfl, h1⟩ := h
  exact ⟨mt, rfl, h1.mono hle⟩
def At_ReadShareGroupStateSummaryRequestTopic (H : Fz) (T : Tr) (cs : List Value) : Prop := ∃ (a1 : Option Addr) (c1 : Nat) (mt : Option Nat), cs = [ub (T.at 0).s 0, ub (T.at 0).s 1, ub (T.at 0).s 2, ub (T.at 0).s 3, ub (T.at 0).s 4, ub (T.at 0).s 5, ub (T.at 0).s 6, ub (T.at 0).s 7, ub (T.at 0).s 8, ub (T.at 0).s 9, ub (T.at 0).s 10, ub (T.at 0).s 11, ub (T.at 0).s 12, ub (T.at 0).s 13, ub (T.at 0).s 14, ub (T.at 0).s 15, .slice a1 (lT (T.at 1)).length c1, .map mt] ∧ ListAt H (T.at 1) 3 At_ReadShareGroupStateSummaryRequestTopicPartition a1 c1 ∧ KvAt H mt T.u
theorem At_ReadShareGroupStateSummaryRequestTopic.ok {H : Fz} {T : Tr} {cs : List Value} (h : At_ReadShareGroupStateSummaryRequestTopic H T cs) : cs.length = 18 ∧ ∀ u ∈ cs, u.oneCell' = true := by
  obtain ⟨a1, c1, mt, rfl, h1, h2⟩ := h
  refine ⟨rfl, ?_⟩
  intro u hu
  simp only [List.mem_cons, List.not_mem_nil, or_false] at hu
  rcases hu with rfl | rfl | rfl | rfl | rfl | rfl | rfl | rfl | rfl | rfl | rfl | rfl | rfl | rfl | rfl | rfl | rfl | rfl <;> rfl
theorem At_ReadShareGroupStateSummaryRequestTopic.mono : RMono (At_ReadShareGroupStateSummaryRequestTopic) := by
  intro H H' T cs hle h
  obtain ⟨a1, c1, mt, rfl, h1, h2⟩ := h
  exact ⟨a1, c1, mt, rfl, h1.mono At_ReadShareGroupStateSummaryRequestTopicPartition.mono hle, h2.mono hle⟩
def At_ReadShareGroupStateSummaryRequest (ver : Int) (H : Fz) (T : Tr) (cs : List Value) : Prop := ∃ (a1 : Option Addr) (c1 : Nat) (mt : Option Nat), cs = [.int .i16 ver, .string ⟨(T.at 0).s.toArray⟩, .slice a1 (lT (T.at 1)).length c1, .map mt] ∧ ListAt H (T.at 1) 18 At_ReadShareGroupStateSummaryRequestTopic a1 c1 ∧ KvAt H mt T.u
theorem At_ReadShareGroupStateSummaryRequest.ok {ver : Int} {H : Fz} {T : Tr} {cs : List Value} (h : At_ReadShareGroupStateSummaryRequest ver H T cs) : cs.length = 4 ∧ ∀ u ∈ cs, u.oneCell' = true := by
  obtain ⟨a1, c1, mt, rfl, h1, h2⟩ := h
  refine ⟨rfl, ?_⟩
  intro u hu
  simp only [List.mem_cons, List.not_mem_nil, or_false] at hu
  rcases hu with rfl | rfl | rfl | rfl <;> rfl
theorem At_ReadShareGroupStateSummaryRequest.mono (ver : Int) : RMono (At_ReadShareGroupStateSummaryRequest ver) := by
  intro H H' T cs hle h
  obtain ⟨a1, c1, mt, rfl, h1, h2⟩ := h
  exact ⟨a1, c1, mt, rfl, h1.mono At_ReadShareGroupStateSummaryRequestTopic.mono hle, h2.mono hle⟩
end Go.Sx
