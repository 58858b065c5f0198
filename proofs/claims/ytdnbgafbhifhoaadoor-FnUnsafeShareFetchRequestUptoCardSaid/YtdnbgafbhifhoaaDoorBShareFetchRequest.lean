import Derived.Test.YtdnbgafbhifhoaaDoorSxTab
import Derived.Test.YtdnbgafbhifhoaaDoorAShareFetchRequest
import Derived.KernelRfl
set_option linter.unusedVariables false
set_option linter.unusedSimpArgs false
set_option maxRecDepth 100000
set_option maxHeartbeats 20000000
namespace Go.Sx
open Go.Proofs
def At_ShareFetchRequestTopicPartitionAcknowledgementBatch (H : Fz) (T : Tr) (cs : List Value) : Prop := ∃ (a2 : Option Addr) (c2 : Nat) (mt : Option Nat), cs = [.int .i64 (T.at 0).n, .int .i64 (T.at 1).n, .slice a2 (lT (T.at 2)).length c2, .map mt] ∧ ListAt H (T.at 2) 1 RI8 a2 c2 ∧ KvAt H mt T.u
theorem At_ShareFetchRequestTopicPartitionAcknowledgementBatch.ok {H : Fz} {T : Tr} {cs : List Value} (h : At_ShareFetchRequestTopicPartitionAcknowledgementBatch H T cs) : cs.length = 4 ∧ ∀ u ∈ cs, u.oneCell' = true := by
  obtain ⟨a2, c2, mt, rfl, h1, h2⟩ := h
  refine ⟨rfl, ?_⟩
  intro u hu
  simp only [List.mem_cons, List.not_mem_nil, or_false] at hu
  rcases hu with rfl | rfl | rfl | rfl <;> rfl
theorem At_ShareFetchRequestTopicPartitionAcknowledgementBatch.mono : RMono (At_ShareFetchRequestTopicPartitionAcknowledgementBatch) := by
  intro H H' T cs hle h
  obtain ⟨a2, c2, mt, rfl, h1, h2⟩ := h
  exact ⟨a2, c2, mt, rfl, h1.mono RI8.mono hle, h2.mono hle⟩
def At_ShareFetchRequestTopicPartition (H : Fz) (T : Tr) (cs : List Value) : Prop := ∃ (a2 : Option Addr) (c2 : Nat) (mt : Option Nat), cs = [.int .i32 (IntKind.i32.wrap (T.at 0).n), .int .i32 (IntKind.i32.wrap (T.at 1).n), .slice a2 (lT (T.at 2)).length c2, .map mt] ∧ ListAt H (T.at 2) 4 At_ShareFetchRequestTopicPartitionAcknowledgementBatch a2 c2 ∧ KvAt H mt T.u
theorem At_ShareFetchRequestTopicPartition.ok {H : Fz} {T : Tr} {cs : List Value} (h : At_ShareFetchRequestTopicPartition H T cs) : cs.length = 4 ∧ ∀ u ∈ cs, u.oneCell' = true := by
  obtain ⟨a2, c2, mt, rfl, h1, h2⟩ := h
  refine ⟨rfl, ?_⟩
  intro u hu
  simp only [List.mem_cons, List.not_mem_nil, or_false] at hu
  rcases hu with rfl | rfl | rfl | rfl <;> rfl
theorem At_ShareFetchRequestTopicPartition.mono : RMono (At_ShareFetchRequestTopicPartition) := by
  intro H H' T cs hle h
  obtain ⟨a2, c2, mt, rfl, h1, h2⟩ := h
  exact ⟨a2, c2, mt, rfl, h1.mono At_ShareFetchRequestTopicPartitionAcknowledgementBatch.mono hle, h2.mono hle⟩
def At_ShareFetchRequestTopic (H : Fz) (T : Tr) (cs : List Value) : Prop := ∃ (a1 : Option Addr) (c1 : Nat) (mt : Option Nat), cs = [ub (T.at 0).s 0, ub (T.at 0).s 1, ub (T.at 0).s 2, ub (T.at 0).s 3, ub (T.at 0).s 4, ub (T.at 0).s 5, ub (T.at 0).s 6, ub (T.at 0).s 7, ub (T.at 0).s 8, ub (T.at 0).s 9, ub (T.at 0).s 10, ub (T.at 0).s 11, ub (T.at 0).s 12, ub (T.at 0).s 13, ub (T.at 0).s 14, ub (T.at 0).s 15, .slice a1 (lT (T.at 1)).length c1, .map mt] ∧ ListAt H (T.at 1) 4 At_ShareFetchRequestTopicPartition a1 c1 ∧ KvAt H mt T.u
theorem At_ShareFetchRequestTopic.ok {H : Fz} {T : Tr} {cs : List Value} (h : At_ShareFetchRequestTopic H T cs) : cs.length = 18 ∧ ∀ u ∈ cs, u.oneCell' = true := by
  obtain ⟨a1, c1, mt, rfl, h1, h2⟩ := h
  refine ⟨rfl, ?_⟩
  intro u hu
  simp only [List.mem_cons, List.not_mem_nil, or_false] at hu
  rcases hu with rfl | rfl | rfl | rfl | rfl | rfl | rfl | rfl | rfl | rfl | rfl | rfl | rfl | rfl | rfl | rfl | rfl | rfl <;> rfl
theorem At_ShareFetchRequestTopic.mono : RMono (At_ShareFetchRequestTopic) := by
  intro H H' T cs hle h
  obtain ⟨a1, c1, mt, rfl, h1, h2⟩ := h
  exact ⟨a1, c1, mt, rfl, h1.mono At_ShareFetchRequestTopicPartition.mono hle, h2.mono hle⟩
def At_ShareFetchRequestForgottenTopicsData (H : Fz) (T : Tr) (cs : List Value) : Prop := ∃ (a1 : Option Addr) (c1 : Nat) (mt : Option Nat), cs = [ub (T.at 0).s 0, ub (T.at 0).s 1, ub (T.at 0).s 2, ub (T.at 0).s 3, ub (T.at 0).s 4, ub (T.at 0).s 5, ub (T.at 0).s 6, ub (T.at 0).s 7, ub (T.at 0).s 8, ub (T.at 0).s 9, ub (T.at 0).s 10, ub (T.at 0).s 11, ub (T.at 0).s 12, ub (T.at 0).s 13, ub (T.at 0).s 14, ub (T.at 0).s 15, .slice a1 (lT (T.at 1)).length c1, .map mt] ∧ ListAt H (T.at 1) 1 RI32 a1 c1 ∧ KvAt H mt T.u
theorem At_ShareFetchRequestForgottenTopicsData.ok {H : Fz} {T : Tr} {cs : List Value} (h : At_ShareFetchRequestForgottenTopicsData H T cs) : cs.length = 18 ∧ ∀ u ∈ cs, u.oneCell' = true := by
  obtain ⟨a1, c1, mt, rfl, h1, h2⟩ := h
  refine ⟨rfl, ?_⟩
  intro u hu
  simp only [List.mem_cons, List.not_mem_nil, or_false] at hu
  rcases hu with rfl | rfl | rfl | rfl | rfl | rfl | rfl | rfl | rfl | rfl | rfl | rfl | rfl | rfl | rfl | rfl | rfl | rfl <;> rfl
theorem At_ShareFetchRequestForgottenTopicsData.mono : RMono (At_ShareFetchRequestForgottenTopicsData) := by
  intro H H' T cs hle h
  obtain ⟨a1, c1, mt, rfl, h1, h2⟩ := h
  exact ⟨a1, c1, mt, rfl, h1.mono RI32.mono hle, h2.mono hle⟩
def At_ShareFetchRequest (ver : Int) (H : Fz) (T : Tr) (cs : List Value) : Prop := ∃ (p0 : Option Addr) (p1 : Option Addr) (a10 : Option Addr) (c10 : Nat) (a11 : Option Addr) (c11 : Nat) (mt : Option Nat), cs = [.int .i16 ver, .pointer p0, .pointer p1, .int .i32 (IntKind.i32.wrap (T.at 2).n), .int .i32 (IntKind.i32.wrap (T.at 3).n), .int .i32 (IntKind.i32.wrap (T.at 4).n), .int .i32 (IntKind.i32.wrap (T.at 5).n), .int .i32 (IntKind.i32.wrap (T.at 6).n), .int .i32 (IntKind.i32.wrap (T.at 7).n), .int .i8 (IntKind.i8.wrap (T.at 8).n), .bool (decide ((T.at 9).n % 2 = 1)), .slice a10 (lT (T.at 10)).length c10, .slice a11 (lT (T.at 11)).length c11, .map mt] ∧ TextAt H (T.at 0) p0 ∧ TextAt H (T.at 1) p1 ∧ ListAt H (T.at 10) 18 At_ShareFetchRequestTopic a10 c10 ∧ ListAt H (T.at 11) 18 At_ShareFetchRequestForgottenTopicsData a11 c11 ∧ KvAt H mt T.u
theorem At_ShareFetchRequest.ok {ver : Int} {H : Fz} {T : Tr} {cs : List Value} (h : At_ShareFetchRequest ver H T cs) : cs.length = 14 ∧ ∀ u ∈ cs, u.oneCell' = true := by
  obtain ⟨p0, p1, a10, c10, a11, c11, mt, rfl, h1, h2, h3, h4, h5⟩ := h
  refine ⟨rfl, ?_⟩
  intro u hu
  simp only [List.mem_cons, List.not_mem_nil, or_false] at hu
  rcases hu with rfl | rfl | rfl | rfl | rfl | rfl | rfl | rfl | rfl | rfl | rfl | rfl | rfl | rfl <;> rfl
theorem At_ShareFetchRequest.mono (ver : Int) : RMono (At_ShareFetchRequest ver) := by
  intro H H' T cs hle h
  obtain ⟨p0, p1, a10, c10, a11, c11, mt, rfl, h1, h2, h3, h4, h5⟩ := h
  exact ⟨p0, p1, a10, c10, a11, c11, mt, rfl, h1.mono hle, h2.mono hle, h3.mono At_ShareFetchRequestTopic.mono hle, h4.mono At_ShareFetchRequestForgottenTopicsData.mono hle, h5.mono hle⟩
end Go.Sx
