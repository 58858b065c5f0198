import Derived.Test.YthgkgbaggjongaaGreatDoorSxTab
import Derived.Test.YthgkgbaggjongaaGreatDoorAAlterPartitionRequest
import Derived.KernelRfl
set_option linter.unusedVariables false
set_option linter.unusedSimpArgs false
set_option maxRecDepth 100000
set_option maxHeartbeats 20000000
namespace Go.Sx
open Go.Proofs
def At_AlterPartitionRequestTopicPartitionNewEpochISR (H : Fz) (T : Tr) (cs : List Value) : Prop := ∃ (mt : Option Nat), cs = [.int .i32 (IntKind.i32.wrap (T.at 0).n), .int .i64 (T.at 1).n, .map mt] ∧ KvAt H mt T.u
theorem At_AlterPartitionRequestTopicPartitionNewEpochISR.ok {H : Fz} {T : Tr} {cs : List Value} (h : At_AlterPartitionRequestTopicPartitionNewEpochISR H T cs) : cs.length = 3 ∧ ∀ u ∈ cs, u.oneCell' = true := by
 obtain ⟨mt, rfl, h1⟩ := h
 refine ⟨rfl, ?_⟩
 intro u hu
 simp only [List.mem_cons, List.not_mem_nil, or_false] at hu
 rcases hu with rfl | rfl | rfl <;> rfl
theorem At_AlterPartitionRequestTopicPartitionNewEpochISR.mono : RMono (At_AlterPartitionRequestTopicPartitionNewEpochISR) := by
 intro H H' T cs hle h
 obtain ⟨mt, rfl, h1⟩ := h
 exact ⟨mt, rfl, h1.mono hle⟩
def At_AlterPartitionRequestTopicPartition (H : Fz) (T : Tr) (cs : List Value) : Prop := ∃ (a2 : Option Addr) (c2 : Nat) (a3 : Option Addr) (c3 : Nat) (mt : Option Nat), cs = [.int .i32 (IntKind.i32.wrap (T.at 0).n), .int .i32 (IntKind.i32.wrap (T.at 1).n), .slice a2 (lT (T.at 2)).length c2, .slice a3 (lT (T.at 3)).length c3, .int .i8 (IntKind.i8.wrap (T.at 4).n), .int .i32 (IntKind.i32.wrap (T.at 5).n), .map mt] ∧ ListAt H (T.at 2) 1 RI32 a2 c2 ∧ ListAt H (T.at 3) 3 At_AlterPartitionRequestTopicPartitionNewEpochISR a3 c3 ∧ KvAt H mt T.u
theorem At_AlterPartitionRequestTopicPartition.ok {H : Fz} {T : Tr} {cs : List Value} (h : At_AlterPartitionRequestTopicPartition H T cs) : cs.length = 7 ∧ ∀ u ∈ cs, u.oneCell' = true := by
 obtain ⟨a2, c2, a3, c3, mt, rfl, h1, h2, h3⟩ := h
 refine ⟨rfl, ?_⟩
 intro u hu
 simp only [List.mem_cons, List.not_mem_nil, or_false] at hu
 rcases hu with rfl | rfl | rfl | rfl | rfl | rfl | rfl <;> rfl
theorem At_AlterPartitionRequestTopicPartition.mono : RMono (At_AlterPartitionRequestTopicPartition) := by
 intro H H' T cs hle h
 obtain ⟨a2, c2, a3, c3, mt, rfl, h1, h2, h3⟩ := h
 exact ⟨a2, c2, a3, c3, mt, rfl, h1.mono RI32.mono hle, h2.mono At_AlterPartitionRequestTopicPartitionNewEpochISR.mono hle, h3.mono hle⟩
def At_AlterPartitionRequestTopic (H : Fz) (T : Tr) (cs : List Value) : Prop := ∃ (a2 : Option Addr) (c2 : Nat) (mt : Option Nat), cs = [.string ⟨(T.at 0).s.toArray⟩, ub (T.at 1).s 0, ub (T.at 1).s 1, ub (T.at 1).s 2, ub (T.at 1).s 3, ub (T.at 1).s 4, ub (T.at 1).s 5, ub (T.at 1).s 6, ub (T.at 1).s 7, ub (T.at 1).s 8, ub (T.at 1).s 9, ub (T.at 1).s 10, ub (T.at 1).s 11, ub (T.at 1).s 12, ub (T.at 1).s 13, ub (T.at 1).s 14, ub (T.at 1).s 15, .slice a2 (lT (T.at 2)).length c2, .map mt] ∧ ListAt H (T.at 2) 7 At_AlterPartitionRequestTopicPartition a2 c2 ∧ KvAt H mt T.u
theorem At_AlterPartitionRequestTopic.ok {H : Fz} {T : Tr} {cs : List Value} (h : At_AlterPartitionRequestTopic H T cs) : cs.length = 19 ∧ ∀ u ∈ cs, u.oneCell' = true := by
 obtain ⟨a2, c2, mt, rfl, h1, h2⟩ := h
 refine ⟨rfl, ?_⟩
 intro u hu
 simp only [List.mem_cons, List.not_mem_nil, or_false] at hu
 rcases hu with rfl | rfl | rfl | rfl | rfl | rfl | rfl | rfl | rfl | rfl | rfl | rfl | rfl | rfl | rfl | rfl | rfl | rfl | rfl <;> rfl
theorem At_AlterPartitionRequestTopic.mono : RMono (At_AlterPartitionRequestTopic) := by
 intro H H' T cs hle h
 obtain ⟨a2, c2, mt, rfl, h1, h2⟩ := h
 exact ⟨a2, c2, mt, rfl, h1.mono At_AlterPartitionRequestTopicPartition.mono hle, h2.mono hle⟩
def At_AlterPartitionRequest (ver : Int) (H : Fz) (T : Tr) (cs : List Value) : Prop := ∃ (a2 : Option Addr) (c2 : Nat) (mt : Option Nat), cs = [.int .i16 ver, .int .i32 (IntKind.i32.wrap (T.at 0).n), .int .i64 (T.at 1).n, .slice a2 (lT (T.at 2)).length c2, .map mt] ∧ ListAt H (T.at 2) 19 At_AlterPartitionRequestTopic a2 c2 ∧ KvAt H mt T.u
theorem At_AlterPartitionRequest.ok {ver : Int} {H : Fz} {T : Tr} {cs : List Value} (h : At_AlterPartitionRequest ver H T cs) : cs.length = 5 ∧ ∀ u ∈ cs, u.oneCell' = true := by
 obtain ⟨a2, c2, mt, rfl, h1, h2⟩ := h
 refine ⟨rfl, ?_⟩
 intro u hu
 simp only [List.mem_cons, List.not_mem_nil, or_false] at hu
 rcases hu with rfl | rfl | rfl | rfl | rfl <;> rfl
theorem At_AlterPartitionRequest.mono (ver : Int) : RMono (At_AlterPartitionRequest ver) := by
 intro H H' T cs hle h
 obtain ⟨a2, c2, mt, rfl, h1, h2⟩ := h
 exact ⟨a2, c2, mt, rfl, h1.mono At_AlterPartitionRequestTopic.mono hle, h2.mono hle⟩
end Go.Sx
