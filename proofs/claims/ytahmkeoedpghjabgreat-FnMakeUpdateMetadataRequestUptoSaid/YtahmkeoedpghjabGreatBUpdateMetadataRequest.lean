import Derived.Test.YtahmkeoedpghjabGreatAUpdateMetadataRequest
import Derived.KernelRfl
set_option linter.unusedVariables false
set_option linter.unusedSimpArgs false
set_option maxRecDepth 100000
set_option maxHeartbeats 20000000
namespace Go.Sx
open Go.Proofs
def At_UpdateMetadataRequestTopicPartition (H : Fz) (T : Tr) (cs : List Value) : Prop := ∃ (a5 : Option Addr) (c5 : Nat) (a7 : Option Addr) (c7 : Nat) (a8 : Option Addr) (c8 : Nat) (mt : Option Nat), cs = [.string ⟨(T.at 0).s.toArray⟩, .int .i32 (IntKind.i32.wrap (T.at 1).n), .int .i32 (IntKind.i32.wrap (T.at 2).n), .int .i32 (IntKind.i32.wrap (T.at 3).n), .int .i32 (IntKind.i32.wrap (T.at 4).n), .slice a5 (lT (T.at 5)).length c5, .int .i32 (IntKind.i32.wrap (T.at 6).n), .slice a7 (lT (T.at 7)).length c7, .slice a8 (lT (T.at 8)).length c8, .map mt] ∧ ListAt H (T.at 5) 1 RI32 a5 c5 ∧ ListAt H (T.at 7) 1 RI32 a7 c7 ∧ ListAt H (T.at 8) 1 RI32 a8 c8 ∧ KvAt H mt T.u
theorem At_UpdateMetadataRequestTopicPartition.ok {H : Fz} {T : Tr} {cs : List Value} (h : At_UpdateMetadataRequestTopicPartition H T cs) : cs.length = 10 ∧ ∀ u ∈ cs, u.oneCell' = true := by
  obtain ⟨a5, c5, a7, c7, a8, c8, mt, rfl, h1, h2, h3, h4⟩ := h
  refine ⟨rfl, ?_⟩
  intro u hu
  simp only [List.mem_cons, List.not_mem_nil, or_false] at hu
  rcases hu with rfl | rfl | rfl | rfl | rfl | rfl | rfl | rfl | rfl | rfl <;> rfl
theorem At_UpdateMetadataRequestTopicPartition.mono : RMono (At_UpdateMetadataRequestTopicPartition) := by
  intro H H' T cs hle h
  obtain ⟨a5, c5, a7, c7, a8, c8, mt, rfl, h1, h2, h3, h4⟩ := h
  exact ⟨a5, c5, a7, c7, a8, c8, mt, rfl, h1.mono RI32.mono hle, h2.mono RI32.mono hle, h3.mono RI32.mono hle, h4.mono hle⟩
def At_UpdateMetadataRequestTopicState (H : Fz) (T : Tr) (cs : List Value) : Prop := ∃ (a2 : Option Addr) (c2 : Nat) (mt : Option Nat), cs = [.string ⟨(T.at 0).s.toArray⟩, ub (T.at 1).s 0, ub (T.at 1).s 1, ub (T.at 1).s 2, ub (T.at 1).s 3, ub (T.at 1).s 4, ub (T.at 1).s 5, ub (T.at 1).s 6, ub (T.at 1).s 7, ub (T.at 1).s 8, ub (T.at 1).s 9, ub (T.at 1).s 10, ub (T.at 1).s 11, ub (T.at 1).s 12, ub (T.at 1).s 13, ub (T.at 1).s 14, ub (T.at 1).s 15, .slice a2 (lT (T.at 2)).length c2, .map mt] ∧ ListAt H (T.at 2) 10 At_UpdateMetadataRequestTopicPartition a2 c2 ∧ KvAt H mt T.u
theorem At_UpdateMetadataRequestTopicState.ok {H : Fz} {T : Tr} {cs : List Value} (h : At_UpdateMetadataRequestTopicState H T cs) : cs.length = 19 ∧ ∀ u ∈ cs, u.oneCell' = true := by
  obtain ⟨a2, c2, mt, rfl, h1, h2⟩ := h
  refine ⟨rfl, ?_⟩
  intro u hu
  simp only [List.mem_cons, List.not_mem_nil, or_false] at hu
  rcases hu with rfl | rfl | rfl | rfl | rfl | rfl | rfl | rfl | rfl | rfl | rfl | rfl | rfl | rfl | rfl | rfl | rfl | rfl | rfl <;> rfl
theorem At_UpdateMetadataRequestTopicState.mono : RMono (At_UpdateMetadataRequestTopicState) := by
  intro H H' T cs hle h
  obtain ⟨a2, c2, mt, rfl, h1, h2⟩ := h
  exact ⟨a2, c2, mt, rfl, h1.mono At_UpdateMetadataRequestTopicPartition.mono hle, h2.mono hle⟩
def At_UpdateMetadataRequestLiveBrokerEndpoint (H : Fz) (T : Tr) (cs : List Value) : Prop := ∃ (mt : Option Nat), cs = [.int .i32 (IntKind.i32.wrap (T.at 0).n), .string ⟨(T.at 1).s.toArray⟩, .string ⟨(T.at 2).s.toArray⟩, .int .i16 (IntKind.i16.wrap (T.at 3).n), .map mt] ∧ KvAt H mt T.u
theorem At_UpdateMetadataRequestLiveBrokerEndpoint.ok {H : Fz} {T : Tr} {cs : List Value} (h : At_UpdateMetadataRequestLiveBrokerEndpoint H T cs) : cs.length = 5 ∧ ∀ u ∈ cs, u.oneCell' = true := by
  obtain ⟨mt, rfl, h1⟩ := h
  refine ⟨rfl, ?_⟩
  intro u hu
  simp only [List.mem_cons, List.not_mem_nil, or_false] at hu
  rcases hu with rfl | rfl | rfl | rfl | rfl <;> rfl
theorem At_UpdateMetadataRequestLiveBrokerEndpoint.mono : RMono (At_UpdateMetadataRequestLiveBrokerEndpoint) := by
  intro H H' T cs hle h
  obtain ⟨mt, rfl, h1⟩ := h
  exact ⟨mt, rfl, h1.mono hle⟩
def At_UpdateMetadataRequestLiveBroker (H : Fz) (T : Tr) (cs : List Value) : Prop := ∃ (a3 : Option Addr) (c3 : Nat) (p4 : Option Addr) (mt : Option Nat), cs = [.int .i32 (IntKind.i32.wrap (T.at 0).n), .string ⟨(T.at 1).s.toArray⟩, .int .i32 (IntKind.i32.wrap (T.at 2).n), .slice a3 (lT (T.at 3)).length c3, .pointer p4, .map mt] ∧ ListAt H (T.at 3) 5 At_UpdateMetadataRequestLiveBrokerEndpoint a3 c3 ∧ TextAt H (T.at 4) p4 ∧ KvAt H mt T.u
theorem At_UpdateMetadataRequestLiveBroker.ok {H : Fz} {T : Tr} {cs : List Value} (h : At_UpdateMetadataRequestLiveBroker H T cs) : cs.length = 6 ∧ ∀ u ∈ cs, u.oneCell' = true := by
  obtain ⟨a3, c3, p4, mt, rfl, h1, h2, h3⟩ := h
  refine ⟨rfl, ?_⟩
  intro u hu
  simp only [List.mem_cons, List.not_mem_nil, or_false] at hu
  rcases hu with rfl | rfl | rfl | rfl | rfl | rfl <;> rfl
theorem At_UpdateMetadataRequestLiveBroker.mono : RMono (At_UpdateMetadataRequestLiveBroker) := by
  intro H H' T cs hle h
  obtain ⟨a3, c3, p4, mt, rfl, h1, h2, h3⟩ := h
  exact ⟨a3, c3, p4, mt, rfl, h1.mono At_UpdateMetadataRequestLiveBrokerEndpoint.mono hle, h2.mono hle, h3.mono hle⟩
def At_UpdateMetadataRequest (ver : Int) (H : Fz) (T : Tr) (cs : List Value) : Prop := ∃ (a4 : Option Addr) (c4 : Nat) (a5 : Option Addr) (c5 : Nat) (a6 : Option Addr) (c6 : Nat) (mt : Option Nat), cs = [.int .i16 ver, .int .i32 (IntKind.i32.wrap (T.at 0).n), .bool (decide ((T.at 1).n % 2 = 1)), .int .i32 (IntKind.i32.wrap (T.at 2).n), .int .i64 (T.at 3).n, .slice a4 (lT (T.at 4)).length c4, .slice a5 (lT (T.at 5)).length c5, .slice a6 (lT (T.at 6)).length c6, .map mt] ∧ ListAt H (T.at 4) 10 At_UpdateMetadataRequestTopicPartition a4 c4 ∧ ListAt H (T.at 5) 19 At_UpdateMetadataRequestTopicState a5 c5 ∧ ListAt H (T.at 6) 6 At_UpdateMetadataRequestLiveBroker a6 c6 ∧ KvAt H mt T.u
theorem At_UpdateMetadataRequest.ok {ver : Int} {H : Fz} {T : Tr} {cs : List Value} (h : At_UpdateMetadataRequest ver H T cs) : cs.length = 9 ∧ ∀ u ∈ cs, u.oneCell' = true := by
  obtain ⟨a4, c4, a5, c5, a6, c6, mt, rfl, h1, h2, h3, h4⟩ := h
  refine ⟨rfl, ?_⟩
  intro u hu
  simp only [List.mem_cons, List.not_mem_nil, or_false] at hu
  rcases hu with rfl | rfl | rfl | rfl | rfl | rfl | rfl | rfl | rfl <;> rfl
theorem At_UpdateMetadataRequest.mono (ver : Int) : RMono (At_UpdateMetadataRequest ver) := by
  intro H H' T cs hle h
  obtain ⟨a4, c4, a5, c5, a6, c6, mt, rfl, h1, h2, h3, h4⟩ := h
  exact ⟨a4, c4, a5, c5, a6, c6, mt, rfl, h1.mono At_UpdateMetadataRequestTopicPartition.mono hle, h2.mono At_UpdateMetadataRequestTopicState.mono hle, h3.mono At_UpdateMetadataRequestLiveBroker.mono hle, h4.mono hle⟩
end Go.Sx
