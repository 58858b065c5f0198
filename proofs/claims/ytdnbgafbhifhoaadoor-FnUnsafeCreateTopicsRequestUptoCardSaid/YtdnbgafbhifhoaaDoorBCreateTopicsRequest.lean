import Derived.Test.YtdnbgafbhifhoaaDoorSxTab
import Derived.Test.YtdnbgafbhifhoaaDoorACreateTopicsRequest
import Derived.KernelRfl
set_option linter.unusedVariables false
set_option linter.unusedSimpArgs false
set_option maxRecDepth 100000
set_option maxHeartbeats 20000000
namespace Go.Sx
open Go.Proofs
def At_CreateTopicsRequestTopicReplicaAssignment (H : Fz) (T : Tr) (cs : List Value) : Prop := ∃ (a1 : Option Addr) (c1 : Nat) (mt : Option Nat), cs = [.int .i32 (IntKind.i32.wrap (T.at 0).n), .slice a1 (lT (T.at 1)).length c1, .map mt] ∧ ListAt H (T.at 1) 1 RI32 a1 c1 ∧ KvAt H mt T.u
theorem At_CreateTopicsRequestTopicReplicaAssignment.ok {H : Fz} {T : Tr} {cs : List Value} (h : At_CreateTopicsRequestTopicReplicaAssignment H T cs) : cs.length = 3 ∧ ∀ u ∈ cs, u.oneCell' = true := by
  obtain ⟨a1, c1, mt, rfl, h1, h2⟩ := h
  refine ⟨rfl, ?_⟩
  intro u hu
  simp only [List.mem_cons, List.not_mem_nil, or_false] at hu
  rcases hu with rfl | rfl | rfl <;> rfl
theorem At_CreateTopicsRequestTopicReplicaAssignment.mono : RMono (At_CreateTopicsRequestTopicReplicaAssignment) := by
  intro H H' T cs hle h
  obtain ⟨a1, c1, mt, rfl, h1, h2⟩ := h
  exact ⟨a1, c1, mt, rfl, h1.mono RI32.mono hle, h2.mono hle⟩
def At_CreateTopicsRequestTopicConfig (H : Fz) (T : Tr) (cs : List Value) : Prop := ∃ (p1 : Option Addr) (mt : Option Nat), cs = [.string ⟨(T.at 0).s.toArray⟩, .pointer p1, .map mt] ∧ TextAt H (T.at 1) p1 ∧ KvAt H mt T.u
theorem At_CreateTopicsRequestTopicConfig.ok {H : Fz} {T : Tr} {cs : List Value} (h : At_CreateTopicsRequestTopicConfig H T cs) : cs.length = 3 ∧ ∀ u ∈ cs, u.oneCell' = true := by
  obtain ⟨p1, mt, rfl, h1, h2⟩ := h
  refine ⟨rfl, ?_⟩
  intro u hu
  simp only [List.mem_cons, List.not_mem_nil, or_false] at hu
  rcases hu with rfl | rfl | rfl <;> rfl
theorem At_CreateTopicsRequestTopicConfig.mono : RMono (At_CreateTopicsRequestTopicConfig) := by
  intro H H' T cs hle h
  obtain ⟨p1, mt, rfl, h1, h2⟩ := h
  exact ⟨p1, mt, rfl, h1.mono hle, h2.mono hle⟩
def At_CreateTopicsRequestTopic (H : Fz) (T : Tr) (cs : List Value) : Prop := ∃ (a3 : Option Addr) (c3 : Nat) (a4 : Option Addr) (c4 : Nat) (mt : Option Nat), cs = [.string ⟨(T.at 0).s.toArray⟩, .int .i32 (IntKind.i32.wrap (T.at 1).n), .int .i16 (IntKind.i16.wrap (T.at 2).n), .slice a3 (lT (T.at 3)).length c3, .slice a4 (lT (T.at 4)).length c4, .map mt] ∧ ListAt H (T.at 3) 3 At_CreateTopicsRequestTopicReplicaAssignment a3 c3 ∧ ListAt H (T.at 4) 3 At_CreateTopicsRequestTopicConfig a4 c4 ∧ KvAt H mt T.u
theorem At_CreateTopicsRequestTopic.ok {H : Fz} {T : Tr} {cs : List Value} (h : At_CreateTopicsRequestTopic H T cs) : cs.length = 6 ∧ ∀ u ∈ cs, u.oneCell' = true := by
  obtain ⟨a3, c3, a4, c4, mt, rfl, h1, h2, h3⟩ := h
  refine ⟨rfl, ?_⟩
  intro u hu
  simp only [List.mem_cons, List.not_mem_nil, or_false] at hu
  rcases hu with rfl | rfl | rfl | rfl | rfl | rfl <;> rfl
theorem At_CreateTopicsRequestTopic.mono : RMono (At_CreateTopicsRequestTopic) := by
  intro H H' T cs hle h
  obtain ⟨a3, c3, a4, c4, mt, rfl, h1, h2, h3⟩ := h
  exact ⟨a3, c3, a4, c4, mt, rfl, h1.mono At_CreateTopicsRequestTopicReplicaAssignment.mono hle, h2.mono At_CreateTopicsRequestTopicConfig.mono hle, h3.mono hle⟩
def At_CreateTopicsRequest (ver : Int) (H : Fz) (T : Tr) (cs : List Value) : Prop := ∃ (a0 : Option Addr) (c0 : Nat) (mt : Option Nat), cs = [.int .i16 ver, .slice a0 (lT (T.at 0)).length c0, .int .i32 (IntKind.i32.wrap (T.at 1).n), .bool (decide ((T.at 2).n % 2 = 1)), .map mt] ∧ ListAt H (T.at 0) 6 At_CreateTopicsRequestTopic a0 c0 ∧ KvAt H mt T.u
theorem At_CreateTopicsRequest.ok {ver : Int} {H : Fz} {T : Tr} {cs : List Value} (h : At_CreateTopicsRequest ver H T cs) : cs.length = 5 ∧ ∀ u ∈ cs, u.oneCell' = true := by
  obtain ⟨a0, c0, mt, rfl, h1, h2⟩ := h
  refine ⟨rfl, ?_⟩
  intro u hu
  simp only [List.mem_cons, List.not_mem_nil, or_false] at hu
  rcases hu with rfl | rfl | rfl | rfl | rfl <;> rfl
theorem At_CreateTopicsRequest.mono (ver : Int) : RMono (At_CreateTopicsRequest ver) := by
  intro H H' T cs hle h
  obtain ⟨a0, c0, mt, rfl, h1, h2⟩ := h
  exact ⟨a0, c0, mt, rfl, h1.mono At_CreateTopicsRequestTopic.mono hle, h2.mono hle⟩
end Go.Sx
