import Derived.Test.YtdnbgafbhifhoaaDoorSxTab
import Derived.Test.YtdnbgafbhifhoaaDoorABeginQuorumEpochRequest
import Derived.KernelRfl
set_option linter.unusedVariables false
set_option linter.unusedSimpArgs false
set_option maxRecDepth 100000
set_option maxHeartbeats 20000000
namespace Go.Sx
open Go.Proofs
def At_BeginQuorumEpochRequestTopicPartition (H : Fz) (T : Tr) (cs : List Value) : Prop := ∃ (mt : Option Nat), cs = [.int .i32 (IntKind.i32.wrap (T.at 0).n), ub (T.at 1).s 0, ub (T.at 1).s 1, ub (T.at 1).s 2, ub (T.at 1).s 3, ub (T.at 1).s 4, ub (T.at 1).s 5, ub (T.at 1).s 6, ub (T.at 1).s 7, ub (T.at 1).s 8, ub (T.at 1).s 9, ub (T.at 1).s 10, ub (T.at 1).s 11, ub (T.at 1).s 12, ub (T.at 1).s 13, ub (T.at 1).s 14, ub (T.at 1).s 15, .int .i32 (IntKind.i32.wrap (T.at 2).n), .int .i32 (IntKind.i32.wrap (T.at 3).n), .map mt] ∧ KvAt H mt T.u
theorem At_BeginQuorumEpochRequestTopicPartition.ok {H : Fz} {T : Tr} {cs : List Value} (h : At_BeginQuorumEpochRequestTopicPartition H T cs) : cs.length = 20 ∧ ∀ u ∈ cs, u.oneCell' = true := by
  obtain ⟨mt, rfl, h1⟩ := h
  refine ⟨rfl, ?_⟩
  intro u hu
  simp only [List.mem_cons, List.not_mem_nil, or_false] at hu
  rcases hu with rfl | rfl | rfl | rfl | rfl | rfl | rfl | rfl | rfl | rfl | rfl | rfl | rfl | rfl | rfl | rfl | rfl | rfl | rfl | rfl <;> rfl
theorem At_BeginQuorumEpochRequestTopicPartition.mono : RMono (At_BeginQuorumEpochRequestTopicPartition) := by
  intro H H' T cs hle h
  obtain ⟨mt, rfl, h1⟩ := h
  exact ⟨mt, rfl, h1.mono hle⟩
def At_BeginQuorumEpochRequestTopic (H : Fz) (T : Tr) (cs : List Value) : Prop := ∃ (a1 : Option Addr) (c1 : Nat) (mt : Option Nat), cs = [.string ⟨(T.at 0).s.toArray⟩, .slice a1 (lT (T.at 1)).length c1, .map mt] ∧ ListAt H (T.at 1) 20 At_BeginQuorumEpochRequestTopicPartition a1 c1 ∧ KvAt H mt T.u
theorem At_BeginQuorumEpochRequestTopic.ok {H : Fz} {T : Tr} {cs : List Value} (h : At_BeginQuorumEpochRequestTopic H T cs) : cs.length = 3 ∧ ∀ u ∈ cs, u.oneCell' = true := by
  obtain ⟨a1, c1, mt, rfl, h1, h2⟩ := h
  refine ⟨rfl, ?_⟩
  intro u hu
  simp only [List.mem_cons, List.not_mem_nil, or_false] at hu
  rcases hu with rfl | rfl | rfl <;> rfl
theorem At_BeginQuorumEpochRequestTopic.mono : RMono (At_BeginQuorumEpochRequestTopic) := by
  intro H H' T cs hle h
  obtain ⟨a1, c1, mt, rfl, h1, h2⟩ := h
  exact ⟨a1, c1, mt, rfl, h1.mono At_BeginQuorumEpochRequestTopicPartition.mono hle, h2.mono hle⟩
def At_BeginQuorumEpochRequestLeaderEndpoint (H : Fz) (T : Tr) (cs : List Value) : Prop := ∃ (mt : Option Nat), cs = [.string ⟨(T.at 0).s.toArray⟩, .string ⟨(T.at 1).s.toArray⟩, .int .u16 (IntKind.u16.wrap (T.at 2).n), .map mt] ∧ KvAt H mt T.u
theorem At_BeginQuorumEpochRequestLeaderEndpoint.ok {H : Fz} {T : Tr} {cs : List Value} (h : At_BeginQuorumEpochRequestLeaderEndpoint H T cs) : cs.length = 4 ∧ ∀ u ∈ cs, u.oneCell' = true := by
  obtain ⟨mt, rfl, h1⟩ := h
  refine ⟨rfl, ?_⟩
  intro u hu
  simp only [List.mem_cons, List.not_mem_nil, or_false] at hu
  rcases hu with rfl | rfl | rfl | rfl <;> rfl
theorem At_BeginQuorumEpochRequestLeaderEndpoint.mono : RMono (At_BeginQuorumEpochRequestLeaderEndpoint) := by
  intro H H' T cs hle h
  obtain ⟨mt, rfl, h1⟩ := h
  exact ⟨mt, rfl, h1.mono hle⟩
def At_BeginQuorumEpochRequest (ver : Int) (H : Fz) (T : Tr) (cs : List Value) : Prop := ∃ (p0 : Option Addr) (a2 : Option Addr) (c2 : Nat) (a3 : Option Addr) (c3 : Nat) (mt : Option Nat), cs = [.int .i16 ver, .pointer p0, .int .i32 (IntKind.i32.wrap (T.at 1).n), .slice a2 (lT (T.at 2)).length c2, .slice a3 (lT (T.at 3)).length c3, .map mt] ∧ TextAt H (T.at 0) p0 ∧ ListAt H (T.at 2) 3 At_BeginQuorumEpochRequestTopic a2 c2 ∧ ListAt H (T.at 3) 4 At_BeginQuorumEpochRequestLeaderEndpoint a3 c3 ∧ KvAt H mt T.u
theorem At_BeginQuorumEpochRequest.ok {ver : Int} {H : Fz} {T : Tr} {cs : List Value} (h : At_BeginQuorumEpochRequest ver H T cs) : cs.length = 6 ∧ ∀ u ∈ cs, u.oneCell' = true := by
  obtain ⟨p0, a2, c2, a3, c3, mt, rfl, h1, h2, h3, h4⟩ := h
  refine ⟨rfl, ?_⟩
  intro u hu
  simp only [List.mem_cons, List.not_mem_nil, or_false] at hu
  rcases hu with rfl | rfl | rfl | rfl | rfl | rfl <;> rfl
theorem At_BeginQuorumEpochRequest.mono (ver : Int) : RMono (At_BeginQuorumEpochRequest ver) := by
  intro H H' T cs hle h
  obtain ⟨p0, a2, c2, a3, c3, mt, rfl, h1, h2, h3, h4⟩ := h
  exact ⟨p0, a2, c2, a3, c3, mt, rfl, h1.mono hle, h2.mono At_BeginQuorumEpochRequestTopic.mono hle, h3.mono At_BeginQuorumEpochRequestLeaderEndpoint.mono hle, h4.mono hle⟩
end Go.Sx
