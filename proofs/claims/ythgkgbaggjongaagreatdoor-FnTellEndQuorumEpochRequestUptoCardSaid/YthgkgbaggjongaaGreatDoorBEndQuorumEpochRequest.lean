import Derived.Test.YthgkgbaggjongaaGreatDoorSxTab
import Derived.Test.YthgkgbaggjongaaGreatDoorAEndQuorumEpochRequest
import Derived.KernelRfl
set_option linter.unusedVariables false
set_option linter.unusedSimpArgs false
set_option maxRecDepth 100000
set_option maxHeartbeats 20000000
namespace Go.Sx
open Go.Proofs
def At_EndQuorumEpochRequestTopicPartitionPreferredCandidate (H : Fz) (T : Tr) (cs : List Value) : Prop := ∃ (mt : Option Nat), cs = [.int .i32 (IntKind.i32.wrap (T.at 0).n), ub (T.at 1).s 0, ub (T.at 1).s 1, ub (T.at 1).s 2, ub (T.at 1).s 3, ub (T.at 1).s 4, ub (T.at 1).s 5, ub (T.at 1).s 6, ub (T.at 1).s 7, ub (T.at 1).s 8, ub (T.at 1).s 9, ub (T.at 1).s 10, ub (T.at 1).s 11, ub (T.at 1).s 12, ub (T.at 1).s 13, ub (T.at 1).s 14, ub (T.at 1).s 15, .map mt] ∧ KvAt H mt T.u
theorem At_EndQuorumEpochRequestTopicPartitionPreferredCandidate.ok {H : Fz} {T : Tr} {cs : List Value} (h : At_EndQuorumEpochRequestTopicPartitionPreferredCandidate H T cs) : cs.length = 18 ∧ ∀ u ∈ cs, u.oneCell' = true := by
 obtain ⟨mt, rfl, h1⟩ := h
 refine ⟨rfl, ?_⟩
 intro u hu
 simp only [List.mem_cons, List.not_mem_nil, or_false] at hu
 rcases hu with rfl | rfl | rfl | rfl | rfl | rfl | rfl | rfl | rfl | rfl | rfl | rfl | rfl | rfl | rfl | rfl | rfl | rfl <;> rfl
theorem At_EndQuorumEpochRequestTopicPartitionPreferredCandidate.mono : RMono (At_EndQuorumEpochRequestTopicPartitionPreferredCandidate) := by
 intro H H' T cs hle h
 obtain ⟨mt, rfl, h1⟩ := h
 exact ⟨mt, rfl, h1.mono hle⟩
def At_EndQuorumEpochRequestTopicPartition (H : Fz) (T : Tr) (cs : List Value) : Prop := ∃ (a3 : Option Addr) (c3 : Nat) (a4 : Option Addr) (c4 : Nat) (mt : Option Nat), cs = [.int .i32 (IntKind.i32.wrap (T.at 0).n), .int .i32 (IntKind.i32.wrap (T.at 1).n), .int .i32 (IntKind.i32.wrap (T.at 2).n), .slice a3 (lT (T.at 3)).length c3, .slice a4 (lT (T.at 4)).length c4, .map mt] ∧ ListAt H (T.at 3) 1 RI32 a3 c3 ∧ ListAt H (T.at 4) 18 At_EndQuorumEpochRequestTopicPartitionPreferredCandidate a4 c4 ∧ KvAt H mt T.u
theorem At_EndQuorumEpochRequestTopicPartition.ok {H : Fz} {T : Tr} {cs : List Value} (h : At_EndQuorumEpochRequestTopicPartition H T cs) : cs.length = 6 ∧ ∀ u ∈ cs, u.oneCell' = true := by
 obtain ⟨a3, c3, a4, c4, mt, rfl, h1, h2, h3⟩ := h
 refine ⟨rfl, ?_⟩
 intro u hu
 simp only [List.mem_cons, List.not_mem_nil, or_false] at hu
 rcases hu with rfl | rfl | rfl | rfl | rfl | rfl <;> rfl
theorem At_EndQuorumEpochRequestTopicPartition.mono : RMono (At_EndQuorumEpochRequestTopicPartition) := by
 intro H H' T cs hle h
 obtain ⟨a3, c3, a4, c4, mt, rfl, h1, h2, h3⟩ := h
 exact ⟨a3, c3, a4, c4, mt, rfl, h1.mono RI32.mono hle, h2.mono At_EndQuorumEpochRequestTopicPartitionPreferredCandidate.mono hle, h3.mono hle⟩
def At_EndQuorumEpochRequestTopic (H : Fz) (T : Tr) (cs : List Value) : Prop := ∃ (a1 : Option Addr) (c1 : Nat) (mt : Option Nat), cs = [.string ⟨(T.at 0).s.toArray⟩, .slice a1 (lT (T.at 1)).length c1, .map mt] ∧ ListAt H (T.at 1) 6 At_EndQuorumEpochRequestTopicPartition a1 c1 ∧ KvAt H mt T.u
theorem At_EndQuorumEpochRequestTopic.ok {H : Fz} {T : Tr} {cs : List Value} (h : At_EndQuorumEpochRequestTopic H T cs) : cs.length = 3 ∧ ∀ u ∈ cs, u.oneCell' = true := by
 obtain ⟨a1, c1, mt, rfl, h1, h2⟩ := h
 refine ⟨rfl, ?_⟩
 intro u hu
 simp only [List.mem_cons, List.not_mem_nil, or_false] at hu
 rcases hu with rfl | rfl | rfl <;> rfl
theorem At_EndQuorumEpochRequestTopic.mono : RMono (At_EndQuorumEpochRequestTopic) := by
 intro H H' T cs hle h
 obtain ⟨a1, c1, mt, rfl, h1, h2⟩ := h
 exact ⟨a1, c1, mt, rfl, h1.mono At_EndQuorumEpochRequestTopicPartition.mono hle, h2.mono hle⟩
def At_EndQuorumEpochRequestLeaderEndpoint (H : Fz) (T : Tr) (cs : List Value) : Prop := ∃ (mt : Option Nat), cs = [.string ⟨(T.at 0).s.toArray⟩, .string ⟨(T.at 1).s.toArray⟩, .int .u16 (IntKind.u16.wrap (T.at 2).n), .map mt] ∧ KvAt H mt T.u
theorem At_EndQuorumEpochRequestLeaderEndpoint.ok {H : Fz} {T : Tr} {cs : List Value} (h : At_EndQuorumEpochRequestLeaderEndpoint H T cs) : cs.length = 4 ∧ ∀ u ∈ cs, u.oneCell' = true := by
 obtain ⟨mt, rfl, h1⟩ := h
 refine ⟨rfl, ?_⟩
 intro u hu
 simp only [List.mem_cons, List.not_mem_nil, or_false] at hu
 rcases hu with rfl | rfl | rfl | rfl <;> rfl
theorem At_EndQuorumEpochRequestLeaderEndpoint.mono : RMono (At_EndQuorumEpochRequestLeaderEndpoint) := by
 intro H H' T cs hle h
 obtain ⟨mt, rfl, h1⟩ := h
 exact ⟨mt, rfl, h1.mono hle⟩
def At_EndQuorumEpochRequest (ver : Int) (H : Fz) (T : Tr) (cs : List Value) : Prop := ∃ (p0 : Option Addr) (a1 : Option Addr) (c1 : Nat) (a2 : Option Addr) (c2 : Nat) (mt : Option Nat), cs = [.int .i16 ver, .pointer p0, .slice a1 (lT (T.at 1)).length c1, .slice a2 (lT (T.at 2)).length c2, .map mt] ∧ TextAt H (T.at 0) p0 ∧ ListAt H (T.at 1) 3 At_EndQuorumEpochRequestTopic a1 c1 ∧ ListAt H (T.at 2) 4 At_EndQuorumEpochRequestLeaderEndpoint a2 c2 ∧ KvAt H mt T.u
theorem At_EndQuorumEpochRequest.ok {ver : Int} {H : Fz} {T : Tr} {cs : List Value} (h : At_EndQuorumEpochRequest ver H T cs) : cs.length = 5 ∧ ∀ u ∈ cs, u.oneCell' = true := by
 obtain ⟨p0, a1, c1, a2, c2, mt, rfl, h1, h2, h3, h4⟩ := h
 refine ⟨rfl, ?_⟩
 intro u hu
 simp only [List.mem_cons, List.not_mem_nil, or_false] at hu
 rcases hu with rfl | rfl | rfl | rfl | rfl <;> rfl
theorem At_EndQuorumEpochRequest.mono (ver : Int) : RMono (At_EndQuorumEpochRequest ver) := by
 intro H H' T cs hle h
 obtain ⟨p0, a1, c1, a2, c2, mt, rfl, h1, h2, h3, h4⟩ := h
 exact ⟨p0, a1, c1, a2, c2, mt, rfl, h1.mono hle, h2.mono At_EndQuorumEpochRequestTopic.mono hle, h3.mono At_EndQuorumEpochRequestLeaderEndpoint.mono hle, h4.mono hle⟩
end Go.Sx
