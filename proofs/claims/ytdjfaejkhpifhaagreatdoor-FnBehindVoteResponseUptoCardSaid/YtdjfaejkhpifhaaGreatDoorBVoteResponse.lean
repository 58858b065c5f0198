import Derived.Test.YtdjfaejkhpifhaaGreatDoorSxTab
import Derived.Test.YtdjfaejkhpifhaaGreatDoorAVoteResponse
import Derived.KernelRfl
set_option linter.unusedVariables false
set_option linter.unusedSimpArgs false
set_option maxRecDepth 100000
set_option maxHeartbeats 20000000
namespace Go.Sx
open Go.Proofs
def At_VoteResponseTopicPartition (H : Fz) (T : Tr) (cs : List Value) : Prop := ∃ (mt : Option Nat), cs = [.int .i32 (IntKind.i32.wrap (T.at 0).n), .int .i16 (IntKind.i16.wrap (T.at 1).n), .int .i32 (IntKind.i32.wrap (T.at 2).n), .int .i32 (IntKind.i32.wrap (T.at 3).n), .bool (decide ((T.at 4).n % 2 = 1)), .map mt] ∧ KvAt H mt T.u
theorem At_VoteResponseTopicPartition.ok {H : Fz} {T : Tr} {cs : List Value} (h : At_VoteResponseTopicPartition H T cs) : cs.length = 6 ∧ ∀ u ∈ cs, u.oneCell' = true := by
 obtain ⟨mt, rfl, h1⟩ := h
 refine ⟨rfl, ?_⟩
 intro u hu
 simp only [List.mem_cons, List.not_mem_nil, or_false] at hu
 rcases hu with rfl | rfl | rfl | rfl | rfl | rfl <;> rfl
theorem At_VoteResponseTopicPartition.mono : RMono (At_VoteResponseTopicPartition) := by
 intro H H' T cs hle h
 obtain ⟨mt, rfl, h1⟩ := h
 exact ⟨mt, rfl, h1.mono hle⟩
def At_VoteResponseTopic (H : Fz) (T : Tr) (cs : List Value) : Prop := ∃ (a1 : Option Addr) (c1 : Nat) (mt : Option Nat), cs = [.string ⟨(T.at 0).s.toArray⟩, .slice a1 (lT (T.at 1)).length c1, .map mt] ∧ ListAt H (T.at 1) 6 At_VoteResponseTopicPartition a1 c1 ∧ KvAt H mt T.u
theorem At_VoteResponseTopic.ok {H : Fz} {T : Tr} {cs : List Value} (h : At_VoteResponseTopic H T cs) : cs.length = 3 ∧ ∀ u ∈ cs, u.oneCell' = true := by
 obtain ⟨a1, c1, mt, rfl, h1, h2⟩ := h
 refine ⟨rfl, ?_⟩
 intro u hu
 simp only [List.mem_cons, List.not_mem_nil, or_false] at hu
 rcases hu with rfl | rfl | rfl <;> rfl
theorem At_VoteResponseTopic.mono : RMono (At_VoteResponseTopic) := by
 intro H H' T cs hle h
 obtain ⟨a1, c1, mt, rfl, h1, h2⟩ := h
 exact ⟨a1, c1, mt, rfl, h1.mono At_VoteResponseTopicPartition.mono hle, h2.mono hle⟩
def At_VoteResponseNodeEndpoint (H : Fz) (T : Tr) (cs : List Value) : Prop := ∃ (mt : Option Nat), cs = [.int .i32 (IntKind.i32.wrap (T.at 0).n), .string ⟨(T.at 1).s.toArray⟩, .int .u16 (IntKind.u16.wrap (T.at 2).n), .map mt] ∧ KvAt H mt T.u
theorem At_VoteResponseNodeEndpoint.ok {H : Fz} {T : Tr} {cs : List Value} (h : At_VoteResponseNodeEndpoint H T cs) : cs.length = 4 ∧ ∀ u ∈ cs, u.oneCell' = true := by
 obtain ⟨mt, rfl, h1⟩ := h
 refine ⟨rfl, ?_⟩
 intro u hu
 simp only [List.mem_cons, List.not_mem_nil, or_false] at hu
 rcases hu with rfl | rfl | rfl | rfl <;> rfl
theorem At_VoteResponseNodeEndpoint.mono : RMono (At_VoteResponseNodeEndpoint) := by
 intro H H' T cs hle h
 obtain ⟨mt, rfl, h1⟩ := h
 exact ⟨mt, rfl, h1.mono hle⟩
def At_VoteResponse (ver : Int) (H : Fz) (T : Tr) (cs : List Value) : Prop := ∃ (a1 : Option Addr) (c1 : Nat) (a2 : Option Addr) (c2 : Nat) (mt : Option Nat), cs = [.int .i16 ver, .int .i16 (IntKind.i16.wrap (T.at 0).n), .slice a1 (lT (T.at 1)).length c1, .slice a2 (lT (T.at 2)).length c2, .map mt] ∧ ListAt H (T.at 1) 3 At_VoteResponseTopic a1 c1 ∧ ListAt H (T.at 2) 4 At_VoteResponseNodeEndpoint a2 c2 ∧ KvAt H mt T.u
theorem At_VoteResponse.ok {ver : Int} {H : Fz} {T : Tr} {cs : List Value} (h : At_VoteResponse ver H T cs) : cs.length = 5 ∧ ∀ u ∈ cs, u.oneCell' = true := by
 obtain ⟨a1, c1, a2, c2, mt, rfl, h1, h2, h3⟩ := h
 refine ⟨rfl, ?_⟩
 intro u hu
 simp only [List.mem_cons, List.not_mem_nil, or_false] at hu
 rcases hu with rfl | rfl | rfl | rfl | rfl <;> rfl
theorem At_VoteResponse.mono (ver : Int) : RMono (At_VoteResponse ver) := by
 intro H H' T cs hle h
 obtain ⟨a1, c1, a2, c2, mt, rfl, h1, h2, h3⟩ := h
 exact ⟨a1, c1, a2, c2, mt, rfl, h1.mono At_VoteResponseTopic.mono hle, h2.mono At_VoteResponseNodeEndpoint.mono hle, h3.mono hle⟩
end Go.Sx
