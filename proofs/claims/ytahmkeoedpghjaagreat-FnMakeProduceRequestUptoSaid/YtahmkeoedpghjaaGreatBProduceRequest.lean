import Derived.Test.YtahmkeoedpghjaaGreatAProduceRequest
import Derived.KernelRfl
set_option linter.unusedVariables false
set_option linter.unusedSimpArgs false
set_option maxRecDepth 100000
set_option maxHeartbeats 20000000
namespace Go.Sx
open Go.Proofs
def At_ProduceRequestTopicPartition (H : Fz) (T : Tr) (cs : List Value) : Prop := ∃ (a1 : Option Addr) (c1 : Nat) (mt : Option Nat), cs = [.int .i32 (IntKind.i32.wrap (T.at 0).n), .slice a1 (sT (T.at 1)).length c1, .map mt] ∧ OctAt H (T.at 1) a1 c1 ∧ KvAt H mt T.u
theorem At_ProduceRequestTopicPartition.ok {H : Fz} {T : Tr} {cs : List Value} (h : At_ProduceRequestTopicPartition H T cs) : cs.length = 3 ∧ ∀ u ∈ cs, u.oneCell' = true := by
  obtain ⟨a1, c1, mt, rfl, h1, h2⟩ := h
  refine ⟨rfl, ?_⟩
  intro u hu
  simp only [List.mem_cons, List.not_mem_nil, or_false] at hu
  rcases hu with rfl | rfl | rfl <;> rfl
theorem At_ProduceRequestTopicPartition.mono : RMono (At_ProduceRequestTopicPartition) := by
  intro H H' T cs hle h
  obtain ⟨a1, c1, mt, rfl, h1, h2⟩ := h
  exact ⟨a1, c1, mt, rfl, h1.mono hle, h2.mono hle⟩
def At_ProduceRequestTopic (H : Fz) (T : Tr) (cs : List Value) : Prop := ∃ (a2 : Option Addr) (c2 : Nat) (mt : Option Nat), cs = [.string ⟨(T.at 0).s.toArray⟩, ub (T.at 1).s 0, ub (T.at 1).s 1, ub (T.at 1).s 2, ub (T.at 1).s 3, ub (T.at 1).s 4, ub (T.at 1).s 5, ub (T.at 1).s 6, ub (T.at 1).s 7, ub (T.at 1).s 8, ub (T.at 1).s 9, ub (T.at 1).s 10, ub (T.at 1).s 11, ub (T.at 1).s 12, ub (T.at 1).s 13, ub (T.at 1).s 14, ub (T.at 1).s 15, .slice a2 (lT (T.at 2)).length c2, .map mt] ∧ ListAt H (T.at 2) 3 At_ProduceRequestTopicPartition a2 c2 ∧ KvAt H mt T.u
theorem At_ProduceRequestTopic.ok {H : Fz} {T : Tr} {cs : List Value} (h : At_ProduceRequestTopic H T cs) : cs.length = 19 ∧ ∀ u ∈ cs, u.oneCell' = true := by
  obtain ⟨a2, c2, mt, rfl, h1, h2⟩ := h
  refine ⟨rfl, ?_⟩
  intro u hu
  simp only [List.mem_cons, List.not_mem_nil, or_false] at hu
  rcases hu with rfl | rfl | rfl | rfl | rfl | rfl | rfl | rfl | rfl | rfl | rfl | rfl | rfl | rfl | rfl | rfl | rfl | rfl | rfl <;> rfl
theorem At_ProduceRequestTopic.mono : RMono (At_ProduceRequestTopic) := by
  intro H H' T cs hle h
  obtain ⟨a2, c2, mt, rfl, h1, h2⟩ := h
  exact ⟨a2, c2, mt, rfl, h1.mono At_ProduceRequestTopicPartition.mono hle, h2.mono hle⟩
def At_ProduceRequest (ver : Int) (H : Fz) (T : Tr) (cs : List Value) : Prop := ∃ (p0 : Option Addr) (a3 : Option Addr) (c3 : Nat) (mt : Option Nat), cs = [.int .i16 ver, .pointer p0, .int .i16 (IntKind.i16.wrap (T.at 1).n), .int .i32 (IntKind.i32.wrap (T.at 2).n), .slice a3 (lT (T.at 3)).length c3, .map mt] ∧ TextAt H (T.at 0) p0 ∧ ListAt H (T.at 3) 19 At_ProduceRequestTopic a3 c3 ∧ KvAt H mt T.u
theorem At_ProduceRequest.ok {ver : Int} {H : Fz} {T : Tr} {cs : List Value} (h : At_ProduceRequest ver H T cs) : cs.length = 6 ∧ ∀ u ∈ cs, u.oneCell' = true := by
  obtain ⟨p0, a3, c3, mt, rfl, h1, h2, h3⟩ := h
  refine ⟨rfl, ?_⟩
  intro u hu
  simp only [List.mem_cons, List.not_mem_nil, or_false] at hu
  rcases hu with rfl | rfl | rfl | rfl | rfl | rfl <;> rfl
theorem At_ProduceRequest.mono (ver : Int) : RMono (At_ProduceRequest ver) := by
  intro H H' T cs hle h
  obtain ⟨p0, a3, c3, mt, rfl, h1, h2, h3⟩ := h
  exact ⟨p0, a3, c3, mt, rfl, h1.mono hle, h2.mono At_ProduceRequestTopic.mono hle, h3.mono hle⟩
end Go.Sx
