import Derived.Test.YtdnbgafbhifhoaaDoorSxTab
import Derived.Test.YtdnbgafbhifhoaaDoorAListOffsetsResponse
import Derived.KernelRfl
set_option linter.unusedVariables false
set_option linter.unusedSimpArgs false
set_option maxRecDepth 100000
set_option maxHeartbeats 20000000
namespace Go.Sx
open Go.Proofs
def At_ListOffsetsResponseTopicPartition (H : Fz) (T : Tr) (cs : List Value) : Prop := ∃ (a2 : Option Addr) (c2 : Nat) (mt : Option Nat), cs = [.int .i32 (IntKind.i32.wrap (T.at 0).n), .int .i16 (IntKind.i16.wrap (T.at 1).n), .slice a2 (lT (T.at 2)).length c2, .int .i64 (T.at 3).n, .int .i64 (T.at 4).n, .int .i32 (IntKind.i32.wrap (T.at 5).n), .map mt] ∧ ListAt H (T.at 2) 1 RI64 a2 c2 ∧ KvAt H mt T.u
theorem At_ListOffsetsResponseTopicPartition.ok {H : Fz} {T : Tr} {cs : List Value} (h : At_ListOffsetsResponseTopicPartition H T cs) : cs.length = 7 ∧ ∀ u ∈ cs, u.oneCell' = true := by
  obtain ⟨a2, c2, mt, rfl, h1, h2⟩ := h
  refine ⟨rfl, ?_⟩
  intro u hu
  simp only [List.mem_cons, List.not_mem_nil, or_false] at hu
  rcases hu with rfl | rfl | rfl | rfl | rfl | rfl | rfl <;> rfl
theorem At_ListOffsetsResponseTopicPartition.mono : RMono (At_ListOffsetsResponseTopicPartition) := by
  intro H H' T cs hle h
  obtain ⟨a2, c2, mt, rfl, h1, h2⟩ := h
  exact ⟨a2, c2, mt, rfl, h1.mono RI64.mono hle, h2.mono hle⟩
def At_ListOffsetsResponseTopic (H : Fz) (T : Tr) (cs : List Value) : Prop := ∃ (a1 : Option Addr) (c1 : Nat) (mt : Option Nat), cs = [.string ⟨(T.at 0).s.toArray⟩, .slice a1 (lT (T.at 1)).length c1, .map mt] ∧ ListAt H (T.at 1) 7 At_ListOffsetsResponseTopicPartition a1 c1 ∧ KvAt H mt T.u
theorem At_ListOffsetsResponseTopic.ok {H : Fz} {T : Tr} {cs : List Value} (h : At_ListOffsetsResponseTopic H T cs) : cs.length = 3 ∧ ∀ u ∈ cs, u.oneCell' = true := by
  obtain ⟨a1, c1, mt, rfl, h1, h2⟩ := h
  refine ⟨rfl, ?_⟩
  intro u hu
  simp only [List.mem_cons, List.not_mem_nil, or_false] at hu
  rcases hu with rfl | rfl | rfl <;> rfl
theorem At_ListOffsetsResponseTopic.mono : RMono (At_ListOffsetsResponseTopic) := by
  intro H H' T cs hle h
  obtain ⟨a1, c1, mt, rfl, h1, h2⟩ := h
  exact ⟨a1, c1, mt, rfl, h1.mono At_ListOffsetsResponseTopicPartition.mono hle, h2.mono hle⟩
def At_ListOffsetsResponse (ver : Int) (H : Fz) (T : Tr) (cs : List Value) : Prop := ∃ (a1 : Option Addr) (c1 : Nat) (mt : Option Nat), cs = [.int .i16 ver, .int .i32 (IntKind.i32.wrap (T.at 0).n), .slice a1 (lT (T.at 1)).length c1, .map mt] ∧ ListAt H (T.at 1) 3 At_ListOffsetsResponseTopic a1 c1 ∧ KvAt H mt T.u
theorem At_ListOffsetsResponse.ok {ver : Int} {H : Fz} {T : Tr} {cs : List Value} (h : At_ListOffsetsResponse ver H T cs) : cs.length = 4 ∧ ∀ u ∈ cs, u.oneCell' = true := by
  obtain ⟨a1, c1, mt, rfl, h1, h2⟩ := h
  refine ⟨rfl, ?_⟩
  intro u hu
  simp only [List.mem_cons, List.not_mem_nil, or_false] at hu
  rcases hu with rfl | rfl | rfl | rfl <;> rfl
theorem At_ListOffsetsResponse.mono (ver : Int) : RMono (At_ListOffsetsResponse ver) := by
  intro H H' T cs hle h
  obtain ⟨a1, c1, mt, rfl, h1, h2⟩ := h
  exact ⟨a1, c1, mt, rfl, h1.mono At_ListOffsetsResponseTopic.mono hle, h2.mono hle⟩
end Go.Sx
