import Derived.Test.YtoncemcnclkpkaaGreatDoorSxTab
import Derived.Test.YtoncemcnclkpkaaGreatDoorADeleteShareGroupOffsetsResponse
import Derived.KernelRfl
set_option linter.unusedVariables false
set_option linter.unusedSimpArgs false
set_option maxRecDepth 100000
set_option maxHeartbeats 20000000
namespace Go.Sx
open Go.Proofs
def At_DeleteShareGroupOffsetsResponseTopic (H : Fz) (T : Tr) (cs : List Value) : Prop := ∃ (p3 : Option Addr) (mt : Option Nat), cs = [.string ⟨(T.at 0).s.toArray⟩, ub (T.at 1).s 0, ub (T.at 1).s 1, ub (T.at 1).s 2, ub (T.at 1).s 3, ub (T.at 1).s 4, ub (T.at 1).s 5, ub (T.at 1).s 6, ub (T.at 1).s 7, ub (T.at 1).s 8, ub (T.at 1).s 9, ub (T.at 1).s 10, ub (T.at 1).s 11, ub (T.at 1).s 12, ub (T.at 1).s 13, ub (T.at 1).s 14, ub (T.at 1).s 15, .int .i16 (IntKind.i16.wrap (T.at 2).n), .pointer p3, .map mt] ∧ TextAt H (T.at 3) p3 ∧ KvAt H mt T.u
theorem At_DeleteShareGroupOffsetsResponseTopic.ok {H : Fz} {T : Tr} {cs : List Value} (h : At_DeleteShareGroupOffsetsResponseTopic H T cs) : cs.length = 20 ∧ ∀ u ∈ cs, u.oneCell' = true := by
  obtain ⟨p3, mt, rfl, h1, h2⟩ := h
  refine ⟨rfl, ?_⟩
  intro u hu
  simp only [List.mem_cons, List.not_mem_nil, or_false] at hu
  rcases hu with rfl | rfl | rfl | rfl | rfl | rfl | rfl | rfl | rfl | rfl | rfl | rfl | rfl | rfl | rfl | rfl | rfl | rfl | rfl | rfl <;> rfl
theorem At_DeleteShareGroupOffsetsResponseTopic.mono : RMono (At_DeleteShareGroupOffsetsResponseTopic) := by
  intro H H' T cs hle h
  obtain ⟨p3, mt, rfl, h1, h2⟩ := h
  exact ⟨p3, mt, rfl, h1.mono hle, h2.mono hle⟩
def At_DeleteShareGroupOffsetsResponse (ver : Int) (H : Fz) (T : Tr) (cs : List Value) : Prop := ∃ (p2 : Option Addr) (a3 : Option Addr) (c3 : Nat) (mt : Option Nat), cs = [.int .i16 ver, .int .i32 (IntKind.i32.wrap (T.at 0).n), .int .i16 (IntKind.i16.wrap (T.at 1).n), .pointer p2, .slice a3 (lT (T.at 3)).length c3, .map mt] ∧ TextAt H (T.at 2) p2 ∧ ListAt H (T.at 3) 20 At_DeleteShareGroupOffsetsResponseTopic a3 c3 ∧ KvAt H mt T.u
theorem At_DeleteShareGroupOffsetsResponse.ok {ver : Int} {H : Fz} {T : Tr} {cs : List Value} (h : At_DeleteShareGroupOffsetsResponse ver H T cs) : cs.length = 6 ∧ ∀ u ∈ cs, u.oneCell' = true := by
  obtain ⟨p2, a3, c3, mt, rfl, h1, h2, h3⟩ := h
  refine ⟨rfl, ?_⟩
  intro u hu
  simp only [List.mem_cons, List.not_mem_nil, or_false] at hu
  rcases hu with rfl | rfl | rfl | rfl | rfl | rfl <;> rfl
theorem At_DeleteShareGroupOffsetsResponse.mono (ver : Int) : RMono (At_DeleteShareGroupOffsetsResponse ver) := by
  intro H H' T cs hle h
  obtain ⟨p2, a3, c3, mt, rfl, h1, h2, h3⟩ := h
  exact ⟨p2, a3, c3, mt, rfl, h1.mono hle, h2.mono At_DeleteShareGroupOffsetsResponseTopic.mono hle, h3.mono hle⟩
end Go.Sx
