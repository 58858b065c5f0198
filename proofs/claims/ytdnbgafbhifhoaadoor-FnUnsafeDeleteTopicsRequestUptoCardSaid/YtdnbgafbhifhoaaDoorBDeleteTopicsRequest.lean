import Derived.Test.YtdnbgafbhifhoaaDoorSxTab
import Derived.Test.YtdnbgafbhifhoaaDoorADeleteTopicsRequest
import Derived.KernelRfl
set_option linter.unusedVariables false
set_option linter.unusedSimpArgs false
set_option maxRecDepth 100000
set_option maxHeartbeats 20000000
namespace Go.Sx
open Go.Proofs
def At_DeleteTopicsRequestTopic (H : Fz) (T : Tr) (cs : List Value) : Prop := ∃ (p0 : Option Addr) (mt : Option Nat), cs = [.pointer p0, ub (T.at 1).s 0, ub (T.at 1).s 1, ub (T.at 1).s 2, ub (T.at 1).s 3, ub (T.at 1).s 4, ub (T.at 1).s 5, ub (T.at 1).s 6, ub (T.at 1).s 7, ub (T.at 1).s 8, ub (T.at 1).s 9, ub (T.at 1).s 10, ub (T.at 1).s 11, ub (T.at 1).s 12, ub (T.at 1).s 13, ub (T.at 1).s 14, ub (T.at 1).s 15, .map mt] ∧ TextAt H (T.at 0) p0 ∧ KvAt H mt T.u
theorem At_DeleteTopicsRequestTopic.ok {H : Fz} {T : Tr} {cs : List Value} (h : At_DeleteTopicsRequestTopic H T cs) : cs.length = 18 ∧ ∀ u ∈ cs, u.oneCell' = true := by
  obtain ⟨p0, mt, rfl, h1, h2⟩ := h
  refine ⟨rfl, ?_⟩
  intro u hu
  simp only [List.mem_cons, List.not_mem_nil, or_false] at hu
  rcases hu with rfl | rfl | rfl | rfl | rfl | rfl | rfl | rfl | rfl | rfl | rfl | rfl | rfl | rfl | rfl | rfl | rfl | rfl <;> rfl
theorem At_DeleteTopicsRequestTopic.mono : RMono (At_DeleteTopicsRequestTopic) := by
  intro H H' T cs hle h
  obtain ⟨p0, mt, rfl, h1, h2⟩ := h
  exact ⟨p0, mt, rfl, h1.mono hle, h2.mono hle⟩
def At_DeleteTopicsRequest (ver : Int) (H : Fz) (T : Tr) (cs : List Value) : Prop := ∃ (a0 : Option Addr) (c0 : Nat) (a1 : Option Addr) (c1 : Nat) (mt : Option Nat), cs = [.int .i16 ver, .slice a0 (lT (T.at 0)).length c0, .slice a1 (lT (T.at 1)).length c1, .int .i32 (IntKind.i32.wrap (T.at 2).n), .map mt] ∧ ListAt H (T.at 0) 1 RText a0 c0 ∧ ListAt H (T.at 1) 18 At_DeleteTopicsRequestTopic a1 c1 ∧ KvAt H mt T.u
theorem At_DeleteTopicsRequest.ok {ver : Int} {H : Fz} {T : Tr} {cs : List Value} (h : At_DeleteTopicsRequest ver H T cs) : cs.length = 5 ∧ ∀ u ∈ cs, u.oneCell' = true := by
  obtain ⟨a0, c0, a1, c1, mt, rfl, h1, h2, h3⟩ := h
  refine ⟨rfl, ?_⟩
  intro u hu
  simp only [List.mem_cons, List.not_mem_nil, or_false] at hu
  rcases hu with rfl | rfl | rfl | rfl | rfl <;> rfl
theorem At_DeleteTopicsRequest.mono (ver : Int) : RMono (At_DeleteTopicsRequest ver) := by
  intro H H' T cs hle h
  obtain ⟨a0, c0, a1, c1, mt, rfl, h1, h2, h3⟩ := h
  exact ⟨a0, c0, a1, c1, mt, rfl, h1.mono RText.mono hle, h2.mono At_DeleteTopicsRequestTopic.mono hle, h3.mono hle⟩
end Go.Sx
