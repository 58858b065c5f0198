import Derived.Test.YtoncemcnclkpkaaGreatDoorSxTab
import Derived.Test.YtoncemcnclkpkaaGreatDoorAIncrementalAlterConfigsRequest
import Derived.KernelRfl
set_option linter.unusedVariables false
set_option linter.unusedSimpArgs false
set_option maxRecDepth 100000
set_option maxHeartbeats 20000000
namespace Go.Sx
open Go.Proofs
def At_IncrementalAlterConfigsRequestResourceConfig (H : Fz) (T : Tr) (cs : List Value) : Prop := ∃ (p2 : Option Addr) (mt : Option Nat), cs = [.string ⟨(T.at 0).s.toArray⟩, .int .i8 (IntKind.i8.wrap (T.at 1).n), .pointer p2, .map mt] ∧ TextAt H (T.at 2) p2 ∧ KvAt H mt T.u
theorem At_IncrementalAlterConfigsRequestResourceConfig.ok {H : Fz} {T : Tr} {cs : List Value} (h : At_IncrementalAlterConfigsRequestResourceConfig H T cs) : cs.length = 4 ∧ ∀ u ∈ cs, u.oneCell' = true := by
  obtain ⟨p2, mt, rfl, h1, h2⟩ := h
  refine ⟨rfl, ?_⟩
  intro u hu
  simp only [List.mem_cons, List.not_mem_nil, or_false] at hu
  rcases hu with rfl | rfl | rfl | rfl <;> rfl
theorem At_IncrementalAlterConfigsRequestResourceConfig.mono : RMono (At_IncrementalAlterConfigsRequestResourceConfig) := by
  intro H H' T cs hle h
  obtain ⟨p2, mt, rfl, h1, h2⟩ := h
  exact ⟨p2, mt, rfl, h1.mono hle, h2.mono hle⟩
def At_IncrementalAlterConfigsRequestResource (H : Fz) (T : Tr) (cs : List Value) : Prop := ∃ (a2 : Option Addr) (c2 : Nat) (mt : Option Nat), cs = [.int .i8 (IntKind.i8.wrap (T.at 0).n), .string ⟨(T.at 1).s.toArray⟩, .slice a2 (lT (T.at 2)).length c2, .map mt] ∧ ListAt H (T.at 2) 4 At_IncrementalAlterConfigsRequestResourceConfig a2 c2 ∧ KvAt H mt T.u
theorem At_IncrementalAlterConfigsRequestResource.ok {H : Fz} {T : Tr} {cs : List Value} (h : At_IncrementalAlterConfigsRequestResource H T cs) : cs.length = 4 ∧ ∀ u ∈ cs, u.oneCell' = true := by
  obtain ⟨a2, c2, mt, rfl, h1, h2⟩ := h
  refine ⟨rfl, ?_⟩
  intro u hu
  simp only [List.mem_cons, List.not_mem_nil, or_false] at hu
  rcases hu with rfl | rfl | rfl | rfl <;> rfl
theorem At_IncrementalAlterConfigsRequestResource.mono : RMono (At_IncrementalAlterConfigsRequestResource) := by
  intro H H' T cs hle h
  obtain ⟨a2, c2, mt, rfl, h1, h2⟩ := h
  exact ⟨a2, c2, mt, rfl, h1.mono At_IncrementalAlterConfigsRequestResourceConfig.mono hle, h2.mono hle⟩
def At_IncrementalAlterConfigsRequest (ver : Int) (H : Fz) (T : Tr) (cs : List Value) : Prop := ∃ (a0 : Option Addr) (c0 : Nat) (mt : Option Nat), cs = [.int .i16 ver, .slice a0 (lT (T.at 0)).length c0, .bool (decide ((T.at 1).n % 2 = 1)), .map mt] ∧ ListAt H (T.at 0) 4 At_IncrementalAlterConfigsRequestResource a0 c0 ∧ KvAt H mt T.u
theorem At_IncrementalAlterConfigsRequest.ok {ver : Int} {H : Fz} {T : Tr} {cs : List Value} (h : At_IncrementalAlterConfigsRequest ver H T cs) : cs.length = 4 ∧ ∀ u ∈ cs, u.oneCell' = true := by
  obtain ⟨a0, c0, mt, rfl, h1, h2⟩ := h
  refine ⟨rfl, ?_⟩
  intro u hu
  simp only [List.mem_cons, List.not_mem_nil, or_false] at hu
  rcases hu with rfl | rfl | rfl | rfl <;> rfl
theorem At_IncrementalAlterConfigsRequest.mono (ver : Int) : RMono (At_IncrementalAlterConfigsRequest ver) := by
  intro H H' T cs hle h
  obtain ⟨a0, c0, mt, rfl, h1, h2⟩ := h
  exact ⟨a0, c0, mt, rfl, h1.mono At_IncrementalAlterConfigsRequestResource.mono hle, h2.mono hle⟩
end Go.Sx
