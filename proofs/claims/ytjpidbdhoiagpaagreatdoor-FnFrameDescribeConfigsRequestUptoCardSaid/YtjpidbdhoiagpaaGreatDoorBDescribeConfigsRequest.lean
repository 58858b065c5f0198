import Derived.Test.YtjpidbdhoiagpaaGreatDoorSxTab
import Derived.Test.YtjpidbdhoiagpaaGreatDoorADescribeConfigsRequest
import Derived.KernelRfl
set_option linter.unusedVariables false
set_option linter.unusedSimpArgs false
set_option maxRecDepth 100000
set_option maxHeartbeats 20000000
namespace Go.Sx
open Go.Proofs
def At_DescribeConfigsRequestResource (H : Fz) (T : Tr) (cs : List Value) : Prop := ∃ (a2 : Option Addr) (c2 : Nat) (mt : Option Nat), cs = [.int .i8 (IntKind.i8.wrap (T.at 0).n), .string ⟨(T.at 1).s.toArray⟩, .slice a2 (lT (T.at 2)).length c2, .map mt] ∧ ListAt H (T.at 2) 1 RText a2 c2 ∧ KvAt H mt T.u
theorem At_DescribeConfigsRequestResource.ok {H : Fz} {T : Tr} {cs : List Value} (h : At_DescribeConfigsRequestResource H T cs) : cs.length = 4 ∧ ∀ u ∈ cs, u.oneCell' = true := by
 obtain ⟨a2, c2, mt, rfl, h1, h2⟩ := h
 refine ⟨rfl, ?_⟩
 intro u hu
 simp only [List.mem_cons, List.not_mem_nil, or_false] at hu
 rcases hu with rfl | rfl | rfl | rfl <;> rfl
theorem At_DescribeConfigsRequestResource.mono : RMono (At_DescribeConfigsRequestResource) := by
 intro H H' T cs hle h
 obtain ⟨a2, c2, mt, rfl, h1, h2⟩ := h
 exact ⟨a2, c2, mt, rfl, h1.mono RText.mono hle, h2.mono hle⟩
def At_DescribeConfigsRequest (ver : Int) (H : Fz) (T : Tr) (cs : List Value) : Prop := ∃ (a0 : Option Addr) (c0 : Nat) (mt : Option Nat), cs = [.int .i16 ver, .slice a0 (lT (T.at 0)).length c0, .bool (decide ((T.at 1).n % 2 = 1)), .bool (decide ((T.at 2).n % 2 = 1)), .map mt] ∧ ListAt H (T.at 0) 4 At_DescribeConfigsRequestResource a0 c0 ∧ KvAt H mt T.u
theorem At_DescribeConfigsRequest.ok {ver : Int} {H : Fz} {T : Tr} {cs : List Value} (h : At_DescribeConfigsRequest ver H T cs) : cs.length = 5 ∧ ∀ u ∈ cs, u.oneCell' = true := by
 obtain ⟨a0, c0, mt, rfl, h1, h2⟩ := h
 refine ⟨rfl, ?_⟩
 intro u hu
 simp only [List.mem_cons, List.not_mem_nil, or_false] at hu
 rcases hu with rfl | rfl | rfl | rfl | rfl <;> rfl
theorem At_DescribeConfigsRequest.mono (ver : Int) : RMono (At_DescribeConfigsRequest ver) := by
 intro H H' T cs hle h
 obtain ⟨a0, c0, mt, rfl, h1, h2⟩ := h
 exact ⟨a0, c0, mt, rfl, h1.mono At_DescribeConfigsRequestResource.mono hle, h2.mono hle⟩
end Go.Sx
