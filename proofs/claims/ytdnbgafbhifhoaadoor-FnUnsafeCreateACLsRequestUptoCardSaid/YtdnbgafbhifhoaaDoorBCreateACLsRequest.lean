import Derived.Test.YtdnbgafbhifhoaaDoorSxTab
import Derived.Test.YtdnbgafbhifhoaaDoorACreateACLsRequest
import Derived.KernelRfl
set_option linter.unusedVariables false
set_option linter.unusedSimpArgs false
set_option maxRecDepth 100000
set_option maxHeartbeats 20000000
namespace Go.Sx
open Go.Proofs
def At_CreateACLsRequestCreation (H : Fz) (T : Tr) (cs : List Value) : Prop := ∃ (mt : Option Nat), cs = [.int .i8 (IntKind.i8.wrap (T.at 0).n), .string ⟨(T.at 1).s.toArray⟩, .int .i8 (IntKind.i8.wrap (T.at 2).n), .string ⟨(T.at 3).s.toArray⟩, .string ⟨(T.at 4).s.toArray⟩, .int .i8 (IntKind.i8.wrap (T.at 5).n), .int .i8 (IntKind.i8.wrap (T.at 6).n), .map mt] ∧ KvAt H mt T.u
theorem At_CreateACLsRequestCreation.ok {H : Fz} {T : Tr} {cs : List Value} (h : At_CreateACLsRequestCreation H T cs) : cs.length = 8 ∧ ∀ u ∈ cs, u.oneCell' = true := by
  obtain ⟨mt, rfl, h1⟩ := h
  refine ⟨rfl, ?_⟩
  intro u hu
  simp only [List.mem_cons, List.not_mem_nil, or_false] at hu
  rcases hu with rfl | rfl | rfl | rfl | rfl | rfl | rfl | rfl <;> rfl
theorem At_CreateACLsRequestCreation.mono : RMono (At_CreateACLsRequestCreation) := by
  intro H H' T cs hle h
  obtain ⟨mt, rfl, h1⟩ := h
  exact ⟨mt, rfl, h1.mono hle⟩
def At_CreateACLsRequest (ver : Int) (H : Fz) (T : Tr) (cs : List Value) : Prop := ∃ (a0 : Option Addr) (c0 : Nat) (mt : Option Nat), cs = [.int .i16 ver, .slice a0 (lT (T.at 0)).length c0, .map mt] ∧ ListAt H (T.at 0) 8 At_CreateACLsRequestCreation a0 c0 ∧ KvAt H mt T.u
theorem At_CreateACLsRequest.ok {ver : Int} {H : Fz} {T : Tr} {cs : List Value} (h : At_CreateACLsRequest ver H T cs) : cs.length = 3 ∧ ∀ u ∈ cs, u.oneCell' = true := by
  obtain ⟨a0, c0, mt, rfl, h1, h2⟩ := h
  refine ⟨rfl, ?_⟩
  intro u hu
  simp only [List.mem_cons, List.not_mem_nil, or_false] at hu
  rcases hu with rfl | rfl | rfl <;> rfl
theorem At_CreateACLsRequest.mono (ver : Int) : RMono (At_CreateACLsRequest ver) := by
  intro H H' T cs hle h
  obtain ⟨a0, c0, mt, rfl, h1, h2⟩ := h
  exact ⟨a0, c0, mt, rfl, h1.mono At_CreateACLsRequestCreation.mono hle, h2.mono hle⟩
end Go.Sx
