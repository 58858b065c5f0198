import Derived.Test.YthgkgbaggjongaaGreatDoorSxTab
import Derived.Test.YthgkgbaggjongaaGreatDoorADeleteACLsResponse
import Derived.KernelRfl
set_option linter.unusedVariables false
set_option linter.unusedSimpArgs false
set_option maxRecDepth 100000
set_option maxHeartbeats 20000000
namespace Go.Sx
open Go.Proofs
def At_DeleteACLsResponseResultMatchingACL (H : Fz) (T : Tr) (cs : List Value) : Prop := ∃ (p1 : Option Addr) (mt : Option Nat), cs = [.int .i16 (IntKind.i16.wrap (T.at 0).n), .pointer p1, .int .i8 (IntKind.i8.wrap (T.at 2).n), .string ⟨(T.at 3).s.toArray⟩, .int .i8 (IntKind.i8.wrap (T.at 4).n), .string ⟨(T.at 5).s.toArray⟩, .string ⟨(T.at 6).s.toArray⟩, .int .i8 (IntKind.i8.wrap (T.at 7).n), .int .i8 (IntKind.i8.wrap (T.at 8).n), .map mt] ∧ TextAt H (T.at 1) p1 ∧ KvAt H mt T.u
theorem At_DeleteACLsResponseResultMatchingACL.ok {H : Fz} {T : Tr} {cs : List Value} (h : At_DeleteACLsResponseResultMatchingACL H T cs) : cs.length = 10 ∧ ∀ u ∈ cs, u.oneCell' = true := by
  obtain ⟨p1, mt, rfl, h1, h2⟩ := h
  refine ⟨rfl, ?_⟩
  intro u hu
  simp only [List.mem_cons, List.not_mem_nil, or_false] at hu
  rcases hu with rfl | rfl | rfl | rfl | rfl | rfl | rfl | rfl | rfl | rfl <;> rfl
theorem At_DeleteACLsResponseResultMatchingACL.mono : RMono (At_DeleteACLsResponseResultMatchingACL) := by
  intro H H' T cs hle h
  obtain ⟨p1, mt, rfl, h1, h2⟩ := h
  exact ⟨p1, mt, rfl, h1.mono hle, h2.mono hle⟩
def At_DeleteACLsResponseResult (H : Fz) (T : Tr) (cs : List Value) : Prop := ∃ (p1 : Option Addr) (a2 : Option Addr) (c2 : Nat) (mt : Option Nat), cs = [.int .i16 (IntKind.i16.wrap (T.at 0).n), .pointer p1, .slice a2 (lT (T.at 2)).length c2, .map mt] ∧ TextAt H (T.at 1) p1 ∧ ListAt H (T.at 2) 10 At_DeleteACLsResponseResultMatchingACL a2 c2 ∧ KvAt H mt T.u
theorem At_DeleteACLsResponseResult.ok {H : Fz} {T : Tr} {cs : List Value} (h : At_DeleteACLsResponseResult H T cs) : cs.length = 4 ∧ ∀ u ∈ cs, u.oneCell' = true := by
  obtain ⟨p1, a2, c2, mt, rfl, h1, h2, h3⟩ := h
  refine ⟨rfl, ?_⟩
  intro u hu
  simp only [List.mem_cons, List.not_mem_nil, or_false] at hu
  rcases hu with rfl | rfl | rfl | rfl <;> rfl
theorem At_DeleteACLsResponseResult.mono : RMono (At_DeleteACLsResponseResult) := by
  intro H H' T cs hle h
  obtain ⟨p1, a2, c2, mt, rfl, h1, h2, h3⟩ := h
  exact ⟨p1, a2, c2, mt, rfl, h1.mono hle, h2.mono At_DeleteACLsResponseResultMatchingACL.mono hle, h3.mono hle⟩
def At_DeleteACLsResponse (ver : Int) (H : Fz) (T : Tr) (cs : List Value) : Prop := ∃ (a1 : Option Addr) (c1 : Nat) (mt : Option Nat), cs = [.int .i16 ver, .int .i32 (IntKind.i32.wrap (T.at 0).n), .slice a1 (lT (T.at 1)).length c1, .map mt] ∧ ListAt H (T.at 1) 4 At_DeleteACLsResponseResult a1 c1 ∧ KvAt H mt T.u
theorem At_DeleteACLsResponse.ok {ver : Int} {H : Fz} {T : Tr} {cs : List Value} (h : At_DeleteACLsResponse ver H T cs) : cs.length = 4 ∧ ∀ u ∈ cs, u.oneCell' = true := by
  obtain ⟨a1, c1, mt, rfl, h1, h2⟩ := h
  refine ⟨rfl, ?_⟩
  intro u hu
  simp only [List.mem_cons, List.not_mem_nil, or_false] at hu
  rcases hu with rfl | rfl | rfl | rfl <;> rfl
theorem At_DeleteACLsResponse.mono (ver : Int) : RMono (At_DeleteACLsResponse ver) := by
  intro H H' T cs hle h
  obtain ⟨a1, c1, mt, rfl, h1, h2⟩ := h
  exact ⟨a1, c1, mt, rfl, h1.mono At_DeleteACLsResponseResult.mono hle, h2.mono hle⟩
end Go.Sx
