import Derived.Test.YtdnbgafbhifhoaaDoorSxTab
import Derived.Test.YtdnbgafbhifhoaaDoorALeaveGroupResponse
import Derived.KernelRfl
set_option linter.unusedVariables false
set_option linter.unusedSimpArgs false
set_option maxRecDepth 100000
set_option maxHeartbeats 20000000
namespace Go.Sx
open Go.Proofs
def At_LeaveGroupResponseMember (H : Fz) (T : Tr) (cs : List Value) : Prop := ∃ (p1 : Option Addr) (mt : Option Nat), cs = [.string ⟨(T.at 0).s.toArray⟩, .pointer p1, .int .i16 (IntKind.i16.wrap (T.at 2).n), .map mt] ∧ TextAt H (T.at 1) p1 ∧ KvAt H mt T.u
theorem At_LeaveGroupResponseMember.ok {H : Fz} {T : Tr} {cs : List Value} (h : At_LeaveGroupResponseMember H T cs) : cs.length = 4 ∧ ∀ u ∈ cs, u.oneCell' = true := by
  obtain ⟨p1, mt, rfl, h1, h2⟩ := h
  refine ⟨rfl, ?_⟩
  intro u hu
  simp only [List.mem_cons, List.not_mem_nil, or_false] at hu
  rcases hu with rfl | rfl | rfl | rfl <;> rfl
theorem At_LeaveGroupResponseMember.mono : RMono (At_LeaveGroupResponseMember) := by
  intro H H' T cs hle h
  obtain ⟨p1, mt, rfl, h1, h2⟩ := h
  exact ⟨p1, mt, rfl, h1.mono hle, h2.mono hle⟩
def At_LeaveGroupResponse (ver : Int) (H : Fz) (T : Tr) (cs : List Value) : Prop := ∃ (a2 : Option Addr) (c2 : Nat) (mt : Option Nat), cs = [.int .i16 ver, .int .i32 (IntKind.i32.wrap (T.at 0).n), .int .i16 (IntKind.i16.wrap (T.at 1).n), .slice a2 (lT (T.at 2)).length c2, .map mt] ∧ ListAt H (T.at 2) 4 At_LeaveGroupResponseMember a2 c2 ∧ KvAt H mt T.u
theorem At_LeaveGroupResponse.ok {ver : Int} {H : Fz} {T : Tr} {cs : List Value} (h : At_LeaveGroupResponse ver H T cs) : cs.length = 5 ∧ ∀ u ∈ cs, u.oneCell' = true := by
  obtain ⟨a2, c2, mt, rfl, h1, h2⟩ := h
  refine ⟨rfl, ?_⟩
  intro u hu
  simp only [List.mem_cons, List.not_mem_nil, or_false] at hu
  rcases hu with rfl | rfl | rfl | rfl | rfl <;> rfl
theorem At_LeaveGroupResponse.mono (ver : Int) : RMono (At_LeaveGroupResponse ver) := by
  intro H H' T cs hle h
  obtain ⟨a2, c2, mt, rfl, h1, h2⟩ := h
  exact ⟨a2, c2, mt, rfl, h1.mono At_LeaveGroupResponseMember.mono hle, h2.mono hle⟩
end Go.Sx
