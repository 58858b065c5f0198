import Derived.Test.YtahmkeoedpghjaaAJoinGroupRequest
import Derived.KernelRfl
set_option linter.unusedVariables false
set_option linter.unusedSimpArgs false
set_option maxRecDepth 100000
set_option maxHeartbeats 20000000
namespace Go.Sx
open Go.Proofs
def At_JoinGroupRequestProtocol (H : Fz) (T : Tr) (cs : List Value) : Prop := ∃ (a1 : Option Addr) (c1 : Nat) (mt : Option Nat), cs = [.string ⟨(T.at 0).s.toArray⟩, .slice a1 (sT (T.at 1)).length c1, .map mt] ∧ OctAt H (T.at 1) a1 c1 ∧ KvAt H mt T.u
theorem At_JoinGroupRequestProtocol.ok {H : Fz} {T : Tr} {cs : List Value} (h : At_JoinGroupRequestProtocol H T cs) : cs.length = 3 ∧ ∀ u ∈ cs, u.oneCell' = true := by
  obtain ⟨a1, c1, mt, rfl, h1, h2⟩ := h
  refine ⟨rfl, ?_⟩
  intro u hu
  simp only [List.mem_cons, List.not_mem_nil, or_false] at hu
  rcases hu with rfl | rfl | rfl <;> rfl
theorem At_JoinGroupRequestProtocol.mono : RMono (At_JoinGroupRequestProtocol) := by
  intro H H' T cs hle h
  obtain ⟨a1, c1, mt, rfl, h1, h2⟩ := h
  exact ⟨a1, c1, mt, rfl, h1.mono hle, h2.mono hle⟩
def At_JoinGroupRequest (ver : Int) (H : Fz) (T : Tr) (cs : List Value) : Prop := ∃ (p4 : Option Addr) (a6 : Option Addr) (c6 : Nat) (p7 : Option Addr) (mt : Option Nat), cs = [.int .i16 ver, .string ⟨(T.at 0).s.toArray⟩, .int .i32 (IntKind.i32.wrap (T.at 1).n), .int .i32 (IntKind.i32.wrap (T.at 2).n), .string ⟨(T.at 3).s.toArray⟩, .pointer p4, .string ⟨(T.at 5).s.toArray⟩, .slice a6 (lT (T.at 6)).length c6, .pointer p7, .map mt] ∧ TextAt H (T.at 4) p4 ∧ ListAt H (T.at 6) 3 At_JoinGroupRequestProtocol a6 c6 ∧ TextAt H (T.at 7) p7 ∧ KvAt H mt T.u
theorem At_JoinGroupRequest.ok {ver : Int} {H : Fz} {T : Tr} {cs : List Value} (h : At_JoinGroupRequest ver H T cs) : cs.length = 10 ∧ ∀ u ∈ cs, u.oneCell' = true := by
  obtain ⟨p4, a6, c6, p7, mt, rfl, h1, h2, h3, h4⟩ := h
  refine ⟨rfl, ?_⟩
  intro u hu
  simp only [List.mem_cons, List.not_mem_nil, or_false] at hu
  rcases hu with rfl | rfl | rfl | rfl | rfl | rfl | rfl | rfl | rfl | rfl <;> rfl
theorem At_JoinGroupRequest.mono (ver : Int) : RMono (At_JoinGroupRequest ver) := by
  intro H H' T cs hle h
  obtain ⟨p4, a6, c6, p7, mt, rfl, h1, h2, h3, h4⟩ := h
  exact ⟨p4, a6, c6, p7, mt, rfl, h1.mono hle, h2.mono At_JoinGroupRequestProtocol.mono hle, h3.mono hle, h4.mono hle⟩
end Go.Sx
