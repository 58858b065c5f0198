import Derived.Test.YtoncemcnclkpkaaGreatDoorSxTab
import Derived.Test.YtoncemcnclkpkaaGreatDoorAControlledShutdownResponse
import Derived.KernelRfl
set_option linter.unusedVariables false
set_option linter.unusedSimpArgs false
set_option maxRecDepth 100000
set_option maxHeartbeats 20000000
namespace Go.Sx
open Go.Proofs
def At_ControlledShutdownResponsePartitionsRemaining (H : Fz) (T : Tr) (cs : List Value) : Prop := ∃ (mt : Option Nat), cs = [.string ⟨(T.at 0).s.toArray⟩, .int .i32 (IntKind.i32.wrap (T.at 1).n), .map mt] ∧ KvAt H mt T.u
theorem At_ControlledShutdownResponsePartitionsRemaining.ok {H : Fz} {T : Tr} {cs : List Value} (h : At_ControlledShutdownResponsePartitionsRemaining H T cs) : cs.length = 3 ∧ ∀ u ∈ cs, u.oneCell' = true := by
  obtain ⟨mt, rfl, h1⟩ := h
  refine ⟨rfl, ?_⟩
  intro u hu
  simp only [List.mem_cons, List.not_mem_nil, or_false] at hu
  rcases hu with rfl | rfl | rfl <;> rfl
theorem At_ControlledShutdownResponsePartitionsRemaining.mono : RMono (At_ControlledShutdownResponsePartitionsRemaining) := by
  intro H H' T cs hle h
  obtain ⟨mt, rfl, h1⟩ := h
  exact ⟨mt, rfl, h1.mono hle⟩
def At_ControlledShutdownResponse (ver : Int) (H : Fz) (T : Tr) (cs : List Value) : Prop := ∃ (a1 : Option Addr) (c1 : Nat) (mt : Option Nat), cs = [.int .i16 ver, .int .i16 (IntKind.i16.wrap (T.at 0).n), .slice a1 (lT (T.at 1)).length c1, .map mt] ∧ ListAt H (T.at 1) 3 At_ControlledShutdownResponsePartitionsRemaining a1 c1 ∧ KvAt H mt T.u
theorem At_ControlledShutdownResponse.ok {ver : Int} {H : Fz} {T : Tr} {cs : List Value} (h : At_ControlledShutdownResponse ver H T cs) : cs.length = 4 ∧ ∀ u ∈ cs, u.oneCell' = true := by
  obtain ⟨a1, c1, mt, rfl, h1, h2⟩ := h
  refine ⟨rfl, ?_⟩
  intro u hu
  simp only [List.mem_cons, List.not_mem_nil, or_false] at hu
  rcases hu with rfl | rfl | rfl | rfl <;> rfl
theorem At_ControlledShutdownResponse.mono (ver : Int) : RMono (At_ControlledShutdownResponse ver) := by
  intro H H' T cs hle h
  obtain ⟨a1, c1, mt, rfl, h1, h2⟩ := h
  exact ⟨a1, c1, mt, rfl, h1.mono At_ControlledShutdownResponsePartitionsRemaining.mono hle, h2.mono hle⟩
end Go.Sx
