import Derived.Test.YthgkgbaggjongaaGreatDoorSxTab
import Derived.Test.YthgkgbaggjongaaGreatDoorAConsumerGroupHeartbeatRequest
import Derived.KernelRfl
set_option linter.unusedVariables false
set_option linter.unusedSimpArgs false
set_option maxRecDepth 100000
set_option maxHeartbeats 20000000
namespace Go.Sx
open Go.Proofs
def At_ConsumerGroupHeartbeatRequestTopic (H : Fz) (T : Tr) (cs : List Value) : Prop := ∃ (a1 : Option Addr) (c1 : Nat) (mt : Option Nat), cs = [ub (T.at 0).s 0, ub (T.at 0).s 1, ub (T.at 0).s 2, ub (T.at 0).s 3, ub (T.at 0).s 4, ub (T.at 0).s 5, ub (T.at 0).s 6, ub (T.at 0).s 7, ub (T.at 0).s 8, ub (T.at 0).s 9, ub (T.at 0).s 10, ub (T.at 0).s 11, ub (T.at 0).s 12, ub (T.at 0).s 13, ub (T.at 0).s 14, ub (T.at 0).s 15, .slice a1 (lT (T.at 1)).length c1, .map mt] ∧ ListAt H (T.at 1) 1 RI32 a1 c1 ∧ KvAt H mt T.u
theorem At_ConsumerGroupHeartbeatRequestTopic.ok {H : Fz} {T : Tr} {cs : List Value} (h : At_ConsumerGroupHeartbeatRequestTopic H T cs) : cs.length = 18 ∧ ∀ u ∈ cs, u.oneCell' = true := by
  obtain ⟨a1, c1, mt, rfl, h1, h2⟩ := h
  refine ⟨rfl, ?_⟩
  intro u hu
  simp only [List.mem_cons, List.not_mem_nil, or_false] at hu
  rcases hu with rfl | rfl | rfl | rfl | rfl | rfl | rfl | rfl | rfl | rfl | rfl | rfl | rfl | rfl | rfl | rfl | rfl | rfl <;> rfl
theorem At_ConsumerGroupHeartbeatRequestTopic.mono : RMono (At_ConsumerGroupHeartbeatRequestTopic) := by
  intro H H' T cs hle h
  obtain ⟨a1, c1, mt, rfl, h1, h2⟩ := h
  exact ⟨a1, c1, mt, rfl, h1.mono RI32.mono hle, h2.mono hle⟩
def At_ConsumerGroupHeartbeatRequest (ver : Int) (H : Fz) (T : Tr) (cs : List Value) : Prop := ∃ (p3 : Option Addr) (p4 : Option Addr) (a6 : Option Addr) (c6 : Nat) (p7 : Option Addr) (p8 : Option Addr) (a9 : Option Addr) (c9 : Nat) (mt : Option Nat), cs = [.int .i16 ver, .string ⟨(T.at 0).s.toArray⟩, .string ⟨(T.at 1).s.toArray⟩, .int .i32 (IntKind.i32.wrap (T.at 2).n), .pointer p3, .pointer p4, .int .i32 (IntKind.i32.wrap (T.at 5).n), .slice a6 (lT (T.at 6)).length c6, .pointer p7, .pointer p8, .slice a9 (lT (T.at 9)).length c9, .map mt] ∧ TextAt H (T.at 3) p3 ∧ TextAt H (T.at 4) p4 ∧ ListAt H (T.at 6) 1 RText a6 c6 ∧ TextAt H (T.at 7) p7 ∧ TextAt H (T.at 8) p8 ∧ ListAt H (T.at 9) 18 At_ConsumerGroupHeartbeatRequestTopic a9 c9 ∧ KvAt H mt T.u
theorem At_ConsumerGroupHeartbeatRequest.ok {ver : Int} {H : Fz} {T : Tr} {cs : List Value} (h : At_ConsumerGroupHeartbeatRequest ver H T cs) : cs.length = 12 ∧ ∀ u ∈ cs, u.oneCell' = true := by
  obtain ⟨p3, p4, a6, c6, p7, p8, a9, c9, mt, rfl, h1, h2, h3, h4, h5, h6, h7⟩ := h
  refine ⟨rfl, ?_⟩
  intro u hu
  simp only [List.mem_cons, List.not_mem_nil, or_false] at hu
  rcases hu with rfl | rfl | rfl | rfl | rfl | rfl | rfl | rfl | rfl | rfl | rfl | rfl <;> rfl
theorem At_ConsumerGroupHeartbeatRequest.mono (ver : Int) : RMono (At_ConsumerGroupHeartbeatRequest ver) := by
  intro H H' T cs hle h
  obtain ⟨p3, p4, a6, c6, p7, p8, a9, c9, mt, rfl, h1, h2, h3, h4, h5, h6, h7⟩ := h
  exact ⟨p3, p4, a6, c6, p7, p8, a9, c9, mt, rfl, h1.mono hle, h2.mono hle, h3.mono RText.mono hle, h4.mono hle, h5.mono hle, h6.mono At_ConsumerGroupHeartbeatRequestTopic.mono hle, h7.mono hle⟩
end Go.Sx
