import Derived.Test.YtahmkeoedpghjaaAGetTelemetrySubscriptionsResponse
import Derived.KernelRfl
set_option linter.unusedVariables false
set_option linter.unusedSimpArgs false
set_option maxRecDepth 100000
set_option maxHeartbeats 20000000
namespace Go.Sx
open Go.Proofs
def At_GetTelemetrySubscriptionsResponse (ver : Int) (H : Fz) (T : Tr) (cs : List Value) : Prop := ∃ (a4 : Option Addr) (c4 : Nat) (a8 : Option Addr) (c8 : Nat) (mt : Option Nat), cs = [.int .i16 ver, .int .i32 (IntKind.i32.wrap (T.at 0).n), .int .i16 (IntKind.i16.wrap (T.at 1).n), ub (T.at 2).s 0, ub (T.at 2).s 1, ub (T.at 2).s 2, ub (T.at 2).s 3, ub (T.at 2).s 4, ub (T.at 2).s 5, ub (T.at 2).s 6, ub (T.at 2).s 7, ub (T.at 2).s 8, ub (T.at 2).s 9, ub (T.at 2).s 10, ub (T.at 2).s 11, ub (T.at 2).s 12, ub (T.at 2).s 13, ub (T.at 2).s 14, ub (T.at 2).s 15, .int .i32 (IntKind.i32.wrap (T.at 3).n), .slice a4 (lT (T.at 4)).length c4, .int .i32 (IntKind.i32.wrap (T.at 5).n), .int .i32 (IntKind.i32.wrap (T.at 6).n), .bool (decide ((T.at 7).n % 2 = 1)), .slice a8 (lT (T.at 8)).length c8, .map mt] ∧ ListAt H (T.at 4) 1 RI8 a4 c4 ∧ ListAt H (T.at 8) 1 RText a8 c8 ∧ KvAt H mt T.u
theorem At_GetTelemetrySubscriptionsResponse.ok {ver : Int} {H : Fz} {T : Tr} {cs : List Value} (h : At_GetTelemetrySubscriptionsResponse ver H T cs) : cs.length = 26 ∧ ∀ u ∈ cs, u.oneCell' = true := by
  obtain ⟨a4, c4, a8, c8, mt, rfl, h1, h2, h3⟩ := h
  refine ⟨rfl, ?_⟩
  intro u hu
  simp only [List.mem_cons, List.not_mem_nil, or_false] at hu
  rcases hu with rfl | rfl | rfl | rfl | rfl | rfl | rfl | rfl | rfl | rfl | rfl | rfl | rfl | rfl | rfl | rfl | rfl | rfl | rfl | rfl | rfl | rfl | rfl | rfl | rfl | rfl <;> rfl
theorem At_GetTelemetrySubscriptionsResponse.mono (ver : Int) : RMono (At_GetTelemetrySubscriptionsResponse ver) := by
  intro H H' T cs hle h
  obtain ⟨a4, c4, a8, c8, mt, rfl, h1, h2, h3⟩ := h
  exact ⟨a4, c4, a8, c8, mt, rfl, h1.mono RI8.mono hle, h2.mono RText.mono hle, h3.mono hle⟩
end Go.Sx
