import Derived.Test.YtjpidbdhoiagpaaGreatDoorSxTab
import Derived.Test.YtjpidbdhoiagpaaGreatDoorAPushTelemetryRequest
import Derived.KernelRfl
set_option linter.unusedVariables false
set_option linter.unusedSimpArgs false
set_option maxRecDepth 100000
set_option maxHeartbeats 20000000
namespace Go.Sx
open Go.Proofs
def At_PushTelemetryRequest (ver : Int) (H : Fz) (T : Tr) (cs : List Value) : Prop := ∃ (a4 : Option Addr) (c4 : Nat) (mt : Option Nat), cs = [.int .i16 ver, ub (T.at 0).s 0, ub (T.at 0).s 1, ub (T.at 0).s 2, ub (T.at 0).s 3, ub (T.at 0).s 4, ub (T.at 0).s 5, ub (T.at 0).s 6, ub (T.at 0).s 7, ub (T.at 0).s 8, ub (T.at 0).s 9, ub (T.at 0).s 10, ub (T.at 0).s 11, ub (T.at 0).s 12, ub (T.at 0).s 13, ub (T.at 0).s 14, ub (T.at 0).s 15, .int .i32 (IntKind.i32.wrap (T.at 1).n), .bool (decide ((T.at 2).n % 2 = 1)), .int .i8 (IntKind.i8.wrap (T.at 3).n), .slice a4 (sT (T.at 4)).length c4, .map mt] ∧ OctAt H (T.at 4) a4 c4 ∧ KvAt H mt T.u
theorem At_PushTelemetryRequest.ok {ver : Int} {H : Fz} {T : Tr} {cs : List Value} (h : At_PushTelemetryRequest ver H T cs) : cs.length = 22 ∧ ∀ u ∈ cs, u.oneCell' = true := by
 obtain ⟨a4, c4, mt, rfl, h1, h2⟩ := h
 refine ⟨rfl, ?_⟩
 intro u hu
 simp only [List.mem_cons, List.not_mem_nil, or_false] at hu
 rcases hu with rfl | rfl | rfl | rfl | rfl | rfl | rfl | rfl | rfl | rfl | rfl | rfl | rfl | rfl | rfl | rfl | rfl | rfl | rfl | rfl | rfl | rfl <;> rfl
theorem At_PushTelemetryRequest.mono (ver : Int) : RMono (At_PushTelemetryRequest ver) := by
 intro H H' T cs hle h
 obtain ⟨a4, c4, mt, rfl, h1, h2⟩ := h
 exact ⟨a4, c4, mt, rfl, h1.mono hle, h2.mono hle⟩
end Go.Sx
