import Derived.Test.YtjpidbdhoiagpaaGreatDoorS3
import Derived.Test.YtjpidbdhoiagpaaGreatDoorAPushTelemetryRequest
import Derived.KernelRfl
set_option linter.unusedVariables false
set_option linter.unusedSimpArgs false
set_option maxRecDepth 100000
set_option maxHeartbeats 20000000
namespace Go.Sx
open Go.Proofs
theorem s_PushTelemetryRequest {H : Fz} {L : Own} :
  Fn Tryz.prog 25 [] H L (fun v H' L' => L = L' ∧ ∃ a : Option Addr, v = .agg #[.slice a 5 5, .int .i64 0] ∧ FdsAt H' a fs_PushTelemetryRequest) := by
 refine Fn.mk Tryz.call25 Tryz.func25 rfl Tryz.ntmps25 rfl ?_
 refine sr ?_
 refine al Tryz.zeroValue34 rfl rfl (fun b_1 => ?_)
 refine nl ?_
 refine sr ?_
 refine bd' S51 rfl rfl rfl ?_
 refine bd' S51 rfl rfl rfl ?_
 refine bd' S51 rfl rfl rfl ?_
 refine bd' S51 rfl rfl rfl ?_
 refine bd' S51 rfl rfl rfl ?_
 refine bs' L32 rfl rfl rfl rfl (fun b_2 => ?_)
 refine bd' S34 rfl rfl rfl ?_
 refine sa Tryz.sizeOf34 rfl rfl rfl rfl rfl (.tail .head) ?_
 refine nl ?_
 refine frW (Row.whole (size := 8) (m := 5) rfl (by decide)) .head (fun H2 hle2 hfz => ?_)
 have hz : H2.at b_2 0 ([(⟨none, 0⟩, .mk 7 0 (-1) (-1) (-1) 0 0 []), (⟨none, 0⟩, .mk 3 0 (-1) (-1) (-1) 0 0 []), (⟨none, 0⟩, .mk 0 0 (-1) (-1) (-1) 0 0 []), (⟨none, 0⟩, .mk 1 0 (-1) (-1) (-1) 0 0 []), (⟨none, 0⟩, .mk 9 0 (-1) (-1) (-1) 0 0 [])].flatMap fun p : FC × Fd => p.1.cells p.2) := by
  rcases hfz with ⟨h0, _⟩ | ⟨g, h0, h1⟩
  · cases h0
  · cases h0; exact h1
 have hl := FdsAt.lit [(⟨none, 0⟩, .mk 7 0 (-1) (-1) (-1) 0 0 []), (⟨none, 0⟩, .mk 3 0 (-1) (-1) (-1) 0 0 []), (⟨none, 0⟩, .mk 0 0 (-1) (-1) (-1) 0 0 []), (⟨none, 0⟩, .mk 1 0 (-1) (-1) (-1) 0 0 []), (⟨none, 0⟩, .mk 9 0 (-1) (-1) (-1) 0 0 [])] hz (Nat.le_of_ble_eq_true rfl) (by
  intro p hp
  simp only [List.mem_cons, List.not_mem_nil, or_false] at hp
  rcases hp with rfl | rfl | rfl | rfl | rfl
  · exact FdAt.of ⟨show ((-1) : Int) ≤ 1000 by decide, show (0 : Int) ≠ 11 by decide⟩ (FdsAt.nil _)
  · exact FdAt.of ⟨show ((-1) : Int) ≤ 1000 by decide, show (0 : Int) ≠ 11 by decide⟩ (FdsAt.nil _)
  · exact FdAt.of ⟨show ((-1) : Int) ≤ 1000 by decide, show (0 : Int) ≠ 11 by decide⟩ (FdsAt.nil _)
  · exact FdAt.of ⟨show ((-1) : Int) ≤ 1000 by decide, show (0 : Int) ≠ 11 by decide⟩ (FdsAt.nil _)
  · exact FdAt.of ⟨show ((-1) : Int) ≤ 1000 by decide, show (0 : Int) ≠ 11 by decide⟩ (FdsAt.nil _))
 exact rC rfl Tryz.isAgg34 Tryz.sizeOf34 rfl .head rfl hle2 (fun _ _ h => h) ⟨rfl, _, rfl, hl⟩
end Go.Sx
