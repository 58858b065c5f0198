import Derived.Test.YthgkgbaggjongaaDoorS3
import Derived.Test.YthgkgbaggjongaaDoorABrokerRegistrationResponse
import Derived.KernelRfl
set_option linter.unusedVariables false
set_option linter.unusedSimpArgs false
set_option maxRecDepth 100000
set_option maxHeartbeats 20000000
namespace Go.Sx
open Go.Proofs
theorem s_BrokerRegistrationResponse {H : Fz} {L : Own} :
    Fn Tryd.prog 6 [] H L (fun v H' L' => L = L' ∧ ∃ a : Option Addr, v = .agg #[.slice a 3 3, .int .i64 0] ∧ FdsAt H' a fs_BrokerRegistrationResponse) := by
  refine Fn.mk Tryd.call6 Tryd.func6 rfl Tryd.ntmps6 rfl ?_
  refine sr ?_
  refine al Tryd.zeroValue31 rfl rfl (fun b_1 => ?_)
  refine nl ?_
  refine sr ?_
  refine bd' S45 rfl rfl rfl ?_
  refine bd' S45 rfl rfl rfl ?_
  refine bd' S45 rfl rfl rfl ?_
  refine bs' L29 rfl rfl rfl rfl (fun b_2 => ?_)
  refine bd' S31 rfl rfl rfl ?_
  refine sa Tryd.sizeOf31 rfl rfl rfl rfl rfl (.tail .head) ?_
  refine nl ?_
  refine frW (Row.whole (size := 8) (m := 3) rfl (by decide)) .head (fun H2 hle2 hfz => ?_)
  have hz : H2.at b_2 0 ([(⟨none, 0⟩, .mk 3 0 (-1) (-1) (-1) 0 0 []), (⟨none, 0⟩, .mk 2 0 (-1) (-1) (-1) 0 0 []), (⟨none, 0⟩, .mk 4 0 (-1) (-1) (-1) (-1) 0 [])].flatMap fun p : FC × Fd => p.1.cells p.2) := by
    rcases hfz with ⟨h0, _⟩ | ⟨g, h0, h1⟩
    · cases h0
    · cases h0; exact h1
  have hl := FdsAt.lit [(⟨none, 0⟩, .mk 3 0 (-1) (-1) (-1) 0 0 []), (⟨none, 0⟩, .mk 2 0 (-1) (-1) (-1) 0 0 []), (⟨none, 0⟩, .mk 4 0 (-1) (-1) (-1) (-1) 0 [])] hz (Nat.le_of_ble_eq_true rfl) (by
    intro p hp
    simp only [List.mem_cons, List.not_mem_nil, or_false] at hp
    rcases hp with rfl | rfl | rfl
    · exact FdAt.of ⟨show ((-1) : Int) ≤ 1000 by decide, show (0 : Int) ≠ 11 by decide⟩ (FdsAt.nil _)
    · exact FdAt.of ⟨show ((-1) : Int) ≤ 1000 by decide, show (0 : Int) ≠ 11 by decide⟩ (FdsAt.nil _)
    · exact FdAt.of ⟨show ((-1) : Int) ≤ 1000 by decide, show (0 : Int) ≠ 11 by decide⟩ (FdsAt.nil _))
  exact rC rfl Tryd.isAgg31 Tryd.sizeOf31 rfl .head rfl hle2 (fun _ _ h => h) ⟨rfl, _, rfl, hl⟩
end Go.Sx
