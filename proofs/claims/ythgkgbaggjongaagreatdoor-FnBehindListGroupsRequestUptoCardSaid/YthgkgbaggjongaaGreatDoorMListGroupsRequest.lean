import Derived.Test.YthgkgbaggjongaaGreatDoorS3
import Derived.Test.YthgkgbaggjongaaGreatDoorAListGroupsRequest
import Derived.KernelRfl
set_option linter.unusedVariables false
set_option linter.unusedSimpArgs false
set_option maxRecDepth 100000
set_option maxHeartbeats 20000000
namespace Go.Sx
open Go.Proofs
theorem s_ListGroupsRequest {H : Fz} {L : Own} :
  Fn Tryz.prog 46 [] H L (fun v H' L' => L = L' ∧ ∃ a : Option Addr, v = .agg #[.slice a 2 2, .int .i64 3] ∧ FdsAt H' a fs_ListGroupsRequest) := by
 refine Fn.mk Tryz.call46 Tryz.func46 rfl Tryz.ntmps46 rfl ?_
 refine sr ?_
 refine al Tryz.zeroValue31 rfl rfl (fun b_1 => ?_)
 refine nl ?_
 refine sr ?_
 refine bd' S56 rfl rfl rfl ?_
 refine bd' S56 rfl rfl rfl ?_
 refine bs' L29 rfl rfl rfl rfl (fun b_2 => ?_)
 refine bd' S31 rfl rfl rfl ?_
 refine sa Tryz.sizeOf31 rfl rfl rfl rfl rfl (.tail .head) ?_
 refine nl ?_
 refine frW (Row.whole (size := 8) (m := 2) rfl (by decide)) .head (fun H2 hle2 hfz => ?_)
 have hz : H2.at b_2 0 ([(⟨none, 0⟩, .mk 11 4 (-1) (-1) (-1) 0 8 []), (⟨none, 0⟩, .mk 11 5 (-1) (-1) (-1) 0 8 [])].flatMap fun p : FC × Fd => p.1.cells p.2) := by
  rcases hfz with ⟨h0, _⟩ | ⟨g, h0, h1⟩
  · cases h0
  · cases h0; exact h1
 have hl := FdsAt.lit [(⟨none, 0⟩, .mk 11 4 (-1) (-1) (-1) 0 8 []), (⟨none, 0⟩, .mk 11 5 (-1) (-1) (-1) 0 8 [])] hz (Nat.le_of_ble_eq_true rfl) (by
  intro p hp
  simp only [List.mem_cons, List.not_mem_nil, or_false] at hp
  rcases hp with rfl | rfl
  · exact FdAt.of ⟨show ((-1) : Int) ≤ 1000 by decide, show (8 : Int) ≠ 11 by decide⟩ (FdsAt.nil _)
  · exact FdAt.of ⟨show ((-1) : Int) ≤ 1000 by decide, show (8 : Int) ≠ 11 by decide⟩ (FdsAt.nil _))
 exact rC rfl Tryz.isAgg31 Tryz.sizeOf31 rfl .head rfl hle2 (fun _ _ h => h) ⟨rfl, _, rfl, hl⟩
end Go.Sx
