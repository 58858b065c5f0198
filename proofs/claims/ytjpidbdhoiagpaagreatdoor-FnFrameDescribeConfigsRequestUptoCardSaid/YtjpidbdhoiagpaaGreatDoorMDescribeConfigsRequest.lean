import Derived.Test.YtjpidbdhoiagpaaGreatDoorS3
import Derived.Test.YtjpidbdhoiagpaaGreatDoorADescribeConfigsRequest
import Derived.KernelRfl
set_option linter.unusedVariables false
set_option linter.unusedSimpArgs false
set_option maxRecDepth 100000
set_option maxHeartbeats 20000000
namespace Go.Sx
open Go.Proofs
theorem s_sDescribeConfigsRequestResource {H : Fz} {L : Own} :
  Fn Tryz.prog 57 [] H L (fun v H' L' => L = L' ∧ ∃ a : Option Addr, v = .slice a 3 3 ∧ FdsAt H' a fs_sDescribeConfigsRequestResource) := by
 refine Fn.mk Tryz.call57 Tryz.func57 rfl Tryz.ntmps57 rfl ?_
 refine sr ?_
 refine asg rfl rfl ?_
 refine nl ?_
 refine sr ?_
 refine bd' S51 rfl rfl rfl ?_
 refine bd' S51 rfl rfl rfl ?_
 refine bd' S51 rfl rfl rfl ?_
 refine bs' L32 rfl rfl rfl rfl (fun b_1 => ?_)
 refine asg rfl rfl ?_
 refine nl ?_
 refine frW (Row.whole (size := 8) (m := 3) rfl (by decide)) .head (fun H2 hle2 hfz => ?_)
 have hz : H2.at b_1 0 ([(⟨none, 0⟩, .mk 1 0 (-1) (-1) (-1) 0 0 []), (⟨none, 0⟩, .mk 8 0 (-1) (-1) (-1) 0 0 []), (⟨none, 0⟩, .mk 11 0 (-1) 0 (-1) 0 8 [])].flatMap fun p : FC × Fd => p.1.cells p.2) := by
  rcases hfz with ⟨h0, _⟩ | ⟨g, h0, h1⟩
  · cases h0
  · cases h0; exact h1
 have hl := FdsAt.lit [(⟨none, 0⟩, .mk 1 0 (-1) (-1) (-1) 0 0 []), (⟨none, 0⟩, .mk 8 0 (-1) (-1) (-1) 0 0 []), (⟨none, 0⟩, .mk 11 0 (-1) 0 (-1) 0 8 [])] hz (Nat.le_of_ble_eq_true rfl) (by
  intro p hp
  simp only [List.mem_cons, List.not_mem_nil, or_false] at hp
  rcases hp with rfl | rfl | rfl
  · exact FdAt.of ⟨show ((-1) : Int) ≤ 1000 by decide, show (0 : Int) ≠ 11 by decide⟩ (FdsAt.nil _)
  · exact FdAt.of ⟨show ((-1) : Int) ≤ 1000 by decide, show (0 : Int) ≠ 11 by decide⟩ (FdsAt.nil _)
  · exact FdAt.of ⟨show ((-1) : Int) ≤ 1000 by decide, show (8 : Int) ≠ 11 by decide⟩ (FdsAt.nil _))
 exact rT rfl rfl hle2 (fun _ _ h => h) ⟨rfl, _, rfl, hl⟩
theorem s_DescribeConfigsRequest {H : Fz} {L : Own} :
  Fn Tryz.prog 28 [] H L (fun v H' L' => L = L' ∧ ∃ a : Option Addr, v = .agg #[.slice a 3 3, .int .i64 4] ∧ FdsAt H' a fs_DescribeConfigsRequest) := by
 refine Fn.mk Tryz.call28 Tryz.func28 rfl Tryz.ntmps28 rfl ?_
 refine sr ?_
 refine al Tryz.zeroValue34 rfl rfl (fun b_1 => ?_)
 refine nl ?_
 refine sr ?_
 refine cl rfl rfl rfl s_sDescribeConfigsRequestResource rfl (fun v H1 L1 le_2 hR => ?_)
 obtain ⟨rfl, a1, rfl, g1⟩ := hR
 refine bd' S51 rfl rfl rfl ?_
 refine bd' S51 rfl rfl rfl ?_
 refine bd' S51 rfl rfl rfl ?_
 refine bs' L32 rfl rfl rfl rfl (fun b_3 => ?_)
 refine bd' S34 rfl rfl rfl ?_
 refine sa Tryz.sizeOf34 rfl rfl rfl rfl rfl (.tail .head) ?_
 refine nl ?_
 refine frW (Row.whole (size := 8) (m := 3) rfl (by decide)) .head (fun H2 hle2 hfz => ?_)
 have hz : H2.at b_3 0 ([(⟨a1, 3⟩, .mk 11 0 (-1) (-1) (-1) 0 10 fs_sDescribeConfigsRequestResource), (⟨none, 0⟩, .mk 0 1 (-1) (-1) (-1) 0 0 []), (⟨none, 0⟩, .mk 0 3 (-1) (-1) (-1) 0 0 [])].flatMap fun p : FC × Fd => p.1.cells p.2) := by
  rcases hfz with ⟨h0, _⟩ | ⟨g, h0, h1⟩
  · cases h0
  · cases h0; exact h1
 have hl := FdsAt.lit [(⟨a1, 3⟩, .mk 11 0 (-1) (-1) (-1) 0 10 fs_sDescribeConfigsRequestResource), (⟨none, 0⟩, .mk 0 1 (-1) (-1) (-1) 0 0 []), (⟨none, 0⟩, .mk 0 3 (-1) (-1) (-1) 0 0 [])] hz (Nat.le_of_ble_eq_true rfl) (by
  intro p hp
  simp only [List.mem_cons, List.not_mem_nil, or_false] at hp
  rcases hp with rfl | rfl | rfl
  · exact FdAt.of ⟨show ((-1) : Int) ≤ 1000 by decide, show (10 : Int) ≠ 11 by decide⟩ (g1.mono hle2)
  · exact FdAt.of ⟨show ((-1) : Int) ≤ 1000 by decide, show (0 : Int) ≠ 11 by decide⟩ (FdsAt.nil _)
  · exact FdAt.of ⟨show ((-1) : Int) ≤ 1000 by decide, show (0 : Int) ≠ 11 by decide⟩ (FdsAt.nil _))
 exact rC rfl Tryz.isAgg34 Tryz.sizeOf34 rfl .head rfl (le_2.trans hle2) (fun _ _ h => h) ⟨rfl, _, rfl, hl⟩
end Go.Sx
