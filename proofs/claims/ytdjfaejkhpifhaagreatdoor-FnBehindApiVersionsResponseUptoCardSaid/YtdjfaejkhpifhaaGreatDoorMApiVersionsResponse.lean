import Derived.Test.YtdjfaejkhpifhaaGreatDoorS3
import Derived.Test.YtdjfaejkhpifhaaGreatDoorAApiVersionsResponse
import Derived.KernelRfl
set_option linter.unusedVariables false
set_option linter.unusedSimpArgs false
set_option maxRecDepth 100000
set_option maxHeartbeats 20000000
namespace Go.Sx
open Go.Proofs
theorem s_sApiVersionsResponseApiKey {H : Fz} {L : Own} :
  Fn Tryz.prog 26 [] H L (fun v H' L' => L = L' ∧ ∃ a : Option Addr, v = .slice a 3 3 ∧ FdsAt H' a fs_sApiVersionsResponseApiKey) := by
 refine Fn.mk Tryz.call26 Tryz.func26 rfl Tryz.ntmps26 rfl ?_
 refine sr ?_
 refine asg rfl rfl ?_
 refine nl ?_
 refine sr ?_
 refine bd' S45 rfl rfl rfl ?_
 refine bd' S45 rfl rfl rfl ?_
 refine bd' S45 rfl rfl rfl ?_
 refine bs' L29 rfl rfl rfl rfl (fun b_1 => ?_)
 refine asg rfl rfl ?_
 refine nl ?_
 refine frW (Row.whole (size := 8) (m := 3) rfl (by decide)) .head (fun H2 hle2 hfz => ?_)
 have hz : H2.at b_1 0 ([(⟨none, 0⟩, .mk 2 0 (-1) (-1) (-1) 0 0 []), (⟨none, 0⟩, .mk 2 0 (-1) (-1) (-1) 0 0 []), (⟨none, 0⟩, .mk 2 0 (-1) (-1) (-1) 0 0 [])].flatMap fun p : FC × Fd => p.1.cells p.2) := by
  rcases hfz with ⟨h0, _⟩ | ⟨g, h0, h1⟩
  · cases h0
  · cases h0; exact h1
 have hl := FdsAt.lit [(⟨none, 0⟩, .mk 2 0 (-1) (-1) (-1) 0 0 []), (⟨none, 0⟩, .mk 2 0 (-1) (-1) (-1) 0 0 []), (⟨none, 0⟩, .mk 2 0 (-1) (-1) (-1) 0 0 [])] hz (Nat.le_of_ble_eq_true rfl) (by
  intro p hp
  simp only [List.mem_cons, List.not_mem_nil, or_false] at hp
  rcases hp with rfl | rfl | rfl
  · exact FdAt.of ⟨show ((-1) : Int) ≤ 1000 by decide, show (0 : Int) ≠ 11 by decide⟩ (FdsAt.nil _)
  · exact FdAt.of ⟨show ((-1) : Int) ≤ 1000 by decide, show (0 : Int) ≠ 11 by decide⟩ (FdsAt.nil _)
  · exact FdAt.of ⟨show ((-1) : Int) ≤ 1000 by decide, show (0 : Int) ≠ 11 by decide⟩ (FdsAt.nil _))
 exact rT rfl rfl hle2 (fun _ _ h => h) ⟨rfl, _, rfl, hl⟩
theorem s_sApiVersionsResponseSupportedFeature {H : Fz} {L : Own} :
  Fn Tryz.prog 27 [] H L (fun v H' L' => L = L' ∧ ∃ a : Option Addr, v = .slice a 3 3 ∧ FdsAt H' a fs_sApiVersionsResponseSupportedFeature) := by
 refine Fn.mk Tryz.call27 Tryz.func27 rfl Tryz.ntmps27 rfl ?_
 refine sr ?_
 refine asg rfl rfl ?_
 refine nl ?_
 refine sr ?_
 refine bd' S45 rfl rfl rfl ?_
 refine bd' S45 rfl rfl rfl ?_
 refine bd' S45 rfl rfl rfl ?_
 refine bs' L29 rfl rfl rfl rfl (fun b_1 => ?_)
 refine asg rfl rfl ?_
 refine nl ?_
 refine frW (Row.whole (size := 8) (m := 3) rfl (by decide)) .head (fun H2 hle2 hfz => ?_)
 have hz : H2.at b_1 0 ([(⟨none, 0⟩, .mk 8 0 (-1) (-1) (-1) 0 0 []), (⟨none, 0⟩, .mk 2 0 (-1) (-1) (-1) 0 0 []), (⟨none, 0⟩, .mk 2 0 (-1) (-1) (-1) 0 0 [])].flatMap fun p : FC × Fd => p.1.cells p.2) := by
  rcases hfz with ⟨h0, _⟩ | ⟨g, h0, h1⟩
  · cases h0
  · cases h0; exact h1
 have hl := FdsAt.lit [(⟨none, 0⟩, .mk 8 0 (-1) (-1) (-1) 0 0 []), (⟨none, 0⟩, .mk 2 0 (-1) (-1) (-1) 0 0 []), (⟨none, 0⟩, .mk 2 0 (-1) (-1) (-1) 0 0 [])] hz (Nat.le_of_ble_eq_true rfl) (by
  intro p hp
  simp only [List.mem_cons, List.not_mem_nil, or_false] at hp
  rcases hp with rfl | rfl | rfl
  · exact FdAt.of ⟨show ((-1) : Int) ≤ 1000 by decide, show (0 : Int) ≠ 11 by decide⟩ (FdsAt.nil _)
  · exact FdAt.of ⟨show ((-1) : Int) ≤ 1000 by decide, show (0 : Int) ≠ 11 by decide⟩ (FdsAt.nil _)
  · exact FdAt.of ⟨show ((-1) : Int) ≤ 1000 by decide, show (0 : Int) ≠ 11 by decide⟩ (FdsAt.nil _))
 exact rT rfl rfl hle2 (fun _ _ h => h) ⟨rfl, _, rfl, hl⟩
theorem s_sApiVersionsResponseFinalizedFeature {H : Fz} {L : Own} :
  Fn Tryz.prog 28 [] H L (fun v H' L' => L = L' ∧ ∃ a : Option Addr, v = .slice a 3 3 ∧ FdsAt H' a fs_sApiVersionsResponseFinalizedFeature) := by
 refine Fn.mk Tryz.call28 Tryz.func28 rfl Tryz.ntmps28 rfl ?_
 refine sr ?_
 refine asg rfl rfl ?_
 refine nl ?_
 refine sr ?_
 refine bd' S45 rfl rfl rfl ?_
 refine bd' S45 rfl rfl rfl ?_
 refine bd' S45 rfl rfl rfl ?_
 refine bs' L29 rfl rfl rfl rfl (fun b_1 => ?_)
 refine asg rfl rfl ?_
 refine nl ?_
 refine frW (Row.whole (size := 8) (m := 3) rfl (by decide)) .head (fun H2 hle2 hfz => ?_)
 have hz : H2.at b_1 0 ([(⟨none, 0⟩, .mk 8 0 (-1) (-1) (-1) 0 0 []), (⟨none, 0⟩, .mk 2 0 (-1) (-1) (-1) 0 0 []), (⟨none, 0⟩, .mk 2 0 (-1) (-1) (-1) 0 0 [])].flatMap fun p : FC × Fd => p.1.cells p.2) := by
  rcases hfz with ⟨h0, _⟩ | ⟨g, h0, h1⟩
  · cases h0
  · cases h0; exact h1
 have hl := FdsAt.lit [(⟨none, 0⟩, .mk 8 0 (-1) (-1) (-1) 0 0 []), (⟨none, 0⟩, .mk 2 0 (-1) (-1) (-1) 0 0 []), (⟨none, 0⟩, .mk 2 0 (-1) (-1) (-1) 0 0 [])] hz (Nat.le_of_ble_eq_true rfl) (by
  intro p hp
  simp only [List.mem_cons, List.not_mem_nil, or_false] at hp
  rcases hp with rfl | rfl | rfl
  · exact FdAt.of ⟨show ((-1) : Int) ≤ 1000 by decide, show (0 : Int) ≠ 11 by decide⟩ (FdsAt.nil _)
  · exact FdAt.of ⟨show ((-1) : Int) ≤ 1000 by decide, show (0 : Int) ≠ 11 by decide⟩ (FdsAt.nil _)
  · exact FdAt.of ⟨show ((-1) : Int) ≤ 1000 by decide, show (0 : Int) ≠ 11 by decide⟩ (FdsAt.nil _))
 exact rT rfl rfl hle2 (fun _ _ h => h) ⟨rfl, _, rfl, hl⟩
theorem s_ApiVersionsResponse {H : Fz} {L : Own} :
  Fn Tryz.prog 13 [] H L (fun v H' L' => L = L' ∧ ∃ a : Option Addr, v = .agg #[.slice a 7 7, .int .i64 3] ∧ FdsAt H' a fs_ApiVersionsResponse) := by
 refine Fn.mk Tryz.call13 Tryz.func13 rfl Tryz.ntmps13 rfl ?_
 refine sr ?_
 refine al Tryz.zeroValue31 rfl rfl (fun b_1 => ?_)
 refine nl ?_
 refine sr ?_
 refine bd' S45 rfl rfl rfl ?_
 refine cl rfl rfl rfl s_sApiVersionsResponseApiKey rfl (fun v H1 L1 le_2 hR => ?_)
 obtain ⟨rfl, a2, rfl, g2⟩ := hR
 refine bd' S45 rfl rfl rfl ?_
 refine bd' S45 rfl rfl rfl ?_
 refine cl rfl rfl rfl s_sApiVersionsResponseSupportedFeature rfl (fun v H1 L1 le_3 hR => ?_)
 obtain ⟨rfl, a5, rfl, g5⟩ := hR
 refine bd' S45 rfl rfl rfl ?_
 refine bd' S45 rfl rfl rfl ?_
 refine cl rfl rfl rfl s_sApiVersionsResponseFinalizedFeature rfl (fun v H1 L1 le_4 hR => ?_)
 obtain ⟨rfl, a8, rfl, g8⟩ := hR
 refine bd' S45 rfl rfl rfl ?_
 refine bd' S45 rfl rfl rfl ?_
 refine bs' L29 rfl rfl rfl rfl (fun b_5 => ?_)
 refine bd' S31 rfl rfl rfl ?_
 refine sa Tryz.sizeOf31 rfl rfl rfl rfl rfl (.tail .head) ?_
 refine nl ?_
 refine frW (Row.whole (size := 8) (m := 7) rfl (by decide)) .head (fun H2 hle2 hfz => ?_)
 have hz : H2.at b_5 0 ([(⟨none, 0⟩, .mk 2 0 (-1) (-1) (-1) 0 0 []), (⟨a2, 3⟩, .mk 11 0 (-1) (-1) (-1) 0 10 fs_sApiVersionsResponseApiKey), (⟨none, 0⟩, .mk 3 1 (-1) (-1) (-1) 0 0 []), (⟨a5, 3⟩, .mk 11 0 (-1) (-1) 0 0 10 fs_sApiVersionsResponseSupportedFeature), (⟨none, 0⟩, .mk 4 0 (-1) (-1) 1 (-1) 0 []), (⟨a8, 3⟩, .mk 11 0 (-1) (-1) 2 0 10 fs_sApiVersionsResponseFinalizedFeature), (⟨none, 0⟩, .mk 0 0 (-1) (-1) 3 0 0 [])].flatMap fun p : FC × Fd => p.1.cells p.2) := by
  rcases hfz with ⟨h0, _⟩ | ⟨g, h0, h1⟩
  · cases h0
  · cases h0; exact h1
 have hl := FdsAt.lit [(⟨none, 0⟩, .mk 2 0 (-1) (-1) (-1) 0 0 []), (⟨a2, 3⟩, .mk 11 0 (-1) (-1) (-1) 0 10 fs_sApiVersionsResponseApiKey), (⟨none, 0⟩, .mk 3 1 (-1) (-1) (-1) 0 0 []), (⟨a5, 3⟩, .mk 11 0 (-1) (-1) 0 0 10 fs_sApiVersionsResponseSupportedFeature), (⟨none, 0⟩, .mk 4 0 (-1) (-1) 1 (-1) 0 []), (⟨a8, 3⟩, .mk 11 0 (-1) (-1) 2 0 10 fs_sApiVersionsResponseFinalizedFeature), (⟨none, 0⟩, .mk 0 0 (-1) (-1) 3 0 0 [])] hz (Nat.le_of_ble_eq_true rfl) (by
  intro p hp
  simp only [List.mem_cons, List.not_mem_nil, or_false] at hp
  rcases hp with rfl | rfl | rfl | rfl | rfl | rfl | rfl
  · exact FdAt.of ⟨show ((-1) : Int) ≤ 1000 by decide, show (0 : Int) ≠ 11 by decide⟩ (FdsAt.nil _)
  · exact FdAt.of ⟨show ((-1) : Int) ≤ 1000 by decide, show (10 : Int) ≠ 11 by decide⟩ (g2.mono (le_3.trans (le_4.trans hle2)))
  · exact FdAt.of ⟨show ((-1) : Int) ≤ 1000 by decide, show (0 : Int) ≠ 11 by decide⟩ (FdsAt.nil _)
  · exact FdAt.of ⟨show (0 : Int) ≤ 1000 by decide, show (10 : Int) ≠ 11 by decide⟩ (g5.mono (le_4.trans hle2))
  · exact FdAt.of ⟨show (1 : Int) ≤ 1000 by decide, show (0 : Int) ≠ 11 by decide⟩ (FdsAt.nil _)
  · exact FdAt.of ⟨show (2 : Int) ≤ 1000 by decide, show (10 : Int) ≠ 11 by decide⟩ (g8.mono hle2)
  · exact FdAt.of ⟨show (3 : Int) ≤ 1000 by decide, show (0 : Int) ≠ 11 by decide⟩ (FdsAt.nil _))
 exact rC rfl Tryz.isAgg31 Tryz.sizeOf31 rfl .head rfl (le_2.trans (le_3.trans (le_4.trans hle2))) (fun _ _ h => h) ⟨rfl, _, rfl, hl⟩
end Go.Sx
