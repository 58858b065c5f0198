import Derived.Test.YtjpidbdhoiagpaaGreatDoorS3
import Derived.Test.YtjpidbdhoiagpaaGreatDoorAUpdateRaftVoterRequest
import Derived.KernelRfl
set_option linter.unusedVariables false
set_option linter.unusedSimpArgs false
set_option maxRecDepth 100000
set_option maxHeartbeats 20000000
namespace Go.Sx
open Go.Proofs
theorem s_sUpdateRaftVoterRequestListener {H : Fz} {L : Own} :
  Fn Tryz.prog 47 [] H L (fun v H' L' => L = L' ∧ ∃ a : Option Addr, v = .slice a 3 3 ∧ FdsAt H' a fs_sUpdateRaftVoterRequestListener) := by
 refine Fn.mk Tryz.call47 Tryz.func47 rfl Tryz.ntmps47 rfl ?_
 refine sr ?_
 refine asg rfl rfl ?_
 refine nl ?_
 refine sr ?_
 refine bd' S51 rfl rfl rfl ?_
 refine bd' S51 rfl rfl rfl ?_
 refine bd' S51 rfl rfl rfl ?_
 refine bs' L32 rfl rfl rfl rfl (fun b_1 => ?_)
 refine asg rfl rfl ?_
 refine nl ?_
 refine frW (Row.whole (size := 8) (m := 3) rfl (by decide)) .head (fun H2 hle2 hfz => ?_)
 have hz : H2.at b_1 0 ([(⟨none, 0⟩, .mk 8 0 (-1) (-1) (-1) 0 0 []), (⟨none, 0⟩, .mk 8 0 (-1) (-1) (-1) 0 0 []), (⟨none, 0⟩, .mk 5 0 (-1) (-1) (-1) 0 0 [])].flatMap fun p : FC × Fd => p.1.cells p.2) := by
  rcases hfz with ⟨h0, _⟩ | ⟨g, h0, h1⟩
  · cases h0
  · cases h0; exact h1
 have hl := FdsAt.lit [(⟨none, 0⟩, .mk 8 0 (-1) (-1) (-1) 0 0 []), (⟨none, 0⟩, .mk 8 0 (-1) (-1) (-1) 0 0 []), (⟨none, 0⟩, .mk 5 0 (-1) (-1) (-1) 0 0 [])] hz (Nat.le_of_ble_eq_true rfl) (by
  intro p hp
  simp only [List.mem_cons, List.not_mem_nil, or_false] at hp
  rcases hp with rfl | rfl | rfl
  · exact FdAt.of ⟨show ((-1) : Int) ≤ 1000 by decide, show (0 : Int) ≠ 11 by decide⟩ (FdsAt.nil _)
  · exact FdAt.of ⟨show ((-1) : Int) ≤ 1000 by decide, show (0 : Int) ≠ 11 by decide⟩ (FdsAt.nil _)
  · exact FdAt.of ⟨show ((-1) : Int) ≤ 1000 by decide, show (0 : Int) ≠ 11 by decide⟩ (FdsAt.nil _))
 exact rT rfl rfl hle2 (fun _ _ h => h) ⟨rfl, _, rfl, hl⟩
theorem s_sUpdateRaftVoterRequestKRaftVersionFeature {H : Fz} {L : Own} :
  Fn Tryz.prog 48 [] H L (fun v H' L' => L = L' ∧ ∃ a : Option Addr, v = .slice a 2 2 ∧ FdsAt H' a fs_sUpdateRaftVoterRequestKRaftVersionFeature) := by
 refine Fn.mk Tryz.call48 Tryz.func48 rfl Tryz.ntmps48 rfl ?_
 refine sr ?_
 refine asg rfl rfl ?_
 refine nl ?_
 refine sr ?_
 refine bd' S51 rfl rfl rfl ?_
 refine bd' S51 rfl rfl rfl ?_
 refine bs' L32 rfl rfl rfl rfl (fun b_1 => ?_)
 refine asg rfl rfl ?_
 refine nl ?_
 refine frW (Row.whole (size := 8) (m := 2) rfl (by decide)) .head (fun H2 hle2 hfz => ?_)
 have hz : H2.at b_1 0 ([(⟨none, 0⟩, .mk 2 0 (-1) (-1) (-1) 0 0 []), (⟨none, 0⟩, .mk 2 0 (-1) (-1) (-1) 0 0 [])].flatMap fun p : FC × Fd => p.1.cells p.2) := by
  rcases hfz with ⟨h0, _⟩ | ⟨g, h0, h1⟩
  · cases h0
  · cases h0; exact h1
 have hl := FdsAt.lit [(⟨none, 0⟩, .mk 2 0 (-1) (-1) (-1) 0 0 []), (⟨none, 0⟩, .mk 2 0 (-1) (-1) (-1) 0 0 [])] hz (Nat.le_of_ble_eq_true rfl) (by
  intro p hp
  simp only [List.mem_cons, List.not_mem_nil, or_false] at hp
  rcases hp with rfl | rfl
  · exact FdAt.of ⟨show ((-1) : Int) ≤ 1000 by decide, show (0 : Int) ≠ 11 by decide⟩ (FdsAt.nil _)
  · exact FdAt.of ⟨show ((-1) : Int) ≤ 1000 by decide, show (0 : Int) ≠ 11 by decide⟩ (FdsAt.nil _))
 exact rT rfl rfl hle2 (fun _ _ h => h) ⟨rfl, _, rfl, hl⟩
theorem s_UpdateRaftVoterRequest {H : Fz} {L : Own} :
  Fn Tryz.prog 22 [] H L (fun v H' L' => L = L' ∧ ∃ a : Option Addr, v = .agg #[.slice a 6 6, .int .i64 0] ∧ FdsAt H' a fs_UpdateRaftVoterRequest) := by
 refine Fn.mk Tryz.call22 Tryz.func22 rfl Tryz.ntmps22 rfl ?_
 refine sr ?_
 refine al Tryz.zeroValue34 rfl rfl (fun b_1 => ?_)
 refine nl ?_
 refine sr ?_
 refine bd' S51 rfl rfl rfl ?_
 refine bd' S51 rfl rfl rfl ?_
 refine bd' S51 rfl rfl rfl ?_
 refine bd' S51 rfl rfl rfl ?_
 refine cl rfl rfl rfl s_sUpdateRaftVoterRequestListener rfl (fun v H1 L1 le_2 hR => ?_)
 obtain ⟨rfl, a5, rfl, g5⟩ := hR
 refine bd' S51 rfl rfl rfl ?_
 refine cl rfl rfl rfl s_sUpdateRaftVoterRequestKRaftVersionFeature rfl (fun v H1 L1 le_3 hR => ?_)
 obtain ⟨rfl, a7, rfl, g7⟩ := hR
 refine bd' S51 rfl rfl rfl ?_
 refine bs' L32 rfl rfl rfl rfl (fun b_4 => ?_)
 refine bd' S34 rfl rfl rfl ?_
 refine sa Tryz.sizeOf34 rfl rfl rfl rfl rfl (.tail .head) ?_
 refine nl ?_
 refine frW (Row.whole (size := 8) (m := 6) rfl (by decide)) .head (fun H2 hle2 hfz => ?_)
 have hz : H2.at b_4 0 ([(⟨none, 0⟩, .mk 8 0 (-1) 0 (-1) 0 0 []), (⟨none, 0⟩, .mk 3 0 (-1) (-1) (-1) 0 0 []), (⟨none, 0⟩, .mk 3 0 (-1) (-1) (-1) 0 0 []), (⟨none, 0⟩, .mk 7 0 (-1) (-1) (-1) 0 0 []), (⟨a5, 3⟩, .mk 11 0 (-1) (-1) (-1) 0 10 fs_sUpdateRaftVoterRequestListener), (⟨a7, 2⟩, .mk 10 0 (-1) (-1) (-1) 0 0 fs_sUpdateRaftVoterRequestKRaftVersionFeature)].flatMap fun p : FC × Fd => p.1.cells p.2) := by
  rcases hfz with ⟨h0, _⟩ | ⟨g, h0, h1⟩
  · cases h0
  · cases h0; exact h1
 have hl := FdsAt.lit [(⟨none, 0⟩, .mk 8 0 (-1) 0 (-1) 0 0 []), (⟨none, 0⟩, .mk 3 0 (-1) (-1) (-1) 0 0 []), (⟨none, 0⟩, .mk 3 0 (-1) (-1) (-1) 0 0 []), (⟨none, 0⟩, .mk 7 0 (-1) (-1) (-1) 0 0 []), (⟨a5, 3⟩, .mk 11 0 (-1) (-1) (-1) 0 10 fs_sUpdateRaftVoterRequestListener), (⟨a7, 2⟩, .mk 10 0 (-1) (-1) (-1) 0 0 fs_sUpdateRaftVoterRequestKRaftVersionFeature)] hz (Nat.le_of_ble_eq_true rfl) (by
  intro p hp
  simp only [List.mem_cons, List.not_mem_nil, or_false] at hp
  rcases hp with rfl | rfl | rfl | rfl | rfl | rfl
  · exact FdAt.of ⟨show ((-1) : Int) ≤ 1000 by decide, show (0 : Int) ≠ 11 by decide⟩ (FdsAt.nil _)
  · exact FdAt.of ⟨show ((-1) : Int) ≤ 1000 by decide, show (0 : Int) ≠ 11 by decide⟩ (FdsAt.nil _)
  · exact FdAt.of ⟨show ((-1) : Int) ≤ 1000 by decide, show (0 : Int) ≠ 11 by decide⟩ (FdsAt.nil _)
  · exact FdAt.of ⟨show ((-1) : Int) ≤ 1000 by decide, show (0 : Int) ≠ 11 by decide⟩ (FdsAt.nil _)
  · exact FdAt.of ⟨show ((-1) : Int) ≤ 1000 by decide, show (10 : Int) ≠ 11 by decide⟩ (g5.mono (le_3.trans hle2))
  · exact FdAt.of ⟨show ((-1) : Int) ≤ 1000 by decide, show (0 : Int) ≠ 11 by decide⟩ (g7.mono hle2))
 exact rC rfl Tryz.isAgg34 Tryz.sizeOf34 rfl .head rfl (le_2.trans (le_3.trans hle2)) (fun _ _ h => h) ⟨rfl, _, rfl, hl⟩
end Go.Sx
