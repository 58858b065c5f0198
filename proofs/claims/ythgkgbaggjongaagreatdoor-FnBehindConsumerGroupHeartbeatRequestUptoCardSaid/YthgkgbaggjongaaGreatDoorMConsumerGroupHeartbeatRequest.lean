import Derived.Test.YthgkgbaggjongaaGreatDoorS3
import Derived.Test.YthgkgbaggjongaaGreatDoorAConsumerGroupHeartbeatRequest
import Derived.KernelRfl
set_option linter.unusedVariables false
set_option linter.unusedSimpArgs false
set_option maxRecDepth 100000
set_option maxHeartbeats 20000000
namespace Go.Sx
open Go.Proofs
theorem s_sConsumerGroupHeartbeatRequestTopic {H : Fz} {L : Own} :
    Fn Tryz.prog 130 [] H L (fun v H' L' => L = L' ∧ ∃ a : Option Addr, v = .slice a 2 2 ∧ FdsAt H' a fs_sConsumerGroupHeartbeatRequestTopic) := by
  refine Fn.mk Tryz.call130 Tryz.func130 rfl Tryz.ntmps130 rfl ?_
  refine sr ?_
  refine asg rfl rfl ?_
  refine nl ?_
  refine sr ?_
  refine bd' S56 rfl rfl rfl ?_
  refine bd' S56 rfl rfl rfl ?_
  refine bs' L29 rfl rfl rfl rfl (fun b_1 => ?_)
  refine asg rfl rfl ?_
  refine nl ?_
  refine frW (Row.whole (size := 8) (m := 2) rfl (by decide)) .head (fun H2 hle2 hfz => ?_)
  have hz : H2.at b_1 0 ([(⟨none, 0⟩, .mk 7 0 (-1) (-1) (-1) 0 0 []), (⟨none, 0⟩, .mk 11 0 (-1) (-1) (-1) 0 3 [])].flatMap fun p : FC × Fd => p.1.cells p.2) := by
    rcases hfz with ⟨h0, _⟩ | ⟨g, h0, h1⟩
    · cases h0
    · cases h0; exact h1
  have hl := FdsAt.lit [(⟨none, 0⟩, .mk 7 0 (-1) (-1) (-1) 0 0 []), (⟨none, 0⟩, .mk 11 0 (-1) (-1) (-1) 0 3 [])] hz (Nat.le_of_ble_eq_true rfl) (by
    intro p hp
    simp only [List.mem_cons, List.not_mem_nil, or_false] at hp
    rcases hp with rfl | rfl
    · exact FdAt.of ⟨show ((-1) : Int) ≤ 1000 by decide, show (0 : Int) ≠ 11 by decide⟩ (FdsAt.nil _)
    · exact FdAt.of ⟨show ((-1) : Int) ≤ 1000 by decide, show (3 : Int) ≠ 11 by decide⟩ (FdsAt.nil _))
  exact rT rfl rfl hle2 (fun _ _ h => h) ⟨rfl, _, rfl, hl⟩
theorem s_ConsumerGroupHeartbeatRequest {H : Fz} {L : Own} :
    Fn Tryz.prog 53 [] H L (fun v H' L' => L = L' ∧ ∃ a : Option Addr, v = .agg #[.slice a 10 10, .int .i64 0] ∧ FdsAt H' a fs_ConsumerGroupHeartbeatRequest) := by
  refine Fn.mk Tryz.call53 Tryz.func53 rfl Tryz.ntmps53 rfl ?_
  refine sr ?_
  refine al Tryz.zeroValue31 rfl rfl (fun b_1 => ?_)
  refine nl ?_
  refine sr ?_
  refine bd' S56 rfl rfl rfl ?_
  refine bd' S56 rfl rfl rfl ?_
  refine bd' S56 rfl rfl rfl ?_
  refine bd' S56 rfl rfl rfl ?_
  refine bd' S56 rfl rfl rfl ?_
  refine bd' S56 rfl rfl rfl ?_
  refine bd' S56 rfl rfl rfl ?_
  refine bd' S56 rfl rfl rfl ?_
  refine bd' S56 rfl rfl rfl ?_
  refine cl rfl rfl rfl s_sConsumerGroupHeartbeatRequestTopic rfl (fun v H1 L1 le_2 hR => ?_)
  obtain ⟨rfl, a10, rfl, g10⟩ := hR
  refine bd' S56 rfl rfl rfl ?_
  refine bs' L29 rfl rfl rfl rfl (fun b_3 => ?_)
  refine bd' S31 rfl rfl rfl ?_
  refine sa Tryz.sizeOf31 rfl rfl rfl rfl rfl (.tail .head) ?_
  refine nl ?_
  refine frW (Row.whole (size := 8) (m := 10) rfl (by decide)) .head (fun H2 hle2 hfz => ?_)
  have hz : H2.at b_3 0 ([(⟨none, 0⟩, .mk 8 0 (-1) (-1) (-1) 0 0 []), (⟨none, 0⟩, .mk 8 0 (-1) (-1) (-1) 0 0 []), (⟨none, 0⟩, .mk 3 0 (-1) (-1) (-1) 0 0 []), (⟨none, 0⟩, .mk 8 0 (-1) 0 (-1) 0 0 []), (⟨none, 0⟩, .mk 8 0 (-1) 0 (-1) 0 0 []), (⟨none, 0⟩, .mk 3 0 (-1) (-1) (-1) (-1) 0 []), (⟨none, 0⟩, .mk 11 0 (-1) 0 (-1) 0 8 []), (⟨none, 0⟩, .mk 8 1 (-1) 1 (-1) 0 0 []), (⟨none, 0⟩, .mk 8 0 (-1) 0 (-1) 0 0 []), (⟨a10, 2⟩, .mk 11 0 (-1) 0 (-1) 0 10 fs_sConsumerGroupHeartbeatRequestTopic)].flatMap fun p : FC × Fd => p.1.cells p.2) := by
    rcases hfz with ⟨h0, _⟩ | ⟨g, h0, h1⟩
    · cases h0
    · cases h0; exact h1
  have hl := FdsAt.lit [(⟨none, 0⟩, .mk 8 0 (-1) (-1) (-1) 0 0 []), (⟨none, 0⟩, .mk 8 0 (-1) (-1) (-1) 0 0 []), (⟨none, 0⟩, .mk 3 0 (-1) (-1) (-1) 0 0 []), (⟨none, 0⟩, .mk 8 0 (-1) 0 (-1) 0 0 []), (⟨none, 0⟩, .mk 8 0 (-1) 0 (-1) 0 0 []), (⟨none, 0⟩, .mk 3 0 (-1) (-1) (-1) (-1) 0 []), (⟨none, 0⟩, .mk 11 0 (-1) 0 (-1) 0 8 []), (⟨none, 0⟩, .mk 8 1 (-1) 1 (-1) 0 0 []), (⟨none, 0⟩, .mk 8 0 (-1) 0 (-1) 0 0 []), (⟨a10, 2⟩, .mk 11 0 (-1) 0 (-1) 0 10 fs_sConsumerGroupHeartbeatRequestTopic)] hz (Nat.le_of_ble_eq_true rfl) (by
    intro p hp
    simp only [List.mem_cons, List.not_mem_nil, or_false] at hp
    rcases hp with rfl | rfl | rfl | rfl | rfl | rfl | rfl | rfl | rfl | rfl
    · exact FdAt.of ⟨show ((-1) : Int) ≤ 1000 by decide, show (0 : Int) ≠ 11 by decide⟩ (FdsAt.nil _)
    · exact FdAt.of ⟨show ((-1) : Int) ≤ 1000 by decide, show (0 : Int) ≠ 11 by decide⟩ (FdsAt.nil _)
    · exact FdAt.of ⟨show ((-1) : Int) ≤ 1000 by decide, show (0 : Int) ≠ 11 by decide⟩ (FdsAt.nil _)
    · exact FdAt.of ⟨show ((-1) : Int) ≤ 1000 by decide, show (0 : Int) ≠ 11 by decide⟩ (FdsAt.nil _)
    · exact FdAt.of ⟨show ((-1) : Int) ≤ 1000 by decide, show (0 : Int) ≠ 11 by decide⟩ (FdsAt.nil _)
    · exact FdAt.of ⟨show ((-1) : Int) ≤ 1000 by decide, show (0 : Int) ≠ 11 by decide⟩ (FdsAt.nil _)
    · exact FdAt.of ⟨show ((-1) : Int) ≤ 1000 by decide, show (8 : Int) ≠ 11 by decide⟩ (FdsAt.nil _)
    · exact FdAt.of ⟨show ((-1) : Int) ≤ 1000 by decide, show (0 : Int) ≠ 11 by decide⟩ (FdsAt.nil _)
    · exact FdAt.of ⟨show ((-1) : Int) ≤ 1000 by decide, show (0 : Int) ≠ 11 by decide⟩ (FdsAt.nil _)
    · exact FdAt.of ⟨show ((-1) : Int) ≤ 1000 by decide, show (10 : Int) ≠ 11 by decide⟩ (g10.mono hle2))
  exact rC rfl Tryz.isAgg31 Tryz.sizeOf31 rfl .head rfl (le_2.trans hle2) (fun _ _ h => h) ⟨rfl, _, rfl, hl⟩
end Go.Sx
