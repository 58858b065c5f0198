import Derived.Test.YtahmkeoedpghjabGreatSxTab
import Derived.Test.YtahmkeoedpghjabGreatKB2
import Derived.KernelRfl
set_option linter.unusedVariables false
set_option linter.unusedSimpArgs false
set_option maxRecDepth 100000
set_option maxHeartbeats 20000000
namespace Go.Sx
open Go.Proofs
def fs_sUpdateMetadataRequestTopicPartition : List Fd := [.mk 8 0 4 (-1) (-1) 0 0 [], .mk 3 0 (-1) (-1) (-1) 0 0 [], .mk 3 0 (-1) (-1) (-1) 0 0 [], .mk 3 0 (-1) (-1) (-1) 0 0 [], .mk 3 0 (-1) (-1) (-1) 0 0 [], .mk 11 0 (-1) (-1) (-1) 0 3 [], .mk 3 0 (-1) (-1) (-1) 0 0 [], .mk 11 0 (-1) (-1) (-1) 0 3 [], .mk 11 4 (-1) (-1) (-1) 0 3 []]
theorem s_sUpdateMetadataRequestTopicPartition {H : Fz} {L : Own} :
    Fn Tryz.prog 46 [] H L (fun v H' L' => L = L' ∧ ∃ a : Option Addr, v = .slice a 9 9 ∧ FdsAt H' a fs_sUpdateMetadataRequestTopicPartition) := by
  refine Fn.mk Tryz.call46 Tryz.func46 rfl Tryz.ntmps46 rfl ?_
  refine sr ?_
  refine asg rfl rfl ?_
  refine nl ?_
  refine sr ?_
  refine bd' S50 rfl rfl rfl ?_
  refine bd' S50 rfl rfl rfl ?_
  refine bd' S50 rfl rfl rfl ?_
  refine bd' S50 rfl rfl rfl ?_
  refine bd' S50 rfl rfl rfl ?_
  refine bd' S50 rfl rfl rfl ?_
  refine bd' S50 rfl rfl rfl ?_
  refine bd' S50 rfl rfl rfl ?_
  refine bd' S50 rfl rfl rfl ?_
  refine bs' L29 rfl rfl rfl rfl (fun b_1 => ?_)
  refine asg rfl rfl ?_
  refine nl ?_
  refine frW (Row.whole (size := 8) (m := 9) rfl (by decide)) .head (fun H2 hle2 hfz => ?_)
  have hz : H2.at b_1 0 ([(⟨none, 0⟩, .mk 8 0 4 (-1) (-1) 0 0 []), (⟨none, 0⟩, .mk 3 0 (-1) (-1) (-1) 0 0 []), (⟨none, 0⟩, .mk 3 0 (-1) (-1) (-1) 0 0 []), (⟨none, 0⟩, .mk 3 0 (-1) (-1) (-1) 0 0 []), (⟨none, 0⟩, .mk 3 0 (-1) (-1) (-1) 0 0 []), (⟨none, 0⟩, .mk 11 0 (-1) (-1) (-1) 0 3 []), (⟨none, 0⟩, .mk 3 0 (-1) (-1) (-1) 0 0 []), (⟨none, 0⟩, .mk 11 0 (-1) (-1) (-1) 0 3 []), (⟨none, 0⟩, .mk 11 4 (-1) (-1) (-1) 0 3 [])].flatMap fun p : FC × Fd => p.1.cells p.2) := by
    rcases hfz with ⟨h0, _⟩ | ⟨g, h0, h1⟩
    · cases h0
    · cases h0; exact h1
  have hl := FdsAt.lit [(⟨none, 0⟩, .mk 8 0 4 (-1) (-1) 0 0 []), (⟨none, 0⟩, .mk 3 0 (-1) (-1) (-1) 0 0 []), (⟨none, 0⟩, .mk 3 0 (-1) (-1) (-1) 0 0 []), (⟨none, 0⟩, .mk 3 0 (-1) (-1) (-1) 0 0 []), (⟨none, 0⟩, .mk 3 0 (-1) (-1) (-1) 0 0 []), (⟨none, 0⟩, .mk 11 0 (-1) (-1) (-1) 0 3 []), (⟨none, 0⟩, .mk 3 0 (-1) (-1) (-1) 0 0 []), (⟨none, 0⟩, .mk 11 0 (-1) (-1) (-1) 0 3 []), (⟨none, 0⟩, .mk 11 4 (-1) (-1) (-1) 0 3 [])] hz (Nat.le_of_ble_eq_true rfl) (by
    intro p hp
    simp only [List.mem_cons, List.not_mem_nil, or_false] at hp
    rcases hp with rfl | rfl | rfl | rfl | rfl | rfl | rfl | rfl | rfl
    · exact FdAt.of ⟨show ((-1) : Int) ≤ 1000 by decide, show (0 : Int) ≠ 11 by decide⟩ (FdsAt.nil _)
    · exact FdAt.of ⟨show ((-1) : Int) ≤ 1000 by decide, show (0 : Int) ≠ 11 by decide⟩ (FdsAt.nil _)
    · exact FdAt.of ⟨show ((-1) : Int) ≤ 1000 by decide, show (0 : Int) ≠ 11 by decide⟩ (FdsAt.nil _)
    · exact FdAt.of ⟨show ((-1) : Int) ≤ 1000 by decide, show (0 : Int) ≠ 11 by decide⟩ (FdsAt.nil _)
    · exact FdAt.of ⟨show ((-1) : Int) ≤ 1000 by decide, show (0 : Int) ≠ 11 by decide⟩ (FdsAt.nil _)
    · exact FdAt.of ⟨show ((-1) : Int) ≤ 1000 by decide, show (3 : Int) ≠ 11 by decide⟩ (FdsAt.nil _)
    · exact FdAt.of ⟨show ((-1) : Int) ≤ 1000 by decide, show (0 : Int) ≠ 11 by decide⟩ (FdsAt.nil _)
    · exact FdAt.of ⟨show ((-1) : Int) ≤ 1000 by decide, show (3 : Int) ≠ 11 by decide⟩ (FdsAt.nil _)
    · exact FdAt.of ⟨show ((-1) : Int) ≤ 1000 by decide, show (3 : Int) ≠ 11 by decide⟩ (FdsAt.nil _))
  exact rT rfl rfl hle2 (fun _ _ h => h) ⟨rfl, _, rfl, hl⟩
def fs_sUpdateMetadataRequestTopicState : List Fd := [.mk 8 0 (-1) (-1) (-1) 0 0 [], .mk 7 7 (-1) (-1) (-1) 0 0 [], .mk 11 0 (-1) (-1) (-1) 0 10 fs_sUpdateMetadataRequestTopicPartition]
theorem s_sUpdateMetadataRequestTopicState {H : Fz} {L : Own} :
    Fn Tryz.prog 47 [] H L (fun v H' L' => L = L' ∧ ∃ a : Option Addr, v = .slice a 3 3 ∧ FdsAt H' a fs_sUpdateMetadataRequestTopicState) := by
  refine Fn.mk Tryz.call47 Tryz.func47 rfl Tryz.ntmps47 rfl ?_
  refine sr ?_
  refine asg rfl rfl ?_
  refine nl ?_
  refine sr ?_
  refine bd' S50 rfl rfl rfl ?_
  refine bd' S50 rfl rfl rfl ?_
  refine cl rfl rfl rfl s_sUpdateMetadataRequestTopicPartition rfl (fun v H1 L1 le_1 hR => ?_)
  obtain ⟨rfl, a3, rfl, g3⟩ := hR
  refine bd' S50 rfl rfl rfl ?_
  refine bs' L29 rfl rfl rfl rfl (fun b_2 => ?_)
  refine asg rfl rfl ?_
  refine nl ?_
  refine frW (Row.whole (size := 8) (m := 3) rfl (by decide)) .head (fun H2 hle2 hfz => ?_)
  have hz : H2.at b_2 0 ([(⟨none, 0⟩, .mk 8 0 (-1) (-1) (-1) 0 0 []), (⟨none, 0⟩, .mk 7 7 (-1) (-1) (-1) 0 0 []), (⟨a3, 9⟩, .mk 11 0 (-1) (-1) (-1) 0 10 fs_sUpdateMetadataRequestTopicPartition)].flatMap fun p : FC × Fd => p.1.cells p.2) := by
    rcases hfz with ⟨h0, _⟩ | ⟨g, h0, h1⟩
    · cases h0
    · cases h0; exact h1
  have hl := FdsAt.lit [(⟨none, 0⟩, .mk 8 0 (-1) (-1) (-1) 0 0 []), (⟨none, 0⟩, .mk 7 7 (-1) (-1) (-1) 0 0 []), (⟨a3, 9⟩, .mk 11 0 (-1) (-1) (-1) 0 10 fs_sUpdateMetadataRequestTopicPartition)] hz (Nat.le_of_ble_eq_true rfl) (by
    intro p hp
    simp only [List.mem_cons, List.not_mem_nil, or_false] at hp
    rcases hp with rfl | rfl | rfl
    · exact FdAt.of ⟨show ((-1) : Int) ≤ 1000 by decide, show (0 : Int) ≠ 11 by decide⟩ (FdsAt.nil _)
    · exact FdAt.of ⟨show ((-1) : Int) ≤ 1000 by decide, show (0 : Int) ≠ 11 by decide⟩ (FdsAt.nil _)
    · exact FdAt.of ⟨show ((-1) : Int) ≤ 1000 by decide, show (10 : Int) ≠ 11 by decide⟩ (g3.mono hle2))
  exact rT rfl rfl (le_1.trans hle2) (fun _ _ h => h) ⟨rfl, _, rfl, hl⟩
def fs_sUpdateMetadataRequestLiveBrokerEndpoint : List Fd := [.mk 3 0 (-1) (-1) (-1) 0 0 [], .mk 8 0 (-1) (-1) (-1) 0 0 [], .mk 8 3 (-1) (-1) (-1) 0 0 [], .mk 2 0 (-1) (-1) (-1) 0 0 []]
theorem s_sUpdateMetadataRequestLiveBrokerEndpoint {H : Fz} {L : Own} :
    Fn Tryz.prog 93 [] H L (fun v H' L' => L = L' ∧ ∃ a : Option Addr, v = .slice a 4 4 ∧ FdsAt H' a fs_sUpdateMetadataRequestLiveBrokerEndpoint) := by
  refine Fn.mk Tryz.call93 Tryz.func93 rfl Tryz.ntmps93 rfl ?_
  refine sr ?_
  refine asg rfl rfl ?_
  refine nl ?_
  refine sr ?_
  refine bd' S50 rfl rfl rfl ?_
  refine bd' S50 rfl rfl rfl ?_
  refine bd' S50 rfl rfl rfl ?_
  refine bd' S50 rfl rfl rfl ?_
  refine bs' L29 rfl rfl rfl rfl (fun b_1 => ?_)
  refine asg rfl rfl ?_
  refine nl ?_
  refine frW (Row.whole (size := 8) (m := 4) rfl (by decide)) .head (fun H2 hle2 hfz => ?_)
  have hz : H2.at b_1 0 ([(⟨none, 0⟩, .mk 3 0 (-1) (-1) (-1) 0 0 []), (⟨none, 0⟩, .mk 8 0 (-1) (-1) (-1) 0 0 []), (⟨none, 0⟩, .mk 8 3 (-1) (-1) (-1) 0 0 []), (⟨none, 0⟩, .mk 2 0 (-1) (-1) (-1) 0 0 [])].flatMap fun p : FC × Fd => p.1.cells p.2) := by
    rcases hfz with ⟨h0, _⟩ | ⟨g, h0, h1⟩
    · cases h0
    · cases h0; exact h1
  have hl := FdsAt.lit [(⟨none, 0⟩, .mk 3 0 (-1) (-1) (-1) 0 0 []), (⟨none, 0⟩, .mk 8 0 (-1) (-1) (-1) 0 0 []), (⟨none, 0⟩, .mk 8 3 (-1) (-1) (-1) 0 0 []), (⟨none, 0⟩, .mk 2 0 (-1) (-1) (-1) 0 0 [])] hz (Nat.le_of_ble_eq_true rfl) (by
    intro p hp
    simp only [List.mem_cons, List.not_mem_nil, or_false] at hp
    rcases hp with rfl | rfl | rfl | rfl
    · exact FdAt.of ⟨show ((-1) : Int) ≤ 1000 by decide, show (0 : Int) ≠ 11 by decide⟩ (FdsAt.nil _)
    · exact FdAt.of ⟨show ((-1) : Int) ≤ 1000 by decide, show (0 : Int) ≠ 11 by decide⟩ (FdsAt.nil _)
    · exact FdAt.of ⟨show ((-1) : Int) ≤ 1000 by decide, show (0 : Int) ≠ 11 by decide⟩ (FdsAt.nil _)
    · exact FdAt.of ⟨show ((-1) : Int) ≤ 1000 by decide, show (0 : Int) ≠ 11 by decide⟩ (FdsAt.nil _))
  exact rT rfl rfl hle2 (fun _ _ h => h) ⟨rfl, _, rfl, hl⟩
def fs_sUpdateMetadataRequestLiveBroker : List Fd := [.mk 3 0 (-1) (-1) (-1) 0 0 [], .mk 8 0 0 (-1) (-1) 0 0 [], .mk 3 0 0 (-1) (-1) 0 0 [], .mk 11 1 (-1) (-1) (-1) 0 10 fs_sUpdateMetadataRequestLiveBrokerEndpoint, .mk 8 2 (-1) 2 (-1) 0 0 []]
theorem s_sUpdateMetadataRequestLiveBroker {H : Fz} {L : Own} :
    Fn Tryz.prog 48 [] H L (fun v H' L' => L = L' ∧ ∃ a : Option Addr, v = .slice a 5 5 ∧ FdsAt H' a fs_sUpdateMetadataRequestLiveBroker) := by
  refine Fn.mk Tryz.call48 Tryz.func48 rfl Tryz.ntmps48 rfl ?_
  refine sr ?_
  refine asg rfl rfl ?_
  refine nl ?_
  refine sr ?_
  refine bd' S50 rfl rfl rfl ?_
  refine bd' S50 rfl rfl rfl ?_
  refine bd' S50 rfl rfl rfl ?_
  refine cl rfl rfl rfl s_sUpdateMetadataRequestLiveBrokerEndpoint rfl (fun v H1 L1 le_1 hR => ?_)
  obtain ⟨rfl, a4, rfl, g4⟩ := hR
  refine bd' S50 rfl rfl rfl ?_
  refine bd' S50 rfl rfl rfl ?_
  refine bs' L29 rfl rfl rfl rfl (fun b_2 => ?_)
  refine asg rfl rfl ?_
  refine nl ?_
  refine frW (Row.whole (size := 8) (m := 5) rfl (by decide)) .head (fun H2 hle2 hfz => ?_)
  have hz : H2.at b_2 0 ([(⟨none, 0⟩, .mk 3 0 (-1) (-1) (-1) 0 0 []), (⟨none, 0⟩, .mk 8 0 0 (-1) (-1) 0 0 []), (⟨none, 0⟩, .mk 3 0 0 (-1) (-1) 0 0 []), (⟨a4, 4⟩, .mk 11 1 (-1) (-1) (-1) 0 10 fs_sUpdateMetadataRequestLiveBrokerEndpoint), (⟨none, 0⟩, .mk 8 2 (-1) 2 (-1) 0 0 [])].flatMap fun p : FC × Fd => p.1.cells p.2) := by
    rcases hfz with ⟨h0, _⟩ | ⟨g, h0, h1⟩
    · cases h0
    · cases h0; exact h1
  have hl := FdsAt.lit [(⟨none, 0⟩, .mk 3 0 (-1) (-1) (-1) 0 0 []), (⟨none, 0⟩, .mk 8 0 0 (-1) (-1) 0 0 []), (⟨none, 0⟩, .mk 3 0 0 (-1) (-1) 0 0 []), (⟨a4, 4⟩, .mk 11 1 (-1) (-1) (-1) 0 10 fs_sUpdateMetadataRequestLiveBrokerEndpoint), (⟨none, 0⟩, .mk 8 2 (-1) 2 (-1) 0 0 [])] hz (Nat.le_of_ble_eq_true rfl) (by
    intro p hp
    simp only [List.mem_cons, List.not_mem_nil, or_false] at hp
    rcases hp with rfl | rfl | rfl | rfl | rfl
    · exact FdAt.of ⟨show ((-1) : Int) ≤ 1000 by decide, show (0 : Int) ≠ 11 by decide⟩ (FdsAt.nil _)
    · exact FdAt.of ⟨show ((-1) : Int) ≤ 1000 by decide, show (0 : Int) ≠ 11 by decide⟩ (FdsAt.nil _)
    · exact FdAt.of ⟨show ((-1) : Int) ≤ 1000 by decide, show (0 : Int) ≠ 11 by decide⟩ (FdsAt.nil _)
    · exact FdAt.of ⟨show ((-1) : Int) ≤ 1000 by decide, show (10 : Int) ≠ 11 by decide⟩ (g4.mono hle2)
    · exact FdAt.of ⟨show ((-1) : Int) ≤ 1000 by decide, show (0 : Int) ≠ 11 by decide⟩ (FdsAt.nil _))
  exact rT rfl rfl (le_1.trans hle2) (fun _ _ h => h) ⟨rfl, _, rfl, hl⟩
def fs_UpdateMetadataRequest : List Fd := [.mk 3 0 (-1) (-1) (-1) 0 0 [], .mk 0 8 (-1) (-1) (-1) 0 0 [], .mk 3 0 (-1) (-1) (-1) 0 0 [], .mk 4 5 (-1) (-1) (-1) (-1) 0 [], .mk 11 0 4 (-1) (-1) 0 10 fs_sUpdateMetadataRequestTopicPartition, .mk 11 5 (-1) (-1) (-1) 0 10 fs_sUpdateMetadataRequestTopicState, .mk 11 0 (-1) (-1) (-1) 0 10 fs_sUpdateMetadataRequestLiveBroker]
theorem s_UpdateMetadataRequest {H : Fz} {L : Own} :
    Fn Tryz.prog 20 [] H L (fun v H' L' => L = L' ∧ ∃ a : Option Addr, v = .agg #[.slice a 7 7, .int .i64 6] ∧ FdsAt H' a fs_UpdateMetadataRequest) := by
  refine Fn.mk Tryz.call20 Tryz.func20 rfl Tryz.ntmps20 rfl ?_
  refine sr ?_
  refine al Tryz.zeroValue31 rfl rfl (fun b_1 => ?_)
  refine nl ?_
  refine sr ?_
  refine bd' S50 rfl rfl rfl ?_
  refine bd' S50 rfl rfl rfl ?_
  refine bd' S50 rfl rfl rfl ?_
  refine bd' S50 rfl rfl rfl ?_
  refine cl rfl rfl rfl s_sUpdateMetadataRequestTopicPartition rfl (fun v H1 L1 le_2 hR => ?_)
  obtain ⟨rfl, a5, rfl, g5⟩ := hR
  refine bd' S50 rfl rfl rfl ?_
  refine cl rfl rfl rfl s_sUpdateMetadataRequestTopicState rfl (fun v H1 L1 le_3 hR => ?_)
  obtain ⟨rfl, a7, rfl, g7⟩ := hR
  refine bd' S50 rfl rfl rfl ?_
  refine cl rfl rfl rfl s_sUpdateMetadataRequestLiveBroker rfl (fun v H1 L1 le_4 hR => ?_)
  obtain ⟨rfl, a9, rfl, g9⟩ := hR
  refine bd' S50 rfl rfl rfl ?_
  refine bs' L29 rfl rfl rfl rfl (fun b_5 => ?_)
  refine bd' S31 rfl rfl rfl ?_
  refine sa Tryz.sizeOf31 rfl rfl rfl rfl rfl (.tail .head) ?_
  refine nl ?_
  refine frW (Row.whole (size := 8) (m := 7) rfl (by decide)) .head (fun H2 hle2 hfz => ?_)
  have hz : H2.at b_5 0 ([(⟨none, 0⟩, .mk 3 0 (-1) (-1) (-1) 0 0 []), (⟨none, 0⟩, .mk 0 8 (-1) (-1) (-1) 0 0 []), (⟨none, 0⟩, .mk 3 0 (-1) (-1) (-1) 0 0 []), (⟨none, 0⟩, .mk 4 5 (-1) (-1) (-1) (-1) 0 []), (⟨a5, 9⟩, .mk 11 0 4 (-1) (-1) 0 10 fs_sUpdateMetadataRequestTopicPartition), (⟨a7, 3⟩, .mk 11 5 (-1) (-1) (-1) 0 10 fs_sUpdateMetadataRequestTopicState), (⟨a9, 5⟩, .mk 11 0 (-1) (-1) (-1) 0 10 fs_sUpdateMetadataRequestLiveBroker)].flatMap fun p : FC × Fd => p.1.cells p.2) := by
    rcases hfz with ⟨h0, _⟩ | ⟨g, h0, h1⟩
    · cases h0
    · cases h0; exact h1
  have hl := FdsAt.lit [(⟨none, 0⟩, .mk 3 0 (-1) (-1) (-1) 0 0 []), (⟨none, 0⟩, .mk 0 8 (-1) (-1) (-1) 0 0 []), (⟨none, 0⟩, .mk 3 0 (-1) (-1) (-1) 0 0 []), (⟨none, 0⟩, .mk 4 5 (-1) (-1) (-1) (-1) 0 []), (⟨a5, 9⟩, .mk 11 0 4 (-1) (-1) 0 10 fs_sUpdateMetadataRequestTopicPartition), (⟨a7, 3⟩, .mk 11 5 (-1) (-1) (-1) 0 10 fs_sUpdateMetadataRequestTopicState), (⟨a9, 5⟩, .mk 11 0 (-1) (-1) (-1) 0 10 fs_sUpdateMetadataRequestLiveBroker)] hz (Nat.le_of_ble_eq_true rfl) (by
    intro p hp
    simp only [List.mem_cons, List.not_mem_nil, or_false] at hp
    rcases hp with rfl | rfl | rfl | rfl | rfl | rfl | rfl
    · exact FdAt.of ⟨show ((-1) : Int) ≤ 1000 by decide, show (0 : Int) ≠ 11 by decide⟩ (FdsAt.nil _)
    · exact FdAt.of ⟨show ((-1) : Int) ≤ 1000 by decide, show (0 : Int) ≠ 11 by decide⟩ (FdsAt.nil _)
    · exact FdAt.of ⟨show ((-1) : Int) ≤ 1000 by decide, show (0 : Int) ≠ 11 by decide⟩ (FdsAt.nil _)
    · exact FdAt.of ⟨show ((-1) : Int) ≤ 1000 by decide, show (0 : Int) ≠ 11 by decide⟩ (FdsAt.nil _)
    · exact FdAt.of ⟨show ((-1) : Int) ≤ 1000 by decide, show (10 : Int) ≠ 11 by decide⟩ (g5.mono (le_3.trans (le_4.trans hle2)))
    · exact FdAt.of ⟨show ((-1) : Int) ≤ 1000 by decide, show (10 : Int) ≠ 11 by decide⟩ (g7.mono (le_4.trans hle2))
    · exact FdAt.of ⟨show ((-1) : Int) ≤ 1000 by decide, show (10 : Int) ≠ 11 by decide⟩ (g9.mono hle2))
  exact rC rfl Tryz.isAgg31 Tryz.sizeOf31 rfl .head rfl (le_2.trans (le_3.trans (le_4.trans hle2))) (fun _ _ h => h) ⟨rfl, _, rfl, hl⟩
end Go.Sx
