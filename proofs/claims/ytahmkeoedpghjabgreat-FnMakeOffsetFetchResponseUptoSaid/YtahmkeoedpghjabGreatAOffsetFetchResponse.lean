import Derived.Test.YtahmkeoedpghjabGreatSxTab
import Derived.Test.YtahmkeoedpghjabGreatKB2
import Derived.KernelRfl
set_option linter.unusedVariables false
set_option linter.unusedSimpArgs false
set_option maxRecDepth 100000
set_option maxHeartbeats 20000000
namespace Go.Sx
open Go.Proofs
def fs_sOffsetFetchResponseTopicPartition : List Fd := [.mk 3 0 (-1) (-1) (-1) 0 0 [], .mk 4 0 (-1) (-1) (-1) 0 0 [], .mk 3 5 (-1) (-1) (-1) (-1) 0 [], .mk 8 0 (-1) 0 (-1) 0 0 [], .mk 2 0 (-1) (-1) (-1) 0 0 []]
theorem s_sOffsetFetchResponseTopicPartition {H : Fz} {L : Own} :
    Fn Tryz.prog 61 [] H L (fun v H' L' => L = L' ∧ ∃ a : Option Addr, v = .slice a 5 5 ∧ FdsAt H' a fs_sOffsetFetchResponseTopicPartition) := by
  refine Fn.mk Tryz.call61 Tryz.func61 rfl Tryz.ntmps61 rfl ?_
  refine sr ?_
  refine asg rfl rfl ?_
  refine nl ?_
  refine sr ?_
  refine bd' S50 rfl rfl rfl ?_
  refine bd' S50 rfl rfl rfl ?_
  refine bd' S50 rfl rfl rfl ?_
  refine bd' S50 rfl rfl rfl ?_
  refine bd' S50 rfl rfl rfl ?_
  refine bs' L29 rfl rfl rfl rfl (fun b_1 => ?_)
  refine asg rfl rfl ?_
  refine nl ?_
  refine frW (Row.whole (size := 8) (m := 5) rfl (by decide)) .head (fun H2 hle2 hfz => ?_)
  have hz : H2.at b_1 0 ([(⟨none, 0⟩, .mk 3 0 (-1) (-1) (-1) 0 0 []), (⟨none, 0⟩, .mk 4 0 (-1) (-1) (-1) 0 0 []), (⟨none, 0⟩, .mk 3 5 (-1) (-1) (-1) (-1) 0 []), (⟨none, 0⟩, .mk 8 0 (-1) 0 (-1) 0 0 []), (⟨none, 0⟩, .mk 2 0 (-1) (-1) (-1) 0 0 [])].flatMap fun p : FC × Fd => p.1.cells p.2) := by
    rcases hfz with ⟨h0, _⟩ | ⟨g, h0, h1⟩
    · cases h0
    · cases h0; exact h1
  have hl := FdsAt.lit [(⟨none, 0⟩, .mk 3 0 (-1) (-1) (-1) 0 0 []), (⟨none, 0⟩, .mk 4 0 (-1) (-1) (-1) 0 0 []), (⟨none, 0⟩, .mk 3 5 (-1) (-1) (-1) (-1) 0 []), (⟨none, 0⟩, .mk 8 0 (-1) 0 (-1) 0 0 []), (⟨none, 0⟩, .mk 2 0 (-1) (-1) (-1) 0 0 [])] hz (Nat.le_of_ble_eq_true rfl) (by
    intro p hp
    simp only [List.mem_cons, List.not_mem_nil, or_false] at hp
    rcases hp with rfl | rfl | rfl | rfl | rfl
    · exact FdAt.of ⟨show ((-1) : Int) ≤ 1000 by decide, show (0 : Int) ≠ 11 by decide⟩ (FdsAt.nil _)
    · exact FdAt.of ⟨show ((-1) : Int) ≤ 1000 by decide, show (0 : Int) ≠ 11 by decide⟩ (FdsAt.nil _)
    · exact FdAt.of ⟨show ((-1) : Int) ≤ 1000 by decide, show (0 : Int) ≠ 11 by decide⟩ (FdsAt.nil _)
    · exact FdAt.of ⟨show ((-1) : Int) ≤ 1000 by decide, show (0 : Int) ≠ 11 by decide⟩ (FdsAt.nil _)
    · exact FdAt.of ⟨show ((-1) : Int) ≤ 1000 by decide, show (0 : Int) ≠ 11 by decide⟩ (FdsAt.nil _))
  exact rT rfl rfl hle2 (fun _ _ h => h) ⟨rfl, _, rfl, hl⟩
def fs_sOffsetFetchResponseTopic : List Fd := [.mk 8 0 (-1) (-1) (-1) 0 0 [], .mk 11 0 (-1) (-1) (-1) 0 10 fs_sOffsetFetchResponseTopicPartition]
theorem s_sOffsetFetchResponseTopic {H : Fz} {L : Own} :
    Fn Tryz.prog 28 [] H L (fun v H' L' => L = L' ∧ ∃ a : Option Addr, v = .slice a 2 2 ∧ FdsAt H' a fs_sOffsetFetchResponseTopic) := by
  refine Fn.mk Tryz.call28 Tryz.func28 rfl Tryz.ntmps28 rfl ?_
  refine sr ?_
  refine asg rfl rfl ?_
  refine nl ?_
  refine sr ?_
  refine bd' S50 rfl rfl rfl ?_
  refine cl rfl rfl rfl s_sOffsetFetchResponseTopicPartition rfl (fun v H1 L1 le_1 hR => ?_)
  obtain ⟨rfl, a2, rfl, g2⟩ := hR
  refine bd' S50 rfl rfl rfl ?_
  refine bs' L29 rfl rfl rfl rfl (fun b_2 => ?_)
  refine asg rfl rfl ?_
  refine nl ?_
  refine frW (Row.whole (size := 8) (m := 2) rfl (by decide)) .head (fun H2 hle2 hfz => ?_)
  have hz : H2.at b_2 0 ([(⟨none, 0⟩, .mk 8 0 (-1) (-1) (-1) 0 0 []), (⟨a2, 5⟩, .mk 11 0 (-1) (-1) (-1) 0 10 fs_sOffsetFetchResponseTopicPartition)].flatMap fun p : FC × Fd => p.1.cells p.2) := by
    rcases hfz with ⟨h0, _⟩ | ⟨g, h0, h1⟩
    · cases h0
    · cases h0; exact h1
  have hl := FdsAt.lit [(⟨none, 0⟩, .mk 8 0 (-1) (-1) (-1) 0 0 []), (⟨a2, 5⟩, .mk 11 0 (-1) (-1) (-1) 0 10 fs_sOffsetFetchResponseTopicPartition)] hz (Nat.le_of_ble_eq_true rfl) (by
    intro p hp
    simp only [List.mem_cons, List.not_mem_nil, or_false] at hp
    rcases hp with rfl | rfl
    · exact FdAt.of ⟨show ((-1) : Int) ≤ 1000 by decide, show (0 : Int) ≠ 11 by decide⟩ (FdsAt.nil _)
    · exact FdAt.of ⟨show ((-1) : Int) ≤ 1000 by decide, show (10 : Int) ≠ 11 by decide⟩ (g2.mono hle2))
  exact rT rfl rfl (le_1.trans hle2) (fun _ _ h => h) ⟨rfl, _, rfl, hl⟩
def fs_sOffsetFetchResponseGroupTopicPartition : List Fd := [.mk 3 0 (-1) (-1) (-1) 0 0 [], .mk 4 0 (-1) (-1) (-1) 0 0 [], .mk 3 0 (-1) (-1) (-1) (-1) 0 [], .mk 8 0 (-1) 0 (-1) 0 0 [], .mk 2 0 (-1) (-1) (-1) 0 0 []]
theorem s_sOffsetFetchResponseGroupTopicPartition {H : Fz} {L : Own} :
    Fn Tryz.prog 115 [] H L (fun v H' L' => L = L' ∧ ∃ a : Option Addr, v = .slice a 5 5 ∧ FdsAt H' a fs_sOffsetFetchResponseGroupTopicPartition) := by
  refine Fn.mk Tryz.call115 Tryz.func115 rfl Tryz.ntmps115 rfl ?_
  refine sr ?_
  refine asg rfl rfl ?_
  refine nl ?_
  refine sr ?_
  refine bd' S50 rfl rfl rfl ?_
  refine bd' S50 rfl rfl rfl ?_
  refine bd' S50 rfl rfl rfl ?_
  refine bd' S50 rfl rfl rfl ?_
  refine bd' S50 rfl rfl rfl ?_
  refine bs' L29 rfl rfl rfl rfl (fun b_1 => ?_)
  refine asg rfl rfl ?_
  refine nl ?_
  refine frW (Row.whole (size := 8) (m := 5) rfl (by decide)) .head (fun H2 hle2 hfz => ?_)
  have hz : H2.at b_1 0 ([(⟨none, 0⟩, .mk 3 0 (-1) (-1) (-1) 0 0 []), (⟨none, 0⟩, .mk 4 0 (-1) (-1) (-1) 0 0 []), (⟨none, 0⟩, .mk 3 0 (-1) (-1) (-1) (-1) 0 []), (⟨none, 0⟩, .mk 8 0 (-1) 0 (-1) 0 0 []), (⟨none, 0⟩, .mk 2 0 (-1) (-1) (-1) 0 0 [])].flatMap fun p : FC × Fd => p.1.cells p.2) := by
    rcases hfz with ⟨h0, _⟩ | ⟨g, h0, h1⟩
    · cases h0
    · cases h0; exact h1
  have hl := FdsAt.lit [(⟨none, 0⟩, .mk 3 0 (-1) (-1) (-1) 0 0 []), (⟨none, 0⟩, .mk 4 0 (-1) (-1) (-1) 0 0 []), (⟨none, 0⟩, .mk 3 0 (-1) (-1) (-1) (-1) 0 []), (⟨none, 0⟩, .mk 8 0 (-1) 0 (-1) 0 0 []), (⟨none, 0⟩, .mk 2 0 (-1) (-1) (-1) 0 0 [])] hz (Nat.le_of_ble_eq_true rfl) (by
    intro p hp
    simp only [List.mem_cons, List.not_mem_nil, or_false] at hp
    rcases hp with rfl | rfl | rfl | rfl | rfl
    · exact FdAt.of ⟨show ((-1) : Int) ≤ 1000 by decide, show (0 : Int) ≠ 11 by decide⟩ (FdsAt.nil _)
    · exact FdAt.of ⟨show ((-1) : Int) ≤ 1000 by decide, show (0 : Int) ≠ 11 by decide⟩ (FdsAt.nil _)
    · exact FdAt.of ⟨show ((-1) : Int) ≤ 1000 by decide, show (0 : Int) ≠ 11 by decide⟩ (FdsAt.nil _)
    · exact FdAt.of ⟨show ((-1) : Int) ≤ 1000 by decide, show (0 : Int) ≠ 11 by decide⟩ (FdsAt.nil _)
    · exact FdAt.of ⟨show ((-1) : Int) ≤ 1000 by decide, show (0 : Int) ≠ 11 by decide⟩ (FdsAt.nil _))
  exact rT rfl rfl hle2 (fun _ _ h => h) ⟨rfl, _, rfl, hl⟩
def fs_sOffsetFetchResponseGroupTopic : List Fd := [.mk 8 8 9 (-1) (-1) 0 0 [], .mk 7 10 (-1) (-1) (-1) 0 0 [], .mk 11 0 (-1) (-1) (-1) 0 10 fs_sOffsetFetchResponseGroupTopicPartition]
theorem s_sOffsetFetchResponseGroupTopic {H : Fz} {L : Own} :
    Fn Tryz.prog 62 [] H L (fun v H' L' => L = L' ∧ ∃ a : Option Addr, v = .slice a 3 3 ∧ FdsAt H' a fs_sOffsetFetchResponseGroupTopic) := by
  refine Fn.mk Tryz.call62 Tryz.func62 rfl Tryz.ntmps62 rfl ?_
  refine sr ?_
  refine asg rfl rfl ?_
  refine nl ?_
  refine sr ?_
  refine bd' S50 rfl rfl rfl ?_
  refine bd' S50 rfl rfl rfl ?_
  refine cl rfl rfl rfl s_sOffsetFetchResponseGroupTopicPartition rfl (fun v H1 L1 le_1 hR => ?_)
  obtain ⟨rfl, a3, rfl, g3⟩ := hR
  refine bd' S50 rfl rfl rfl ?_
  refine bs' L29 rfl rfl rfl rfl (fun b_2 => ?_)
  refine asg rfl rfl ?_
  refine nl ?_
  refine frW (Row.whole (size := 8) (m := 3) rfl (by decide)) .head (fun H2 hle2 hfz => ?_)
  have hz : H2.at b_2 0 ([(⟨none, 0⟩, .mk 8 8 9 (-1) (-1) 0 0 []), (⟨none, 0⟩, .mk 7 10 (-1) (-1) (-1) 0 0 []), (⟨a3, 5⟩, .mk 11 0 (-1) (-1) (-1) 0 10 fs_sOffsetFetchResponseGroupTopicPartition)].flatMap fun p : FC × Fd => p.1.cells p.2) := by
    rcases hfz with ⟨h0, _⟩ | ⟨g, h0, h1⟩
    · cases h0
    · cases h0; exact h1
  have hl := FdsAt.lit [(⟨none, 0⟩, .mk 8 8 9 (-1) (-1) 0 0 []), (⟨none, 0⟩, .mk 7 10 (-1) (-1) (-1) 0 0 []), (⟨a3, 5⟩, .mk 11 0 (-1) (-1) (-1) 0 10 fs_sOffsetFetchResponseGroupTopicPartition)] hz (Nat.le_of_ble_eq_true rfl) (by
    intro p hp
    simp only [List.mem_cons, List.not_mem_nil, or_false] at hp
    rcases hp with rfl | rfl | rfl
    · exact FdAt.of ⟨show ((-1) : Int) ≤ 1000 by decide, show (0 : Int) ≠ 11 by decide⟩ (FdsAt.nil _)
    · exact FdAt.of ⟨show ((-1) : Int) ≤ 1000 by decide, show (0 : Int) ≠ 11 by decide⟩ (FdsAt.nil _)
    · exact FdAt.of ⟨show ((-1) : Int) ≤ 1000 by decide, show (10 : Int) ≠ 11 by decide⟩ (g3.mono hle2))
  exact rT rfl rfl (le_1.trans hle2) (fun _ _ h => h) ⟨rfl, _, rfl, hl⟩
def fs_sOffsetFetchResponseGroup : List Fd := [.mk 8 0 (-1) (-1) (-1) 0 0 [], .mk 11 0 (-1) (-1) (-1) 0 10 fs_sOffsetFetchResponseGroupTopic, .mk 2 0 (-1) (-1) (-1) 0 0 []]
theorem s_sOffsetFetchResponseGroup {H : Fz} {L : Own} :
    Fn Tryz.prog 29 [] H L (fun v H' L' => L = L' ∧ ∃ a : Option Addr, v = .slice a 3 3 ∧ FdsAt H' a fs_sOffsetFetchResponseGroup) := by
  refine Fn.mk Tryz.call29 Tryz.func29 rfl Tryz.ntmps29 rfl ?_
  refine sr ?_
  refine asg rfl rfl ?_
  refine nl ?_
  refine sr ?_
  refine bd' S50 rfl rfl rfl ?_
  refine cl rfl rfl rfl s_sOffsetFetchResponseGroupTopic rfl (fun v H1 L1 le_1 hR => ?_)
  obtain ⟨rfl, a2, rfl, g2⟩ := hR
  refine bd' S50 rfl rfl rfl ?_
  refine bd' S50 rfl rfl rfl ?_
  refine bs' L29 rfl rfl rfl rfl (fun b_2 => ?_)
  refine asg rfl rfl ?_
  refine nl ?_
  refine frW (Row.whole (size := 8) (m := 3) rfl (by decide)) .head (fun H2 hle2 hfz => ?_)
  have hz : H2.at b_2 0 ([(⟨none, 0⟩, .mk 8 0 (-1) (-1) (-1) 0 0 []), (⟨a2, 3⟩, .mk 11 0 (-1) (-1) (-1) 0 10 fs_sOffsetFetchResponseGroupTopic), (⟨none, 0⟩, .mk 2 0 (-1) (-1) (-1) 0 0 [])].flatMap fun p : FC × Fd => p.1.cells p.2) := by
    rcases hfz with ⟨h0, _⟩ | ⟨g, h0, h1⟩
    · cases h0
    · cases h0; exact h1
  have hl := FdsAt.lit [(⟨none, 0⟩, .mk 8 0 (-1) (-1) (-1) 0 0 []), (⟨a2, 3⟩, .mk 11 0 (-1) (-1) (-1) 0 10 fs_sOffsetFetchResponseGroupTopic), (⟨none, 0⟩, .mk 2 0 (-1) (-1) (-1) 0 0 [])] hz (Nat.le_of_ble_eq_true rfl) (by
    intro p hp
    simp only [List.mem_cons, List.not_mem_nil, or_false] at hp
    rcases hp with rfl | rfl | rfl
    · exact FdAt.of ⟨show ((-1) : Int) ≤ 1000 by decide, show (0 : Int) ≠ 11 by decide⟩ (FdsAt.nil _)
    · exact FdAt.of ⟨show ((-1) : Int) ≤ 1000 by decide, show (10 : Int) ≠ 11 by decide⟩ (g2.mono hle2)
    · exact FdAt.of ⟨show ((-1) : Int) ≤ 1000 by decide, show (0 : Int) ≠ 11 by decide⟩ (FdsAt.nil _))
  exact rT rfl rfl (le_1.trans hle2) (fun _ _ h => h) ⟨rfl, _, rfl, hl⟩
def fs_OffsetFetchResponse : List Fd := [.mk 3 3 (-1) (-1) (-1) 0 0 [], .mk 11 0 7 (-1) (-1) 0 10 fs_sOffsetFetchResponseTopic, .mk 2 2 7 (-1) (-1) 0 0 [], .mk 11 8 (-1) (-1) (-1) 0 10 fs_sOffsetFetchResponseGroup]
theorem s_OffsetFetchResponse {H : Fz} {L : Own} :
    Fn Tryz.prog 9 [] H L (fun v H' L' => L = L' ∧ ∃ a : Option Addr, v = .agg #[.slice a 4 4, .int .i64 6] ∧ FdsAt H' a fs_OffsetFetchResponse) := by
  refine Fn.mk Tryz.call9 Tryz.func9 rfl Tryz.ntmps9 rfl ?_
  refine sr ?_
  refine al Tryz.zeroValue31 rfl rfl (fun b_1 => ?_)
  refine nl ?_
  refine sr ?_
  refine bd' S50 rfl rfl rfl ?_
  refine cl rfl rfl rfl s_sOffsetFetchResponseTopic rfl (fun v H1 L1 le_2 hR => ?_)
  obtain ⟨rfl, a2, rfl, g2⟩ := hR
  refine bd' S50 rfl rfl rfl ?_
  refine bd' S50 rfl rfl rfl ?_
  refine cl rfl rfl rfl s_sOffsetFetchResponseGroup rfl (fun v H1 L1 le_3 hR => ?_)
  obtain ⟨rfl, a5, rfl, g5⟩ := hR
  refine bd' S50 rfl rfl rfl ?_
  refine bs' L29 rfl rfl rfl rfl (fun b_4 => ?_)
  refine bd' S31 rfl rfl rfl ?_
  refine sa Tryz.sizeOf31 rfl rfl rfl rfl rfl (.tail .head) ?_
  refine nl ?_
  refine frW (Row.whole (size := 8) (m := 4) rfl (by decide)) .head (fun H2 hle2 hfz => ?_)
  have hz : H2.at b_4 0 ([(⟨none, 0⟩, .mk 3 3 (-1) (-1) (-1) 0 0 []), (⟨a2, 2⟩, .mk 11 0 7 (-1) (-1) 0 10 fs_sOffsetFetchResponseTopic), (⟨none, 0⟩, .mk 2 2 7 (-1) (-1) 0 0 []), (⟨a5, 3⟩, .mk 11 8 (-1) (-1) (-1) 0 10 fs_sOffsetFetchResponseGroup)].flatMap fun p : FC × Fd => p.1.cells p.2) := by
    rcases hfz with ⟨h0, _⟩ | ⟨g, h0, h1⟩
    · cases h0
    · cases h0; exact h1
  have hl := FdsAt.lit [(⟨none, 0⟩, .mk 3 3 (-1) (-1) (-1) 0 0 []), (⟨a2, 2⟩, .mk 11 0 7 (-1) (-1) 0 10 fs_sOffsetFetchResponseTopic), (⟨none, 0⟩, .mk 2 2 7 (-1) (-1) 0 0 []), (⟨a5, 3⟩, .mk 11 8 (-1) (-1) (-1) 0 10 fs_sOffsetFetchResponseGroup)] hz (Nat.le_of_ble_eq_true rfl) (by
    intro p hp
    simp only [List.mem_cons, List.not_mem_nil, or_false] at hp
    rcases hp with rfl | rfl | rfl | rfl
    · exact FdAt.of ⟨show ((-1) : Int) ≤ 1000 by decide, show (0 : Int) ≠ 11 by decide⟩ (FdsAt.nil _)
    · exact FdAt.of ⟨show ((-1) : Int) ≤ 1000 by decide, show (10 : Int) ≠ 11 by decide⟩ (g2.mono (le_3.trans hle2))
    · exact FdAt.of ⟨show ((-1) : Int) ≤ 1000 by decide, show (0 : Int) ≠ 11 by decide⟩ (FdsAt.nil _)
    · exact FdAt.of ⟨show ((-1) : Int) ≤ 1000 by decide, show (10 : Int) ≠ 11 by decide⟩ (g5.mono hle2))
  exact rC rfl Tryz.isAgg31 Tryz.sizeOf31 rfl .head rfl (le_2.trans (le_3.trans hle2)) (fun _ _ h => h) ⟨rfl, _, rfl, hl⟩
end Go.Sx
