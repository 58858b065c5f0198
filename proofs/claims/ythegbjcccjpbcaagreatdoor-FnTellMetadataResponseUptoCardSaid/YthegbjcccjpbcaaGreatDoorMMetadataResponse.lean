import Derived.Test.YthegbjcccjpbcaaGreatDoorS3
import Derived.Test.YthegbjcccjpbcaaGreatDoorAMetadataResponse
import Derived.KernelRfl
set_option linter.unusedVariables false
set_option linter.unusedSimpArgs false
set_option maxRecDepth 100000
set_option maxHeartbeats 20000000
namespace Go.Sx
open Go.Proofs
theorem s_sMetadataResponseBroker {H : Fz} {L : Own} :
  Fn Tryz.prog 16 [] H L (fun v H' L' => L = L' ∧ ∃ a : Option Addr, v = .slice a 4 4 ∧ FdsAt H' a fs_sMetadataResponseBroker) := by
 refine Fn.mk Tryz.call16 Tryz.func16 rfl Tryz.ntmps16 rfl ?_
 refine sr ?_
 refine asg rfl rfl ?_
 refine nl ?_
 refine sr ?_
 refine bd' S51 rfl rfl rfl ?_
 refine bd' S51 rfl rfl rfl ?_
 refine bd' S51 rfl rfl rfl ?_
 refine bd' S51 rfl rfl rfl ?_
 refine bs' L29 rfl rfl rfl rfl (fun b_1 => ?_)
 refine asg rfl rfl ?_
 refine nl ?_
 refine frW (Row.whole (size := 8) (m := 4) rfl (by decide)) .head (fun H2 hle2 hfz => ?_)
 have hz : H2.at b_1 0 ([(⟨none, 0⟩, .mk 3 0 (-1) (-1) (-1) 0 0 []), (⟨none, 0⟩, .mk 8 0 (-1) (-1) (-1) 0 0 []), (⟨none, 0⟩, .mk 3 0 (-1) (-1) (-1) 0 0 []), (⟨none, 0⟩, .mk 8 1 (-1) 1 (-1) 0 0 [])].flatMap fun p : FC × Fd => p.1.cells p.2) := by
  rcases hfz with ⟨h0, _⟩ | ⟨g, h0, h1⟩
  · cases h0
  · cases h0; exact h1
 have hl := FdsAt.lit [(⟨none, 0⟩, .mk 3 0 (-1) (-1) (-1) 0 0 []), (⟨none, 0⟩, .mk 8 0 (-1) (-1) (-1) 0 0 []), (⟨none, 0⟩, .mk 3 0 (-1) (-1) (-1) 0 0 []), (⟨none, 0⟩, .mk 8 1 (-1) 1 (-1) 0 0 [])] hz (Nat.le_of_ble_eq_true rfl) (by
  intro p hp
  simp only [List.mem_cons, List.not_mem_nil, or_false] at hp
  rcases hp with rfl | rfl | rfl | rfl
  · exact FdAt.of ⟨show ((-1) : Int) ≤ 1000 by decide, show (0 : Int) ≠ 11 by decide⟩ (FdsAt.nil _)
  · exact FdAt.of ⟨show ((-1) : Int) ≤ 1000 by decide, show (0 : Int) ≠ 11 by decide⟩ (FdsAt.nil _)
  · exact FdAt.of ⟨show ((-1) : Int) ≤ 1000 by decide, show (0 : Int) ≠ 11 by decide⟩ (FdsAt.nil _)
  · exact FdAt.of ⟨show ((-1) : Int) ≤ 1000 by decide, show (0 : Int) ≠ 11 by decide⟩ (FdsAt.nil _))
 exact rT rfl rfl hle2 (fun _ _ h => h) ⟨rfl, _, rfl, hl⟩
theorem s_sMetadataResponseTopicPartition {H : Fz} {L : Own} :
  Fn Tryz.prog 32 [] H L (fun v H' L' => L = L' ∧ ∃ a : Option Addr, v = .slice a 7 7 ∧ FdsAt H' a fs_sMetadataResponseTopicPartition) := by
 refine Fn.mk Tryz.call32 Tryz.func32 rfl Tryz.ntmps32 rfl ?_
 refine sr ?_
 refine asg rfl rfl ?_
 refine nl ?_
 refine sr ?_
 refine bd' S51 rfl rfl rfl ?_
 refine bd' S51 rfl rfl rfl ?_
 refine bd' S51 rfl rfl rfl ?_
 refine bd' S51 rfl rfl rfl ?_
 refine bd' S51 rfl rfl rfl ?_
 refine bd' S51 rfl rfl rfl ?_
 refine bd' S51 rfl rfl rfl ?_
 refine bs' L29 rfl rfl rfl rfl (fun b_1 => ?_)
 refine asg rfl rfl ?_
 refine nl ?_
 refine frW (Row.whole (size := 8) (m := 7) rfl (by decide)) .head (fun H2 hle2 hfz => ?_)
 have hz : H2.at b_1 0 ([(⟨none, 0⟩, .mk 2 0 (-1) (-1) (-1) 0 0 []), (⟨none, 0⟩, .mk 3 0 (-1) (-1) (-1) 0 0 []), (⟨none, 0⟩, .mk 3 0 (-1) (-1) (-1) 0 0 []), (⟨none, 0⟩, .mk 3 7 (-1) (-1) (-1) (-1) 0 []), (⟨none, 0⟩, .mk 11 0 (-1) (-1) (-1) 0 3 []), (⟨none, 0⟩, .mk 11 0 (-1) (-1) (-1) 0 3 []), (⟨none, 0⟩, .mk 11 5 (-1) (-1) (-1) 0 3 [])].flatMap fun p : FC × Fd => p.1.cells p.2) := by
  rcases hfz with ⟨h0, _⟩ | ⟨g, h0, h1⟩
  · cases h0
  · cases h0; exact h1
 have hl := FdsAt.lit [(⟨none, 0⟩, .mk 2 0 (-1) (-1) (-1) 0 0 []), (⟨none, 0⟩, .mk 3 0 (-1) (-1) (-1) 0 0 []), (⟨none, 0⟩, .mk 3 0 (-1) (-1) (-1) 0 0 []), (⟨none, 0⟩, .mk 3 7 (-1) (-1) (-1) (-1) 0 []), (⟨none, 0⟩, .mk 11 0 (-1) (-1) (-1) 0 3 []), (⟨none, 0⟩, .mk 11 0 (-1) (-1) (-1) 0 3 []), (⟨none, 0⟩, .mk 11 5 (-1) (-1) (-1) 0 3 [])] hz (Nat.le_of_ble_eq_true rfl) (by
  intro p hp
  simp only [List.mem_cons, List.not_mem_nil, or_false] at hp
  rcases hp with rfl | rfl | rfl | rfl | rfl | rfl | rfl
  · exact FdAt.of ⟨show ((-1) : Int) ≤ 1000 by decide, show (0 : Int) ≠ 11 by decide⟩ (FdsAt.nil _)
  · exact FdAt.of ⟨show ((-1) : Int) ≤ 1000 by decide, show (0 : Int) ≠ 11 by decide⟩ (FdsAt.nil _)
  · exact FdAt.of ⟨show ((-1) : Int) ≤ 1000 by decide, show (0 : Int) ≠ 11 by decide⟩ (FdsAt.nil _)
  · exact FdAt.of ⟨show ((-1) : Int) ≤ 1000 by decide, show (0 : Int) ≠ 11 by decide⟩ (FdsAt.nil _)
  · exact FdAt.of ⟨show ((-1) : Int) ≤ 1000 by decide, show (3 : Int) ≠ 11 by decide⟩ (FdsAt.nil _)
  · exact FdAt.of ⟨show ((-1) : Int) ≤ 1000 by decide, show (3 : Int) ≠ 11 by decide⟩ (FdsAt.nil _)
  · exact FdAt.of ⟨show ((-1) : Int) ≤ 1000 by decide, show (3 : Int) ≠ 11 by decide⟩ (FdsAt.nil _))
 exact rT rfl rfl hle2 (fun _ _ h => h) ⟨rfl, _, rfl, hl⟩
theorem s_sMetadataResponseTopic {H : Fz} {L : Own} :
  Fn Tryz.prog 17 [] H L (fun v H' L' => L = L' ∧ ∃ a : Option Addr, v = .slice a 6 6 ∧ FdsAt H' a fs_sMetadataResponseTopic) := by
 refine Fn.mk Tryz.call17 Tryz.func17 rfl Tryz.ntmps17 rfl ?_
 refine sr ?_
 refine asg rfl rfl ?_
 refine nl ?_
 refine sr ?_
 refine bd' S51 rfl rfl rfl ?_
 refine bd' S51 rfl rfl rfl ?_
 refine bd' S51 rfl rfl rfl ?_
 refine bd' S51 rfl rfl rfl ?_
 refine cl rfl rfl rfl s_sMetadataResponseTopicPartition rfl (fun v H1 L1 le_1 hR => ?_)
 obtain ⟨rfl, a5, rfl, g5⟩ := hR
 refine bd' S51 rfl rfl rfl ?_
 refine bd' S51 rfl rfl rfl ?_
 refine bs' L29 rfl rfl rfl rfl (fun b_2 => ?_)
 refine asg rfl rfl ?_
 refine nl ?_
 refine frW (Row.whole (size := 8) (m := 6) rfl (by decide)) .head (fun H2 hle2 hfz => ?_)
 have hz : H2.at b_2 0 ([(⟨none, 0⟩, .mk 2 0 (-1) (-1) (-1) 0 0 []), (⟨none, 0⟩, .mk 8 0 (-1) 12 (-1) 0 0 []), (⟨none, 0⟩, .mk 7 10 (-1) (-1) (-1) 0 0 []), (⟨none, 0⟩, .mk 0 1 (-1) (-1) (-1) 0 0 []), (⟨a5, 7⟩, .mk 11 0 (-1) (-1) (-1) 0 10 fs_sMetadataResponseTopicPartition), (⟨none, 0⟩, .mk 3 8 (-1) (-1) (-1) (-2147483648) 0 [])].flatMap fun p : FC × Fd => p.1.cells p.2) := by
  rcases hfz with ⟨h0, _⟩ | ⟨g, h0, h1⟩
  · cases h0
  · cases h0; exact h1
 have hl := FdsAt.lit [(⟨none, 0⟩, .mk 2 0 (-1) (-1) (-1) 0 0 []), (⟨none, 0⟩, .mk 8 0 (-1) 12 (-1) 0 0 []), (⟨none, 0⟩, .mk 7 10 (-1) (-1) (-1) 0 0 []), (⟨none, 0⟩, .mk 0 1 (-1) (-1) (-1) 0 0 []), (⟨a5, 7⟩, .mk 11 0 (-1) (-1) (-1) 0 10 fs_sMetadataResponseTopicPartition), (⟨none, 0⟩, .mk 3 8 (-1) (-1) (-1) (-2147483648) 0 [])] hz (Nat.le_of_ble_eq_true rfl) (by
  intro p hp
  simp only [List.mem_cons, List.not_mem_nil, or_false] at hp
  rcases hp with rfl | rfl | rfl | rfl | rfl | rfl
  · exact FdAt.of ⟨show ((-1) : Int) ≤ 1000 by decide, show (0 : Int) ≠ 11 by decide⟩ (FdsAt.nil _)
  · exact FdAt.of ⟨show ((-1) : Int) ≤ 1000 by decide, show (0 : Int) ≠ 11 by decide⟩ (FdsAt.nil _)
  · exact FdAt.of ⟨show ((-1) : Int) ≤ 1000 by decide, show (0 : Int) ≠ 11 by decide⟩ (FdsAt.nil _)
  · exact FdAt.of ⟨show ((-1) : Int) ≤ 1000 by decide, show (0 : Int) ≠ 11 by decide⟩ (FdsAt.nil _)
  · exact FdAt.of ⟨show ((-1) : Int) ≤ 1000 by decide, show (10 : Int) ≠ 11 by decide⟩ (g5.mono hle2)
  · exact FdAt.of ⟨show ((-1) : Int) ≤ 1000 by decide, show (0 : Int) ≠ 11 by decide⟩ (FdsAt.nil _))
 exact rT rfl rfl (le_1.trans hle2) (fun _ _ h => h) ⟨rfl, _, rfl, hl⟩
theorem s_MetadataResponse {H : Fz} {L : Own} :
  Fn Tryz.prog 6 [] H L (fun v H' L' => L = L' ∧ ∃ a : Option Addr, v = .agg #[.slice a 7 7, .int .i64 9] ∧ FdsAt H' a fs_MetadataResponse) := by
 refine Fn.mk Tryz.call6 Tryz.func6 rfl Tryz.ntmps6 rfl ?_
 refine sr ?_
 refine al Tryz.zeroValue31 rfl rfl (fun b_1 => ?_)
 refine nl ?_
 refine sr ?_
 refine bd' S51 rfl rfl rfl ?_
 refine cl rfl rfl rfl s_sMetadataResponseBroker rfl (fun v H1 L1 le_2 hR => ?_)
 obtain ⟨rfl, a2, rfl, g2⟩ := hR
 refine bd' S51 rfl rfl rfl ?_
 refine bd' S51 rfl rfl rfl ?_
 refine bd' S51 rfl rfl rfl ?_
 refine cl rfl rfl rfl s_sMetadataResponseTopic rfl (fun v H1 L1 le_3 hR => ?_)
 obtain ⟨rfl, a6, rfl, g6⟩ := hR
 refine bd' S51 rfl rfl rfl ?_
 refine bd' S51 rfl rfl rfl ?_
 refine bd' S51 rfl rfl rfl ?_
 refine bs' L29 rfl rfl rfl rfl (fun b_4 => ?_)
 refine bd' S31 rfl rfl rfl ?_
 refine sa Tryz.sizeOf31 rfl rfl rfl rfl rfl (.tail .head) ?_
 refine nl ?_
 refine frW (Row.whole (size := 8) (m := 7) rfl (by decide)) .head (fun H2 hle2 hfz => ?_)
 have hz : H2.at b_4 0 ([(⟨none, 0⟩, .mk 3 3 (-1) (-1) (-1) 0 0 []), (⟨a2, 4⟩, .mk 11 0 (-1) (-1) (-1) 0 10 fs_sMetadataResponseBroker), (⟨none, 0⟩, .mk 8 2 (-1) 2 (-1) 0 0 []), (⟨none, 0⟩, .mk 3 1 (-1) (-1) (-1) (-1) 0 []), (⟨a6, 6⟩, .mk 11 0 (-1) (-1) (-1) 0 10 fs_sMetadataResponseTopic), (⟨none, 0⟩, .mk 3 8 10 (-1) (-1) (-2147483648) 0 []), (⟨none, 0⟩, .mk 2 13 (-1) (-1) (-1) 0 0 [])].flatMap fun p : FC × Fd => p.1.cells p.2) := by
  rcases hfz with ⟨h0, _⟩ | ⟨g, h0, h1⟩
  · cases h0
  · cases h0; exact h1
 have hl := FdsAt.lit [(⟨none, 0⟩, .mk 3 3 (-1) (-1) (-1) 0 0 []), (⟨a2, 4⟩, .mk 11 0 (-1) (-1) (-1) 0 10 fs_sMetadataResponseBroker), (⟨none, 0⟩, .mk 8 2 (-1) 2 (-1) 0 0 []), (⟨none, 0⟩, .mk 3 1 (-1) (-1) (-1) (-1) 0 []), (⟨a6, 6⟩, .mk 11 0 (-1) (-1) (-1) 0 10 fs_sMetadataResponseTopic), (⟨none, 0⟩, .mk 3 8 10 (-1) (-1) (-2147483648) 0 []), (⟨none, 0⟩, .mk 2 13 (-1) (-1) (-1) 0 0 [])] hz (Nat.le_of_ble_eq_true rfl) (by
  intro p hp
  simp only [List.mem_cons, List.not_mem_nil, or_false] at hp
  rcases hp with rfl | rfl | rfl | rfl | rfl | rfl | rfl
  · exact FdAt.of ⟨show ((-1) : Int) ≤ 1000 by decide, show (0 : Int) ≠ 11 by decide⟩ (FdsAt.nil _)
  · exact FdAt.of ⟨show ((-1) : Int) ≤ 1000 by decide, show (10 : Int) ≠ 11 by decide⟩ (g2.mono (le_3.trans hle2))
  · exact FdAt.of ⟨show ((-1) : Int) ≤ 1000 by decide, show (0 : Int) ≠ 11 by decide⟩ (FdsAt.nil _)
  · exact FdAt.of ⟨show ((-1) : Int) ≤ 1000 by decide, show (0 : Int) ≠ 11 by decide⟩ (FdsAt.nil _)
  · exact FdAt.of ⟨show ((-1) : Int) ≤ 1000 by decide, show (10 : Int) ≠ 11 by decide⟩ (g6.mono hle2)
  · exact FdAt.of ⟨show ((-1) : Int) ≤ 1000 by decide, show (0 : Int) ≠ 11 by decide⟩ (FdsAt.nil _)
  · exact FdAt.of ⟨show ((-1) : Int) ≤ 1000 by decide, show (0 : Int) ≠ 11 by decide⟩ (FdsAt.nil _))
 exact rC rfl Tryz.isAgg31 Tryz.sizeOf31 rfl .head rfl (le_2.trans (le_3.trans hle2)) (fun _ _ h => h) ⟨rfl, _, rfl, hl⟩
end Go.Sx
