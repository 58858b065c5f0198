import Derived.Test.YthgkgbaggjongaaGreatDoorS3
import Derived.Test.YthgkgbaggjongaaGreatDoorAShareGroupDescribeResponse
import Derived.KernelRfl
set_option linter.unusedVariables false
set_option linter.unusedSimpArgs false
set_option maxRecDepth 100000
set_option maxHeartbeats 20000000
namespace Go.Sx
open Go.Proofs
theorem s_sShareGroupDescribeResponseGroupMemberAssignmentTopicPartition {H : Fz} {L : Own} :
  Fn Tryz.prog 314 [] H L (fun v H' L' => L = L' ∧ ∃ a : Option Addr, v = .slice a 3 3 ∧ FdsAt H' a fs_sShareGroupDescribeResponseGroupMemberAssignmentTopicPartition) := by
 refine Fn.mk Tryz.call314 Tryz.func314 rfl Tryz.ntmps314 rfl ?_
 refine sr ?_
 refine asg rfl rfl ?_
 refine nl ?_
 refine sr ?_
 refine bd' S56 rfl rfl rfl ?_
 refine bd' S56 rfl rfl rfl ?_
 refine bd' S56 rfl rfl rfl ?_
 refine bs' L29 rfl rfl rfl rfl (fun b_1 => ?_)
 refine asg rfl rfl ?_
 refine nl ?_
 refine frW (Row.whole (size := 8) (m := 3) rfl (by decide)) .head (fun H2 hle2 hfz => ?_)
 have hz : H2.at b_1 0 ([(⟨none, 0⟩, .mk 7 0 (-1) (-1) (-1) 0 0 []), (⟨none, 0⟩, .mk 8 0 (-1) (-1) (-1) 0 0 []), (⟨none, 0⟩, .mk 11 0 (-1) (-1) (-1) 0 3 [])].flatMap fun p : FC × Fd => p.1.cells p.2) := by
  rcases hfz with ⟨h0, _⟩ | ⟨g, h0, h1⟩
  · cases h0
  · cases h0; exact h1
 have hl := FdsAt.lit [(⟨none, 0⟩, .mk 7 0 (-1) (-1) (-1) 0 0 []), (⟨none, 0⟩, .mk 8 0 (-1) (-1) (-1) 0 0 []), (⟨none, 0⟩, .mk 11 0 (-1) (-1) (-1) 0 3 [])] hz (Nat.le_of_ble_eq_true rfl) (by
  intro p hp
  simp only [List.mem_cons, List.not_mem_nil, or_false] at hp
  rcases hp with rfl | rfl | rfl
  · exact FdAt.of ⟨show ((-1) : Int) ≤ 1000 by decide, show (0 : Int) ≠ 11 by decide⟩ (FdsAt.nil _)
  · exact FdAt.of ⟨show ((-1) : Int) ≤ 1000 by decide, show (0 : Int) ≠ 11 by decide⟩ (FdsAt.nil _)
  · exact FdAt.of ⟨show ((-1) : Int) ≤ 1000 by decide, show (3 : Int) ≠ 11 by decide⟩ (FdsAt.nil _))
 exact rT rfl rfl hle2 (fun _ _ h => h) ⟨rfl, _, rfl, hl⟩
theorem s_sShareGroupDescribeResponseGroupMemberAssignment {H : Fz} {L : Own} :
  Fn Tryz.prog 272 [] H L (fun v H' L' => L = L' ∧ ∃ a : Option Addr, v = .slice a 1 1 ∧ FdsAt H' a fs_sShareGroupDescribeResponseGroupMemberAssignment) := by
 refine Fn.mk Tryz.call272 Tryz.func272 rfl Tryz.ntmps272 rfl ?_
 refine sr ?_
 refine asg rfl rfl ?_
 refine nl ?_
 refine sr ?_
 refine cl rfl rfl rfl s_sShareGroupDescribeResponseGroupMemberAssignmentTopicPartition rfl (fun v H1 L1 le_1 hR => ?_)
 obtain ⟨rfl, a1, rfl, g1⟩ := hR
 refine bd' S56 rfl rfl rfl ?_
 refine bs' L29 rfl rfl rfl rfl (fun b_2 => ?_)
 refine asg rfl rfl ?_
 refine nl ?_
 refine frW (Row.whole (size := 8) (m := 1) rfl (by decide)) .head (fun H2 hle2 hfz => ?_)
 have hz : H2.at b_2 0 ([(⟨a1, 3⟩, .mk 11 0 (-1) (-1) (-1) 0 10 fs_sShareGroupDescribeResponseGroupMemberAssignmentTopicPartition)].flatMap fun p : FC × Fd => p.1.cells p.2) := by
  rcases hfz with ⟨h0, _⟩ | ⟨g, h0, h1⟩
  · cases h0
  · cases h0; exact h1
 have hl := FdsAt.lit [(⟨a1, 3⟩, .mk 11 0 (-1) (-1) (-1) 0 10 fs_sShareGroupDescribeResponseGroupMemberAssignmentTopicPartition)] hz (Nat.le_of_ble_eq_true rfl) (by
  intro p hp
  simp only [List.mem_cons, List.not_mem_nil, or_false] at hp
  rcases hp with rfl
  · exact FdAt.of ⟨show ((-1) : Int) ≤ 1000 by decide, show (10 : Int) ≠ 11 by decide⟩ (g1.mono hle2))
 exact rT rfl rfl (le_1.trans hle2) (fun _ _ h => h) ⟨rfl, _, rfl, hl⟩
theorem s_sShareGroupDescribeResponseGroupMember {H : Fz} {L : Own} :
  Fn Tryz.prog 181 [] H L (fun v H' L' => L = L' ∧ ∃ a : Option Addr, v = .slice a 7 7 ∧ FdsAt H' a fs_sShareGroupDescribeResponseGroupMember) := by
 refine Fn.mk Tryz.call181 Tryz.func181 rfl Tryz.ntmps181 rfl ?_
 refine sr ?_
 refine asg rfl rfl ?_
 refine nl ?_
 refine sr ?_
 refine bd' S56 rfl rfl rfl ?_
 refine bd' S56 rfl rfl rfl ?_
 refine bd' S56 rfl rfl rfl ?_
 refine bd' S56 rfl rfl rfl ?_
 refine bd' S56 rfl rfl rfl ?_
 refine bd' S56 rfl rfl rfl ?_
 refine cl rfl rfl rfl s_sShareGroupDescribeResponseGroupMemberAssignment rfl (fun v H1 L1 le_1 hR => ?_)
 obtain ⟨rfl, a7, rfl, g7⟩ := hR
 refine bd' S56 rfl rfl rfl ?_
 refine bs' L29 rfl rfl rfl rfl (fun b_2 => ?_)
 refine asg rfl rfl ?_
 refine nl ?_
 refine frW (Row.whole (size := 8) (m := 7) rfl (by decide)) .head (fun H2 hle2 hfz => ?_)
 have hz : H2.at b_2 0 ([(⟨none, 0⟩, .mk 8 0 (-1) (-1) (-1) 0 0 []), (⟨none, 0⟩, .mk 8 0 (-1) 0 (-1) 0 0 []), (⟨none, 0⟩, .mk 3 0 (-1) (-1) (-1) 0 0 []), (⟨none, 0⟩, .mk 8 0 (-1) (-1) (-1) 0 0 []), (⟨none, 0⟩, .mk 8 0 (-1) (-1) (-1) 0 0 []), (⟨none, 0⟩, .mk 11 0 (-1) (-1) (-1) 0 8 []), (⟨a7, 1⟩, .mk 10 0 (-1) (-1) (-1) 0 0 fs_sShareGroupDescribeResponseGroupMemberAssignment)].flatMap fun p : FC × Fd => p.1.cells p.2) := by
  rcases hfz with ⟨h0, _⟩ | ⟨g, h0, h1⟩
  · cases h0
  · cases h0; exact h1
 have hl := FdsAt.lit [(⟨none, 0⟩, .mk 8 0 (-1) (-1) (-1) 0 0 []), (⟨none, 0⟩, .mk 8 0 (-1) 0 (-1) 0 0 []), (⟨none, 0⟩, .mk 3 0 (-1) (-1) (-1) 0 0 []), (⟨none, 0⟩, .mk 8 0 (-1) (-1) (-1) 0 0 []), (⟨none, 0⟩, .mk 8 0 (-1) (-1) (-1) 0 0 []), (⟨none, 0⟩, .mk 11 0 (-1) (-1) (-1) 0 8 []), (⟨a7, 1⟩, .mk 10 0 (-1) (-1) (-1) 0 0 fs_sShareGroupDescribeResponseGroupMemberAssignment)] hz (Nat.le_of_ble_eq_true rfl) (by
  intro p hp
  simp only [List.mem_cons, List.not_mem_nil, or_false] at hp
  rcases hp with rfl | rfl | rfl | rfl | rfl | rfl | rfl
  · exact FdAt.of ⟨show ((-1) : Int) ≤ 1000 by decide, show (0 : Int) ≠ 11 by decide⟩ (FdsAt.nil _)
  · exact FdAt.of ⟨show ((-1) : Int) ≤ 1000 by decide, show (0 : Int) ≠ 11 by decide⟩ (FdsAt.nil _)
  · exact FdAt.of ⟨show ((-1) : Int) ≤ 1000 by decide, show (0 : Int) ≠ 11 by decide⟩ (FdsAt.nil _)
  · exact FdAt.of ⟨show ((-1) : Int) ≤ 1000 by decide, show (0 : Int) ≠ 11 by decide⟩ (FdsAt.nil _)
  · exact FdAt.of ⟨show ((-1) : Int) ≤ 1000 by decide, show (0 : Int) ≠ 11 by decide⟩ (FdsAt.nil _)
  · exact FdAt.of ⟨show ((-1) : Int) ≤ 1000 by decide, show (8 : Int) ≠ 11 by decide⟩ (FdsAt.nil _)
  · exact FdAt.of ⟨show ((-1) : Int) ≤ 1000 by decide, show (0 : Int) ≠ 11 by decide⟩ (g7.mono hle2))
 exact rT rfl rfl (le_1.trans hle2) (fun _ _ h => h) ⟨rfl, _, rfl, hl⟩
theorem s_sShareGroupDescribeResponseGroup {H : Fz} {L : Own} :
  Fn Tryz.prog 105 [] H L (fun v H' L' => L = L' ∧ ∃ a : Option Addr, v = .slice a 9 9 ∧ FdsAt H' a fs_sShareGroupDescribeResponseGroup) := by
 refine Fn.mk Tryz.call105 Tryz.func105 rfl Tryz.ntmps105 rfl ?_
 refine sr ?_
 refine asg rfl rfl ?_
 refine nl ?_
 refine sr ?_
 refine bd' S56 rfl rfl rfl ?_
 refine bd' S56 rfl rfl rfl ?_
 refine bd' S56 rfl rfl rfl ?_
 refine bd' S56 rfl rfl rfl ?_
 refine bd' S56 rfl rfl rfl ?_
 refine bd' S56 rfl rfl rfl ?_
 refine bd' S56 rfl rfl rfl ?_
 refine cl rfl rfl rfl s_sShareGroupDescribeResponseGroupMember rfl (fun v H1 L1 le_1 hR => ?_)
 obtain ⟨rfl, a8, rfl, g8⟩ := hR
 refine bd' S56 rfl rfl rfl ?_
 refine bd' S56 rfl rfl rfl ?_
 refine bs' L29 rfl rfl rfl rfl (fun b_2 => ?_)
 refine asg rfl rfl ?_
 refine nl ?_
 refine frW (Row.whole (size := 8) (m := 9) rfl (by decide)) .head (fun H2 hle2 hfz => ?_)
 have hz : H2.at b_2 0 ([(⟨none, 0⟩, .mk 2 0 (-1) (-1) (-1) 0 0 []), (⟨none, 0⟩, .mk 8 0 (-1) 0 (-1) 0 0 []), (⟨none, 0⟩, .mk 8 0 (-1) (-1) (-1) 0 0 []), (⟨none, 0⟩, .mk 8 0 (-1) (-1) (-1) 0 0 []), (⟨none, 0⟩, .mk 3 0 (-1) (-1) (-1) 0 0 []), (⟨none, 0⟩, .mk 3 0 (-1) (-1) (-1) 0 0 []), (⟨none, 0⟩, .mk 8 0 (-1) (-1) (-1) 0 0 []), (⟨a8, 7⟩, .mk 11 0 (-1) (-1) (-1) 0 10 fs_sShareGroupDescribeResponseGroupMember), (⟨none, 0⟩, .mk 3 0 (-1) (-1) (-1) (-2147483648) 0 [])].flatMap fun p : FC × Fd => p.1.cells p.2) := by
  rcases hfz with ⟨h0, _⟩ | ⟨g, h0, h1⟩
  · cases h0
  · cases h0; exact h1
 have hl := FdsAt.lit [(⟨none, 0⟩, .mk 2 0 (-1) (-1) (-1) 0 0 []), (⟨none, 0⟩, .mk 8 0 (-1) 0 (-1) 0 0 []), (⟨none, 0⟩, .mk 8 0 (-1) (-1) (-1) 0 0 []), (⟨none, 0⟩, .mk 8 0 (-1) (-1) (-1) 0 0 []), (⟨none, 0⟩, .mk 3 0 (-1) (-1) (-1) 0 0 []), (⟨none, 0⟩, .mk 3 0 (-1) (-1) (-1) 0 0 []), (⟨none, 0⟩, .mk 8 0 (-1) (-1) (-1) 0 0 []), (⟨a8, 7⟩, .mk 11 0 (-1) (-1) (-1) 0 10 fs_sShareGroupDescribeResponseGroupMember), (⟨none, 0⟩, .mk 3 0 (-1) (-1) (-1) (-2147483648) 0 [])] hz (Nat.le_of_ble_eq_true rfl) (by
  intro p hp
  simp only [List.mem_cons, List.not_mem_nil, or_false] at hp
  rcases hp with rfl | rfl | rfl | rfl | rfl | rfl | rfl | rfl | rfl
  · exact FdAt.of ⟨show ((-1) : Int) ≤ 1000 by decide, show (0 : Int) ≠ 11 by decide⟩ (FdsAt.nil _)
  · exact FdAt.of ⟨show ((-1) : Int) ≤ 1000 by decide, show (0 : Int) ≠ 11 by decide⟩ (FdsAt.nil _)
  · exact FdAt.of ⟨show ((-1) : Int) ≤ 1000 by decide, show (0 : Int) ≠ 11 by decide⟩ (FdsAt.nil _)
  · exact FdAt.of ⟨show ((-1) : Int) ≤ 1000 by decide, show (0 : Int) ≠ 11 by decide⟩ (FdsAt.nil _)
  · exact FdAt.of ⟨show ((-1) : Int) ≤ 1000 by decide, show (0 : Int) ≠ 11 by decide⟩ (FdsAt.nil _)
  · exact FdAt.of ⟨show ((-1) : Int) ≤ 1000 by decide, show (0 : Int) ≠ 11 by decide⟩ (FdsAt.nil _)
  · exact FdAt.of ⟨show ((-1) : Int) ≤ 1000 by decide, show (0 : Int) ≠ 11 by decide⟩ (FdsAt.nil _)
  · exact FdAt.of ⟨show ((-1) : Int) ≤ 1000 by decide, show (10 : Int) ≠ 11 by decide⟩ (g8.mono hle2)
  · exact FdAt.of ⟨show ((-1) : Int) ≤ 1000 by decide, show (0 : Int) ≠ 11 by decide⟩ (FdsAt.nil _))
 exact rT rfl rfl (le_1.trans hle2) (fun _ _ h => h) ⟨rfl, _, rfl, hl⟩
theorem s_ShareGroupDescribeResponse {H : Fz} {L : Own} :
  Fn Tryz.prog 39 [] H L (fun v H' L' => L = L' ∧ ∃ a : Option Addr, v = .agg #[.slice a 2 2, .int .i64 0] ∧ FdsAt H' a fs_ShareGroupDescribeResponse) := by
 refine Fn.mk Tryz.call39 Tryz.func39 rfl Tryz.ntmps39 rfl ?_
 refine sr ?_
 refine al Tryz.zeroValue31 rfl rfl (fun b_1 => ?_)
 refine nl ?_
 refine sr ?_
 refine bd' S56 rfl rfl rfl ?_
 refine cl rfl rfl rfl s_sShareGroupDescribeResponseGroup rfl (fun v H1 L1 le_2 hR => ?_)
 obtain ⟨rfl, a2, rfl, g2⟩ := hR
 refine bd' S56 rfl rfl rfl ?_
 refine bs' L29 rfl rfl rfl rfl (fun b_3 => ?_)
 refine bd' S31 rfl rfl rfl ?_
 refine sa Tryz.sizeOf31 rfl rfl rfl rfl rfl (.tail .head) ?_
 refine nl ?_
 refine frW (Row.whole (size := 8) (m := 2) rfl (by decide)) .head (fun H2 hle2 hfz => ?_)
 have hz : H2.at b_3 0 ([(⟨none, 0⟩, .mk 3 0 (-1) (-1) (-1) 0 0 []), (⟨a2, 9⟩, .mk 11 0 (-1) (-1) (-1) 0 10 fs_sShareGroupDescribeResponseGroup)].flatMap fun p : FC × Fd => p.1.cells p.2) := by
  rcases hfz with ⟨h0, _⟩ | ⟨g, h0, h1⟩
  · cases h0
  · cases h0; exact h1
 have hl := FdsAt.lit [(⟨none, 0⟩, .mk 3 0 (-1) (-1) (-1) 0 0 []), (⟨a2, 9⟩, .mk 11 0 (-1) (-1) (-1) 0 10 fs_sShareGroupDescribeResponseGroup)] hz (Nat.le_of_ble_eq_true rfl) (by
  intro p hp
  simp only [List.mem_cons, List.not_mem_nil, or_false] at hp
  rcases hp with rfl | rfl
  · exact FdAt.of ⟨show ((-1) : Int) ≤ 1000 by decide, show (0 : Int) ≠ 11 by decide⟩ (FdsAt.nil _)
  · exact FdAt.of ⟨show ((-1) : Int) ≤ 1000 by decide, show (10 : Int) ≠ 11 by decide⟩ (g2.mono hle2))
 exact rC rfl Tryz.isAgg31 Tryz.sizeOf31 rfl .head rfl (le_2.trans hle2) (fun _ _ h => h) ⟨rfl, _, rfl, hl⟩
end Go.Sx
