import Derived.Test.YtdjfaejkhpifhaaGreatDoorS3
import Derived.Test.YtdjfaejkhpifhaaGreatDoorAVoteResponse
import Derived.KernelRfl
set_option linter.unusedVariables false
set_option linter.unusedSimpArgs false
set_option maxRecDepth 100000
set_option maxHeartbeats 20000000
namespace Go.Sx
open Go.Proofs
theorem s_sVoteResponseTopicPartition {H : Fz} {L : Own} :
  Fn Tryz.prog 34 [] H L (fun v H' L' => L = L' ∧ ∃ a : Option Addr, v = .slice a 5 5 ∧ FdsAt H' a fs_sVoteResponseTopicPartition) := by
 refine Fn.mk Tryz.call34 Tryz.func34 rfl Tryz.ntmps34 rfl ?_
 refine sr ?_
 refine asg rfl rfl ?_
 refine nl ?_
 refine sr ?_
 refine bd' S45 rfl rfl rfl ?_
 refine bd' S45 rfl rfl rfl ?_
 refine bd' S45 rfl rfl rfl ?_
 refine bd' S45 rfl rfl rfl ?_
 refine bd' S45 rfl rfl rfl ?_
 refine bs' L29 rfl rfl rfl rfl (fun b_1 => ?_)
 refine asg rfl rfl ?_
 refine nl ?_
 refine frW (Row.whole (size := 8) (m := 5) rfl (by decide)) .head (fun H2 hle2 hfz => ?_)
 have hz : H2.at b_1 0 ([(⟨none, 0⟩, .mk 3 0 (-1) (-1) (-1) 0 0 []), (⟨none, 0⟩, .mk 2 0 (-1) (-1) (-1) 0 0 []), (⟨none, 0⟩, .mk 3 0 (-1) (-1) (-1) 0 0 []), (⟨none, 0⟩, .mk 3 0 (-1) (-1) (-1) 0 0 []), (⟨none, 0⟩, .mk 0 0 (-1) (-1) (-1) 0 0 [])].flatMap fun p : FC × Fd => p.1.cells p.2) := by
  rcases hfz with ⟨h0, _⟩ | ⟨g, h0, h1⟩
  · cases h0
  · cases h0; exact h1
 have hl := FdsAt.lit [(⟨none, 0⟩, .mk 3 0 (-1) (-1) (-1) 0 0 []), (⟨none, 0⟩, .mk 2 0 (-1) (-1) (-1) 0 0 []), (⟨none, 0⟩, .mk 3 0 (-1) (-1) (-1) 0 0 []), (⟨none, 0⟩, .mk 3 0 (-1) (-1) (-1) 0 0 []), (⟨none, 0⟩, .mk 0 0 (-1) (-1) (-1) 0 0 [])] hz (Nat.le_of_ble_eq_true rfl) (by
  intro p hp
  simp only [List.mem_cons, List.not_mem_nil, or_false] at hp
  rcases hp with rfl | rfl | rfl | rfl | rfl
  · exact FdAt.of ⟨show ((-1) : Int) ≤ 1000 by decide, show (0 : Int) ≠ 11 by decide⟩ (FdsAt.nil _)
  · exact FdAt.of ⟨show ((-1) : Int) ≤ 1000 by decide, show (0 : Int) ≠ 11 by decide⟩ (FdsAt.nil _)
  · exact FdAt.of ⟨show ((-1) : Int) ≤ 1000 by decide, show (0 : Int) ≠ 11 by decide⟩ (FdsAt.nil _)
  · exact FdAt.of ⟨show ((-1) : Int) ≤ 1000 by decide, show (0 : Int) ≠ 11 by decide⟩ (FdsAt.nil _)
  · exact FdAt.of ⟨show ((-1) : Int) ≤ 1000 by decide, show (0 : Int) ≠ 11 by decide⟩ (FdsAt.nil _))
 exact rT rfl rfl hle2 (fun _ _ h => h) ⟨rfl, _, rfl, hl⟩
theorem s_sVoteResponseTopic {H : Fz} {L : Own} :
  Fn Tryz.prog 18 [] H L (fun v H' L' => L = L' ∧ ∃ a : Option Addr, v = .slice a 2 2 ∧ FdsAt H' a fs_sVoteResponseTopic) := by
 refine Fn.mk Tryz.call18 Tryz.func18 rfl Tryz.ntmps18 rfl ?_
 refine sr ?_
 refine asg rfl rfl ?_
 refine nl ?_
 refine sr ?_
 refine bd' S45 rfl rfl rfl ?_
 refine cl rfl rfl rfl s_sVoteResponseTopicPartition rfl (fun v H1 L1 le_1 hR => ?_)
 obtain ⟨rfl, a2, rfl, g2⟩ := hR
 refine bd' S45 rfl rfl rfl ?_
 refine bs' L29 rfl rfl rfl rfl (fun b_2 => ?_)
 refine asg rfl rfl ?_
 refine nl ?_
 refine frW (Row.whole (size := 8) (m := 2) rfl (by decide)) .head (fun H2 hle2 hfz => ?_)
 have hz : H2.at b_2 0 ([(⟨none, 0⟩, .mk 8 0 (-1) (-1) (-1) 0 0 []), (⟨a2, 5⟩, .mk 11 0 (-1) (-1) (-1) 0 10 fs_sVoteResponseTopicPartition)].flatMap fun p : FC × Fd => p.1.cells p.2) := by
  rcases hfz with ⟨h0, _⟩ | ⟨g, h0, h1⟩
  · cases h0
  · cases h0; exact h1
 have hl := FdsAt.lit [(⟨none, 0⟩, .mk 8 0 (-1) (-1) (-1) 0 0 []), (⟨a2, 5⟩, .mk 11 0 (-1) (-1) (-1) 0 10 fs_sVoteResponseTopicPartition)] hz (Nat.le_of_ble_eq_true rfl) (by
  intro p hp
  simp only [List.mem_cons, List.not_mem_nil, or_false] at hp
  rcases hp with rfl | rfl
  · exact FdAt.of ⟨show ((-1) : Int) ≤ 1000 by decide, show (0 : Int) ≠ 11 by decide⟩ (FdsAt.nil _)
  · exact FdAt.of ⟨show ((-1) : Int) ≤ 1000 by decide, show (10 : Int) ≠ 11 by decide⟩ (g2.mono hle2))
 exact rT rfl rfl (le_1.trans hle2) (fun _ _ h => h) ⟨rfl, _, rfl, hl⟩
theorem s_sVoteResponseNodeEndpoint {H : Fz} {L : Own} :
  Fn Tryz.prog 19 [] H L (fun v H' L' => L = L' ∧ ∃ a : Option Addr, v = .slice a 3 3 ∧ FdsAt H' a fs_sVoteResponseNodeEndpoint) := by
 refine Fn.mk Tryz.call19 Tryz.func19 rfl Tryz.ntmps19 rfl ?_
 refine sr ?_
 refine asg rfl rfl ?_
 refine nl ?_
 refine sr ?_
 refine bd' S45 rfl rfl rfl ?_
 refine bd' S45 rfl rfl rfl ?_
 refine bd' S45 rfl rfl rfl ?_
 refine bs' L29 rfl rfl rfl rfl (fun b_1 => ?_)
 refine asg rfl rfl ?_
 refine nl ?_
 refine frW (Row.whole (size := 8) (m := 3) rfl (by decide)) .head (fun H2 hle2 hfz => ?_)
 have hz : H2.at b_1 0 ([(⟨none, 0⟩, .mk 3 1 (-1) (-1) (-1) 0 0 []), (⟨none, 0⟩, .mk 8 1 (-1) (-1) (-1) 0 0 []), (⟨none, 0⟩, .mk 5 1 (-1) (-1) (-1) 0 0 [])].flatMap fun p : FC × Fd => p.1.cells p.2) := by
  rcases hfz with ⟨h0, _⟩ | ⟨g, h0, h1⟩
  · cases h0
  · cases h0; exact h1
 have hl := FdsAt.lit [(⟨none, 0⟩, .mk 3 1 (-1) (-1) (-1) 0 0 []), (⟨none, 0⟩, .mk 8 1 (-1) (-1) (-1) 0 0 []), (⟨none, 0⟩, .mk 5 1 (-1) (-1) (-1) 0 0 [])] hz (Nat.le_of_ble_eq_true rfl) (by
  intro p hp
  simp only [List.mem_cons, List.not_mem_nil, or_false] at hp
  rcases hp with rfl | rfl | rfl
  · exact FdAt.of ⟨show ((-1) : Int) ≤ 1000 by decide, show (0 : Int) ≠ 11 by decide⟩ (FdsAt.nil _)
  · exact FdAt.of ⟨show ((-1) : Int) ≤ 1000 by decide, show (0 : Int) ≠ 11 by decide⟩ (FdsAt.nil _)
  · exact FdAt.of ⟨show ((-1) : Int) ≤ 1000 by decide, show (0 : Int) ≠ 11 by decide⟩ (FdsAt.nil _))
 exact rT rfl rfl hle2 (fun _ _ h => h) ⟨rfl, _, rfl, hl⟩
theorem s_VoteResponse {H : Fz} {L : Own} :
  Fn Tryz.prog 7 [] H L (fun v H' L' => L = L' ∧ ∃ a : Option Addr, v = .agg #[.slice a 3 3, .int .i64 0] ∧ FdsAt H' a fs_VoteResponse) := by
 refine Fn.mk Tryz.call7 Tryz.func7 rfl Tryz.ntmps7 rfl ?_
 refine sr ?_
 refine al Tryz.zeroValue31 rfl rfl (fun b_1 => ?_)
 refine nl ?_
 refine sr ?_
 refine bd' S45 rfl rfl rfl ?_
 refine cl rfl rfl rfl s_sVoteResponseTopic rfl (fun v H1 L1 le_2 hR => ?_)
 obtain ⟨rfl, a2, rfl, g2⟩ := hR
 refine bd' S45 rfl rfl rfl ?_
 refine cl rfl rfl rfl s_sVoteResponseNodeEndpoint rfl (fun v H1 L1 le_3 hR => ?_)
 obtain ⟨rfl, a4, rfl, g4⟩ := hR
 refine bd' S45 rfl rfl rfl ?_
 refine bs' L29 rfl rfl rfl rfl (fun b_4 => ?_)
 refine bd' S31 rfl rfl rfl ?_
 refine sa Tryz.sizeOf31 rfl rfl rfl rfl rfl (.tail .head) ?_
 refine nl ?_
 refine frW (Row.whole (size := 8) (m := 3) rfl (by decide)) .head (fun H2 hle2 hfz => ?_)
 have hz : H2.at b_4 0 ([(⟨none, 0⟩, .mk 2 0 (-1) (-1) (-1) 0 0 []), (⟨a2, 2⟩, .mk 11 0 (-1) (-1) (-1) 0 10 fs_sVoteResponseTopic), (⟨a4, 3⟩, .mk 11 0 (-1) (-1) 0 0 10 fs_sVoteResponseNodeEndpoint)].flatMap fun p : FC × Fd => p.1.cells p.2) := by
  rcases hfz with ⟨h0, _⟩ | ⟨g, h0, h1⟩
  · cases h0
  · cases h0; exact h1
 have hl := FdsAt.lit [(⟨none, 0⟩, .mk 2 0 (-1) (-1) (-1) 0 0 []), (⟨a2, 2⟩, .mk 11 0 (-1) (-1) (-1) 0 10 fs_sVoteResponseTopic), (⟨a4, 3⟩, .mk 11 0 (-1) (-1) 0 0 10 fs_sVoteResponseNodeEndpoint)] hz (Nat.le_of_ble_eq_true rfl) (by
  intro p hp
  simp only [List.mem_cons, List.not_mem_nil, or_false] at hp
  rcases hp with rfl | rfl | rfl
  · exact FdAt.of ⟨show ((-1) : Int) ≤ 1000 by decide, show (0 : Int) ≠ 11 by decide⟩ (FdsAt.nil _)
  · exact FdAt.of ⟨show ((-1) : Int) ≤ 1000 by decide, show (10 : Int) ≠ 11 by decide⟩ (g2.mono (le_3.trans hle2))
  · exact FdAt.of ⟨show (0 : Int) ≤ 1000 by decide, show (10 : Int) ≠ 11 by decide⟩ (g4.mono hle2))
 exact rC rfl Tryz.isAgg31 Tryz.sizeOf31 rfl .head rfl (le_2.trans (le_3.trans hle2)) (fun _ _ h => h) ⟨rfl, _, rfl, hl⟩
end Go.Sx
