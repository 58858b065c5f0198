import Derived.Test.YthgkgbaggjongaaGreatDoorS3
import Derived.Test.YthgkgbaggjongaaGreatDoorAAddPartitionsToTxnResponse
import Derived.KernelRfl
set_option linter.unusedVariables false
set_option linter.unusedSimpArgs false
set_option maxRecDepth 100000
set_option maxHeartbeats 20000000
namespace Go.Sx
open Go.Proofs
theorem s_sAddPartitionsToTxnResponseTransactionTopicPartition {H : Fz} {L : Own} :
  Fn Tryz.prog 239 [] H L (fun v H' L' => L = L' ∧ ∃ a : Option Addr, v = .slice a 2 2 ∧ FdsAt H' a fs_sAddPartitionsToTxnResponseTransactionTopicPartition) := by
 refine Fn.mk Tryz.call239 Tryz.func239 rfl Tryz.ntmps239 rfl ?_
 refine sr ?_
 refine asg rfl rfl ?_
 refine nl ?_
 refine sr ?_
 refine bd' S56 rfl rfl rfl ?_
 refine bd' S56 rfl rfl rfl ?_
 refine bs' L29 rfl rfl rfl rfl (fun b_1 => ?_)
 refine asg rfl rfl ?_
 refine nl ?_
 refine frW (Row.whole (size := 8) (m := 2) rfl (by decide)) .head (fun H2 hle2 hfz => ?_)
 have hz : H2.at b_1 0 ([(⟨none, 0⟩, .mk 3 0 (-1) (-1) (-1) 0 0 []), (⟨none, 0⟩, .mk 2 0 (-1) (-1) (-1) 0 0 [])].flatMap fun p : FC × Fd => p.1.cells p.2) := by
  rcases hfz with ⟨h0, _⟩ | ⟨g, h0, h1⟩
  · cases h0
  · cases h0; exact h1
 have hl := FdsAt.lit [(⟨none, 0⟩, .mk 3 0 (-1) (-1) (-1) 0 0 []), (⟨none, 0⟩, .mk 2 0 (-1) (-1) (-1) 0 0 [])] hz (Nat.le_of_ble_eq_true rfl) (by
  intro p hp
  simp only [List.mem_cons, List.not_mem_nil, or_false] at hp
  rcases hp with rfl | rfl
  · exact FdAt.of ⟨show ((-1) : Int) ≤ 1000 by decide, show (0 : Int) ≠ 11 by decide⟩ (FdsAt.nil _)
  · exact FdAt.of ⟨show ((-1) : Int) ≤ 1000 by decide, show (0 : Int) ≠ 11 by decide⟩ (FdsAt.nil _))
 exact rT rfl rfl hle2 (fun _ _ h => h) ⟨rfl, _, rfl, hl⟩
theorem s_sAddPartitionsToTxnResponseTransactionTopic {H : Fz} {L : Own} :
  Fn Tryz.prog 156 [] H L (fun v H' L' => L = L' ∧ ∃ a : Option Addr, v = .slice a 2 2 ∧ FdsAt H' a fs_sAddPartitionsToTxnResponseTransactionTopic) := by
 refine Fn.mk Tryz.call156 Tryz.func156 rfl Tryz.ntmps156 rfl ?_
 refine sr ?_
 refine asg rfl rfl ?_
 refine nl ?_
 refine sr ?_
 refine bd' S56 rfl rfl rfl ?_
 refine cl rfl rfl rfl s_sAddPartitionsToTxnResponseTransactionTopicPartition rfl (fun v H1 L1 le_1 hR => ?_)
 obtain ⟨rfl, a2, rfl, g2⟩ := hR
 refine bd' S56 rfl rfl rfl ?_
 refine bs' L29 rfl rfl rfl rfl (fun b_2 => ?_)
 refine asg rfl rfl ?_
 refine nl ?_
 refine frW (Row.whole (size := 8) (m := 2) rfl (by decide)) .head (fun H2 hle2 hfz => ?_)
 have hz : H2.at b_2 0 ([(⟨none, 0⟩, .mk 8 0 (-1) (-1) (-1) 0 0 []), (⟨a2, 2⟩, .mk 11 0 (-1) (-1) (-1) 0 10 fs_sAddPartitionsToTxnResponseTransactionTopicPartition)].flatMap fun p : FC × Fd => p.1.cells p.2) := by
  rcases hfz with ⟨h0, _⟩ | ⟨g, h0, h1⟩
  · cases h0
  · cases h0; exact h1
 have hl := FdsAt.lit [(⟨none, 0⟩, .mk 8 0 (-1) (-1) (-1) 0 0 []), (⟨a2, 2⟩, .mk 11 0 (-1) (-1) (-1) 0 10 fs_sAddPartitionsToTxnResponseTransactionTopicPartition)] hz (Nat.le_of_ble_eq_true rfl) (by
  intro p hp
  simp only [List.mem_cons, List.not_mem_nil, or_false] at hp
  rcases hp with rfl | rfl
  · exact FdAt.of ⟨show ((-1) : Int) ≤ 1000 by decide, show (0 : Int) ≠ 11 by decide⟩ (FdsAt.nil _)
  · exact FdAt.of ⟨show ((-1) : Int) ≤ 1000 by decide, show (10 : Int) ≠ 11 by decide⟩ (g2.mono hle2))
 exact rT rfl rfl (le_1.trans hle2) (fun _ _ h => h) ⟨rfl, _, rfl, hl⟩
theorem s_sAddPartitionsToTxnResponseTransaction {H : Fz} {L : Own} :
  Fn Tryz.prog 78 [] H L (fun v H' L' => L = L' ∧ ∃ a : Option Addr, v = .slice a 2 2 ∧ FdsAt H' a fs_sAddPartitionsToTxnResponseTransaction) := by
 refine Fn.mk Tryz.call78 Tryz.func78 rfl Tryz.ntmps78 rfl ?_
 refine sr ?_
 refine asg rfl rfl ?_
 refine nl ?_
 refine sr ?_
 refine bd' S56 rfl rfl rfl ?_
 refine cl rfl rfl rfl s_sAddPartitionsToTxnResponseTransactionTopic rfl (fun v H1 L1 le_1 hR => ?_)
 obtain ⟨rfl, a2, rfl, g2⟩ := hR
 refine bd' S56 rfl rfl rfl ?_
 refine bs' L29 rfl rfl rfl rfl (fun b_2 => ?_)
 refine asg rfl rfl ?_
 refine nl ?_
 refine frW (Row.whole (size := 8) (m := 2) rfl (by decide)) .head (fun H2 hle2 hfz => ?_)
 have hz : H2.at b_2 0 ([(⟨none, 0⟩, .mk 8 0 (-1) (-1) (-1) 0 0 []), (⟨a2, 2⟩, .mk 11 0 (-1) (-1) (-1) 0 10 fs_sAddPartitionsToTxnResponseTransactionTopic)].flatMap fun p : FC × Fd => p.1.cells p.2) := by
  rcases hfz with ⟨h0, _⟩ | ⟨g, h0, h1⟩
  · cases h0
  · cases h0; exact h1
 have hl := FdsAt.lit [(⟨none, 0⟩, .mk 8 0 (-1) (-1) (-1) 0 0 []), (⟨a2, 2⟩, .mk 11 0 (-1) (-1) (-1) 0 10 fs_sAddPartitionsToTxnResponseTransactionTopic)] hz (Nat.le_of_ble_eq_true rfl) (by
  intro p hp
  simp only [List.mem_cons, List.not_mem_nil, or_false] at hp
  rcases hp with rfl | rfl
  · exact FdAt.of ⟨show ((-1) : Int) ≤ 1000 by decide, show (0 : Int) ≠ 11 by decide⟩ (FdsAt.nil _)
  · exact FdAt.of ⟨show ((-1) : Int) ≤ 1000 by decide, show (10 : Int) ≠ 11 by decide⟩ (g2.mono hle2))
 exact rT rfl rfl (le_1.trans hle2) (fun _ _ h => h) ⟨rfl, _, rfl, hl⟩
theorem s_sAddPartitionsToTxnResponseTopicPartition {H : Fz} {L : Own} :
  Fn Tryz.prog 157 [] H L (fun v H' L' => L = L' ∧ ∃ a : Option Addr, v = .slice a 2 2 ∧ FdsAt H' a fs_sAddPartitionsToTxnResponseTopicPartition) := by
 refine Fn.mk Tryz.call157 Tryz.func157 rfl Tryz.ntmps157 rfl ?_
 refine sr ?_
 refine asg rfl rfl ?_
 refine nl ?_
 refine sr ?_
 refine bd' S56 rfl rfl rfl ?_
 refine bd' S56 rfl rfl rfl ?_
 refine bs' L29 rfl rfl rfl rfl (fun b_1 => ?_)
 refine asg rfl rfl ?_
 refine nl ?_
 refine frW (Row.whole (size := 8) (m := 2) rfl (by decide)) .head (fun H2 hle2 hfz => ?_)
 have hz : H2.at b_1 0 ([(⟨none, 0⟩, .mk 3 0 (-1) (-1) (-1) 0 0 []), (⟨none, 0⟩, .mk 2 0 (-1) (-1) (-1) 0 0 [])].flatMap fun p : FC × Fd => p.1.cells p.2) := by
  rcases hfz with ⟨h0, _⟩ | ⟨g, h0, h1⟩
  · cases h0
  · cases h0; exact h1
 have hl := FdsAt.lit [(⟨none, 0⟩, .mk 3 0 (-1) (-1) (-1) 0 0 []), (⟨none, 0⟩, .mk 2 0 (-1) (-1) (-1) 0 0 [])] hz (Nat.le_of_ble_eq_true rfl) (by
  intro p hp
  simp only [List.mem_cons, List.not_mem_nil, or_false] at hp
  rcases hp with rfl | rfl
  · exact FdAt.of ⟨show ((-1) : Int) ≤ 1000 by decide, show (0 : Int) ≠ 11 by decide⟩ (FdsAt.nil _)
  · exact FdAt.of ⟨show ((-1) : Int) ≤ 1000 by decide, show (0 : Int) ≠ 11 by decide⟩ (FdsAt.nil _))
 exact rT rfl rfl hle2 (fun _ _ h => h) ⟨rfl, _, rfl, hl⟩
theorem s_sAddPartitionsToTxnResponseTopic {H : Fz} {L : Own} :
  Fn Tryz.prog 79 [] H L (fun v H' L' => L = L' ∧ ∃ a : Option Addr, v = .slice a 2 2 ∧ FdsAt H' a fs_sAddPartitionsToTxnResponseTopic) := by
 refine Fn.mk Tryz.call79 Tryz.func79 rfl Tryz.ntmps79 rfl ?_
 refine sr ?_
 refine asg rfl rfl ?_
 refine nl ?_
 refine sr ?_
 refine bd' S56 rfl rfl rfl ?_
 refine cl rfl rfl rfl s_sAddPartitionsToTxnResponseTopicPartition rfl (fun v H1 L1 le_1 hR => ?_)
 obtain ⟨rfl, a2, rfl, g2⟩ := hR
 refine bd' S56 rfl rfl rfl ?_
 refine bs' L29 rfl rfl rfl rfl (fun b_2 => ?_)
 refine asg rfl rfl ?_
 refine nl ?_
 refine frW (Row.whole (size := 8) (m := 2) rfl (by decide)) .head (fun H2 hle2 hfz => ?_)
 have hz : H2.at b_2 0 ([(⟨none, 0⟩, .mk 8 0 (-1) (-1) (-1) 0 0 []), (⟨a2, 2⟩, .mk 11 0 (-1) (-1) (-1) 0 10 fs_sAddPartitionsToTxnResponseTopicPartition)].flatMap fun p : FC × Fd => p.1.cells p.2) := by
  rcases hfz with ⟨h0, _⟩ | ⟨g, h0, h1⟩
  · cases h0
  · cases h0; exact h1
 have hl := FdsAt.lit [(⟨none, 0⟩, .mk 8 0 (-1) (-1) (-1) 0 0 []), (⟨a2, 2⟩, .mk 11 0 (-1) (-1) (-1) 0 10 fs_sAddPartitionsToTxnResponseTopicPartition)] hz (Nat.le_of_ble_eq_true rfl) (by
  intro p hp
  simp only [List.mem_cons, List.not_mem_nil, or_false] at hp
  rcases hp with rfl | rfl
  · exact FdAt.of ⟨show ((-1) : Int) ≤ 1000 by decide, show (0 : Int) ≠ 11 by decide⟩ (FdsAt.nil _)
  · exact FdAt.of ⟨show ((-1) : Int) ≤ 1000 by decide, show (10 : Int) ≠ 11 by decide⟩ (g2.mono hle2))
 exact rT rfl rfl (le_1.trans hle2) (fun _ _ h => h) ⟨rfl, _, rfl, hl⟩
theorem s_AddPartitionsToTxnResponse {H : Fz} {L : Own} :
  Fn Tryz.prog 27 [] H L (fun v H' L' => L = L' ∧ ∃ a : Option Addr, v = .agg #[.slice a 4 4, .int .i64 3] ∧ FdsAt H' a fs_AddPartitionsToTxnResponse) := by
 refine Fn.mk Tryz.call27 Tryz.func27 rfl Tryz.ntmps27 rfl ?_
 refine sr ?_
 refine al Tryz.zeroValue31 rfl rfl (fun b_1 => ?_)
 refine nl ?_
 refine sr ?_
 refine bd' S56 rfl rfl rfl ?_
 refine bd' S56 rfl rfl rfl ?_
 refine cl rfl rfl rfl s_sAddPartitionsToTxnResponseTransaction rfl (fun v H1 L1 le_2 hR => ?_)
 obtain ⟨rfl, a3, rfl, g3⟩ := hR
 refine bd' S56 rfl rfl rfl ?_
 refine cl rfl rfl rfl s_sAddPartitionsToTxnResponseTopic rfl (fun v H1 L1 le_3 hR => ?_)
 obtain ⟨rfl, a5, rfl, g5⟩ := hR
 refine bd' S56 rfl rfl rfl ?_
 refine bs' L29 rfl rfl rfl rfl (fun b_4 => ?_)
 refine bd' S31 rfl rfl rfl ?_
 refine sa Tryz.sizeOf31 rfl rfl rfl rfl rfl (.tail .head) ?_
 refine nl ?_
 refine frW (Row.whole (size := 8) (m := 4) rfl (by decide)) .head (fun H2 hle2 hfz => ?_)
 have hz : H2.at b_4 0 ([(⟨none, 0⟩, .mk 3 0 (-1) (-1) (-1) 0 0 []), (⟨none, 0⟩, .mk 2 4 (-1) (-1) (-1) 0 0 []), (⟨a3, 2⟩, .mk 11 4 (-1) (-1) (-1) 0 10 fs_sAddPartitionsToTxnResponseTransaction), (⟨a5, 2⟩, .mk 11 0 3 (-1) (-1) 0 10 fs_sAddPartitionsToTxnResponseTopic)].flatMap fun p : FC × Fd => p.1.cells p.2) := by
  rcases hfz with ⟨h0, _⟩ | ⟨g, h0, h1⟩
  · cases h0
  · cases h0; exact h1
 have hl := FdsAt.lit [(⟨none, 0⟩, .mk 3 0 (-1) (-1) (-1) 0 0 []), (⟨none, 0⟩, .mk 2 4 (-1) (-1) (-1) 0 0 []), (⟨a3, 2⟩, .mk 11 4 (-1) (-1) (-1) 0 10 fs_sAddPartitionsToTxnResponseTransaction), (⟨a5, 2⟩, .mk 11 0 3 (-1) (-1) 0 10 fs_sAddPartitionsToTxnResponseTopic)] hz (Nat.le_of_ble_eq_true rfl) (by
  intro p hp
  simp only [List.mem_cons, List.not_mem_nil, or_false] at hp
  rcases hp with rfl | rfl | rfl | rfl
  · exact FdAt.of ⟨show ((-1) : Int) ≤ 1000 by decide, show (0 : Int) ≠ 11 by decide⟩ (FdsAt.nil _)
  · exact FdAt.of ⟨show ((-1) : Int) ≤ 1000 by decide, show (0 : Int) ≠ 11 by decide⟩ (FdsAt.nil _)
  · exact FdAt.of ⟨show ((-1) : Int) ≤ 1000 by decide, show (10 : Int) ≠ 11 by decide⟩ (g3.mono (le_3.trans hle2))
  · exact FdAt.of ⟨show ((-1) : Int) ≤ 1000 by decide, show (10 : Int) ≠ 11 by decide⟩ (g5.mono hle2))
 exact rC rfl Tryz.isAgg31 Tryz.sizeOf31 rfl .head rfl (le_2.trans (le_3.trans hle2)) (fun _ _ h => h) ⟨rfl, _, rfl, hl⟩
end Go.Sx
