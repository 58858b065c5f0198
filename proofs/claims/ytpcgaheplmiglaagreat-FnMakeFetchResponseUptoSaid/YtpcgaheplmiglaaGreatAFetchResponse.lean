import Derived.Test.YtpcgaheplmiglaaGreatSxTab
import Derived.Test.YtpcgaheplmiglaaGreatKB2
import Derived.KernelRfl
set_option linter.unusedVariables false
set_option linter.unusedSimpArgs false
set_option maxRecDepth 100000
set_option maxHeartbeats 20000000
namespace Go.Sx
open Go.Proofs
def fs_sFetchResponseTopicPartitionDivergingEpoch : List Fd := [.mk 3 0 (-1) (-1) (-1) (-1) 0 [], .mk 4 0 (-1) (-1) (-1) (-1) 0 []]
theorem s_sFetchResponseTopicPartitionDivergingEpoch {H : Fz} {L : Own} :
  Fn Tryz.prog 66 [] H L (fun v H' L' => L = L' ∧ ∃ a : Option Addr, v = .slice a 2 2 ∧ FdsAt H' a fs_sFetchResponseTopicPartitionDivergingEpoch) := by
 refine Fn.mk Tryz.call66 Tryz.func66 rfl Tryz.ntmps66 rfl ?_
 refine sr ?_
 refine asg rfl rfl ?_
 refine nl ?_
 refine sr ?_
 refine bd' S50 rfl rfl rfl ?_
 refine bd' S50 rfl rfl rfl ?_
 refine bs' L29 rfl rfl rfl rfl (fun b_1 => ?_)
 refine asg rfl rfl ?_
 refine nl ?_
 refine frW (Row.whole (size := 8) (m := 2) rfl (by decide)) .head (fun H2 hle2 hfz => ?_)
 have hz : H2.at b_1 0 ([(⟨none, 0⟩, .mk 3 0 (-1) (-1) (-1) (-1) 0 []), (⟨none, 0⟩, .mk 4 0 (-1) (-1) (-1) (-1) 0 [])].flatMap fun p : FC × Fd => p.1.cells p.2) := by
  rcases hfz with ⟨h0, _⟩ | ⟨g, h0, h1⟩
  · cases h0
  · cases h0; exact h1
 have hl := FdsAt.lit [(⟨none, 0⟩, .mk 3 0 (-1) (-1) (-1) (-1) 0 []), (⟨none, 0⟩, .mk 4 0 (-1) (-1) (-1) (-1) 0 [])] hz (Nat.le_of_ble_eq_true rfl) (by
  intro p hp
  simp only [List.mem_cons, List.not_mem_nil, or_false] at hp
  rcases hp with rfl | rfl
  · exact FdAt.of ⟨show ((-1) : Int) ≤ 1000 by decide, show (0 : Int) ≠ 11 by decide⟩ (FdsAt.nil _)
  · exact FdAt.of ⟨show ((-1) : Int) ≤ 1000 by decide, show (0 : Int) ≠ 11 by decide⟩ (FdsAt.nil _))
 exact rT rfl rfl hle2 (fun _ _ h => h) ⟨rfl, _, rfl, hl⟩
def fs_sFetchResponseTopicPartitionCurrentLeader : List Fd := [.mk 3 0 (-1) (-1) (-1) (-1) 0 [], .mk 3 0 (-1) (-1) (-1) (-1) 0 []]
theorem s_sFetchResponseTopicPartitionCurrentLeader {H : Fz} {L : Own} :
  Fn Tryz.prog 67 [] H L (fun v H' L' => L = L' ∧ ∃ a : Option Addr, v = .slice a 2 2 ∧ FdsAt H' a fs_sFetchResponseTopicPartitionCurrentLeader) := by
 refine Fn.mk Tryz.call67 Tryz.func67 rfl Tryz.ntmps67 rfl ?_
 refine sr ?_
 refine asg rfl rfl ?_
 refine nl ?_
 refine sr ?_
 refine bd' S50 rfl rfl rfl ?_
 refine bd' S50 rfl rfl rfl ?_
 refine bs' L29 rfl rfl rfl rfl (fun b_1 => ?_)
 refine asg rfl rfl ?_
 refine nl ?_
 refine frW (Row.whole (size := 8) (m := 2) rfl (by decide)) .head (fun H2 hle2 hfz => ?_)
 have hz : H2.at b_1 0 ([(⟨none, 0⟩, .mk 3 0 (-1) (-1) (-1) (-1) 0 []), (⟨none, 0⟩, .mk 3 0 (-1) (-1) (-1) (-1) 0 [])].flatMap fun p : FC × Fd => p.1.cells p.2) := by
  rcases hfz with ⟨h0, _⟩ | ⟨g, h0, h1⟩
  · cases h0
  · cases h0; exact h1
 have hl := FdsAt.lit [(⟨none, 0⟩, .mk 3 0 (-1) (-1) (-1) (-1) 0 []), (⟨none, 0⟩, .mk 3 0 (-1) (-1) (-1) (-1) 0 [])] hz (Nat.le_of_ble_eq_true rfl) (by
  intro p hp
  simp only [List.mem_cons, List.not_mem_nil, or_false] at hp
  rcases hp with rfl | rfl
  · exact FdAt.of ⟨show ((-1) : Int) ≤ 1000 by decide, show (0 : Int) ≠ 11 by decide⟩ (FdsAt.nil _)
  · exact FdAt.of ⟨show ((-1) : Int) ≤ 1000 by decide, show (0 : Int) ≠ 11 by decide⟩ (FdsAt.nil _))
 exact rT rfl rfl hle2 (fun _ _ h => h) ⟨rfl, _, rfl, hl⟩
def fs_sFetchResponseTopicPartitionSnapshotID : List Fd := [.mk 4 0 (-1) (-1) (-1) (-1) 0 [], .mk 3 0 (-1) (-1) (-1) (-1) 0 []]
theorem s_sFetchResponseTopicPartitionSnapshotID {H : Fz} {L : Own} :
  Fn Tryz.prog 68 [] H L (fun v H' L' => L = L' ∧ ∃ a : Option Addr, v = .slice a 2 2 ∧ FdsAt H' a fs_sFetchResponseTopicPartitionSnapshotID) := by
 refine Fn.mk Tryz.call68 Tryz.func68 rfl Tryz.ntmps68 rfl ?_
 refine sr ?_
 refine asg rfl rfl ?_
 refine nl ?_
 refine sr ?_
 refine bd' S50 rfl rfl rfl ?_
 refine bd' S50 rfl rfl rfl ?_
 refine bs' L29 rfl rfl rfl rfl (fun b_1 => ?_)
 refine asg rfl rfl ?_
 refine nl ?_
 refine frW (Row.whole (size := 8) (m := 2) rfl (by decide)) .head (fun H2 hle2 hfz => ?_)
 have hz : H2.at b_1 0 ([(⟨none, 0⟩, .mk 4 0 (-1) (-1) (-1) (-1) 0 []), (⟨none, 0⟩, .mk 3 0 (-1) (-1) (-1) (-1) 0 [])].flatMap fun p : FC × Fd => p.1.cells p.2) := by
  rcases hfz with ⟨h0, _⟩ | ⟨g, h0, h1⟩
  · cases h0
  · cases h0; exact h1
 have hl := FdsAt.lit [(⟨none, 0⟩, .mk 4 0 (-1) (-1) (-1) (-1) 0 []), (⟨none, 0⟩, .mk 3 0 (-1) (-1) (-1) (-1) 0 [])] hz (Nat.le_of_ble_eq_true rfl) (by
  intro p hp
  simp only [List.mem_cons, List.not_mem_nil, or_false] at hp
  rcases hp with rfl | rfl
  · exact FdAt.of ⟨show ((-1) : Int) ≤ 1000 by decide, show (0 : Int) ≠ 11 by decide⟩ (FdsAt.nil _)
  · exact FdAt.of ⟨show ((-1) : Int) ≤ 1000 by decide, show (0 : Int) ≠ 11 by decide⟩ (FdsAt.nil _))
 exact rT rfl rfl hle2 (fun _ _ h => h) ⟨rfl, _, rfl, hl⟩
def fs_sFetchResponseTopicPartitionAbortedTransaction : List Fd := [.mk 4 0 (-1) (-1) (-1) 0 0 [], .mk 4 0 (-1) (-1) (-1) 0 0 []]
theorem s_sFetchResponseTopicPartitionAbortedTransaction {H : Fz} {L : Own} :
  Fn Tryz.prog 69 [] H L (fun v H' L' => L = L' ∧ ∃ a : Option Addr, v = .slice a 2 2 ∧ FdsAt H' a fs_sFetchResponseTopicPartitionAbortedTransaction) := by
 refine Fn.mk Tryz.call69 Tryz.func69 rfl Tryz.ntmps69 rfl ?_
 refine sr ?_
 refine asg rfl rfl ?_
 refine nl ?_
 refine sr ?_
 refine bd' S50 rfl rfl rfl ?_
 refine bd' S50 rfl rfl rfl ?_
 refine bs' L29 rfl rfl rfl rfl (fun b_1 => ?_)
 refine asg rfl rfl ?_
 refine nl ?_
 refine frW (Row.whole (size := 8) (m := 2) rfl (by decide)) .head (fun H2 hle2 hfz => ?_)
 have hz : H2.at b_1 0 ([(⟨none, 0⟩, .mk 4 0 (-1) (-1) (-1) 0 0 []), (⟨none, 0⟩, .mk 4 0 (-1) (-1) (-1) 0 0 [])].flatMap fun p : FC × Fd => p.1.cells p.2) := by
  rcases hfz with ⟨h0, _⟩ | ⟨g, h0, h1⟩
  · cases h0
  · cases h0; exact h1
 have hl := FdsAt.lit [(⟨none, 0⟩, .mk 4 0 (-1) (-1) (-1) 0 0 []), (⟨none, 0⟩, .mk 4 0 (-1) (-1) (-1) 0 0 [])] hz (Nat.le_of_ble_eq_true rfl) (by
  intro p hp
  simp only [List.mem_cons, List.not_mem_nil, or_false] at hp
  rcases hp with rfl | rfl
  · exact FdAt.of ⟨show ((-1) : Int) ≤ 1000 by decide, show (0 : Int) ≠ 11 by decide⟩ (FdsAt.nil _)
  · exact FdAt.of ⟨show ((-1) : Int) ≤ 1000 by decide, show (0 : Int) ≠ 11 by decide⟩ (FdsAt.nil _))
 exact rT rfl rfl hle2 (fun _ _ h => h) ⟨rfl, _, rfl, hl⟩
def fs_sFetchResponseTopicPartition : List Fd := [.mk 3 0 (-1) (-1) (-1) 0 0 [], .mk 2 0 (-1) (-1) (-1) 0 0 [], .mk 4 0 (-1) (-1) (-1) 0 0 [], .mk 4 4 (-1) (-1) (-1) (-1) 0 [], .mk 4 5 (-1) (-1) (-1) (-1) 0 [], .mk 10 0 (-1) (-1) 0 0 0 fs_sFetchResponseTopicPartitionDivergingEpoch, .mk 10 0 (-1) (-1) 1 0 0 fs_sFetchResponseTopicPartitionCurrentLeader, .mk 10 0 (-1) (-1) 2 0 0 fs_sFetchResponseTopicPartitionSnapshotID, .mk 11 4 (-1) 4 (-1) 0 10 fs_sFetchResponseTopicPartitionAbortedTransaction, .mk 3 11 (-1) (-1) (-1) (-1) 0 [], .mk 9 0 (-1) 0 (-1) 0 0 []]
theorem s_sFetchResponseTopicPartition {H : Fz} {L : Own} :
  Fn Tryz.prog 28 [] H L (fun v H' L' => L = L' ∧ ∃ a : Option Addr, v = .slice a 11 11 ∧ FdsAt H' a fs_sFetchResponseTopicPartition) := by
 refine Fn.mk Tryz.call28 Tryz.func28 rfl Tryz.ntmps28 rfl ?_
 refine sr ?_
 refine asg rfl rfl ?_
 refine nl ?_
 refine sr ?_
 refine bd' S50 rfl rfl rfl ?_
 refine bd' S50 rfl rfl rfl ?_
 refine bd' S50 rfl rfl rfl ?_
 refine bd' S50 rfl rfl rfl ?_
 refine bd' S50 rfl rfl rfl ?_
 refine cl rfl rfl rfl s_sFetchResponseTopicPartitionDivergingEpoch rfl (fun v H1 L1 le_1 hR => ?_)
 obtain ⟨rfl, a6, rfl, g6⟩ := hR
 refine bd' S50 rfl rfl rfl ?_
 refine cl rfl rfl rfl s_sFetchResponseTopicPartitionCurrentLeader rfl (fun v H1 L1 le_2 hR => ?_)
 obtain ⟨rfl, a8, rfl, g8⟩ := hR
 refine bd' S50 rfl rfl rfl ?_
 refine cl rfl rfl rfl s_sFetchResponseTopicPartitionSnapshotID rfl (fun v H1 L1 le_3 hR => ?_)
 obtain ⟨rfl, a10, rfl, g10⟩ := hR
 refine bd' S50 rfl rfl rfl ?_
 refine cl rfl rfl rfl s_sFetchResponseTopicPartitionAbortedTransaction rfl (fun v H1 L1 le_4 hR => ?_)
 obtain ⟨rfl, a12, rfl, g12⟩ := hR
 refine bd' S50 rfl rfl rfl ?_
 refine bd' S50 rfl rfl rfl ?_
 refine bd' S50 rfl rfl rfl ?_
 refine bs' L29 rfl rfl rfl rfl (fun b_5 => ?_)
 refine asg rfl rfl ?_
 refine nl ?_
 refine frW (Row.whole (size := 8) (m := 11) rfl (by decide)) .head (fun H2 hle2 hfz => ?_)
 have hz : H2.at b_5 0 ([(⟨none, 0⟩, .mk 3 0 (-1) (-1) (-1) 0 0 []), (⟨none, 0⟩, .mk 2 0 (-1) (-1) (-1) 0 0 []), (⟨none, 0⟩, .mk 4 0 (-1) (-1) (-1) 0 0 []), (⟨none, 0⟩, .mk 4 4 (-1) (-1) (-1) (-1) 0 []), (⟨none, 0⟩, .mk 4 5 (-1) (-1) (-1) (-1) 0 []), (⟨a6, 2⟩, .mk 10 0 (-1) (-1) 0 0 0 fs_sFetchResponseTopicPartitionDivergingEpoch), (⟨a8, 2⟩, .mk 10 0 (-1) (-1) 1 0 0 fs_sFetchResponseTopicPartitionCurrentLeader), (⟨a10, 2⟩, .mk 10 0 (-1) (-1) 2 0 0 fs_sFetchResponseTopicPartitionSnapshotID), (⟨a12, 2⟩, .mk 11 4 (-1) 4 (-1) 0 10 fs_sFetchResponseTopicPartitionAbortedTransaction), (⟨none, 0⟩, .mk 3 11 (-1) (-1) (-1) (-1) 0 []), (⟨none, 0⟩, .mk 9 0 (-1) 0 (-1) 0 0 [])].flatMap fun p : FC × Fd => p.1.cells p.2) := by
  rcases hfz with ⟨h0, _⟩ | ⟨g, h0, h1⟩
  · cases h0
  · cases h0; exact h1
 have hl := FdsAt.lit [(⟨none, 0⟩, .mk 3 0 (-1) (-1) (-1) 0 0 []), (⟨none, 0⟩, .mk 2 0 (-1) (-1) (-1) 0 0 []), (⟨none, 0⟩, .mk 4 0 (-1) (-1) (-1) 0 0 []), (⟨none, 0⟩, .mk 4 4 (-1) (-1) (-1) (-1) 0 []), (⟨none, 0⟩, .mk 4 5 (-1) (-1) (-1) (-1) 0 []), (⟨a6, 2⟩, .mk 10 0 (-1) (-1) 0 0 0 fs_sFetchResponseTopicPartitionDivergingEpoch), (⟨a8, 2⟩, .mk 10 0 (-1) (-1) 1 0 0 fs_sFetchResponseTopicPartitionCurrentLeader), (⟨a10, 2⟩, .mk 10 0 (-1) (-1) 2 0 0 fs_sFetchResponseTopicPartitionSnapshotID), (⟨a12, 2⟩, .mk 11 4 (-1) 4 (-1) 0 10 fs_sFetchResponseTopicPartitionAbortedTransaction), (⟨none, 0⟩, .mk 3 11 (-1) (-1) (-1) (-1) 0 []), (⟨none, 0⟩, .mk 9 0 (-1) 0 (-1) 0 0 [])] hz (Nat.le_of_ble_eq_true rfl) (by
  intro p hp
  simp only [List.mem_cons, List.not_mem_nil, or_false] at hp
  rcases hp with rfl | rfl | rfl | rfl | rfl | rfl | rfl | rfl | rfl | rfl | rfl
  · exact FdAt.of ⟨show ((-1) : Int) ≤ 1000 by decide, show (0 : Int) ≠ 11 by decide⟩ (FdsAt.nil _)
  · exact FdAt.of ⟨show ((-1) : Int) ≤ 1000 by decide, show (0 : Int) ≠ 11 by decide⟩ (FdsAt.nil _)
  · exact FdAt.of ⟨show ((-1) : Int) ≤ 1000 by decide, show (0 : Int) ≠ 11 by decide⟩ (FdsAt.nil _)
  · exact FdAt.of ⟨show ((-1) : Int) ≤ 1000 by decide, show (0 : Int) ≠ 11 by decide⟩ (FdsAt.nil _)
  · exact FdAt.of ⟨show ((-1) : Int) ≤ 1000 by decide, show (0 : Int) ≠ 11 by decide⟩ (FdsAt.nil _)
  · exact FdAt.of ⟨show (0 : Int) ≤ 1000 by decide, show (0 : Int) ≠ 11 by decide⟩ (g6.mono (le_2.trans (le_3.trans (le_4.trans hle2))))
  · exact FdAt.of ⟨show (1 : Int) ≤ 1000 by decide, show (0 : Int) ≠ 11 by decide⟩ (g8.mono (le_3.trans (le_4.trans hle2)))
  · exact FdAt.of ⟨show (2 : Int) ≤ 1000 by decide, show (0 : Int) ≠ 11 by decide⟩ (g10.mono (le_4.trans hle2))
  · exact FdAt.of ⟨show ((-1) : Int) ≤ 1000 by decide, show (10 : Int) ≠ 11 by decide⟩ (g12.mono hle2)
  · exact FdAt.of ⟨show ((-1) : Int) ≤ 1000 by decide, show (0 : Int) ≠ 11 by decide⟩ (FdsAt.nil _)
  · exact FdAt.of ⟨show ((-1) : Int) ≤ 1000 by decide, show (0 : Int) ≠ 11 by decide⟩ (FdsAt.nil _))
 exact rT rfl rfl (le_1.trans (le_2.trans (le_3.trans (le_4.trans hle2)))) (fun _ _ h => h) ⟨rfl, _, rfl, hl⟩
def fs_sFetchResponseTopic : List Fd := [.mk 8 0 12 (-1) (-1) 0 0 [], .mk 7 13 (-1) (-1) (-1) 0 0 [], .mk 11 0 (-1) (-1) (-1) 0 10 fs_sFetchResponseTopicPartition]
theorem s_sFetchResponseTopic {H : Fz} {L : Own} :
  Fn Tryz.prog 16 [] H L (fun v H' L' => L = L' ∧ ∃ a : Option Addr, v = .slice a 3 3 ∧ FdsAt H' a fs_sFetchResponseTopic) := by
 refine Fn.mk Tryz.call16 Tryz.func16 rfl Tryz.ntmps16 rfl ?_
 refine sr ?_
 refine asg rfl rfl ?_
 refine nl ?_
 refine sr ?_
 refine bd' S50 rfl rfl rfl ?_
 refine bd' S50 rfl rfl rfl ?_
 refine cl rfl rfl rfl s_sFetchResponseTopicPartition rfl (fun v H1 L1 le_1 hR => ?_)
 obtain ⟨rfl, a3, rfl, g3⟩ := hR
 refine bd' S50 rfl rfl rfl ?_
 refine bs' L29 rfl rfl rfl rfl (fun b_2 => ?_)
 refine asg rfl rfl ?_
 refine nl ?_
 refine frW (Row.whole (size := 8) (m := 3) rfl (by decide)) .head (fun H2 hle2 hfz => ?_)
 have hz : H2.at b_2 0 ([(⟨none, 0⟩, .mk 8 0 12 (-1) (-1) 0 0 []), (⟨none, 0⟩, .mk 7 13 (-1) (-1) (-1) 0 0 []), (⟨a3, 11⟩, .mk 11 0 (-1) (-1) (-1) 0 10 fs_sFetchResponseTopicPartition)].flatMap fun p : FC × Fd => p.1.cells p.2) := by
  rcases hfz with ⟨h0, _⟩ | ⟨g, h0, h1⟩
  · cases h0
  · cases h0; exact h1
 have hl := FdsAt.lit [(⟨none, 0⟩, .mk 8 0 12 (-1) (-1) 0 0 []), (⟨none, 0⟩, .mk 7 13 (-1) (-1) (-1) 0 0 []), (⟨a3, 11⟩, .mk 11 0 (-1) (-1) (-1) 0 10 fs_sFetchResponseTopicPartition)] hz (Nat.le_of_ble_eq_true rfl) (by
  intro p hp
  simp only [List.mem_cons, List.not_mem_nil, or_false] at hp
  rcases hp with rfl | rfl | rfl
  · exact FdAt.of ⟨show ((-1) : Int) ≤ 1000 by decide, show (0 : Int) ≠ 11 by decide⟩ (FdsAt.nil _)
  · exact FdAt.of ⟨show ((-1) : Int) ≤ 1000 by decide, show (0 : Int) ≠ 11 by decide⟩ (FdsAt.nil _)
  · exact FdAt.of ⟨show ((-1) : Int) ≤ 1000 by decide, show (10 : Int) ≠ 11 by decide⟩ (g3.mono hle2))
 exact rT rfl rfl (le_1.trans hle2) (fun _ _ h => h) ⟨rfl, _, rfl, hl⟩
def fs_sFetchResponseBroker : List Fd := [.mk 3 0 (-1) (-1) (-1) 0 0 [], .mk 8 0 (-1) (-1) (-1) 0 0 [], .mk 3 0 (-1) (-1) (-1) 0 0 [], .mk 8 0 (-1) 0 (-1) 0 0 []]
theorem s_sFetchResponseBroker {H : Fz} {L : Own} :
  Fn Tryz.prog 17 [] H L (fun v H' L' => L = L' ∧ ∃ a : Option Addr, v = .slice a 4 4 ∧ FdsAt H' a fs_sFetchResponseBroker) := by
 refine Fn.mk Tryz.call17 Tryz.func17 rfl Tryz.ntmps17 rfl ?_
 refine sr ?_
 refine asg rfl rfl ?_
 refine nl ?_
 refine sr ?_
 refine bd' S50 rfl rfl rfl ?_
 refine bd' S50 rfl rfl rfl ?_
 refine bd' S50 rfl rfl rfl ?_
 refine bd' S50 rfl rfl rfl ?_
 refine bs' L29 rfl rfl rfl rfl (fun b_1 => ?_)
 refine asg rfl rfl ?_
 refine nl ?_
 refine frW (Row.whole (size := 8) (m := 4) rfl (by decide)) .head (fun H2 hle2 hfz => ?_)
 have hz : H2.at b_1 0 ([(⟨none, 0⟩, .mk 3 0 (-1) (-1) (-1) 0 0 []), (⟨none, 0⟩, .mk 8 0 (-1) (-1) (-1) 0 0 []), (⟨none, 0⟩, .mk 3 0 (-1) (-1) (-1) 0 0 []), (⟨none, 0⟩, .mk 8 0 (-1) 0 (-1) 0 0 [])].flatMap fun p : FC × Fd => p.1.cells p.2) := by
  rcases hfz with ⟨h0, _⟩ | ⟨g, h0, h1⟩
  · cases h0
  · cases h0; exact h1
 have hl := FdsAt.lit [(⟨none, 0⟩, .mk 3 0 (-1) (-1) (-1) 0 0 []), (⟨none, 0⟩, .mk 8 0 (-1) (-1) (-1) 0 0 []), (⟨none, 0⟩, .mk 3 0 (-1) (-1) (-1) 0 0 []), (⟨none, 0⟩, .mk 8 0 (-1) 0 (-1) 0 0 [])] hz (Nat.le_of_ble_eq_true rfl) (by
  intro p hp
  simp only [List.mem_cons, List.not_mem_nil, or_false] at hp
  rcases hp with rfl | rfl | rfl | rfl
  · exact FdAt.of ⟨show ((-1) : Int) ≤ 1000 by decide, show (0 : Int) ≠ 11 by decide⟩ (FdsAt.nil _)
  · exact FdAt.of ⟨show ((-1) : Int) ≤ 1000 by decide, show (0 : Int) ≠ 11 by decide⟩ (FdsAt.nil _)
  · exact FdAt.of ⟨show ((-1) : Int) ≤ 1000 by decide, show (0 : Int) ≠ 11 by decide⟩ (FdsAt.nil _)
  · exact FdAt.of ⟨show ((-1) : Int) ≤ 1000 by decide, show (0 : Int) ≠ 11 by decide⟩ (FdsAt.nil _))
 exact rT rfl rfl hle2 (fun _ _ h => h) ⟨rfl, _, rfl, hl⟩
def fs_FetchResponse : List Fd := [.mk 3 1 (-1) (-1) (-1) 0 0 [], .mk 2 7 (-1) (-1) (-1) 0 0 [], .mk 3 7 (-1) (-1) (-1) 0 0 [], .mk 11 0 (-1) (-1) (-1) 0 10 fs_sFetchResponseTopic, .mk 11 0 (-1) (-1) 0 0 10 fs_sFetchResponseBroker]
theorem s_FetchResponse {H : Fz} {L : Own} :
  Fn Tryz.prog 6 [] H L (fun v H' L' => L = L' ∧ ∃ a : Option Addr, v = .agg #[.slice a 5 5, .int .i64 12] ∧ FdsAt H' a fs_FetchResponse) := by
 refine Fn.mk Tryz.call6 Tryz.func6 rfl Tryz.ntmps6 rfl ?_
 refine sr ?_
 refine al Tryz.zeroValue31 rfl rfl (fun b_1 => ?_)
 refine nl ?_
 refine sr ?_
 refine bd' S50 rfl rfl rfl ?_
 refine bd' S50 rfl rfl rfl ?_
 refine bd' S50 rfl rfl rfl ?_
 refine cl rfl rfl rfl s_sFetchResponseTopic rfl (fun v H1 L1 le_2 hR => ?_)
 obtain ⟨rfl, a4, rfl, g4⟩ := hR
 refine bd' S50 rfl rfl rfl ?_
 refine cl rfl rfl rfl s_sFetchResponseBroker rfl (fun v H1 L1 le_3 hR => ?_)
 obtain ⟨rfl, a6, rfl, g6⟩ := hR
 refine bd' S50 rfl rfl rfl ?_
 refine bs' L29 rfl rfl rfl rfl (fun b_4 => ?_)
 refine bd' S31 rfl rfl rfl ?_
 refine sa Tryz.sizeOf31 rfl rfl rfl rfl rfl (.tail .head) ?_
 refine nl ?_
 refine frW (Row.whole (size := 8) (m := 5) rfl (by decide)) .head (fun H2 hle2 hfz => ?_)
 have hz : H2.at b_4 0 ([(⟨none, 0⟩, .mk 3 1 (-1) (-1) (-1) 0 0 []), (⟨none, 0⟩, .mk 2 7 (-1) (-1) (-1) 0 0 []), (⟨none, 0⟩, .mk 3 7 (-1) (-1) (-1) 0 0 []), (⟨a4, 3⟩, .mk 11 0 (-1) (-1) (-1) 0 10 fs_sFetchResponseTopic), (⟨a6, 4⟩, .mk 11 0 (-1) (-1) 0 0 10 fs_sFetchResponseBroker)].flatMap fun p : FC × Fd => p.1.cells p.2) := by
  rcases hfz with ⟨h0, _⟩ | ⟨g, h0, h1⟩
  · cases h0
  · cases h0; exact h1
 have hl := FdsAt.lit [(⟨none, 0⟩, .mk 3 1 (-1) (-1) (-1) 0 0 []), (⟨none, 0⟩, .mk 2 7 (-1) (-1) (-1) 0 0 []), (⟨none, 0⟩, .mk 3 7 (-1) (-1) (-1) 0 0 []), (⟨a4, 3⟩, .mk 11 0 (-1) (-1) (-1) 0 10 fs_sFetchResponseTopic), (⟨a6, 4⟩, .mk 11 0 (-1) (-1) 0 0 10 fs_sFetchResponseBroker)] hz (Nat.le_of_ble_eq_true rfl) (by
  intro p hp
  simp only [List.mem_cons, List.not_mem_nil, or_false] at hp
  rcases hp with rfl | rfl | rfl | rfl | rfl
  · exact FdAt.of ⟨show ((-1) : Int) ≤ 1000 by decide, show (0 : Int) ≠ 11 by decide⟩ (FdsAt.nil _)
  · exact FdAt.of ⟨show ((-1) : Int) ≤ 1000 by decide, show (0 : Int) ≠ 11 by decide⟩ (FdsAt.nil _)
  · exact FdAt.of ⟨show ((-1) : Int) ≤ 1000 by decide, show (0 : Int) ≠ 11 by decide⟩ (FdsAt.nil _)
  · exact FdAt.of ⟨show ((-1) : Int) ≤ 1000 by decide, show (10 : Int) ≠ 11 by decide⟩ (g4.mono (le_3.trans hle2))
  · exact FdAt.of ⟨show (0 : Int) ≤ 1000 by decide, show (10 : Int) ≠ 11 by decide⟩ (g6.mono hle2))
 exact rC rfl Tryz.isAgg31 Tryz.sizeOf31 rfl .head rfl (le_2.trans (le_3.trans hle2)) (fun _ _ h => h) ⟨rfl, _, rfl, hl⟩
end Go.Sx
