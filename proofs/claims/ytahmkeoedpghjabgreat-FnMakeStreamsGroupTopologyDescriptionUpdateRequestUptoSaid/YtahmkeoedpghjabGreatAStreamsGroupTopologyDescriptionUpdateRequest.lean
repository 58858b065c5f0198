import Derived.Test.YtahmkeoedpghjabGreatSxTab
import Derived.Test.YtahmkeoedpghjabGreatKB2
import Derived.KernelRfl
set_option linter.unusedVariables false
set_option linter.unusedSimpArgs false
set_option maxRecDepth 100000
set_option maxHeartbeats 20000000
namespace Go.Sx
open Go.Proofs
def fs_sTopologyDescriptionNode : List Fd := [.mk 8 0 (-1) (-1) (-1) 0 0 [], .mk 1 0 (-1) (-1) (-1) 0 0 [], .mk 11 0 (-1) (-1) (-1) 0 8 [], .mk 8 0 (-1) 0 (-1) 0 0 [], .mk 11 0 (-1) (-1) (-1) 0 8 [], .mk 11 0 (-1) (-1) (-1) 0 8 []]
theorem s_sTopologyDescriptionNode {H : Fz} {L : Own} :
    Fn Tryz.prog 128 [] H L (fun v H' L' => L = L' ∧ ∃ a : Option Addr, v = .slice a 6 6 ∧ FdsAt H' a fs_sTopologyDescriptionNode) := by
  refine Fn.mk Tryz.call128 Tryz.func128 rfl Tryz.ntmps128 rfl ?_
  refine sr ?_
  refine asg rfl rfl ?_
  refine nl ?_
  refine sr ?_
  refine bd' S50 rfl rfl rfl ?_
  refine bd' S50 rfl rfl rfl ?_
  refine bd' S50 rfl rfl rfl ?_
  refine bd' S50 rfl rfl rfl ?_
  refine bd' S50 rfl rfl rfl ?_
  refine bd' S50 rfl rfl rfl ?_
  refine bs' L29 rfl rfl rfl rfl (fun b_1 => ?_)
  refine asg rfl rfl ?_
  refine nl ?_
  refine frW (Row.whole (size := 8) (m := 6) rfl (by decide)) .head (fun H2 hle2 hfz => ?_)
  have hz : H2.at b_1 0 ([(⟨none, 0⟩, .mk 8 0 (-1) (-1) (-1) 0 0 []), (⟨none, 0⟩, .mk 1 0 (-1) (-1) (-1) 0 0 []), (⟨none, 0⟩, .mk 11 0 (-1) (-1) (-1) 0 8 []), (⟨none, 0⟩, .mk 8 0 (-1) 0 (-1) 0 0 []), (⟨none, 0⟩, .mk 11 0 (-1) (-1) (-1) 0 8 []), (⟨none, 0⟩, .mk 11 0 (-1) (-1) (-1) 0 8 [])].flatMap fun p : FC × Fd => p.1.cells p.2) := by
    rcases hfz with ⟨h0, _⟩ | ⟨g, h0, h1⟩
    · cases h0
    · cases h0; exact h1
  have hl := FdsAt.lit [(⟨none, 0⟩, .mk 8 0 (-1) (-1) (-1) 0 0 []), (⟨none, 0⟩, .mk 1 0 (-1) (-1) (-1) 0 0 []), (⟨none, 0⟩, .mk 11 0 (-1) (-1) (-1) 0 8 []), (⟨none, 0⟩, .mk 8 0 (-1) 0 (-1) 0 0 []), (⟨none, 0⟩, .mk 11 0 (-1) (-1) (-1) 0 8 []), (⟨none, 0⟩, .mk 11 0 (-1) (-1) (-1) 0 8 [])] hz (Nat.le_of_ble_eq_true rfl) (by
    intro p hp
    simp only [List.mem_cons, List.not_mem_nil, or_false] at hp
    rcases hp with rfl | rfl | rfl | rfl | rfl | rfl
    · exact FdAt.of ⟨show ((-1) : Int) ≤ 1000 by decide, show (0 : Int) ≠ 11 by decide⟩ (FdsAt.nil _)
    · exact FdAt.of ⟨show ((-1) : Int) ≤ 1000 by decide, show (0 : Int) ≠ 11 by decide⟩ (FdsAt.nil _)
    · exact FdAt.of ⟨show ((-1) : Int) ≤ 1000 by decide, show (8 : Int) ≠ 11 by decide⟩ (FdsAt.nil _)
    · exact FdAt.of ⟨show ((-1) : Int) ≤ 1000 by decide, show (0 : Int) ≠ 11 by decide⟩ (FdsAt.nil _)
    · exact FdAt.of ⟨show ((-1) : Int) ≤ 1000 by decide, show (8 : Int) ≠ 11 by decide⟩ (FdsAt.nil _)
    · exact FdAt.of ⟨show ((-1) : Int) ≤ 1000 by decide, show (8 : Int) ≠ 11 by decide⟩ (FdsAt.nil _))
  exact rT rfl rfl hle2 (fun _ _ h => h) ⟨rfl, _, rfl, hl⟩
def fs_sTopologyDescriptionSubtopology : List Fd := [.mk 8 0 (-1) (-1) (-1) 0 0 [], .mk 11 0 (-1) (-1) (-1) 0 10 fs_sTopologyDescriptionNode]
theorem s_sTopologyDescriptionSubtopology {H : Fz} {L : Own} :
    Fn Tryz.prog 88 [] H L (fun v H' L' => L = L' ∧ ∃ a : Option Addr, v = .slice a 2 2 ∧ FdsAt H' a fs_sTopologyDescriptionSubtopology) := by
  refine Fn.mk Tryz.call88 Tryz.func88 rfl Tryz.ntmps88 rfl ?_
  refine sr ?_
  refine asg rfl rfl ?_
  refine nl ?_
  refine sr ?_
  refine bd' S50 rfl rfl rfl ?_
  refine cl rfl rfl rfl s_sTopologyDescriptionNode rfl (fun v H1 L1 le_1 hR => ?_)
  obtain ⟨rfl, a2, rfl, g2⟩ := hR
  refine bd' S50 rfl rfl rfl ?_
  refine bs' L29 rfl rfl rfl rfl (fun b_2 => ?_)
  refine asg rfl rfl ?_
  refine nl ?_
  refine frW (Row.whole (size := 8) (m := 2) rfl (by decide)) .head (fun H2 hle2 hfz => ?_)
  have hz : H2.at b_2 0 ([(⟨none, 0⟩, .mk 8 0 (-1) (-1) (-1) 0 0 []), (⟨a2, 6⟩, .mk 11 0 (-1) (-1) (-1) 0 10 fs_sTopologyDescriptionNode)].flatMap fun p : FC × Fd => p.1.cells p.2) := by
    rcases hfz with ⟨h0, _⟩ | ⟨g, h0, h1⟩
    · cases h0
    · cases h0; exact h1
  have hl := FdsAt.lit [(⟨none, 0⟩, .mk 8 0 (-1) (-1) (-1) 0 0 []), (⟨a2, 6⟩, .mk 11 0 (-1) (-1) (-1) 0 10 fs_sTopologyDescriptionNode)] hz (Nat.le_of_ble_eq_true rfl) (by
    intro p hp
    simp only [List.mem_cons, List.not_mem_nil, or_false] at hp
    rcases hp with rfl | rfl
    · exact FdAt.of ⟨show ((-1) : Int) ≤ 1000 by decide, show (0 : Int) ≠ 11 by decide⟩ (FdsAt.nil _)
    · exact FdAt.of ⟨show ((-1) : Int) ≤ 1000 by decide, show (10 : Int) ≠ 11 by decide⟩ (g2.mono hle2))
  exact rT rfl rfl (le_1.trans hle2) (fun _ _ h => h) ⟨rfl, _, rfl, hl⟩
def fs_sTopologyDescriptionGlobalStore : List Fd := [.mk 10 0 (-1) (-1) (-1) 0 0 fs_sTopologyDescriptionNode, .mk 10 0 (-1) (-1) (-1) 0 0 fs_sTopologyDescriptionNode]
theorem s_sTopologyDescriptionGlobalStore {H : Fz} {L : Own} :
    Fn Tryz.prog 89 [] H L (fun v H' L' => L = L' ∧ ∃ a : Option Addr, v = .slice a 2 2 ∧ FdsAt H' a fs_sTopologyDescriptionGlobalStore) := by
  refine Fn.mk Tryz.call89 Tryz.func89 rfl Tryz.ntmps89 rfl ?_
  refine sr ?_
  refine asg rfl rfl ?_
  refine nl ?_
  refine sr ?_
  refine cl rfl rfl rfl s_sTopologyDescriptionNode rfl (fun v H1 L1 le_1 hR => ?_)
  obtain ⟨rfl, a1, rfl, g1⟩ := hR
  refine bd' S50 rfl rfl rfl ?_
  refine cl rfl rfl rfl s_sTopologyDescriptionNode rfl (fun v H1 L1 le_2 hR => ?_)
  obtain ⟨rfl, a3, rfl, g3⟩ := hR
  refine bd' S50 rfl rfl rfl ?_
  refine bs' L29 rfl rfl rfl rfl (fun b_3 => ?_)
  refine asg rfl rfl ?_
  refine nl ?_
  refine frW (Row.whole (size := 8) (m := 2) rfl (by decide)) .head (fun H2 hle2 hfz => ?_)
  have hz : H2.at b_3 0 ([(⟨a1, 6⟩, .mk 10 0 (-1) (-1) (-1) 0 0 fs_sTopologyDescriptionNode), (⟨a3, 6⟩, .mk 10 0 (-1) (-1) (-1) 0 0 fs_sTopologyDescriptionNode)].flatMap fun p : FC × Fd => p.1.cells p.2) := by
    rcases hfz with ⟨h0, _⟩ | ⟨g, h0, h1⟩
    · cases h0
    · cases h0; exact h1
  have hl := FdsAt.lit [(⟨a1, 6⟩, .mk 10 0 (-1) (-1) (-1) 0 0 fs_sTopologyDescriptionNode), (⟨a3, 6⟩, .mk 10 0 (-1) (-1) (-1) 0 0 fs_sTopologyDescriptionNode)] hz (Nat.le_of_ble_eq_true rfl) (by
    intro p hp
    simp only [List.mem_cons, List.not_mem_nil, or_false] at hp
    rcases hp with rfl | rfl
    · exact FdAt.of ⟨show ((-1) : Int) ≤ 1000 by decide, show (0 : Int) ≠ 11 by decide⟩ (g1.mono (le_2.trans hle2))
    · exact FdAt.of ⟨show ((-1) : Int) ≤ 1000 by decide, show (0 : Int) ≠ 11 by decide⟩ (g3.mono hle2))
  exact rT rfl rfl (le_1.trans (le_2.trans hle2)) (fun _ _ h => h) ⟨rfl, _, rfl, hl⟩
def fs_sTopologyDescription : List Fd := [.mk 11 0 (-1) (-1) (-1) 0 10 fs_sTopologyDescriptionSubtopology, .mk 11 0 (-1) (-1) (-1) 0 10 fs_sTopologyDescriptionGlobalStore]
theorem s_sTopologyDescription {H : Fz} {L : Own} :
    Fn Tryz.prog 40 [] H L (fun v H' L' => L = L' ∧ ∃ a : Option Addr, v = .slice a 2 2 ∧ FdsAt H' a fs_sTopologyDescription) := by
  refine Fn.mk Tryz.call40 Tryz.func40 rfl Tryz.ntmps40 rfl ?_
  refine sr ?_
  refine asg rfl rfl ?_
  refine nl ?_
  refine sr ?_
  refine cl rfl rfl rfl s_sTopologyDescriptionSubtopology rfl (fun v H1 L1 le_1 hR => ?_)
  obtain ⟨rfl, a1, rfl, g1⟩ := hR
  refine bd' S50 rfl rfl rfl ?_
  refine cl rfl rfl rfl s_sTopologyDescriptionGlobalStore rfl (fun v H1 L1 le_2 hR => ?_)
  obtain ⟨rfl, a3, rfl, g3⟩ := hR
  refine bd' S50 rfl rfl rfl ?_
  refine bs' L29 rfl rfl rfl rfl (fun b_3 => ?_)
  refine asg rfl rfl ?_
  refine nl ?_
  refine frW (Row.whole (size := 8) (m := 2) rfl (by decide)) .head (fun H2 hle2 hfz => ?_)
  have hz : H2.at b_3 0 ([(⟨a1, 2⟩, .mk 11 0 (-1) (-1) (-1) 0 10 fs_sTopologyDescriptionSubtopology), (⟨a3, 2⟩, .mk 11 0 (-1) (-1) (-1) 0 10 fs_sTopologyDescriptionGlobalStore)].flatMap fun p : FC × Fd => p.1.cells p.2) := by
    rcases hfz with ⟨h0, _⟩ | ⟨g, h0, h1⟩
    · cases h0
    · cases h0; exact h1
  have hl := FdsAt.lit [(⟨a1, 2⟩, .mk 11 0 (-1) (-1) (-1) 0 10 fs_sTopologyDescriptionSubtopology), (⟨a3, 2⟩, .mk 11 0 (-1) (-1) (-1) 0 10 fs_sTopologyDescriptionGlobalStore)] hz (Nat.le_of_ble_eq_true rfl) (by
    intro p hp
    simp only [List.mem_cons, List.not_mem_nil, or_false] at hp
    rcases hp with rfl | rfl
    · exact FdAt.of ⟨show ((-1) : Int) ≤ 1000 by decide, show (10 : Int) ≠ 11 by decide⟩ (g1.mono (le_2.trans hle2))
    · exact FdAt.of ⟨show ((-1) : Int) ≤ 1000 by decide, show (10 : Int) ≠ 11 by decide⟩ (g3.mono hle2))
  exact rT rfl rfl (le_1.trans (le_2.trans hle2)) (fun _ _ h => h) ⟨rfl, _, rfl, hl⟩
def fs_StreamsGroupTopologyDescriptionUpdateRequest : List Fd := [.mk 8 0 (-1) (-1) (-1) 0 0 [], .mk 8 0 (-1) (-1) (-1) 0 0 [], .mk 3 0 (-1) (-1) (-1) 0 0 [], .mk 10 0 (-1) (-1) (-1) 0 0 fs_sTopologyDescription]
theorem s_StreamsGroupTopologyDescriptionUpdateRequest {H : Fz} {L : Own} :
    Fn Tryz.prog 17 [] H L (fun v H' L' => L = L' ∧ ∃ a : Option Addr, v = .agg #[.slice a 4 4, .int .i64 0] ∧ FdsAt H' a fs_StreamsGroupTopologyDescriptionUpdateRequest) := by
  refine Fn.mk Tryz.call17 Tryz.func17 rfl Tryz.ntmps17 rfl ?_
  refine sr ?_
  refine al Tryz.zeroValue31 rfl rfl (fun b_1 => ?_)
  refine nl ?_
  refine sr ?_
  refine bd' S50 rfl rfl rfl ?_
  refine bd' S50 rfl rfl rfl ?_
  refine bd' S50 rfl rfl rfl ?_
  refine cl rfl rfl rfl s_sTopologyDescription rfl (fun v H1 L1 le_2 hR => ?_)
  obtain ⟨rfl, a4, rfl, g4⟩ := hR
  refine bd' S50 rfl rfl rfl ?_
  refine bs' L29 rfl rfl rfl rfl (fun b_3 => ?_)
  refine bd' S31 rfl rfl rfl ?_
  refine sa Tryz.sizeOf31 rfl rfl rfl rfl rfl (.tail .head) ?_
  refine nl ?_
  refine frW (Row.whole (size := 8) (m := 4) rfl (by decide)) .head (fun H2 hle2 hfz => ?_)
  have hz : H2.at b_3 0 ([(⟨none, 0⟩, .mk 8 0 (-1) (-1) (-1) 0 0 []), (⟨none, 0⟩, .mk 8 0 (-1) (-1) (-1) 0 0 []), (⟨none, 0⟩, .mk 3 0 (-1) (-1) (-1) 0 0 []), (⟨a4, 2⟩, .mk 10 0 (-1) (-1) (-1) 0 0 fs_sTopologyDescription)].flatMap fun p : FC × Fd => p.1.cells p.2) := by
    rcases hfz with ⟨h0, _⟩ | ⟨g, h0, h1⟩
    · cases h0
    · cases h0; exact h1
  have hl := FdsAt.lit [(⟨none, 0⟩, .mk 8 0 (-1) (-1) (-1) 0 0 []), (⟨none, 0⟩, .mk 8 0 (-1) (-1) (-1) 0 0 []), (⟨none, 0⟩, .mk 3 0 (-1) (-1) (-1) 0 0 []), (⟨a4, 2⟩, .mk 10 0 (-1) (-1) (-1) 0 0 fs_sTopologyDescription)] hz (Nat.le_of_ble_eq_true rfl) (by
    intro p hp
    simp only [List.mem_cons, List.not_mem_nil, or_false] at hp
    rcases hp with rfl | rfl | rfl | rfl
    · exact FdAt.of ⟨show ((-1) : Int) ≤ 1000 by decide, show (0 : Int) ≠ 11 by decide⟩ (FdsAt.nil _)
    · exact FdAt.of ⟨show ((-1) : Int) ≤ 1000 by decide, show (0 : Int) ≠ 11 by decide⟩ (FdsAt.nil _)
    · exact FdAt.of ⟨show ((-1) : Int) ≤ 1000 by decide, show (0 : Int) ≠ 11 by decide⟩ (FdsAt.nil _)
    · exact FdAt.of ⟨show ((-1) : Int) ≤ 1000 by decide, show (0 : Int) ≠ 11 by decide⟩ (g4.mono hle2))
  exact rC rfl Tryz.isAgg31 Tryz.sizeOf31 rfl .head rfl (le_2.trans hle2) (fun _ _ h => h) ⟨rfl, _, rfl, hl⟩
end Go.Sx
