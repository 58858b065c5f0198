import Derived.Test.YtjpidbdhoiagpaaGreatDoorS3
import Derived.Test.YtjpidbdhoiagpaaGreatDoorAWriteTxnMarkersRequest
import Derived.KernelRfl
set_option linter.unusedVariables false
set_option linter.unusedSimpArgs false
set_option maxRecDepth 100000
set_option maxHeartbeats 20000000
namespace Go.Sx
open Go.Proofs
theorem s_sWriteTxnMarkersRequestMarkerTopic {H : Fz} {L : Own} :
  Fn Tryz.prog 75 [] H L (fun v H' L' => L = L' ∧ ∃ a : Option Addr, v = .slice a 2 2 ∧ FdsAt H' a fs_sWriteTxnMarkersRequestMarkerTopic) := by
 refine Fn.mk Tryz.call75 Tryz.func75 rfl Tryz.ntmps75 rfl ?_
 refine sr ?_
 refine asg rfl rfl ?_
 refine nl ?_
 refine sr ?_
 refine bd' S51 rfl rfl rfl ?_
 refine bd' S51 rfl rfl rfl ?_
 refine bs' L32 rfl rfl rfl rfl (fun b_1 => ?_)
 refine asg rfl rfl ?_
 refine nl ?_
 refine frW (Row.whole (size := 8) (m := 2) rfl (by decide)) .head (fun H2 hle2 hfz => ?_)
 have hz : H2.at b_1 0 ([(⟨none, 0⟩, .mk 8 0 (-1) (-1) (-1) 0 0 []), (⟨none, 0⟩, .mk 11 0 (-1) (-1) (-1) 0 3 [])].flatMap fun p : FC × Fd => p.1.cells p.2) := by
  rcases hfz with ⟨h0, _⟩ | ⟨g, h0, h1⟩
  · cases h0
  · cases h0; exact h1
 have hl := FdsAt.lit [(⟨none, 0⟩, .mk 8 0 (-1) (-1) (-1) 0 0 []), (⟨none, 0⟩, .mk 11 0 (-1) (-1) (-1) 0 3 [])] hz (Nat.le_of_ble_eq_true rfl) (by
  intro p hp
  simp only [List.mem_cons, List.not_mem_nil, or_false] at hp
  rcases hp with rfl | rfl
  · exact FdAt.of ⟨show ((-1) : Int) ≤ 1000 by decide, show (0 : Int) ≠ 11 by decide⟩ (FdsAt.nil _)
  · exact FdAt.of ⟨show ((-1) : Int) ≤ 1000 by decide, show (3 : Int) ≠ 11 by decide⟩ (FdsAt.nil _))
 exact rT rfl rfl hle2 (fun _ _ h => h) ⟨rfl, _, rfl, hl⟩
theorem s_sWriteTxnMarkersRequestMarker {H : Fz} {L : Own} :
  Fn Tryz.prog 42 [] H L (fun v H' L' => L = L' ∧ ∃ a : Option Addr, v = .slice a 6 6 ∧ FdsAt H' a fs_sWriteTxnMarkersRequestMarker) := by
 refine Fn.mk Tryz.call42 Tryz.func42 rfl Tryz.ntmps42 rfl ?_
 refine sr ?_
 refine asg rfl rfl ?_
 refine nl ?_
 refine sr ?_
 refine bd' S51 rfl rfl rfl ?_
 refine bd' S51 rfl rfl rfl ?_
 refine bd' S51 rfl rfl rfl ?_
 refine cl rfl rfl rfl s_sWriteTxnMarkersRequestMarkerTopic rfl (fun v H1 L1 le_1 hR => ?_)
 obtain ⟨rfl, a4, rfl, g4⟩ := hR
 refine bd' S51 rfl rfl rfl ?_
 refine bd' S51 rfl rfl rfl ?_
 refine bd' S51 rfl rfl rfl ?_
 refine bs' L32 rfl rfl rfl rfl (fun b_2 => ?_)
 refine asg rfl rfl ?_
 refine nl ?_
 refine frW (Row.whole (size := 8) (m := 6) rfl (by decide)) .head (fun H2 hle2 hfz => ?_)
 have hz : H2.at b_2 0 ([(⟨none, 0⟩, .mk 4 0 (-1) (-1) (-1) 0 0 []), (⟨none, 0⟩, .mk 2 0 (-1) (-1) (-1) 0 0 []), (⟨none, 0⟩, .mk 0 0 (-1) (-1) (-1) 0 0 []), (⟨a4, 2⟩, .mk 11 0 (-1) (-1) (-1) 0 10 fs_sWriteTxnMarkersRequestMarkerTopic), (⟨none, 0⟩, .mk 3 0 (-1) (-1) (-1) 0 0 []), (⟨none, 0⟩, .mk 1 2 (-1) (-1) (-1) 0 0 [])].flatMap fun p : FC × Fd => p.1.cells p.2) := by
  rcases hfz with ⟨h0, _⟩ | ⟨g, h0, h1⟩
  · cases h0
  · cases h0; exact h1
 have hl := FdsAt.lit [(⟨none, 0⟩, .mk 4 0 (-1) (-1) (-1) 0 0 []), (⟨none, 0⟩, .mk 2 0 (-1) (-1) (-1) 0 0 []), (⟨none, 0⟩, .mk 0 0 (-1) (-1) (-1) 0 0 []), (⟨a4, 2⟩, .mk 11 0 (-1) (-1) (-1) 0 10 fs_sWriteTxnMarkersRequestMarkerTopic), (⟨none, 0⟩, .mk 3 0 (-1) (-1) (-1) 0 0 []), (⟨none, 0⟩, .mk 1 2 (-1) (-1) (-1) 0 0 [])] hz (Nat.le_of_ble_eq_true rfl) (by
  intro p hp
  simp only [List.mem_cons, List.not_mem_nil, or_false] at hp
  rcases hp with rfl | rfl | rfl | rfl | rfl | rfl
  · exact FdAt.of ⟨show ((-1) : Int) ≤ 1000 by decide, show (0 : Int) ≠ 11 by decide⟩ (FdsAt.nil _)
  · exact FdAt.of ⟨show ((-1) : Int) ≤ 1000 by decide, show (0 : Int) ≠ 11 by decide⟩ (FdsAt.nil _)
  · exact FdAt.of ⟨show ((-1) : Int) ≤ 1000 by decide, show (0 : Int) ≠ 11 by decide⟩ (FdsAt.nil _)
  · exact FdAt.of ⟨show ((-1) : Int) ≤ 1000 by decide, show (10 : Int) ≠ 11 by decide⟩ (g4.mono hle2)
  · exact FdAt.of ⟨show ((-1) : Int) ≤ 1000 by decide, show (0 : Int) ≠ 11 by decide⟩ (FdsAt.nil _)
  · exact FdAt.of ⟨show ((-1) : Int) ≤ 1000 by decide, show (0 : Int) ≠ 11 by decide⟩ (FdsAt.nil _))
 exact rT rfl rfl (le_1.trans hle2) (fun _ _ h => h) ⟨rfl, _, rfl, hl⟩
theorem s_WriteTxnMarkersRequest {H : Fz} {L : Own} :
  Fn Tryz.prog 19 [] H L (fun v H' L' => L = L' ∧ ∃ a : Option Addr, v = .agg #[.slice a 1 1, .int .i64 1] ∧ FdsAt H' a fs_WriteTxnMarkersRequest) := by
 refine Fn.mk Tryz.call19 Tryz.func19 rfl Tryz.ntmps19 rfl ?_
 refine sr ?_
 refine al Tryz.zeroValue34 rfl rfl (fun b_1 => ?_)
 refine nl ?_
 refine sr ?_
 refine cl rfl rfl rfl s_sWriteTxnMarkersRequestMarker rfl (fun v H1 L1 le_2 hR => ?_)
 obtain ⟨rfl, a1, rfl, g1⟩ := hR
 refine bd' S51 rfl rfl rfl ?_
 refine bs' L32 rfl rfl rfl rfl (fun b_3 => ?_)
 refine bd' S34 rfl rfl rfl ?_
 refine sa Tryz.sizeOf34 rfl rfl rfl rfl rfl (.tail .head) ?_
 refine nl ?_
 refine frW (Row.whole (size := 8) (m := 1) rfl (by decide)) .head (fun H2 hle2 hfz => ?_)
 have hz : H2.at b_3 0 ([(⟨a1, 6⟩, .mk 11 0 (-1) (-1) (-1) 0 10 fs_sWriteTxnMarkersRequestMarker)].flatMap fun p : FC × Fd => p.1.cells p.2) := by
  rcases hfz with ⟨h0, _⟩ | ⟨g, h0, h1⟩
  · cases h0
  · cases h0; exact h1
 have hl := FdsAt.lit [(⟨a1, 6⟩, .mk 11 0 (-1) (-1) (-1) 0 10 fs_sWriteTxnMarkersRequestMarker)] hz (Nat.le_of_ble_eq_true rfl) (by
  intro p hp
  simp only [List.mem_cons, List.not_mem_nil, or_false] at hp
  rcases hp with rfl
  · exact FdAt.of ⟨show ((-1) : Int) ≤ 1000 by decide, show (10 : Int) ≠ 11 by decide⟩ (g1.mono hle2))
 exact rC rfl Tryz.isAgg34 Tryz.sizeOf34 rfl .head rfl (le_2.trans hle2) (fun _ _ h => h) ⟨rfl, _, rfl, hl⟩
end Go.Sx
