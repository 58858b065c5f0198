import Derived.Test.YtahmkeoedpghjaaSxTab
import Derived.Test.YtahmkeoedpghjaaKB2
import Derived.KernelRfl
set_option linter.unusedVariables false
set_option linter.unusedSimpArgs false
set_option maxRecDepth 100000
set_option maxHeartbeats 20000000
namespace Go.Sx
open Go.Proofs
def fs_sAlterClientQuotasResponseEntryEntity : List Fd := [.mk 8 0 (-1) (-1) (-1) 0 0 [], .mk 8 0 (-1) 0 (-1) 0 0 []]
theorem s_sAlterClientQuotasResponseEntryEntity {H : Fz} {L : Own} :
    Fn Try.prog 158 [] H L (fun v H' L' => L = L' ∧ ∃ a : Option Addr, v = .slice a 2 2 ∧ FdsAt H' a fs_sAlterClientQuotasResponseEntryEntity) := by
  refine Fn.mk Try.call158 Try.func158 rfl Try.ntmps158 rfl ?_
  refine sr ?_
  refine asg rfl rfl ?_
  refine nl ?_
  refine sr ?_
  refine bd' S50 rfl rfl rfl ?_
  refine bd' S50 rfl rfl rfl ?_
  refine bs' L29 rfl rfl rfl rfl (fun b_1 => ?_)
  refine asg rfl rfl ?_
  refine nl ?_
  refine frW (Row.whole (size := 8) (m := 2) rfl (by decide)) .head (fun H2 hle2 hfz => ?_)
  have hz : H2.at b_1 0 ([(⟨none, 0⟩, .mk 8 0 (-1) (-1) (-1) 0 0 []), (⟨none, 0⟩, .mk 8 0 (-1) 0 (-1) 0 0 [])].flatMap fun p : FC × Fd => p.1.cells p.2) := by
    rcases hfz with ⟨h0, _⟩ | ⟨g, h0, h1⟩
    · cases h0
    · cases h0; exact h1
  have hl := FdsAt.lit [(⟨none, 0⟩, .mk 8 0 (-1) (-1) (-1) 0 0 []), (⟨none, 0⟩, .mk 8 0 (-1) 0 (-1) 0 0 [])] hz (Nat.le_of_ble_eq_true rfl) (by
    intro p hp
    simp only [List.mem_cons, List.not_mem_nil, or_false] at hp
    rcases hp with rfl | rfl
    · exact FdAt.of ⟨show ((-1) : Int) ≤ 1000 by decide, show (0 : Int) ≠ 11 by decide⟩ (FdsAt.nil _)
    · exact FdAt.of ⟨show ((-1) : Int) ≤ 1000 by decide, show (0 : Int) ≠ 11 by decide⟩ (FdsAt.nil _))
  exact rT rfl rfl hle2 (fun _ _ h => h) ⟨rfl, _, rfl, hl⟩
def fs_sAlterClientQuotasResponseEntry : List Fd := [.mk 2 0 (-1) (-1) (-1) 0 0 [], .mk 8 0 (-1) 0 (-1) 0 0 [], .mk 11 0 (-1) (-1) (-1) 0 10 fs_sAlterClientQuotasResponseEntryEntity]
theorem s_sAlterClientQuotasResponseEntry {H : Fz} {L : Own} :
    Fn Try.prog 97 [] H L (fun v H' L' => L = L' ∧ ∃ a : Option Addr, v = .slice a 3 3 ∧ FdsAt H' a fs_sAlterClientQuotasResponseEntry) := by
  refine Fn.mk Try.call97 Try.func97 rfl Try.ntmps97 rfl ?_
  refine sr ?_
  refine asg rfl rfl ?_
  refine nl ?_
  refine sr ?_
  refine bd' S50 rfl rfl rfl ?_
  refine bd' S50 rfl rfl rfl ?_
  refine cl rfl rfl rfl s_sAlterClientQuotasResponseEntryEntity rfl (fun v H1 L1 le_1 hR => ?_)
  obtain ⟨rfl, a3, rfl, g3⟩ := hR
  refine bd' S50 rfl rfl rfl ?_
  refine bs' L29 rfl rfl rfl rfl (fun b_2 => ?_)
  refine asg rfl rfl ?_
  refine nl ?_
  refine frW (Row.whole (size := 8) (m := 3) rfl (by decide)) .head (fun H2 hle2 hfz => ?_)
  have hz : H2.at b_2 0 ([(⟨none, 0⟩, .mk 2 0 (-1) (-1) (-1) 0 0 []), (⟨none, 0⟩, .mk 8 0 (-1) 0 (-1) 0 0 []), (⟨a3, 2⟩, .mk 11 0 (-1) (-1) (-1) 0 10 fs_sAlterClientQuotasResponseEntryEntity)].flatMap fun p : FC × Fd => p.1.cells p.2) := by
    rcases hfz with ⟨h0, _⟩ | ⟨g, h0, h1⟩
    · cases h0
    · cases h0; exact h1
  have hl := FdsAt.lit [(⟨none, 0⟩, .mk 2 0 (-1) (-1) (-1) 0 0 []), (⟨none, 0⟩, .mk 8 0 (-1) 0 (-1) 0 0 []), (⟨a3, 2⟩, .mk 11 0 (-1) (-1) (-1) 0 10 fs_sAlterClientQuotasResponseEntryEntity)] hz (Nat.le_of_ble_eq_true rfl) (by
    intro p hp
    simp only [List.mem_cons, List.not_mem_nil, or_false] at hp
    rcases hp with rfl | rfl | rfl
    · exact FdAt.of ⟨show ((-1) : Int) ≤ 1000 by decide, show (0 : Int) ≠ 11 by decide⟩ (FdsAt.nil _)
    · exact FdAt.of ⟨show ((-1) : Int) ≤ 1000 by decide, show (0 : Int) ≠ 11 by decide⟩ (FdsAt.nil _)
    · exact FdAt.of ⟨show ((-1) : Int) ≤ 1000 by decide, show (10 : Int) ≠ 11 by decide⟩ (g3.mono hle2))
  exact rT rfl rfl (le_1.trans hle2) (fun _ _ h => h) ⟨rfl, _, rfl, hl⟩
def fs_AlterClientQuotasResponse : List Fd := [.mk 3 0 (-1) (-1) (-1) 0 0 [], .mk 11 0 (-1) (-1) (-1) 0 10 fs_sAlterClientQuotasResponseEntry]
theorem s_AlterClientQuotasResponse {H : Fz} {L : Own} :
    Fn Try.prog 42 [] H L (fun v H' L' => L = L' ∧ ∃ a : Option Addr, v = .agg #[.slice a 2 2, .int .i64 1] ∧ FdsAt H' a fs_AlterClientQuotasResponse) := by
  refine Fn.mk Try.call42 Try.func42 rfl Try.ntmps42 rfl ?_
  refine sr ?_
  refine al Try.zeroValue31 rfl rfl (fun b_1 => ?_)
  refine nl ?_
  refine sr ?_
  refine bd' S50 rfl rfl rfl ?_
  refine cl rfl rfl rfl s_sAlterClientQuotasResponseEntry rfl (fun v H1 L1 le_2 hR => ?_)
  obtain ⟨rfl, a2, rfl, g2⟩ := hR
  refine bd' S50 rfl rfl rfl ?_
  refine bs' L29 rfl rfl rfl rfl (fun b_3 => ?_)
  refine bd' S31 rfl rfl rfl ?_
  refine sa Try.sizeOf31 rfl rfl rfl rfl rfl (.tail .head) ?_
  refine nl ?_
  refine frW (Row.whole (size := 8) (m := 2) rfl (by decide)) .head (fun H2 hle2 hfz => ?_)
  have hz : H2.at b_3 0 ([(⟨none, 0⟩, .mk 3 0 (-1) (-1) (-1) 0 0 []), (⟨a2, 3⟩, .mk 11 0 (-1) (-1) (-1) 0 10 fs_sAlterClientQuotasResponseEntry)].flatMap fun p : FC × Fd => p.1.cells p.2) := by
    rcases hfz with ⟨h0, _⟩ | ⟨g, h0, h1⟩
    · cases h0
    · cases h0; exact h1
  have hl := FdsAt.lit [(⟨none, 0⟩, .mk 3 0 (-1) (-1) (-1) 0 0 []), (⟨a2, 3⟩, .mk 11 0 (-1) (-1) (-1) 0 10 fs_sAlterClientQuotasResponseEntry)] hz (Nat.le_of_ble_eq_true rfl) (by
    intro p hp
    simp only [List.mem_cons, List.not_mem_nil, or_false] at hp
    rcases hp with rfl | rfl
    · exact FdAt.of ⟨show ((-1) : Int) ≤ 1000 by decide, show (0 : Int) ≠ 11 by decide⟩ (FdsAt.nil _)
    · exact FdAt.of ⟨show ((-1) : Int) ≤ 1000 by decide, show (10 : Int) ≠ 11 by decide⟩ (g2.mono hle2))
  exact rC rfl Try.isAgg31 Try.sizeOf31 rfl .head rfl (le_2.trans hle2) (fun _ _ h => h) ⟨rfl, _, rfl, hl⟩
end Go.Sx
