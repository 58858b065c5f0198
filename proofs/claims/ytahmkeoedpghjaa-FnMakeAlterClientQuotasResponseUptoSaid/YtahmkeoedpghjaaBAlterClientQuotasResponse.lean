import Derived.Test.YtahmkeoedpghjaaAAlterClientQuotasResponse
import Derived.KernelRfl
set_option linter.unusedVariables false
set_option linter.unusedSimpArgs false
set_option maxRecDepth 100000
set_option maxHeartbeats 20000000
namespace Go.Sx
open Go.Proofs
def At_AlterClientQuotasResponseEntryEntity (H : Fz) (T : Tr) (cs : List Value) : Prop := ∃ (p1 : Option Addr) (mt : Option Nat), cs = [.string ⟨(T.at 0).s.toArray⟩, .pointer p1, .map mt] ∧ TextAt H (T.at 1) p1 ∧ KvAt H mt T.u
theorem At_AlterClientQuotasResponseEntryEntity.ok {H : Fz} {T : Tr} {cs : List Value} (h : At_AlterClientQuotasResponseEntryEntity H T cs) : cs.length = 3 ∧ ∀ u ∈ cs, u.oneCell' = true := by
  obtain ⟨p1, mt, rfl, h1, h2⟩ := h
  refine ⟨rfl, ?_⟩
  intro u hu
  simp only [List.mem_cons, List.not_mem_nil, or_false] at hu
  rcases hu with rfl | rfl | rfl <;> rfl
theorem At_AlterClientQuotasResponseEntryEntity.mono : RMono (At_AlterClientQuotasResponseEntryEntity) := by
  intro H H' T cs hle h
  obtain ⟨p1, mt, rfl, h1, h2⟩ := h
  exact ⟨p1, mt, rfl, h1.mono hle, h2.mono hle⟩
def At_AlterClientQuotasResponseEntry (H : Fz) (T : Tr) (cs : List Value) : Prop := ∃ (p1 : Option Addr) (a2 : Option Addr) (c2 : Nat) (mt : Option Nat), cs = [.int .i16 (IntKind.i16.wrap (T.at 0).n), .pointer p1, .slice a2 (lT (T.at 2)).length c2, .map mt] ∧ TextAt H (T.at 1) p1 ∧ ListAt H (T.at 2) 3 At_AlterClientQuotasResponseEntryEntity a2 c2 ∧ KvAt H mt T.u
theorem At_AlterClientQuotasResponseEntry.ok {H : Fz} {T : Tr} {cs : List Value} (h : At_AlterClientQuotasResponseEntry H T cs) : cs.length = 4 ∧ ∀ u ∈ cs, u.oneCell' = true := by
  obtain ⟨p1, a2, c2, mt, rfl, h1, h2, h3⟩ := h
  refine ⟨rfl, ?_⟩
  intro u hu
  simp only [List.mem_cons, List.not_mem_nil, or_false] at hu
  rcases hu with rfl | rfl | rfl | rfl <;> rfl
theorem At_AlterClientQuotasResponseEntry.mono : RMono (At_AlterClientQuotasResponseEntry) := by
  intro H H' T cs hle h
  obtain ⟨p1, a2, c2, mt, rfl, h1, h2, h3⟩ := h
  exact ⟨p1, a2, c2, mt, rfl, h1.mono hle, h2.mono At_AlterClientQuotasResponseEntryEntity.mono hle, h3.mono hle⟩
def At_AlterClientQuotasResponse (ver : Int) (H : Fz) (T : Tr) (cs : List Value) : Prop := ∃ (a1 : Option Addr) (c1 : Nat) (mt : Option Nat), cs = [.int .i16 ver, .int .i32 (IntKind.i32.wrap (T.at 0).n), .slice a1 (lT (T.at 1)).length c1, .map mt] ∧ ListAt H (T.at 1) 4 At_AlterClientQuotasResponseEntry a1 c1 ∧ KvAt H mt T.u
theorem At_AlterClientQuotasResponse.ok {ver : Int} {H : Fz} {T : Tr} {cs : List Value} (h : At_AlterClientQuotasResponse ver H T cs) : cs.length = 4 ∧ ∀ u ∈ cs, u.oneCell' = true := by
  obtain ⟨a1, c1, mt, rfl, h1, h2⟩ := h
  refine ⟨rfl, ?_⟩
  intro u hu
  simp only [List.mem_cons, List.not_mem_nil, or_false] at hu
  rcases hu with rfl | rfl | rfl | rfl <;> rfl
theorem At_AlterClientQuotasResponse.mono (ver : Int) : RMono (At_AlterClientQuotasResponse ver) := by
  intro H H' T cs hle h
  obtain ⟨a1, c1, mt, rfl, h1, h2⟩ := h
  exact ⟨a1, c1, mt, rfl, h1.mono At_AlterClientQuotasResponseEntry.mono hle, h2.mono hle⟩
end Go.Sx
