import Derived.Test.YtbmkefmfhmbenaaAConsumerMemberMetadata
import Derived.KernelRfl
set_option linter.unusedVariables false
set_option linter.unusedSimpArgs false
set_option maxRecDepth 100000
set_option maxHeartbeats 20000000
namespace Go.Sx
open Go.Proofs
def At_ConsumerMemberMetadataOwnedPartition (H : Fz) (T : Tr) (cs : List Value) : Prop := ∃ (a1 : Option Addr) (c1 : Nat), cs = [.string ⟨(T.at 0).s.toArray⟩, .slice a1 (lT (T.at 1)).length c1] ∧ ListAt H (T.at 1) 1 RI32 a1 c1
theorem At_ConsumerMemberMetadataOwnedPartition.ok {H : Fz} {T : Tr} {cs : List Value} (h : At_ConsumerMemberMetadataOwnedPartition H T cs) : cs.length = 2 ∧ ∀ u ∈ cs, u.oneCell' = true := by
  obtain ⟨a1, c1, rfl, h1⟩ := h
  refine ⟨rfl, ?_⟩
  intro u hu
  simp only [List.mem_cons, List.not_mem_nil, or_false] at hu
  rcases hu with rfl | rfl <;> rfl
theorem At_ConsumerMemberMetadataOwnedPartition.mono : RMono (At_ConsumerMemberMetadataOwnedPartition) := by
  intro H H' T cs hle h
  obtain ⟨a1, c1, rfl, h1⟩ := h
  exact ⟨a1, c1, rfl, h1.mono RI32.mono hle⟩
def At_ConsumerMemberMetadata (ver : Int) (H : Fz) (T : Tr) (cs : List Value) : Prop := ∃ (a0 : Option Addr) (c0 : Nat) (a1 : Option Addr) (c1 : Nat) (a2 : Option Addr) (c2 : Nat) (p4 : Option Addr), cs = [.int .i16 ver, .slice a0 (lT (T.at 0)).length c0, .slice a1 (sT (T.at 1)).length c1, .slice a2 (lT (T.at 2)).length c2, .int .i32 (IntKind.i32.wrap (T.at 3).n), .pointer p4] ∧ ListAt H (T.at 0) 1 RText a0 c0 ∧ OctAt H (T.at 1) a1 c1 ∧ ListAt H (T.at 2) 2 At_ConsumerMemberMetadataOwnedPartition a2 c2 ∧ TextAt H (T.at 4) p4
theorem At_ConsumerMemberMetadata.ok {ver : Int} {H : Fz} {T : Tr} {cs : List Value} (h : At_ConsumerMemberMetadata ver H T cs) : cs.length = 6 ∧ ∀ u ∈ cs, u.oneCell' = true := by
  obtain ⟨a0, c0, a1, c1, a2, c2, p4, rfl, h1, h2, h3, h4⟩ := h
  refine ⟨rfl, ?_⟩
  intro u hu
  simp only [List.mem_cons, List.not_mem_nil, or_false] at hu
  rcases hu with rfl | rfl | rfl | rfl | rfl | rfl <;> rfl
theorem At_ConsumerMemberMetadata.mono (ver : Int) : RMono (At_ConsumerMemberMetadata ver) := by
  intro H H' T cs hle h
  obtain ⟨a0, c0, a1, c1, a2, c2, p4, rfl, h1, h2, h3, h4⟩ := h
  exact ⟨a0, c0, a1, c1, a2, c2, p4, rfl, h1.mono RText.mono hle, h2.mono hle, h3.mono At_ConsumerMemberMetadataOwnedPartition.mono hle, h4.mono hle⟩
end Go.Sx
