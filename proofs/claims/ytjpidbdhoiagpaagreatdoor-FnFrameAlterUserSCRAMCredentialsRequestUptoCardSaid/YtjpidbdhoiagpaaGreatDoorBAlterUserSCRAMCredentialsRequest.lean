import Derived.Test.YtjpidbdhoiagpaaGreatDoorSxTab
import Derived.Test.YtjpidbdhoiagpaaGreatDoorAAlterUserSCRAMCredentialsRequest
import Derived.KernelRfl
set_option linter.unusedVariables false
set_option linter.unusedSimpArgs false
set_option maxRecDepth 100000
set_option maxHeartbeats 20000000
namespace Go.Sx
open Go.Proofs
def At_AlterUserSCRAMCredentialsRequestDeletion (H : Fz) (T : Tr) (cs : List Value) : Prop := ∃ (mt : Option Nat), cs = [.string ⟨(T.at 0).s.toArray⟩, .int .i8 (IntKind.i8.wrap (T.at 1).n), .map mt] ∧ KvAt H mt T.u
theorem At_AlterUserSCRAMCredentialsRequestDeletion.ok {H : Fz} {T : Tr} {cs : List Value} (h : At_AlterUserSCRAMCredentialsRequestDeletion H T cs) : cs.length = 3 ∧ ∀ u ∈ cs, u.oneCell' = true := by
 obtain ⟨mt, rfl, h1⟩ := h
 refine ⟨rfl, ?_⟩
 intro u hu
 simp only [List.mem_cons, List.not_mem_nil, or_false] at hu
 rcases hu with rfl | rfl | rfl <;> rfl
theorem At_AlterUserSCRAMCredentialsRequestDeletion.mono : RMono (At_AlterUserSCRAMCredentialsRequestDeletion) := by
 intro H H' T cs hle h
 obtain ⟨mt, rfl, h1⟩ := h
 exact ⟨mt, rfl, h1.mono hle⟩
def At_AlterUserSCRAMCredentialsRequestUpsertion (H : Fz) (T : Tr) (cs : List Value) : Prop := ∃ (a3 : Option Addr) (c3 : Nat) (a4 : Option Addr) (c4 : Nat) (mt : Option Nat), cs = [.string ⟨(T.at 0).s.toArray⟩, .int .i8 (IntKind.i8.wrap (T.at 1).n), .int .i32 (IntKind.i32.wrap (T.at 2).n), .slice a3 (sT (T.at 3)).length c3, .slice a4 (sT (T.at 4)).length c4, .map mt] ∧ OctAt H (T.at 3) a3 c3 ∧ OctAt H (T.at 4) a4 c4 ∧ KvAt H mt T.u
theorem At_AlterUserSCRAMCredentialsRequestUpsertion.ok {H : Fz} {T : Tr} {cs : List Value} (h : At_AlterUserSCRAMCredentialsRequestUpsertion H T cs) : cs.length = 6 ∧ ∀ u ∈ cs, u.oneCell' = true := by
 obtain ⟨a3, c3, a4, c4, mt, rfl, h1, h2, h3⟩ := h
 refine ⟨rfl, ?_⟩
 intro u hu
 simp only [List.mem_cons, List.not_mem_nil, or_false] at hu
 rcases hu with rfl | rfl | rfl | rfl | rfl | rfl <;> rfl
theorem At_AlterUserSCRAMCredentialsRequestUpsertion.mono : RMono (At_AlterUserSCRAMCredentialsRequestUpsertion) := by
 intro H H' T cs hle h
 obtain ⟨a3, c3, a4, c4, mt, rfl, h1, h2, h3⟩ := h
 exact ⟨a3, c3, a4, c4, mt, rfl, h1.mono hle, h2.mono hle, h3.mono hle⟩
def At_AlterUserSCRAMCredentialsRequest (ver : Int) (H : Fz) (T : Tr) (cs : List Value) : Prop := ∃ (a0 : Option Addr) (c0 : Nat) (a1 : Option Addr) (c1 : Nat) (mt : Option Nat), cs = [.int .i16 ver, .slice a0 (lT (T.at 0)).length c0, .slice a1 (lT (T.at 1)).length c1, .map mt] ∧ ListAt H (T.at 0) 3 At_AlterUserSCRAMCredentialsRequestDeletion a0 c0 ∧ ListAt H (T.at 1) 6 At_AlterUserSCRAMCredentialsRequestUpsertion a1 c1 ∧ KvAt H mt T.u
theorem At_AlterUserSCRAMCredentialsRequest.ok {ver : Int} {H : Fz} {T : Tr} {cs : List Value} (h : At_AlterUserSCRAMCredentialsRequest ver H T cs) : cs.length = 4 ∧ ∀ u ∈ cs, u.oneCell' = true := by
 obtain ⟨a0, c0, a1, c1, mt, rfl, h1, h2, h3⟩ := h
 refine ⟨rfl, ?_⟩
 intro u hu
 simp only [List.mem_cons, List.not_mem_nil, or_false] at hu
 rcases hu with rfl | rfl | rfl | rfl <;> rfl
theorem At_AlterUserSCRAMCredentialsRequest.mono (ver : Int) : RMono (At_AlterUserSCRAMCredentialsRequest ver) := by
 intro H H' T cs hle h
 obtain ⟨a0, c0, a1, c1, mt, rfl, h1, h2, h3⟩ := h
 exact ⟨a0, c0, a1, c1, mt, rfl, h1.mono At_AlterUserSCRAMCredentialsRequestDeletion.mono hle, h2.mono At_AlterUserSCRAMCredentialsRequestUpsertion.mono hle, h3.mono hle⟩
end Go.Sx
