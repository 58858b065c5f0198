import Derived.Test.YtoncemcnclkpkaaGreatDoorSxTab
import Derived.Test.YtoncemcnclkpkaaGreatDoorADescribeUserSCRAMCredentialsResponse
import Derived.KernelRfl
set_option linter.unusedVariables false
set_option linter.unusedSimpArgs false
set_option maxRecDepth 100000
set_option maxHeartbeats 20000000
namespace Go.Sx
open Go.Proofs
def At_DescribeUserSCRAMCredentialsResponseResultCredentialInfo (H : Fz) (T : Tr) (cs : List Value) : Prop := ∃ (mt : Option Nat), cs = [.int .i8 (IntKind.i8.wrap (T.at 0).n), .int .i32 (IntKind.i32.wrap (T.at 1).n), .map mt] ∧ KvAt H mt T.u
theorem At_DescribeUserSCRAMCredentialsResponseResultCredentialInfo.ok {H : Fz} {T : Tr} {cs : List Value} (h : At_DescribeUserSCRAMCredentialsResponseResultCredentialInfo H T cs) : cs.length = 3 ∧ ∀ u ∈ cs, u.oneCell' = true := by
  obtain ⟨mt, rfl, h1⟩ := h
  refine ⟨rfl, ?_⟩
  intro u hu
  simp only [List.mem_cons, List.not_mem_nil, or_false] at hu
  rcases hu with rfl | rfl | rfl <;> rfl
theorem At_DescribeUserSCRAMCredentialsResponseResultCredentialInfo.mono : RMono (At_DescribeUserSCRAMCredentialsResponseResultCredentialInfo) := by
  intro H H' T cs hle h
  obtain ⟨mt, rfl, h1⟩ := h
  exact ⟨mt, rfl, h1.mono hle⟩
def At_DescribeUserSCRAMCredentialsResponseResult (H : Fz) (T : Tr) (cs : List Value) : Prop := ∃ (p2 : Option Addr) (a3 : Option Addr) (c3 : Nat) (mt : Option Nat), cs = [.string ⟨(T.at 0).s.toArray⟩, .int .i16 (IntKind.i16.wrap (T.at 1).n), .pointer p2, .slice a3 (lT (T.at 3)).length c3, .map mt] ∧ TextAt H (T.at 2) p2 ∧ ListAt H (T.at 3) 3 At_DescribeUserSCRAMCredentialsResponseResultCredentialInfo a3 c3 ∧ KvAt H mt T.u
theorem At_DescribeUserSCRAMCredentialsResponseResult.ok {H : Fz} {T : Tr} {cs : List Value} (h : At_DescribeUserSCRAMCredentialsResponseResult H T cs) : cs.length = 5 ∧ ∀ u ∈ cs, u.oneCell' = true := by
  obtain ⟨p2, a3, c3, mt, rfl, h1, h2, h3⟩ := h
  refine ⟨rfl, ?_⟩
  intro u hu
  simp only [List.mem_cons, List.not_mem_nil, or_false] at hu
  rcases hu with rfl | rfl | rfl | rfl | rfl <;> rfl
theorem At_DescribeUserSCRAMCredentialsResponseResult.mono : RMono (At_DescribeUserSCRAMCredentialsResponseResult) := by
  intro H H' T cs hle h
  obtain ⟨p2, a3, c3, mt, rfl, h1, h2, h3⟩ := h
  exact ⟨p2, a3, c3, mt, rfl, h1.mono hle, h2.mono At_DescribeUserSCRAMCredentialsResponseResultCredentialInfo.mono hle, h3.mono hle⟩
def At_DescribeUserSCRAMCredentialsResponse (ver : Int) (H : Fz) (T : Tr) (cs : List Value) : Prop := ∃ (p2 : Option Addr) (a3 : Option Addr) (c3 : Nat) (mt : Option Nat), cs = [.int .i16 ver, .int .i32 (IntKind.i32.wrap (T.at 0).n), .int .i16 (IntKind.i16.wrap (T.at 1).n), .pointer p2, .slice a3 (lT (T.at 3)).length c3, .map mt] ∧ TextAt H (T.at 2) p2 ∧ ListAt H (T.at 3) 5 At_DescribeUserSCRAMCredentialsResponseResult a3 c3 ∧ KvAt H mt T.u
theorem At_DescribeUserSCRAMCredentialsResponse.ok {ver : Int} {H : Fz} {T : Tr} {cs : List Value} (h : At_DescribeUserSCRAMCredentialsResponse ver H T cs) : cs.length = 6 ∧ ∀ u ∈ cs, u.oneCell' = true := by
  obtain ⟨p2, a3, c3, mt, rfl, h1, h2, h3⟩ := h
  refine ⟨rfl, ?_⟩
  intro u hu
  simp only [List.mem_cons, List.not_mem_nil, or_false] at hu
  rcases hu with rfl | rfl | rfl | rfl | rfl | rfl <;> rfl
theorem At_DescribeUserSCRAMCredentialsResponse.mono (ver : Int) : RMono (At_DescribeUserSCRAMCredentialsResponse ver) := by
  intro H H' T cs hle h
  obtain ⟨p2, a3, c3, mt, rfl, h1, h2, h3⟩ := h
  exact ⟨p2, a3, c3, mt, rfl, h1.mono hle, h2.mono At_DescribeUserSCRAMCredentialsResponseResult.mono hle, h3.mono hle⟩
end Go.Sx
