import Derived.Test.YtdnbgafbhifhoaaDoorSxTab
import Derived.Test.YtdnbgafbhifhoaaDoorACreateDelegationTokenResponse
import Derived.KernelRfl
set_option linter.unusedVariables false
set_option linter.unusedSimpArgs false
set_option maxRecDepth 100000
set_option maxHeartbeats 20000000
namespace Go.Sx
open Go.Proofs
def At_CreateDelegationTokenResponse (ver : Int) (H : Fz) (T : Tr) (cs : List Value) : Prop := ∃ (a9 : Option Addr) (c9 : Nat) (mt : Option Nat), cs = [.int .i16 ver, .int .i16 (IntKind.i16.wrap (T.at 0).n), .string ⟨(T.at 1).s.toArray⟩, .string ⟨(T.at 2).s.toArray⟩, .string ⟨(T.at 3).s.toArray⟩, .string ⟨(T.at 4).s.toArray⟩, .int .i64 (T.at 5).n, .int .i64 (T.at 6).n, .int .i64 (T.at 7).n, .string ⟨(T.at 8).s.toArray⟩, .slice a9 (sT (T.at 9)).length c9, .int .i32 (IntKind.i32.wrap (T.at 10).n), .map mt] ∧ OctAt H (T.at 9) a9 c9 ∧ KvAt H mt T.u
theorem At_CreateDelegationTokenResponse.ok {ver : Int} {H : Fz} {T : Tr} {cs : List Value} (h : At_CreateDelegationTokenResponse ver H T cs) : cs.length = 13 ∧ ∀ u ∈ cs, u.oneCell' = true := by
  obtain ⟨a9, c9, mt, rfl, h1, h2⟩ := h
  refine ⟨rfl, ?_⟩
  intro u hu
  simp only [List.mem_cons, List.not_mem_nil, or_false] at hu
  rcases hu with rfl | rfl | rfl | rfl | rfl | rfl | rfl | rfl | rfl | rfl | rfl | rfl | rfl <;> rfl
theorem At_CreateDelegationTokenResponse.mono (ver : Int) : RMono (At_CreateDelegationTokenResponse ver) := by
  intro H H' T cs hle h
  obtain ⟨a9, c9, mt, rfl, h1, h2⟩ := h
  exact ⟨a9, c9, mt, rfl, h1.mono hle, h2.mono hle⟩
end Go.Sx
