import Derived.Test.YthgkgbaggjongaaGreatDoorSxTab
import Derived.Test.YthgkgbaggjongaaGreatDoorAListGroupsRequest
import Derived.KernelRfl
set_option linter.unusedVariables false
set_option linter.unusedSimpArgs false
set_option maxRecDepth 100000
set_option maxHeartbeats 20000000
namespace Go.Sx
open Go.Proofs
def At_ListGroupsRequest (ver : Int) (H : Fz) (T : Tr) (cs : List Value) : Prop := ∃ (a0 : Option Addr) (c0 : Nat) (a1 : Option Addr) (c1 : Nat) (mt : Option Nat), cs = [.int .i16 ver, .slice a0 (lT (T.at 0)).length c0, .slice a1 (lT (T.at 1)).length c1, .map mt] ∧ ListAt H (T.at 0) 1 RText a0 c0 ∧ ListAt H (T.at 1) 1 RText a1 c1 ∧ KvAt H mt T.u
theorem At_ListGroupsRequest.ok {ver : Int} {H : Fz} {T : Tr} {cs : List Value} (h : At_ListGroupsRequest ver H T cs) : cs.length = 4 ∧ ∀ u ∈ cs, u.oneCell' = true := by
 obtain ⟨a0, c0, a1, c1, mt, rfl, h1, h2, h3⟩ := h
 refine ⟨rfl, ?_⟩
 intro u hu
 simp only [List.mem_cons, List.not_mem_nil, or_false] at hu
 rcases hu with rfl | rfl | rfl | rfl <;> rfl
theorem At_ListGroupsRequest.mono (ver : Int) : RMono (At_ListGroupsRequest ver) := by
 intro H H' T cs hle h
 obtain ⟨a0, c0, a1, c1, mt, rfl, h1, h2, h3⟩ := h
 exact ⟨a0, c0, a1, c1, mt, rfl, h1.mono RText.mono hle, h2.mono RText.mono hle, h3.mono hle⟩
end Go.Sx
