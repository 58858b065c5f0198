import Derived.Test.YtjpidbdhoiagpaaGreatDoorSxTab
import Derived.Test.YtjpidbdhoiagpaaGreatDoorAUpdateRaftVoterRequest
import Derived.KernelRfl
set_option linter.unusedVariables false
set_option linter.unusedSimpArgs false
set_option maxRecDepth 100000
set_option maxHeartbeats 20000000
namespace Go.Sx
open Go.Proofs
def At_UpdateRaftVoterRequestListener (H : Fz) (T : Tr) (cs : List Value) : Prop := ∃ (mt : Option Nat), cs = [.string ⟨(T.at 0).s.toArray⟩, .string ⟨(T.at 1).s.toArray⟩, .int .u16 (IntKind.u16.wrap (T.at 2).n), .map mt] ∧ KvAt H mt T.u
theorem At_UpdateRaftVoterRequestListener.ok {H : Fz} {T : Tr} {cs : List Value} (h : At_UpdateRaftVoterRequestListener H T cs) : cs.length = 4 ∧ ∀ u ∈ cs, u.oneCell' = true := by
 obtain ⟨mt, rfl, h1⟩ := h
 refine ⟨rfl, ?_⟩
 intro u hu
 simp only [List.mem_cons, List.not_mem_nil, or_false] at hu
 rcases hu with rfl | rfl | rfl | rfl <;> rfl
theorem At_UpdateRaftVoterRequestListener.mono : RMono (At_UpdateRaftVoterRequestListener) := by
 intro H H' T cs hle h
 obtain ⟨mt, rfl, h1⟩ := h
 exact ⟨mt, rfl, h1.mono hle⟩
def At_UpdateRaftVoterRequestKRaftVersionFeature (H : Fz) (T : Tr) (cs : List Value) : Prop := ∃ (mt : Option Nat), cs = [.int .i16 (IntKind.i16.wrap (T.at 0).n), .int .i16 (IntKind.i16.wrap (T.at 1).n), .map mt] ∧ KvAt H mt T.u
theorem At_UpdateRaftVoterRequestKRaftVersionFeature.ok {H : Fz} {T : Tr} {cs : List Value} (h : At_UpdateRaftVoterRequestKRaftVersionFeature H T cs) : cs.length = 3 ∧ ∀ u ∈ cs, u.oneCell' = true := by
 obtain ⟨mt, rfl, h1⟩ := h
 refine ⟨rfl, ?_⟩
 intro u hu
 simp only [List.mem_cons, List.not_mem_nil, or_false] at hu
 rcases hu with rfl | rfl | rfl <;> rfl
theorem At_UpdateRaftVoterRequestKRaftVersionFeature.mono : RMono (At_UpdateRaftVoterRequestKRaftVersionFeature) := by
 intro H H' T cs hle h
 obtain ⟨mt, rfl, h1⟩ := h
 exact ⟨mt, rfl, h1.mono hle⟩
def At_UpdateRaftVoterRequest (ver : Int) (H : Fz) (T : Tr) (cs : List Value) : Prop := ∃ (p0 : Option Addr) (a4 : Option Addr) (c4 : Nat) (m5_t : Option Nat) (mt : Option Nat), cs = [.int .i16 ver, .pointer p0, .int .i32 (IntKind.i32.wrap (T.at 1).n), .int .i32 (IntKind.i32.wrap (T.at 2).n), ub (T.at 3).s 0, ub (T.at 3).s 1, ub (T.at 3).s 2, ub (T.at 3).s 3, ub (T.at 3).s 4, ub (T.at 3).s 5, ub (T.at 3).s 6, ub (T.at 3).s 7, ub (T.at 3).s 8, ub (T.at 3).s 9, ub (T.at 3).s 10, ub (T.at 3).s 11, ub (T.at 3).s 12, ub (T.at 3).s 13, ub (T.at 3).s 14, ub (T.at 3).s 15, .slice a4 (lT (T.at 4)).length c4, .int .i16 (IntKind.i16.wrap ((T.at 5).at 0).n), .int .i16 (IntKind.i16.wrap ((T.at 5).at 1).n), .map m5_t, .map mt] ∧ TextAt H (T.at 0) p0 ∧ ListAt H (T.at 4) 4 At_UpdateRaftVoterRequestListener a4 c4 ∧ KvAt H m5_t (T.at 5).u ∧ KvAt H mt T.u
theorem At_UpdateRaftVoterRequest.ok {ver : Int} {H : Fz} {T : Tr} {cs : List Value} (h : At_UpdateRaftVoterRequest ver H T cs) : cs.length = 25 ∧ ∀ u ∈ cs, u.oneCell' = true := by
 obtain ⟨p0, a4, c4, m5_t, mt, rfl, h1, h2, h3, h4⟩ := h
 refine ⟨rfl, ?_⟩
 intro u hu
 simp only [List.mem_cons, List.not_mem_nil, or_false] at hu
 rcases hu with rfl | rfl | rfl | rfl | rfl | rfl | rfl | rfl | rfl | rfl | rfl | rfl | rfl | rfl | rfl | rfl | rfl | rfl | rfl | rfl | rfl | rfl | rfl | rfl | rfl <;> rfl
theorem At_UpdateRaftVoterRequest.mono (ver : Int) : RMono (At_UpdateRaftVoterRequest ver) := by
 intro H H' T cs hle h
 obtain ⟨p0, a4, c4, m5_t, mt, rfl, h1, h2, h3, h4⟩ := h
 exact ⟨p0, a4, c4, m5_t, mt, rfl, h1.mono hle, h2.mono At_UpdateRaftVoterRequestListener.mono hle, h3.mono hle, h4.mono hle⟩
end Go.Sx
