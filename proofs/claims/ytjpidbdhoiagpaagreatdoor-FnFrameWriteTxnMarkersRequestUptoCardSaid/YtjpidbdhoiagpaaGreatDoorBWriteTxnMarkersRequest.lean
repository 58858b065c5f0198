import Derived.Test.YtjpidbdhoiagpaaGreatDoorSxTab
import Derived.Test.YtjpidbdhoiagpaaGreatDoorAWriteTxnMarkersRequest
import Derived.KernelRfl
set_option linter.unusedVariables false
set_option linter.unusedSimpArgs false
set_option maxRecDepth 100000
set_option maxHeartbeats 20000000
namespace Go.Sx
open Go.Proofs
def At_WriteTxnMarkersRequestMarkerTopic (H : Fz) (T : Tr) (cs : List Value) : Prop := ∃ (a1 : Option Addr) (c1 : Nat) (mt : Option Nat), cs = [.string ⟨(T.at 0).s.toArray⟩, .slice a1 (lT (T.at 1)).length c1, .map mt] ∧ ListAt H (T.at 1) 1 RI32 a1 c1 ∧ KvAt H mt T.u
theorem At_WriteTxnMarkersRequestMarkerTopic.ok {H : Fz} {T : Tr} {cs : List Value} (h : At_WriteTxnMarkersRequestMarkerTopic H T cs) : cs.length = 3 ∧ ∀ u ∈ cs, u.oneCell' = true := by
 obtain ⟨a1, c1, mt, rfl, h1, h2⟩ := h
 refine ⟨rfl, ?_⟩
 intro u hu
 simp only [List.mem_cons, List.not_mem_nil, or_false] at hu
 rcases hu with rfl | rfl | rfl <;> rfl
theorem At_WriteTxnMarkersRequestMarkerTopic.mono : RMono (At_WriteTxnMarkersRequestMarkerTopic) := by
 intro H H' T cs hle h
 obtain ⟨a1, c1, mt, rfl, h1, h2⟩ := h
 exact ⟨a1, c1, mt, rfl, h1.mono RI32.mono hle, h2.mono hle⟩
def At_WriteTxnMarkersRequestMarker (H : Fz) (T : Tr) (cs : List Value) : Prop := ∃ (a3 : Option Addr) (c3 : Nat) (mt : Option Nat), cs = [.int .i64 (T.at 0).n, .int .i16 (IntKind.i16.wrap (T.at 1).n), .bool (decide ((T.at 2).n % 2 = 1)), .slice a3 (lT (T.at 3)).length c3, .int .i32 (IntKind.i32.wrap (T.at 4).n), .int .i8 (IntKind.i8.wrap (T.at 5).n), .map mt] ∧ ListAt H (T.at 3) 3 At_WriteTxnMarkersRequestMarkerTopic a3 c3 ∧ KvAt H mt T.u
theorem At_WriteTxnMarkersRequestMarker.ok {H : Fz} {T : Tr} {cs : List Value} (h : At_WriteTxnMarkersRequestMarker H T cs) : cs.length = 7 ∧ ∀ u ∈ cs, u.oneCell' = true := by
 obtain ⟨a3, c3, mt, rfl, h1, h2⟩ := h
 refine ⟨rfl, ?_⟩
 intro u hu
 simp only [List.mem_cons, List.not_mem_nil, or_false] at hu
 rcases hu with rfl | rfl | rfl | rfl | rfl | rfl | rfl <;> rfl
theorem At_WriteTxnMarkersRequestMarker.mono : RMono (At_WriteTxnMarkersRequestMarker) := by
 intro H H' T cs hle h
 obtain ⟨a3, c3, mt, rfl, h1, h2⟩ := h
 exact ⟨a3, c3, mt, rfl, h1.mono At_WriteTxnMarkersRequestMarkerTopic.mono hle, h2.mono hle⟩
def At_WriteTxnMarkersRequest (ver : Int) (H : Fz) (T : Tr) (cs : List Value) : Prop := ∃ (a0 : Option Addr) (c0 : Nat) (mt : Option Nat), cs = [.int .i16 ver, .slice a0 (lT (T.at 0)).length c0, .map mt] ∧ ListAt H (T.at 0) 7 At_WriteTxnMarkersRequestMarker a0 c0 ∧ KvAt H mt T.u
theorem At_WriteTxnMarkersRequest.ok {ver : Int} {H : Fz} {T : Tr} {cs : List Value} (h : At_WriteTxnMarkersRequest ver H T cs) : cs.length = 3 ∧ ∀ u ∈ cs, u.oneCell' = true := by
 obtain ⟨a0, c0, mt, rfl, h1, h2⟩ := h
 refine ⟨rfl, ?_⟩
 intro u hu
 simp only [List.mem_cons, List.not_mem_nil, or_false] at hu
 rcases hu with rfl | rfl | rfl <;> rfl
theorem At_WriteTxnMarkersRequest.mono (ver : Int) : RMono (At_WriteTxnMarkersRequest ver) := by
 intro H H' T cs hle h
 obtain ⟨a0, c0, mt, rfl, h1, h2⟩ := h
 exact ⟨a0, c0, mt, rfl, h1.mono At_WriteTxnMarkersRequestMarker.mono hle, h2.mono hle⟩
end Go.Sx
