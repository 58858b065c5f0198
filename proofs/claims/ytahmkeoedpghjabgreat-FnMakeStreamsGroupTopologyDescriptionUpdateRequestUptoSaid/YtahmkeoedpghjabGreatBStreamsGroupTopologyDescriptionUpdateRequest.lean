import Derived.Test.YtahmkeoedpghjabGreatAStreamsGroupTopologyDescriptionUpdateRequest
import Derived.KernelRfl
set_option linter.unusedVariables false
set_option linter.unusedSimpArgs false
set_option maxRecDepth 100000
set_option maxHeartbeats 20000000
namespace Go.Sx
open Go.Proofs
def At_TopologyDescriptionNode (H : Fz) (T : Tr) (cs : List Value) : Prop := ∃ (a2 : Option Addr) (c2 : Nat) (p3 : Option Addr) (a4 : Option Addr) (c4 : Nat) (a5 : Option Addr) (c5 : Nat) (mt : Option Nat), cs = [.string ⟨(T.at 0).s.toArray⟩, .int .i8 (IntKind.i8.wrap (T.at 1).n), .slice a2 (lT (T.at 2)).length c2, .pointer p3, .slice a4 (lT (T.at 4)).length c4, .slice a5 (lT (T.at 5)).length c5, .map mt] ∧ ListAt H (T.at 2) 1 RText a2 c2 ∧ TextAt H (T.at 3) p3 ∧ ListAt H (T.at 4) 1 RText a4 c4 ∧ ListAt H (T.at 5) 1 RText a5 c5 ∧ KvAt H mt T.u
theorem At_TopologyDescriptionNode.ok {H : Fz} {T : Tr} {cs : List Value} (h : At_TopologyDescriptionNode H T cs) : cs.length = 7 ∧ ∀ u ∈ cs, u.oneCell' = true := by
  obtain ⟨a2, c2, p3, a4, c4, a5, c5, mt, rfl, h1, h2, h3, h4, h5⟩ := h
  refine ⟨rfl, ?_⟩
  intro u hu
  simp only [List.mem_cons, List.not_mem_nil, or_false] at hu
  rcases hu with rfl | rfl | rfl | rfl | rfl | rfl | rfl <;> rfl
theorem At_TopologyDescriptionNode.mono : RMono (At_TopologyDescriptionNode) := by
  intro H H' T cs hle h
  obtain ⟨a2, c2, p3, a4, c4, a5, c5, mt, rfl, h1, h2, h3, h4, h5⟩ := h
  exact ⟨a2, c2, p3, a4, c4, a5, c5, mt, rfl, h1.mono RText.mono hle, h2.mono hle, h3.mono RText.mono hle, h4.mono RText.mono hle, h5.mono hle⟩
def At_TopologyDescriptionSubtopology (H : Fz) (T : Tr) (cs : List Value) : Prop := ∃ (a1 : Option Addr) (c1 : Nat) (mt : Option Nat), cs = [.string ⟨(T.at 0).s.toArray⟩, .slice a1 (lT (T.at 1)).length c1, .map mt] ∧ ListAt H (T.at 1) 7 At_TopologyDescriptionNode a1 c1 ∧ KvAt H mt T.u
theorem At_TopologyDescriptionSubtopology.ok {H : Fz} {T : Tr} {cs : List Value} (h : At_TopologyDescriptionSubtopology H T cs) : cs.length = 3 ∧ ∀ u ∈ cs, u.oneCell' = true := by
  obtain ⟨a1, c1, mt, rfl, h1, h2⟩ := h
  refine ⟨rfl, ?_⟩
  intro u hu
  simp only [List.mem_cons, List.not_mem_nil, or_false] at hu
  rcases hu with rfl | rfl | rfl <;> rfl
theorem At_TopologyDescriptionSubtopology.mono : RMono (At_TopologyDescriptionSubtopology) := by
  intro H H' T cs hle h
  obtain ⟨a1, c1, mt, rfl, h1, h2⟩ := h
  exact ⟨a1, c1, mt, rfl, h1.mono At_TopologyDescriptionNode.mono hle, h2.mono hle⟩
def At_TopologyDescriptionGlobalStore (H : Fz) (T : Tr) (cs : List Value) : Prop := ∃ (a0_2 : Option Addr) (c0_2 : Nat) (p0_3 : Option Addr) (a0_4 : Option Addr) (c0_4 : Nat) (a0_5 : Option Addr) (c0_5 : Nat) (m0_t : Option Nat) (a1_2 : Option Addr) (c1_2 : Nat) (p1_3 : Option Addr) (a1_4 : Option Addr) (c1_4 : Nat) (a1_5 : Option Addr) (c1_5 : Nat) (m1_t : Option Nat) (mt : Option Nat), cs = [.string ⟨((T.at 0).at 0).s.toArray⟩, .int .i8 (IntKind.i8.wrap ((T.at 0).at 1).n), .slice a0_2 (lT ((T.at 0).at 2)).length c0_2, .pointer p0_3, .slice a0_4 (lT ((T.at 0).at 4)).length c0_4, .slice a0_5 (lT ((T.at 0).at 5)).length c0_5, .map m0_t, .string ⟨((T.at 1).at 0).s.toArray⟩, .int .i8 (IntKind.i8.wrap ((T.at 1).at 1).n), .slice a1_2 (lT ((T.at 1).at 2)).length c1_2, .pointer p1_3, .slice a1_4 (lT ((T.at 1).at 4)).length c1_4, .slice a1_5 (lT ((T.at 1).at 5)).length c1_5, .map m1_t, .map mt] ∧ ListAt H ((T.at 0).at 2) 1 RText a0_2 c0_2 ∧ TextAt H ((T.at 0).at 3) p0_3 ∧ ListAt H ((T.at 0).at 4) 1 RText a0_4 c0_4 ∧ ListAt H ((T.at 0).at 5) 1 RText a0_5 c0_5 ∧ KvAt H m0_t (T.at 0).u ∧ ListAt H ((T.at 1).at 2) 1 RText a1_2 c1_2 ∧ TextAt H ((T.at 1).at 3) p1_3 ∧ ListAt H ((T.at 1).at 4) 1 RText a1_4 c1_4 ∧ ListAt H ((T.at 1).at 5) 1 RText a1_5 c1_5 ∧ KvAt H m1_t (T.at 1).u ∧ KvAt H mt T.u
theorem At_TopologyDescriptionGlobalStore.ok {H : Fz} {T : Tr} {cs : List Value} (h : At_TopologyDescriptionGlobalStore H T cs) : cs.length = 15 ∧ ∀ u ∈ cs, u.oneCell' = true := by
  obtain ⟨a0_2, c0_2, p0_3, a0_4, c0_4, a0_5, c0_5, m0_t, a1_2, c1_2, p1_3, a1_4, c1_4, a1_5, c1_5, m1_t, mt, rfl, h1, h2, h3, h4, h5, h6, h7, h8, h9, h10, h11⟩ := h
  refine ⟨rfl, ?_⟩
  intro u hu
  simp only [List.mem_cons, List.not_mem_nil, or_false] at hu
  rcases hu with rfl | rfl | rfl | rfl | rfl | rfl | rfl | rfl | rfl | rfl | rfl | rfl | rfl | rfl | rfl <;> rfl
theorem At_TopologyDescriptionGlobalStore.mono : RMono (At_TopologyDescriptionGlobalStore) := by
  intro H H' T cs hle h
  obtain ⟨a0_2, c0_2, p0_3, a0_4, c0_4, a0_5, c0_5, m0_t, a1_2, c1_2, p1_3, a1_4, c1_4, a1_5, c1_5, m1_t, mt, rfl, h1, h2, h3, h4, h5, h6, h7, h8, h9, h10, h11⟩ := h
  exact ⟨a0_2, c0_2, p0_3, a0_4, c0_4, a0_5, c0_5, m0_t, a1_2, c1_2, p1_3, a1_4, c1_4, a1_5, c1_5, m1_t, mt, rfl, h1.mono RText.mono hle, h2.mono hle, h3.mono RText.mono hle, h4.mono RText.mono hle, h5.mono hle, h6.mono RText.mono hle, h7.mono hle, h8.mono RText.mono hle, h9.mono RText.mono hle, h10.mono hle, h11.mono hle⟩
def At_TopologyDescription (H : Fz) (T : Tr) (cs : List Value) : Prop := ∃ (a0 : Option Addr) (c0 : Nat) (a1 : Option Addr) (c1 : Nat) (mt : Option Nat), cs = [.slice a0 (lT (T.at 0)).length c0, .slice a1 (lT (T.at 1)).length c1, .map mt] ∧ ListAt H (T.at 0) 3 At_TopologyDescriptionSubtopology a0 c0 ∧ ListAt H (T.at 1) 15 At_TopologyDescriptionGlobalStore a1 c1 ∧ KvAt H mt T.u
theorem At_TopologyDescription.ok {H : Fz} {T : Tr} {cs : List Value} (h : At_TopologyDescription H T cs) : cs.length = 3 ∧ ∀ u ∈ cs, u.oneCell' = true := by
  obtain ⟨a0, c0, a1, c1, mt, rfl, h1, h2, h3⟩ := h
  refine ⟨rfl, ?_⟩
  intro u hu
  simp only [List.mem_cons, List.not_mem_nil, or_false] at hu
  rcases hu with rfl | rfl | rfl <;> rfl
theorem At_TopologyDescription.mono : RMono (At_TopologyDescription) := by
  intro H H' T cs hle h
  obtain ⟨a0, c0, a1, c1, mt, rfl, h1, h2, h3⟩ := h
  exact ⟨a0, c0, a1, c1, mt, rfl, h1.mono At_TopologyDescriptionSubtopology.mono hle, h2.mono At_TopologyDescriptionGlobalStore.mono hle, h3.mono hle⟩
def At_StreamsGroupTopologyDescriptionUpdateRequest (ver : Int) (H : Fz) (T : Tr) (cs : List Value) : Prop := ∃ (a3_0 : Option Addr) (c3_0 : Nat) (a3_1 : Option Addr) (c3_1 : Nat) (m3_t : Option Nat) (mt : Option Nat), cs = [.int .i16 ver, .string ⟨(T.at 0).s.toArray⟩, .string ⟨(T.at 1).s.toArray⟩, .int .i32 (IntKind.i32.wrap (T.at 2).n), .slice a3_0 (lT ((T.at 3).at 0)).length c3_0, .slice a3_1 (lT ((T.at 3).at 1)).length c3_1, .map m3_t, .map mt] ∧ ListAt H ((T.at 3).at 0) 3 At_TopologyDescriptionSubtopology a3_0 c3_0 ∧ ListAt H ((T.at 3).at 1) 15 At_TopologyDescriptionGlobalStore a3_1 c3_1 ∧ KvAt H m3_t (T.at 3).u ∧ KvAt H mt T.u
theorem At_StreamsGroupTopologyDescriptionUpdateRequest.ok {ver : Int} {H : Fz} {T : Tr} {cs : List Value} (h : At_StreamsGroupTopologyDescriptionUpdateRequest ver H T cs) : cs.length = 8 ∧ ∀ u ∈ cs, u.oneCell' = true := by
  obtain ⟨a3_0, c3_0, a3_1, c3_1, m3_t, mt, rfl, h1, h2, h3, h4⟩ := h
  refine ⟨rfl, ?_⟩
  intro u hu
  simp only [List.mem_cons, List.not_mem_nil, or_false] at hu
  rcases hu with rfl | rfl | rfl | rfl | rfl | rfl | rfl | rfl <;> rfl
theorem At_StreamsGroupTopologyDescriptionUpdateRequest.mono (ver : Int) : RMono (At_StreamsGroupTopologyDescriptionUpdateRequest ver) := by
  intro H H' T cs hle h
  obtain ⟨a3_0, c3_0, a3_1, c3_1, m3_t, mt, rfl, h1, h2, h3, h4⟩ := h
  exact ⟨a3_0, c3_0, a3_1, c3_1, m3_t, mt, rfl, h1.mono At_TopologyDescriptionSubtopology.mono hle, h2.mono At_TopologyDescriptionGlobalStore.mono hle, h3.mono hle, h4.mono hle⟩
end Go.Sx
