import Derived.Test.YthegbjcccjpbcaaGreatDoorSxTab
import Derived.Test.YthegbjcccjpbcaaGreatDoorAMetadataResponse
import Derived.KernelRfl
set_option linter.unusedVariables false
set_option linter.unusedSimpArgs false
set_option maxRecDepth 100000
set_option maxHeartbeats 20000000
namespace Go.Sx
open Go.Proofs
def At_MetadataResponseBroker (H : Fz) (T : Tr) (cs : List Value) : Prop := ∃ (p3 : Option Addr) (mt : Option Nat), cs = [.int .i32 (IntKind.i32.wrap (T.at 0).n), .string ⟨(T.at 1).s.toArray⟩, .int .i32 (IntKind.i32.wrap (T.at 2).n), .pointer p3, .map mt] ∧ TextAt H (T.at 3) p3 ∧ KvAt H mt T.u
theorem At_MetadataResponseBroker.ok {H : Fz} {T : Tr} {cs : List Value} (h : At_MetadataResponseBroker H T cs) : cs.length = 5 ∧ ∀ u ∈ cs, u.oneCell' = true := by
 obtain ⟨p3, mt, rfl, h1, h2⟩ := h
 refine ⟨rfl, ?_⟩
 intro u hu
 simp only [List.mem_cons, List.not_mem_nil, or_false] at hu
 rcases hu with rfl | rfl | rfl | rfl | rfl <;> rfl
theorem At_MetadataResponseBroker.mono : RMono (At_MetadataResponseBroker) := by
 intro H H' T cs hle h
 obtain ⟨p3, mt, rfl, h1, h2⟩ := h
 exact ⟨p3, mt, rfl, h1.mono hle, h2.mono hle⟩
def At_MetadataResponseTopicPartition (H : Fz) (T : Tr) (cs : List Value) : Prop := ∃ (a4 : Option Addr) (c4 : Nat) (a5 : Option Addr) (c5 : Nat) (a6 : Option Addr) (c6 : Nat) (mt : Option Nat), cs = [.int .i16 (IntKind.i16.wrap (T.at 0).n), .int .i32 (IntKind.i32.wrap (T.at 1).n), .int .i32 (IntKind.i32.wrap (T.at 2).n), .int .i32 (IntKind.i32.wrap (T.at 3).n), .slice a4 (lT (T.at 4)).length c4, .slice a5 (lT (T.at 5)).length c5, .slice a6 (lT (T.at 6)).length c6, .map mt] ∧ ListAt H (T.at 4) 1 RI32 a4 c4 ∧ ListAt H (T.at 5) 1 RI32 a5 c5 ∧ ListAt H (T.at 6) 1 RI32 a6 c6 ∧ KvAt H mt T.u
theorem At_MetadataResponseTopicPartition.ok {H : Fz} {T : Tr} {cs : List Value} (h : At_MetadataResponseTopicPartition H T cs) : cs.length = 8 ∧ ∀ u ∈ cs, u.oneCell' = true := by
 obtain ⟨a4, c4, a5, c5, a6, c6, mt, rfl, h1, h2, h3, h4⟩ := h
 refine ⟨rfl, ?_⟩
 intro u hu
 simp only [List.mem_cons, List.not_mem_nil, or_false] at hu
 rcases hu with rfl | rfl | rfl | rfl | rfl | rfl | rfl | rfl <;> rfl
theorem At_MetadataResponseTopicPartition.mono : RMono (At_MetadataResponseTopicPartition) := by
 intro H H' T cs hle h
 obtain ⟨a4, c4, a5, c5, a6, c6, mt, rfl, h1, h2, h3, h4⟩ := h
 exact ⟨a4, c4, a5, c5, a6, c6, mt, rfl, h1.mono RI32.mono hle, h2.mono RI32.mono hle, h3.mono RI32.mono hle, h4.mono hle⟩
def At_MetadataResponseTopic (H : Fz) (T : Tr) (cs : List Value) : Prop := ∃ (p1 : Option Addr) (a4 : Option Addr) (c4 : Nat) (mt : Option Nat), cs = [.int .i16 (IntKind.i16.wrap (T.at 0).n), .pointer p1, ub (T.at 2).s 0, ub (T.at 2).s 1, ub (T.at 2).s 2, ub (T.at 2).s 3, ub (T.at 2).s 4, ub (T.at 2).s 5, ub (T.at 2).s 6, ub (T.at 2).s 7, ub (T.at 2).s 8, ub (T.at 2).s 9, ub (T.at 2).s 10, ub (T.at 2).s 11, ub (T.at 2).s 12, ub (T.at 2).s 13, ub (T.at 2).s 14, ub (T.at 2).s 15, .bool (decide ((T.at 3).n % 2 = 1)), .slice a4 (lT (T.at 4)).length c4, .int .i32 (IntKind.i32.wrap (T.at 5).n), .map mt] ∧ TextAt H (T.at 1) p1 ∧ ListAt H (T.at 4) 8 At_MetadataResponseTopicPartition a4 c4 ∧ KvAt H mt T.u
theorem At_MetadataResponseTopic.ok {H : Fz} {T : Tr} {cs : List Value} (h : At_MetadataResponseTopic H T cs) : cs.length = 22 ∧ ∀ u ∈ cs, u.oneCell' = true := by
 obtain ⟨p1, a4, c4, mt, rfl, h1, h2, h3⟩ := h
 refine ⟨rfl, ?_⟩
 intro u hu
 simp only [List.mem_cons, List.not_mem_nil, or_false] at hu
 rcases hu with rfl | rfl | rfl | rfl | rfl | rfl | rfl | rfl | rfl | rfl | rfl | rfl | rfl | rfl | rfl | rfl | rfl | rfl | rfl | rfl | rfl | rfl <;> rfl
theorem At_MetadataResponseTopic.mono : RMono (At_MetadataResponseTopic) := by
 intro H H' T cs hle h
 obtain ⟨p1, a4, c4, mt, rfl, h1, h2, h3⟩ := h
 exact ⟨p1, a4, c4, mt, rfl, h1.mono hle, h2.mono At_MetadataResponseTopicPartition.mono hle, h3.mono hle⟩
def At_MetadataResponse (ver : Int) (H : Fz) (T : Tr) (cs : List Value) : Prop := ∃ (a1 : Option Addr) (c1 : Nat) (p2 : Option Addr) (a4 : Option Addr) (c4 : Nat) (mt : Option Nat), cs = [.int .i16 ver, .int .i32 (IntKind.i32.wrap (T.at 0).n), .slice a1 (lT (T.at 1)).length c1, .pointer p2, .int .i32 (IntKind.i32.wrap (T.at 3).n), .slice a4 (lT (T.at 4)).length c4, .int .i32 (IntKind.i32.wrap (T.at 5).n), .int .i16 (IntKind.i16.wrap (T.at 6).n), .map mt] ∧ ListAt H (T.at 1) 5 At_MetadataResponseBroker a1 c1 ∧ TextAt H (T.at 2) p2 ∧ ListAt H (T.at 4) 22 At_MetadataResponseTopic a4 c4 ∧ KvAt H mt T.u
theorem At_MetadataResponse.ok {ver : Int} {H : Fz} {T : Tr} {cs : List Value} (h : At_MetadataResponse ver H T cs) : cs.length = 9 ∧ ∀ u ∈ cs, u.oneCell' = true := by
 obtain ⟨a1, c1, p2, a4, c4, mt, rfl, h1, h2, h3, h4⟩ := h
 refine ⟨rfl, ?_⟩
 intro u hu
 simp only [List.mem_cons, List.not_mem_nil, or_false] at hu
 rcases hu with rfl | rfl | rfl | rfl | rfl | rfl | rfl | rfl | rfl <;> rfl
theorem At_MetadataResponse.mono (ver : Int) : RMono (At_MetadataResponse ver) := by
 intro H H' T cs hle h
 obtain ⟨a1, c1, p2, a4, c4, mt, rfl, h1, h2, h3, h4⟩ := h
 exact ⟨a1, c1, p2, a4, c4, mt, rfl, h1.mono At_MetadataResponseBroker.mono hle, h2.mono hle, h3.mono At_MetadataResponseTopic.mono hle, h4.mono hle⟩
end Go.Sx
