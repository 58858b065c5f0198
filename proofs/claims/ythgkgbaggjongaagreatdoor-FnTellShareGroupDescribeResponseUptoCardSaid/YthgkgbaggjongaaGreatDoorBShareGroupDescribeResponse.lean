import Derived.Test.YthgkgbaggjongaaGreatDoorSxTab
import Derived.Test.YthgkgbaggjongaaGreatDoorAShareGroupDescribeResponse
import Derived.KernelRfl
set_option linter.unusedVariables false
set_option linter.unusedSimpArgs false
set_option maxRecDepth 100000
set_option maxHeartbeats 20000000
namespace Go.Sx
open Go.Proofs
def At_ShareGroupDescribeResponseGroupMemberAssignmentTopicPartition (H : Fz) (T : Tr) (cs : List Value) : Prop := ∃ (a2 : Option Addr) (c2 : Nat) (mt : Option Nat), cs = [ub (T.at 0).s 0, ub (T.at 0).s 1, ub (T.at 0).s 2, ub (T.at 0).s 3, ub (T.at 0).s 4, ub (T.at 0).s 5, ub (T.at 0).s 6, ub (T.at 0).s 7, ub (T.at 0).s 8, ub (T.at 0).s 9, ub (T.at 0).s 10, ub (T.at 0).s 11, ub (T.at 0).s 12, ub (T.at 0).s 13, ub (T.at 0).s 14, ub (T.at 0).s 15, .string ⟨(T.at 1).s.toArray⟩, .slice a2 (lT (T.at 2)).length c2, .map mt] ∧ ListAt H (T.at 2) 1 RI32 a2 c2 ∧ KvAt H mt T.u
theorem At_ShareGroupDescribeResponseGroupMemberAssignmentTopicPartition.ok {H : Fz} {T : Tr} {cs : List Value} (h : At_ShareGroupDescribeResponseGroupMemberAssignmentTopicPartition H T cs) : cs.length = 19 ∧ ∀ u ∈ cs, u.oneCell' = true := by
 obtain ⟨a2, c2, mt, rfl, h1, h2⟩ := h
 refine ⟨rfl, ?_⟩
 intro u hu
 simp only [List.mem_cons, List.not_mem_nil, or_false] at hu
 rcases hu with rfl | rfl | rfl | rfl | rfl | rfl | rfl | rfl | rfl | rfl | rfl | rfl | rfl | rfl | rfl | rfl | rfl | rfl | rfl <;> rfl
theorem At_ShareGroupDescribeResponseGroupMemberAssignmentTopicPartition.mono : RMono (At_ShareGroupDescribeResponseGroupMemberAssignmentTopicPartition) := by
 intro H H' T cs hle h
 obtain ⟨a2, c2, mt, rfl, h1, h2⟩ := h
 exact ⟨a2, c2, mt, rfl, h1.mono RI32.mono hle, h2.mono hle⟩
def At_ShareGroupDescribeResponseGroupMemberAssignment (H : Fz) (T : Tr) (cs : List Value) : Prop := ∃ (a0 : Option Addr) (c0 : Nat) (mt : Option Nat), cs = [.slice a0 (lT (T.at 0)).length c0, .map mt] ∧ ListAt H (T.at 0) 19 At_ShareGroupDescribeResponseGroupMemberAssignmentTopicPartition a0 c0 ∧ KvAt H mt T.u
theorem At_ShareGroupDescribeResponseGroupMemberAssignment.ok {H : Fz} {T : Tr} {cs : List Value} (h : At_ShareGroupDescribeResponseGroupMemberAssignment H T cs) : cs.length = 2 ∧ ∀ u ∈ cs, u.oneCell' = true := by
 obtain ⟨a0, c0, mt, rfl, h1, h2⟩ := h
 refine ⟨rfl, ?_⟩
 intro u hu
 simp only [List.mem_cons, List.not_mem_nil, or_false] at hu
 rcases hu with rfl | rfl <;> rfl
theorem At_ShareGroupDescribeResponseGroupMemberAssignment.mono : RMono (At_ShareGroupDescribeResponseGroupMemberAssignment) := by
 intro H H' T cs hle h
 obtain ⟨a0, c0, mt, rfl, h1, h2⟩ := h
 exact ⟨a0, c0, mt, rfl, h1.mono At_ShareGroupDescribeResponseGroupMemberAssignmentTopicPartition.mono hle, h2.mono hle⟩
def At_ShareGroupDescribeResponseGroupMember (H : Fz) (T : Tr) (cs : List Value) : Prop := ∃ (p1 : Option Addr) (a5 : Option Addr) (c5 : Nat) (a6_0 : Option Addr) (c6_0 : Nat) (m6_t : Option Nat) (mt : Option Nat), cs = [.string ⟨(T.at 0).s.toArray⟩, .pointer p1, .int .i32 (IntKind.i32.wrap (T.at 2).n), .string ⟨(T.at 3).s.toArray⟩, .string ⟨(T.at 4).s.toArray⟩, .slice a5 (lT (T.at 5)).length c5, .slice a6_0 (lT ((T.at 6).at 0)).length c6_0, .map m6_t, .map mt] ∧ TextAt H (T.at 1) p1 ∧ ListAt H (T.at 5) 1 RText a5 c5 ∧ ListAt H ((T.at 6).at 0) 19 At_ShareGroupDescribeResponseGroupMemberAssignmentTopicPartition a6_0 c6_0 ∧ KvAt H m6_t (T.at 6).u ∧ KvAt H mt T.u
theorem At_ShareGroupDescribeResponseGroupMember.ok {H : Fz} {T : Tr} {cs : List Value} (h : At_ShareGroupDescribeResponseGroupMember H T cs) : cs.length = 9 ∧ ∀ u ∈ cs, u.oneCell' = true := by
 obtain ⟨p1, a5, c5, a6_0, c6_0, m6_t, mt, rfl, h1, h2, h3, h4, h5⟩ := h
 refine ⟨rfl, ?_⟩
 intro u hu
 simp only [List.mem_cons, List.not_mem_nil, or_false] at hu
 rcases hu with rfl | rfl | rfl | rfl | rfl | rfl | rfl | rfl | rfl <;> rfl
theorem At_ShareGroupDescribeResponseGroupMember.mono : RMono (At_ShareGroupDescribeResponseGroupMember) := by
 intro H H' T cs hle h
 obtain ⟨p1, a5, c5, a6_0, c6_0, m6_t, mt, rfl, h1, h2, h3, h4, h5⟩ := h
 exact ⟨p1, a5, c5, a6_0, c6_0, m6_t, mt, rfl, h1.mono hle, h2.mono RText.mono hle, h3.mono At_ShareGroupDescribeResponseGroupMemberAssignmentTopicPartition.mono hle, h4.mono hle, h5.mono hle⟩
def At_ShareGroupDescribeResponseGroup (H : Fz) (T : Tr) (cs : List Value) : Prop := ∃ (p1 : Option Addr) (a7 : Option Addr) (c7 : Nat) (mt : Option Nat), cs = [.int .i16 (IntKind.i16.wrap (T.at 0).n), .pointer p1, .string ⟨(T.at 2).s.toArray⟩, .string ⟨(T.at 3).s.toArray⟩, .int .i32 (IntKind.i32.wrap (T.at 4).n), .int .i32 (IntKind.i32.wrap (T.at 5).n), .string ⟨(T.at 6).s.toArray⟩, .slice a7 (lT (T.at 7)).length c7, .int .i32 (IntKind.i32.wrap (T.at 8).n), .map mt] ∧ TextAt H (T.at 1) p1 ∧ ListAt H (T.at 7) 9 At_ShareGroupDescribeResponseGroupMember a7 c7 ∧ KvAt H mt T.u
theorem At_ShareGroupDescribeResponseGroup.ok {H : Fz} {T : Tr} {cs : List Value} (h : At_ShareGroupDescribeResponseGroup H T cs) : cs.length = 10 ∧ ∀ u ∈ cs, u.oneCell' = true := by
 obtain ⟨p1, a7, c7, mt, rfl, h1, h2, h3⟩ := h
 refine ⟨rfl, ?_⟩
 intro u hu
 simp only [List.mem_cons, List.not_mem_nil, or_false] at hu
 rcases hu with rfl | rfl | rfl | rfl | rfl | rfl | rfl | rfl | rfl | rfl <;> rfl
theorem At_ShareGroupDescribeResponseGroup.mono : RMono (At_ShareGroupDescribeResponseGroup) := by
 intro H H' T cs hle h
 obtain ⟨p1, a7, c7, mt, rfl, h1, h2, h3⟩ := h
 exact ⟨p1, a7, c7, mt, rfl, h1.mono hle, h2.mono At_ShareGroupDescribeResponseGroupMember.mono hle, h3.mono hle⟩
def At_ShareGroupDescribeResponse (ver : Int) (H : Fz) (T : Tr) (cs : List Value) : Prop := ∃ (a1 : Option Addr) (c1 : Nat) (mt : Option Nat), cs = [.int .i16 ver, .int .i32 (IntKind.i32.wrap (T.at 0).n), .slice a1 (lT (T.at 1)).length c1, .map mt] ∧ ListAt H (T.at 1) 10 At_ShareGroupDescribeResponseGroup a1 c1 ∧ KvAt H mt T.u
theorem At_ShareGroupDescribeResponse.ok {ver : Int} {H : Fz} {T : Tr} {cs : List Value} (h : At_ShareGroupDescribeResponse ver H T cs) : cs.length = 4 ∧ ∀ u ∈ cs, u.oneCell' = true := by
 obtain ⟨a1, c1, mt, rfl, h1, h2⟩ := h
 refine ⟨rfl, ?_⟩
 intro u hu
 simp only [List.mem_cons, List.not_mem_nil, or_false] at hu
 rcases hu with rfl | rfl | rfl | rfl <;> rfl
theorem At_ShareGroupDescribeResponse.mono (ver : Int) : RMono (At_ShareGroupDescribeResponse ver) := by
 intro H H' T cs hle h
 obtain ⟨a1, c1, mt, rfl, h1, h2⟩ := h
 exact ⟨a1, c1, mt, rfl, h1.mono At_ShareGroupDescribeResponseGroup.mono hle, h2.mono hle⟩
end Go.Sx
