import Derived.Test.YtpcgaheplmiglaaGreatAFetchResponse
import Derived.Test.YtpcgaheplmiglaaGreatKvN
import Derived.KernelRfl
set_option linter.unusedVariables false
set_option linter.unusedSimpArgs false
set_option maxRecDepth 100000
set_option maxHeartbeats 20000000
namespace Go.Sx
open Go.Proofs
def At_FetchResponseTopicPartitionDivergingEpoch (H : Fz) (T : Tr) (cs : List Value) : Prop := ∃ (mt : Option Nat), cs = [.int .i32 (IntKind.i32.wrap (T.at 0).n), .int .i64 (T.at 1).n, .map mt] ∧ KvAtN H mt T.u
theorem At_FetchResponseTopicPartitionDivergingEpoch.ok {H : Fz} {T : Tr} {cs : List Value} (h : At_FetchResponseTopicPartitionDivergingEpoch H T cs) : cs.length = 3 ∧ ∀ u ∈ cs, u.oneCell' = true := by
 obtain ⟨mt, rfl, h1⟩ := h
 refine ⟨rfl, ?_⟩
 intro u hu
 simp only [List.mem_cons, List.not_mem_nil, or_false] at hu
 rcases hu with rfl | rfl | rfl <;> rfl
theorem At_FetchResponseTopicPartitionDivergingEpoch.mono : RMono (At_FetchResponseTopicPartitionDivergingEpoch) := by
 intro H H' T cs hle h
 obtain ⟨mt, rfl, h1⟩ := h
 exact ⟨mt, rfl, h1.mono hle⟩
def At_FetchResponseTopicPartitionCurrentLeader (H : Fz) (T : Tr) (cs : List Value) : Prop := ∃ (mt : Option Nat), cs = [.int .i32 (IntKind.i32.wrap (T.at 0).n), .int .i32 (IntKind.i32.wrap (T.at 1).n), .map mt] ∧ KvAtN H mt T.u
theorem At_FetchResponseTopicPartitionCurrentLeader.ok {H : Fz} {T : Tr} {cs : List Value} (h : At_FetchResponseTopicPartitionCurrentLeader H T cs) : cs.length = 3 ∧ ∀ u ∈ cs, u.oneCell' = true := by
 obtain ⟨mt, rfl, h1⟩ := h
 refine ⟨rfl, ?_⟩
 intro u hu
 simp only [List.mem_cons, List.not_mem_nil, or_false] at hu
 rcases hu with rfl | rfl | rfl <;> rfl
theorem At_FetchResponseTopicPartitionCurrentLeader.mono : RMono (At_FetchResponseTopicPartitionCurrentLeader) := by
 intro H H' T cs hle h
 obtain ⟨mt, rfl, h1⟩ := h
 exact ⟨mt, rfl, h1.mono hle⟩
def At_FetchResponseTopicPartitionSnapshotID (H : Fz) (T : Tr) (cs : List Value) : Prop := ∃ (mt : Option Nat), cs = [.int .i64 (T.at 0).n, .int .i32 (IntKind.i32.wrap (T.at 1).n), .map mt] ∧ KvAtN H mt T.u
theorem At_FetchResponseTopicPartitionSnapshotID.ok {H : Fz} {T : Tr} {cs : List Value} (h : At_FetchResponseTopicPartitionSnapshotID H T cs) : cs.length = 3 ∧ ∀ u ∈ cs, u.oneCell' = true := by
 obtain ⟨mt, rfl, h1⟩ := h
 refine ⟨rfl, ?_⟩
 intro u hu
 simp only [List.mem_cons, List.not_mem_nil, or_false] at hu
 rcases hu with rfl | rfl | rfl <;> rfl
theorem At_FetchResponseTopicPartitionSnapshotID.mono : RMono (At_FetchResponseTopicPartitionSnapshotID) := by
 intro H H' T cs hle h
 obtain ⟨mt, rfl, h1⟩ := h
 exact ⟨mt, rfl, h1.mono hle⟩
def At_FetchResponseTopicPartitionAbortedTransaction (H : Fz) (T : Tr) (cs : List Value) : Prop := ∃ (mt : Option Nat), cs = [.int .i64 (T.at 0).n, .int .i64 (T.at 1).n, .map mt] ∧ KvAtN H mt T.u
theorem At_FetchResponseTopicPartitionAbortedTransaction.ok {H : Fz} {T : Tr} {cs : List Value} (h : At_FetchResponseTopicPartitionAbortedTransaction H T cs) : cs.length = 3 ∧ ∀ u ∈ cs, u.oneCell' = true := by
 obtain ⟨mt, rfl, h1⟩ := h
 refine ⟨rfl, ?_⟩
 intro u hu
 simp only [List.mem_cons, List.not_mem_nil, or_false] at hu
 rcases hu with rfl | rfl | rfl <;> rfl
theorem At_FetchResponseTopicPartitionAbortedTransaction.mono : RMono (At_FetchResponseTopicPartitionAbortedTransaction) := by
 intro H H' T cs hle h
 obtain ⟨mt, rfl, h1⟩ := h
 exact ⟨mt, rfl, h1.mono hle⟩
def At_FetchResponseTopicPartition (H : Fz) (T : Tr) (cs : List Value) : Prop := ∃ (m5_t : Option Nat) (m6_t : Option Nat) (m7_t : Option Nat) (a8 : Option Addr) (c8 : Nat) (a10 : Option Addr) (c10 : Nat) (mt : Option Nat), cs = [.int .i32 (IntKind.i32.wrap (T.at 0).n), .int .i16 (IntKind.i16.wrap (T.at 1).n), .int .i64 (T.at 2).n, .int .i64 (T.at 3).n, .int .i64 (T.at 4).n, .int .i32 (IntKind.i32.wrap ((T.at 5).at 0).n), .int .i64 ((T.at 5).at 1).n, .map m5_t, .int .i32 (IntKind.i32.wrap ((T.at 6).at 0).n), .int .i32 (IntKind.i32.wrap ((T.at 6).at 1).n), .map m6_t, .int .i64 ((T.at 7).at 0).n, .int .i32 (IntKind.i32.wrap ((T.at 7).at 1).n), .map m7_t, .slice a8 (lT (T.at 8)).length c8, .int .i32 (IntKind.i32.wrap (T.at 9).n), .slice a10 (sT (T.at 10)).length c10, .map mt] ∧ KvAtN H m5_t (T.at 5).u ∧ KvAtN H m6_t (T.at 6).u ∧ KvAtN H m7_t (T.at 7).u ∧ ListAt H (T.at 8) 3 At_FetchResponseTopicPartitionAbortedTransaction a8 c8 ∧ OctAt H (T.at 10) a10 c10 ∧ KvAtN H mt T.u
theorem At_FetchResponseTopicPartition.ok {H : Fz} {T : Tr} {cs : List Value} (h : At_FetchResponseTopicPartition H T cs) : cs.length = 18 ∧ ∀ u ∈ cs, u.oneCell' = true := by
 obtain ⟨m5_t, m6_t, m7_t, a8, c8, a10, c10, mt, rfl, h1, h2, h3, h4, h5, h6⟩ := h
 refine ⟨rfl, ?_⟩
 intro u hu
 simp only [List.mem_cons, List.not_mem_nil, or_false] at hu
 rcases hu with rfl | rfl | rfl | rfl | rfl | rfl | rfl | rfl | rfl | rfl | rfl | rfl | rfl | rfl | rfl | rfl | rfl | rfl <;> rfl
theorem At_FetchResponseTopicPartition.mono : RMono (At_FetchResponseTopicPartition) := by
 intro H H' T cs hle h
 obtain ⟨m5_t, m6_t, m7_t, a8, c8, a10, c10, mt, rfl, h1, h2, h3, h4, h5, h6⟩ := h
 exact ⟨m5_t, m6_t, m7_t, a8, c8, a10, c10, mt, rfl, h1.mono hle, h2.mono hle, h3.mono hle, h4.mono At_FetchResponseTopicPartitionAbortedTransaction.mono hle, h5.mono hle, h6.mono hle⟩
def At_FetchResponseTopic (H : Fz) (T : Tr) (cs : List Value) : Prop := ∃ (a2 : Option Addr) (c2 : Nat) (mt : Option Nat), cs = [.string ⟨(T.at 0).s.toArray⟩, ub (T.at 1).s 0, ub (T.at 1).s 1, ub (T.at 1).s 2, ub (T.at 1).s 3, ub (T.at 1).s 4, ub (T.at 1).s 5, ub (T.at 1).s 6, ub (T.at 1).s 7, ub (T.at 1).s 8, ub (T.at 1).s 9, ub (T.at 1).s 10, ub (T.at 1).s 11, ub (T.at 1).s 12, ub (T.at 1).s 13, ub (T.at 1).s 14, ub (T.at 1).s 15, .slice a2 (lT (T.at 2)).length c2, .map mt] ∧ ListAt H (T.at 2) 18 At_FetchResponseTopicPartition a2 c2 ∧ KvAtN H mt T.u
theorem At_FetchResponseTopic.ok {H : Fz} {T : Tr} {cs : List Value} (h : At_FetchResponseTopic H T cs) : cs.length = 19 ∧ ∀ u ∈ cs, u.oneCell' = true := by
 obtain ⟨a2, c2, mt, rfl, h1, h2⟩ := h
 refine ⟨rfl, ?_⟩
 intro u hu
 simp only [List.mem_cons, List.not_mem_nil, or_false] at hu
 rcases hu with rfl | rfl | rfl | rfl | rfl | rfl | rfl | rfl | rfl | rfl | rfl | rfl | rfl | rfl | rfl | rfl | rfl | rfl | rfl <;> rfl
theorem At_FetchResponseTopic.mono : RMono (At_FetchResponseTopic) := by
 intro H H' T cs hle h
 obtain ⟨a2, c2, mt, rfl, h1, h2⟩ := h
 exact ⟨a2, c2, mt, rfl, h1.mono At_FetchResponseTopicPartition.mono hle, h2.mono hle⟩
def At_FetchResponseBroker (H : Fz) (T : Tr) (cs : List Value) : Prop := ∃ (p3 : Option Addr) (mt : Option Nat), cs = [.int .i32 (IntKind.i32.wrap (T.at 0).n), .string ⟨(T.at 1).s.toArray⟩, .int .i32 (IntKind.i32.wrap (T.at 2).n), .pointer p3, .map mt] ∧ TextAt H (T.at 3) p3 ∧ KvAtN H mt T.u
theorem At_FetchResponseBroker.ok {H : Fz} {T : Tr} {cs : List Value} (h : At_FetchResponseBroker H T cs) : cs.length = 5 ∧ ∀ u ∈ cs, u.oneCell' = true := by
 obtain ⟨p3, mt, rfl, h1, h2⟩ := h
 refine ⟨rfl, ?_⟩
 intro u hu
 simp only [List.mem_cons, List.not_mem_nil, or_false] at hu
 rcases hu with rfl | rfl | rfl | rfl | rfl <;> rfl
theorem At_FetchResponseBroker.mono : RMono (At_FetchResponseBroker) := by
 intro H H' T cs hle h
 obtain ⟨p3, mt, rfl, h1, h2⟩ := h
 exact ⟨p3, mt, rfl, h1.mono hle, h2.mono hle⟩
def At_FetchResponse (ver : Int) (H : Fz) (T : Tr) (cs : List Value) : Prop := ∃ (a3 : Option Addr) (c3 : Nat) (a4 : Option Addr) (c4 : Nat) (mt : Option Nat), cs = [.int .i16 ver, .int .i32 (IntKind.i32.wrap (T.at 0).n), .int .i16 (IntKind.i16.wrap (T.at 1).n), .int .i32 (IntKind.i32.wrap (T.at 2).n), .slice a3 (lT (T.at 3)).length c3, .slice a4 (lT (T.at 4)).length c4, .map mt] ∧ ListAt H (T.at 3) 19 At_FetchResponseTopic a3 c3 ∧ ListAt H (T.at 4) 5 At_FetchResponseBroker a4 c4 ∧ KvAtN H mt T.u
theorem At_FetchResponse.ok {ver : Int} {H : Fz} {T : Tr} {cs : List Value} (h : At_FetchResponse ver H T cs) : cs.length = 7 ∧ ∀ u ∈ cs, u.oneCell' = true := by
 obtain ⟨a3, c3, a4, c4, mt, rfl, h1, h2, h3⟩ := h
 refine ⟨rfl, ?_⟩
 intro u hu
 simp only [List.mem_cons, List.not_mem_nil, or_false] at hu
 rcases hu with rfl | rfl | rfl | rfl | rfl | rfl | rfl <;> rfl
theorem At_FetchResponse.mono (ver : Int) : RMono (At_FetchResponse ver) := by
 intro H H' T cs hle h
 obtain ⟨a3, c3, a4, c4, mt, rfl, h1, h2, h3⟩ := h
 exact ⟨a3, c3, a4, c4, mt, rfl, h1.mono At_FetchResponseTopic.mono hle, h2.mono At_FetchResponseBroker.mono hle, h3.mono hle⟩
end Go.Sx
