import Derived.Test.YthgkgbaggjongaaGreatDoorSxTab
import Derived.Test.YthgkgbaggjongaaGreatDoorAAddPartitionsToTxnResponse
import Derived.KernelRfl
set_option linter.unusedVariables false
set_option linter.unusedSimpArgs false
set_option maxRecDepth 100000
set_option maxHeartbeats 20000000
namespace Go.Sx
open Go.Proofs
def At_AddPartitionsToTxnResponseTransactionTopicPartition (H : Fz) (T : Tr) (cs : List Value) : Prop := ∃ (mt : Option Nat), cs = [.int .i32 (IntKind.i32.wrap (T.at 0).n), .int .i16 (IntKind.i16.wrap (T.at 1).n), .map mt] ∧ KvAt H mt T.u
theorem At_AddPartitionsToTxnResponseTransactionTopicPartition.ok {H : Fz} {T : Tr} {cs : List Value} (h : At_AddPartitionsToTxnResponseTransactionTopicPartition H T cs) : cs.length = 3 ∧ ∀ u ∈ cs, u.oneCell' = true := by
 obtain ⟨mt, rfl, h1⟩ := h
 refine ⟨rfl, ?_⟩
 intro u hu
 simp only [List.mem_cons, List.not_mem_nil, or_false] at hu
 rcases hu with rfl | rfl | rfl <;> rfl
theorem At_AddPartitionsToTxnResponseTransactionTopicPartition.mono : RMono (At_AddPartitionsToTxnResponseTransactionTopicPartition) := by
 intro H H' T cs hle h
 obtain ⟨mt, rfl, h1⟩ := h
 exact ⟨mt, rfl, h1.mono hle⟩
def At_AddPartitionsToTxnResponseTransactionTopic (H : Fz) (T : Tr) (cs : List Value) : Prop := ∃ (a1 : Option Addr) (c1 : Nat) (mt : Option Nat), cs = [.string ⟨(T.at 0).s.toArray⟩, .slice a1 (lT (T.at 1)).length c1, .map mt] ∧ ListAt H (T.at 1) 3 At_AddPartitionsToTxnResponseTransactionTopicPartition a1 c1 ∧ KvAt H mt T.u
theorem At_AddPartitionsToTxnResponseTransactionTopic.ok {H : Fz} {T : Tr} {cs : List Value} (h : At_AddPartitionsToTxnResponseTransactionTopic H T cs) : cs.length = 3 ∧ ∀ u ∈ cs, u.oneCell' = true := by
 obtain ⟨a1, c1, mt, rfl, h1, h2⟩ := h
 refine ⟨rfl, ?_⟩
 intro u hu
 simp only [List.mem_cons, List.not_mem_nil, or_false] at hu
 rcases hu with rfl | rfl | rfl <;> rfl
theorem At_AddPartitionsToTxnResponseTransactionTopic.mono : RMono (At_AddPartitionsToTxnResponseTransactionTopic) := by
 intro H H' T cs hle h
 obtain ⟨a1, c1, mt, rfl, h1, h2⟩ := h
 exact ⟨a1, c1, mt, rfl, h1.mono At_AddPartitionsToTxnResponseTransactionTopicPartition.mono hle, h2.mono hle⟩
def At_AddPartitionsToTxnResponseTransaction (H : Fz) (T : Tr) (cs : List Value) : Prop := ∃ (a1 : Option Addr) (c1 : Nat) (mt : Option Nat), cs = [.string ⟨(T.at 0).s.toArray⟩, .slice a1 (lT (T.at 1)).length c1, .map mt] ∧ ListAt H (T.at 1) 3 At_AddPartitionsToTxnResponseTransactionTopic a1 c1 ∧ KvAt H mt T.u
theorem At_AddPartitionsToTxnResponseTransaction.ok {H : Fz} {T : Tr} {cs : List Value} (h : At_AddPartitionsToTxnResponseTransaction H T cs) : cs.length = 3 ∧ ∀ u ∈ cs, u.oneCell' = true := by
 obtain ⟨a1, c1, mt, rfl, h1, h2⟩ := h
 refine ⟨rfl, ?_⟩
 intro u hu
 simp only [List.mem_cons, List.not_mem_nil, or_false] at hu
 rcases hu with rfl | rfl | rfl <;> rfl
theorem At_AddPartitionsToTxnResponseTransaction.mono : RMono (At_AddPartitionsToTxnResponseTransaction) := by
 intro H H' T cs hle h
 obtain ⟨a1, c1, mt, rfl, h1, h2⟩ := h
 exact ⟨a1, c1, mt, rfl, h1.mono At_AddPartitionsToTxnResponseTransactionTopic.mono hle, h2.mono hle⟩
def At_AddPartitionsToTxnResponseTopicPartition (H : Fz) (T : Tr) (cs : List Value) : Prop := ∃ (mt : Option Nat), cs = [.int .i32 (IntKind.i32.wrap (T.at 0).n), .int .i16 (IntKind.i16.wrap (T.at 1).n), .map mt] ∧ KvAt H mt T.u
theorem At_AddPartitionsToTxnResponseTopicPartition.ok {H : Fz} {T : Tr} {cs : List Value} (h : At_AddPartitionsToTxnResponseTopicPartition H T cs) : cs.length = 3 ∧ ∀ u ∈ cs, u.oneCell' = true := by
 obtain ⟨mt, rfl, h1⟩ := h
 refine ⟨rfl, ?_⟩
 intro u hu
 simp only [List.mem_cons, List.not_mem_nil, or_false] at hu
 rcases hu with rfl | rfl | rfl <;> rfl
theorem At_AddPartitionsToTxnResponseTopicPartition.mono : RMono (At_AddPartitionsToTxnResponseTopicPartition) := by
 intro H H' T cs hle h
 obtain ⟨mt, rfl, h1⟩ := h
 exact ⟨mt, rfl, h1.mono hle⟩
def At_AddPartitionsToTxnResponseTopic (H : Fz) (T : Tr) (cs : List Value) : Prop := ∃ (a1 : Option Addr) (c1 : Nat) (mt : Option Nat), cs = [.string ⟨(T.at 0).s.toArray⟩, .slice a1 (lT (T.at 1)).length c1, .map mt] ∧ ListAt H (T.at 1) 3 At_AddPartitionsToTxnResponseTopicPartition a1 c1 ∧ KvAt H mt T.u
theorem At_AddPartitionsToTxnResponseTopic.ok {H : Fz} {T : Tr} {cs : List Value} (h : At_AddPartitionsToTxnResponseTopic H T cs) : cs.length = 3 ∧ ∀ u ∈ cs, u.oneCell' = true := by
 obtain ⟨a1, c1, mt, rfl, h1, h2⟩ := h
 refine ⟨rfl, ?_⟩
 intro u hu
 simp only [List.mem_cons, List.not_mem_nil, or_false] at hu
 rcases hu with rfl | rfl | rfl <;> rfl
theorem At_AddPartitionsToTxnResponseTopic.mono : RMono (At_AddPartitionsToTxnResponseTopic) := by
 intro H H' T cs hle h
 obtain ⟨a1, c1, mt, rfl, h1, h2⟩ := h
 exact ⟨a1, c1, mt, rfl, h1.mono At_AddPartitionsToTxnResponseTopicPartition.mono hle, h2.mono hle⟩
def At_AddPartitionsToTxnResponse (ver : Int) (H : Fz) (T : Tr) (cs : List Value) : Prop := ∃ (a2 : Option Addr) (c2 : Nat) (a3 : Option Addr) (c3 : Nat) (mt : Option Nat), cs = [.int .i16 ver, .int .i32 (IntKind.i32.wrap (T.at 0).n), .int .i16 (IntKind.i16.wrap (T.at 1).n), .slice a2 (lT (T.at 2)).length c2, .slice a3 (lT (T.at 3)).length c3, .map mt] ∧ ListAt H (T.at 2) 3 At_AddPartitionsToTxnResponseTransaction a2 c2 ∧ ListAt H (T.at 3) 3 At_AddPartitionsToTxnResponseTopic a3 c3 ∧ KvAt H mt T.u
theorem At_AddPartitionsToTxnResponse.ok {ver : Int} {H : Fz} {T : Tr} {cs : List Value} (h : At_AddPartitionsToTxnResponse ver H T cs) : cs.length = 6 ∧ ∀ u ∈ cs, u.oneCell' = true := by
 obtain ⟨a2, c2, a3, c3, mt, rfl, h1, h2, h3⟩ := h
 refine ⟨rfl, ?_⟩
 intro u hu
 simp only [List.mem_cons, List.not_mem_nil, or_false] at hu
 rcases hu with rfl | rfl | rfl | rfl | rfl | rfl <;> rfl
theorem At_AddPartitionsToTxnResponse.mono (ver : Int) : RMono (At_AddPartitionsToTxnResponse ver) := by
 intro H H' T cs hle h
 obtain ⟨a2, c2, a3, c3, mt, rfl, h1, h2, h3⟩ := h
 exact ⟨a2, c2, a3, c3, mt, rfl, h1.mono At_AddPartitionsToTxnResponseTransaction.mono hle, h2.mono At_AddPartitionsToTxnResponseTopic.mono hle, h3.mono hle⟩
end Go.Sx
