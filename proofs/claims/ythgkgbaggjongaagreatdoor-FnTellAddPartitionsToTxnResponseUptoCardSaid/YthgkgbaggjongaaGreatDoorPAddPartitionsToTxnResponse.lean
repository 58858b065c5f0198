import Derived.Test.YthgkgbaggjongaaGreatDoorDAddPartitionsToTxnResponse
import Derived.Test.YthgkgbaggjongaaGreatDoorTelP
import Derived.KernelRfl
set_option linter.unusedVariables false
set_option linter.unusedSimpArgs false
set_option maxRecDepth 100000
set_option maxHeartbeats 20000000
namespace Go.Sx
open Go.Proofs
theorem tlc_AddPartitionsToTxnResponseTransactionTopicPartition (T : Tr) : tl_AddPartitionsToTxnResponseTransactionTopicPartition T = canP true fs_sAddPartitionsToTxnResponseTransactionTopicPartition T := by
 have e0 : canF true (Fd.mk 3 0 (-1) (-1) (-1) 0 0 []) (T.at 0) = (.mk (IntKind.i32.wrap (T.at 0).n) [] false [] []) := (cFn (by decide) (by decide)).trans cV3
 have e1 : canF true (Fd.mk 2 0 (-1) (-1) (-1) 0 0 []) (T.at 1) = (.mk (IntKind.i16.wrap (T.at 1).n) [] false [] []) := (cFn (by decide) (by decide)).trans cV2
 unfold tl_AddPartitionsToTxnResponseTransactionTopicPartition canP fs_sAddPartitionsToTxnResponseTransactionTopicPartition
 simp only [canFs_cons, canFs_nil, Nat.zero_add, Nat.reduceAdd, e0, e1]
 rfl
theorem tlc_AddPartitionsToTxnResponseTransactionTopic (T : Tr) : tl_AddPartitionsToTxnResponseTransactionTopic T = canP true fs_sAddPartitionsToTxnResponseTransactionTopic T := by
 have e0 : canF true (Fd.mk 8 0 (-1) (-1) (-1) 0 0 []) (T.at 0) = (.mk 0 (T.at 0).s false [] []) := (cFn (by decide) (by decide)).trans cV8
 have g1 : canV 10 (canP true fs_sAddPartitionsToTxnResponseTransactionTopicPartition) = tl_AddPartitionsToTxnResponseTransactionTopicPartition := funext fun y => (cV10 (sub := canP true fs_sAddPartitionsToTxnResponseTransactionTopicPartition)).trans (tlc_AddPartitionsToTxnResponseTransactionTopicPartition y).symm
 have e1 : canF true (Fd.mk 11 0 (-1) (-1) (-1) 0 10 fs_sAddPartitionsToTxnResponseTransactionTopicPartition) (T.at 1) = (.mk 0 [] (T.at 1).nul ((lT (T.at 1)).map tl_AddPartitionsToTxnResponseTransactionTopicPartition) []) := (cF11 rfl).trans (by rw [show canV (Fd.of (Fd.mk 11 0 (-1) (-1) (-1) 0 10 fs_sAddPartitionsToTxnResponseTransactionTopicPartition)) (canP true (Fd.sub (Fd.mk 11 0 (-1) (-1) (-1) 0 10 fs_sAddPartitionsToTxnResponseTransactionTopicPartition))) = tl_AddPartitionsToTxnResponseTransactionTopicPartition from g1])
 unfold tl_AddPartitionsToTxnResponseTransactionTopic canP fs_sAddPartitionsToTxnResponseTransactionTopic
 simp only [canFs_cons, canFs_nil, Nat.zero_add, Nat.reduceAdd, e0, e1]
 rfl
theorem tlc_AddPartitionsToTxnResponseTransaction (T : Tr) : tl_AddPartitionsToTxnResponseTransaction T = canP true fs_sAddPartitionsToTxnResponseTransaction T := by
 have e0 : canF true (Fd.mk 8 0 (-1) (-1) (-1) 0 0 []) (T.at 0) = (.mk 0 (T.at 0).s false [] []) := (cFn (by decide) (by decide)).trans cV8
 have g1 : canV 10 (canP true fs_sAddPartitionsToTxnResponseTransactionTopic) = tl_AddPartitionsToTxnResponseTransactionTopic := funext fun y => (cV10 (sub := canP true fs_sAddPartitionsToTxnResponseTransactionTopic)).trans (tlc_AddPartitionsToTxnResponseTransactionTopic y).symm
 have e1 : canF true (Fd.mk 11 0 (-1) (-1) (-1) 0 10 fs_sAddPartitionsToTxnResponseTransactionTopic) (T.at 1) = (.mk 0 [] (T.at 1).nul ((lT (T.at 1)).map tl_AddPartitionsToTxnResponseTransactionTopic) []) := (cF11 rfl).trans (by rw [show canV (Fd.of (Fd.mk 11 0 (-1) (-1) (-1) 0 10 fs_sAddPartitionsToTxnResponseTransactionTopic)) (canP true (Fd.sub (Fd.mk 11 0 (-1) (-1) (-1) 0 10 fs_sAddPartitionsToTxnResponseTransactionTopic))) = tl_AddPartitionsToTxnResponseTransactionTopic from g1])
 unfold tl_AddPartitionsToTxnResponseTransaction canP fs_sAddPartitionsToTxnResponseTransaction
 simp only [canFs_cons, canFs_nil, Nat.zero_add, Nat.reduceAdd, e0, e1]
 rfl
theorem tlc_AddPartitionsToTxnResponseTopicPartition (T : Tr) : tl_AddPartitionsToTxnResponseTopicPartition T = canP true fs_sAddPartitionsToTxnResponseTopicPartition T := by
 have e0 : canF true (Fd.mk 3 0 (-1) (-1) (-1) 0 0 []) (T.at 0) = (.mk (IntKind.i32.wrap (T.at 0).n) [] false [] []) := (cFn (by decide) (by decide)).trans cV3
 have e1 : canF true (Fd.mk 2 0 (-1) (-1) (-1) 0 0 []) (T.at 1) = (.mk (IntKind.i16.wrap (T.at 1).n) [] false [] []) := (cFn (by decide) (by decide)).trans cV2
 unfold tl_AddPartitionsToTxnResponseTopicPartition canP fs_sAddPartitionsToTxnResponseTopicPartition
 simp only [canFs_cons, canFs_nil, Nat.zero_add, Nat.reduceAdd, e0, e1]
 rfl
theorem tlc_AddPartitionsToTxnResponseTopic (T : Tr) : tl_AddPartitionsToTxnResponseTopic T = canP true fs_sAddPartitionsToTxnResponseTopic T := by
 have e0 : canF true (Fd.mk 8 0 (-1) (-1) (-1) 0 0 []) (T.at 0) = (.mk 0 (T.at 0).s false [] []) := (cFn (by decide) (by decide)).trans cV8
 have g1 : canV 10 (canP true fs_sAddPartitionsToTxnResponseTopicPartition) = tl_AddPartitionsToTxnResponseTopicPartition := funext fun y => (cV10 (sub := canP true fs_sAddPartitionsToTxnResponseTopicPartition)).trans (tlc_AddPartitionsToTxnResponseTopicPartition y).symm
 have e1 : canF true (Fd.mk 11 0 (-1) (-1) (-1) 0 10 fs_sAddPartitionsToTxnResponseTopicPartition) (T.at 1) = (.mk 0 [] (T.at 1).nul ((lT (T.at 1)).map tl_AddPartitionsToTxnResponseTopicPartition) []) := (cF11 rfl).trans (by rw [show canV (Fd.of (Fd.mk 11 0 (-1) (-1) (-1) 0 10 fs_sAddPartitionsToTxnResponseTopicPartition)) (canP true (Fd.sub (Fd.mk 11 0 (-1) (-1) (-1) 0 10 fs_sAddPartitionsToTxnResponseTopicPartition))) = tl_AddPartitionsToTxnResponseTopicPartition from g1])
 unfold tl_AddPartitionsToTxnResponseTopic canP fs_sAddPartitionsToTxnResponseTopic
 simp only [canFs_cons, canFs_nil, Nat.zero_add, Nat.reduceAdd, e0, e1]
 rfl
theorem tlc_AddPartitionsToTxnResponse (T : Tr) : tl_AddPartitionsToTxnResponse T = canP true fs_AddPartitionsToTxnResponse T := by
 have e0 : canF true (Fd.mk 3 0 (-1) (-1) (-1) 0 0 []) (T.at 0) = (.mk (IntKind.i32.wrap (T.at 0).n) [] false [] []) := (cFn (by decide) (by decide)).trans cV3
 have e1 : canF true (Fd.mk 2 4 (-1) (-1) (-1) 0 0 []) (T.at 1) = (.mk (IntKind.i16.wrap (T.at 1).n) [] false [] []) := (cFn (by decide) (by decide)).trans cV2
 have g2 : canV 10 (canP true fs_sAddPartitionsToTxnResponseTransaction) = tl_AddPartitionsToTxnResponseTransaction := funext fun y => (cV10 (sub := canP true fs_sAddPartitionsToTxnResponseTransaction)).trans (tlc_AddPartitionsToTxnResponseTransaction y).symm
 have e2 : canF true (Fd.mk 11 4 (-1) (-1) (-1) 0 10 fs_sAddPartitionsToTxnResponseTransaction) (T.at 2) = (.mk 0 [] (T.at 2).nul ((lT (T.at 2)).map tl_AddPartitionsToTxnResponseTransaction) []) := (cF11 rfl).trans (by rw [show canV (Fd.of (Fd.mk 11 4 (-1) (-1) (-1) 0 10 fs_sAddPartitionsToTxnResponseTransaction)) (canP true (Fd.sub (Fd.mk 11 4 (-1) (-1) (-1) 0 10 fs_sAddPartitionsToTxnResponseTransaction))) = tl_AddPartitionsToTxnResponseTransaction from g2])
 have g3 : canV 10 (canP true fs_sAddPartitionsToTxnResponseTopic) = tl_AddPartitionsToTxnResponseTopic := funext fun y => (cV10 (sub := canP true fs_sAddPartitionsToTxnResponseTopic)).trans (tlc_AddPartitionsToTxnResponseTopic y).symm
 have e3 : canF true (Fd.mk 11 0 3 (-1) (-1) 0 10 fs_sAddPartitionsToTxnResponseTopic) (T.at 3) = (.mk 0 [] (T.at 3).nul ((lT (T.at 3)).map tl_AddPartitionsToTxnResponseTopic) []) := (cF11 rfl).trans (by rw [show canV (Fd.of (Fd.mk 11 0 3 (-1) (-1) 0 10 fs_sAddPartitionsToTxnResponseTopic)) (canP true (Fd.sub (Fd.mk 11 0 3 (-1) (-1) 0 10 fs_sAddPartitionsToTxnResponseTopic))) = tl_AddPartitionsToTxnResponseTopic from g3])
 unfold tl_AddPartitionsToTxnResponse canP fs_AddPartitionsToTxnResponse
 simp only [canFs_cons, canFs_nil, Nat.zero_add, Nat.reduceAdd, e0, e1, e2, e3]
 rfl
theorem tld_AddPartitionsToTxnResponse {v : Int} {flex : Bool} (h : RdGood v flex fs_AddPartitionsToTxnResponse) (r : Rd) : tl_AddPartitionsToTxnResponse (decP fs_AddPartitionsToTxnResponse v flex r).1 = (decP fs_AddPartitionsToTxnResponse v flex r).1 := (tlc_AddPartitionsToTxnResponse _).trans (canP_dec h (fun h0 => by cases h0) r)
end Go.Sx
