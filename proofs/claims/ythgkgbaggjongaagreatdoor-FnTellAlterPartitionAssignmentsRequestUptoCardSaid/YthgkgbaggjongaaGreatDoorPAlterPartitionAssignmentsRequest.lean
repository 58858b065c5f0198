import Derived.Test.YthgkgbaggjongaaGreatDoorDAlterPartitionAssignmentsRequest
import Derived.Test.YthgkgbaggjongaaGreatDoorTelP
import Derived.KernelRfl
set_option linter.unusedVariables false
set_option linter.unusedSimpArgs false
set_option maxRecDepth 100000
set_option maxHeartbeats 20000000
namespace Go.Sx
open Go.Proofs
theorem tlc_AlterPartitionAssignmentsRequestTopicPartition (T : Tr) : tl_AlterPartitionAssignmentsRequestTopicPartition T = canP true fs_sAlterPartitionAssignmentsRequestTopicPartition T := by
  have e0 : canF true (Fd.mk 3 0 (-1) (-1) (-1) 0 0 []) (T.at 0) = (.mk (IntKind.i32.wrap (T.at 0).n) [] false [] []) := (cFn (by decide) (by decide)).trans cV3
  have g1 : canV 3 (canP true []) = (fun y : Tr => (Tr.mk (IntKind.i32.wrap y.n) [] false [] [] : Tr)) := funext fun y => cV3
  have e1 : canF true (Fd.mk 11 0 (-1) 0 (-1) 0 3 []) (T.at 1) = (.mk 0 [] (T.at 1).nul ((lT (T.at 1)).map (fun y : Tr => (Tr.mk (IntKind.i32.wrap y.n) [] false [] [] : Tr))) []) := (cF11 rfl).trans (by rw [show canV (Fd.of (Fd.mk 11 0 (-1) 0 (-1) 0 3 [])) (canP true (Fd.sub (Fd.mk 11 0 (-1) 0 (-1) 0 3 []))) = (fun y : Tr => (Tr.mk (IntKind.i32.wrap y.n) [] false [] [] : Tr)) from g1])
  unfold tl_AlterPartitionAssignmentsRequestTopicPartition canP fs_sAlterPartitionAssignmentsRequestTopicPartition
  simp only [canFs_cons, canFs_nil, Nat.zero_add, Nat.reduceAdd, e0, e1]
  rfl
theorem tlc_AlterPartitionAssignmentsRequestTopic (T : Tr) : tl_AlterPartitionAssignmentsRequestTopic T = canP true fs_sAlterPartitionAssignmentsRequestTopic T := by
  have e0 : canF true (Fd.mk 8 0 (-1) (-1) (-1) 0 0 []) (T.at 0) = (.mk 0 (T.at 0).s false [] []) := (cFn (by decide) (by decide)).trans cV8
  have g1 : canV 10 (canP true fs_sAlterPartitionAssignmentsRequestTopicPartition) = tl_AlterPartitionAssignmentsRequestTopicPartition := funext fun y => (cV10 (sub := canP true fs_sAlterPartitionAssignmentsRequestTopicPartition)).trans (tlc_AlterPartitionAssignmentsRequestTopicPartition y).symm
  have e1 : canF true (Fd.mk 11 0 (-1) (-1) (-1) 0 10 fs_sAlterPartitionAssignmentsRequestTopicPartition) (T.at 1) = (.mk 0 [] (T.at 1).nul ((lT (T.at 1)).map tl_AlterPartitionAssignmentsRequestTopicPartition) []) := (cF11 rfl).trans (by rw [show canV (Fd.of (Fd.mk 11 0 (-1) (-1) (-1) 0 10 fs_sAlterPartitionAssignmentsRequestTopicPartition)) (canP true (Fd.sub (Fd.mk 11 0 (-1) (-1) (-1) 0 10 fs_sAlterPartitionAssignmentsRequestTopicPartition))) = tl_AlterPartitionAssignmentsRequestTopicPartition from g1])
  unfold tl_AlterPartitionAssignmentsRequestTopic canP fs_sAlterPartitionAssignmentsRequestTopic
  simp only [canFs_cons, canFs_nil, Nat.zero_add, Nat.reduceAdd, e0, e1]
  rfl
theorem tlc_AlterPartitionAssignmentsRequest (T : Tr) : tl_AlterPartitionAssignmentsRequest T = canP true fs_AlterPartitionAssignmentsRequest T := by
  have e0 : canF true (Fd.mk 3 0 (-1) (-1) (-1) 60000 0 []) (T.at 0) = (.mk (IntKind.i32.wrap (T.at 0).n) [] false [] []) := (cFn (by decide) (by decide)).trans cV3
  have e1 : canF true (Fd.mk 0 1 (-1) (-1) (-1) 1 0 []) (T.at 1) = (.mk (if decide ((T.at 1).n % 2 = 1) = true then 1 else 0) [] false [] []) := (cFn (by decide) (by decide)).trans cV0
  have g2 : canV 10 (canP true fs_sAlterPartitionAssignmentsRequestTopic) = tl_AlterPartitionAssignmentsRequestTopic := funext fun y => (cV10 (sub := canP true fs_sAlterPartitionAssignmentsRequestTopic)).trans (tlc_AlterPartitionAssignmentsRequestTopic y).symm
  have e2 : canF true (Fd.mk 11 0 (-1) (-1) (-1) 0 10 fs_sAlterPartitionAssignmentsRequestTopic) (T.at 2) = (.mk 0 [] (T.at 2).nul ((lT (T.at 2)).map tl_AlterPartitionAssignmentsRequestTopic) []) := (cF11 rfl).trans (by rw [show canV (Fd.of (Fd.mk 11 0 (-1) (-1) (-1) 0 10 fs_sAlterPartitionAssignmentsRequestTopic)) (canP true (Fd.sub (Fd.mk 11 0 (-1) (-1) (-1) 0 10 fs_sAlterPartitionAssignmentsRequestTopic))) = tl_AlterPartitionAssignmentsRequestTopic from g2])
  unfold tl_AlterPartitionAssignmentsRequest canP fs_AlterPartitionAssignmentsRequest
  simp only [canFs_cons, canFs_nil, Nat.zero_add, Nat.reduceAdd, e0, e1, e2]
  rfl
theorem tld_AlterPartitionAssignmentsRequest {v : Int} {flex : Bool} (h : RdGood v flex fs_AlterPartitionAssignmentsRequest) (r : Rd) : tl_AlterPartitionAssignmentsRequest (decP fs_AlterPartitionAssignmentsRequest v flex r).1 = (decP fs_AlterPartitionAssignmentsRequest v flex r).1 := (tlc_AlterPartitionAssignmentsRequest _).trans (canP_dec h (fun h0 => by cases h0) r)
end Go.Sx
