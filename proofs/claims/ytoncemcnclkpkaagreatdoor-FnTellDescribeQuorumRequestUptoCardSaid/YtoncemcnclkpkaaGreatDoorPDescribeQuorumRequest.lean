import Derived.Test.YtoncemcnclkpkaaGreatDoorDDescribeQuorumRequest
import Derived.Test.YtoncemcnclkpkaaGreatDoorTelP
import Derived.KernelRfl
set_option linter.unusedVariables false
set_option linter.unusedSimpArgs false
set_option maxRecDepth 100000
set_option maxHeartbeats 20000000
namespace Go.Sx
open Go.Proofs
theorem tlc_DescribeQuorumRequestTopicPartition (T : Tr) : tl_DescribeQuorumRequestTopicPartition T = canP true fs_sDescribeQuorumRequestTopicPartition T := by
  have e0 : canF true (Fd.mk 3 0 (-1) (-1) (-1) 0 0 []) (T.at 0) = (.mk (IntKind.i32.wrap (T.at 0).n) [] false [] []) := (cFn (by decide) (by decide)).trans cV3
  unfold tl_DescribeQuorumRequestTopicPartition canP fs_sDescribeQuorumRequestTopicPartition
  simp only [canFs_cons, canFs_nil, Nat.zero_add, Nat.reduceAdd, e0]
  rfl
theorem tlc_DescribeQuorumRequestTopic (T : Tr) : tl_DescribeQuorumRequestTopic T = canP true fs_sDescribeQuorumRequestTopic T := by
  have e0 : canF true (Fd.mk 8 0 (-1) (-1) (-1) 0 0 []) (T.at 0) = (.mk 0 (T.at 0).s false [] []) := (cFn (by decide) (by decide)).trans cV8
  have g1 : canV 10 (canP true fs_sDescribeQuorumRequestTopicPartition) = tl_DescribeQuorumRequestTopicPartition := funext fun y => (cV10 (sub := canP true fs_sDescribeQuorumRequestTopicPartition)).trans (tlc_DescribeQuorumRequestTopicPartition y).symm
  have e1 : canF true (Fd.mk 11 0 (-1) (-1) (-1) 0 10 fs_sDescribeQuorumRequestTopicPartition) (T.at 1) = (.mk 0 [] (T.at 1).nul ((lT (T.at 1)).map tl_DescribeQuorumRequestTopicPartition) []) := (cF11 rfl).trans (by rw [show canV (Fd.of (Fd.mk 11 0 (-1) (-1) (-1) 0 10 fs_sDescribeQuorumRequestTopicPartition)) (canP true (Fd.sub (Fd.mk 11 0 (-1) (-1) (-1) 0 10 fs_sDescribeQuorumRequestTopicPartition))) = tl_DescribeQuorumRequestTopicPartition from g1])
  unfold tl_DescribeQuorumRequestTopic canP fs_sDescribeQuorumRequestTopic
  simp only [canFs_cons, canFs_nil, Nat.zero_add, Nat.reduceAdd, e0, e1]
  rfl
theorem tlc_DescribeQuorumRequest (T : Tr) : tl_DescribeQuorumRequest T = canP true fs_DescribeQuorumRequest T := by
  have g0 : canV 10 (canP true fs_sDescribeQuorumRequestTopic) = tl_DescribeQuorumRequestTopic := funext fun y => (cV10 (sub := canP true fs_sDescribeQuorumRequestTopic)).trans (tlc_DescribeQuorumRequestTopic y).symm
  have e0 : canF true (Fd.mk 11 0 (-1) (-1) (-1) 0 10 fs_sDescribeQuorumRequestTopic) (T.at 0) = (.mk 0 [] (T.at 0).nul ((lT (T.at 0)).map tl_DescribeQuorumRequestTopic) []) := (cF11 rfl).trans (by rw [show canV (Fd.of (Fd.mk 11 0 (-1) (-1) (-1) 0 10 fs_sDescribeQuorumRequestTopic)) (canP true (Fd.sub (Fd.mk 11 0 (-1) (-1) (-1) 0 10 fs_sDescribeQuorumRequestTopic))) = tl_DescribeQuorumRequestTopic from g0])
  unfold tl_DescribeQuorumRequest canP fs_DescribeQuorumRequest
  simp only [canFs_cons, canFs_nil, Nat.zero_add, Nat.reduceAdd, e0]
  rfl
theorem tld_DescribeQuorumRequest {v : Int} {flex : Bool} (h : RdGood v flex fs_DescribeQuorumRequest) (r : Rd) : tl_DescribeQuorumRequest (decP fs_DescribeQuorumRequest v flex r).1 = (decP fs_DescribeQuorumRequest v flex r).1 := (tlc_DescribeQuorumRequest _).trans (canP_dec h (fun h0 => by cases h0) r)
end Go.Sx
