import Derived.Test.YthgkgbaggjongaaGreatDoorDEndQuorumEpochRequest
import Derived.Test.YthgkgbaggjongaaGreatDoorTelP
import Derived.KernelRfl
set_option linter.unusedVariables false
set_option linter.unusedSimpArgs false
set_option maxRecDepth 100000
set_option maxHeartbeats 20000000
namespace Go.Sx
open Go.Proofs
theorem tlc_EndQuorumEpochRequestTopicPartitionPreferredCandidate (T : Tr) : tl_EndQuorumEpochRequestTopicPartitionPreferredCandidate T = canP true fs_sEndQuorumEpochRequestTopicPartitionPreferredCandidate T := by
 have e0 : canF true (Fd.mk 3 0 (-1) (-1) (-1) 0 0 []) (T.at 0) = (.mk (IntKind.i32.wrap (T.at 0).n) [] false [] []) := (cFn (by decide) (by decide)).trans cV3
 have e1 : canF true (Fd.mk 7 0 (-1) (-1) (-1) 0 0 []) (T.at 1) = (.mk 0 (pad16 (T.at 1).s) false [] []) := (cFn (by decide) (by decide)).trans cV7
 unfold tl_EndQuorumEpochRequestTopicPartitionPreferredCandidate canP fs_sEndQuorumEpochRequestTopicPartitionPreferredCandidate
 simp only [canFs_cons, canFs_nil, Nat.zero_add, Nat.reduceAdd, e0, e1]
 rfl
theorem tlc_EndQuorumEpochRequestTopicPartition (T : Tr) : tl_EndQuorumEpochRequestTopicPartition T = canP true fs_sEndQuorumEpochRequestTopicPartition T := by
 have e0 : canF true (Fd.mk 3 0 (-1) (-1) (-1) 0 0 []) (T.at 0) = (.mk (IntKind.i32.wrap (T.at 0).n) [] false [] []) := (cFn (by decide) (by decide)).trans cV3
 have e1 : canF true (Fd.mk 3 0 (-1) (-1) (-1) 0 0 []) (T.at 1) = (.mk (IntKind.i32.wrap (T.at 1).n) [] false [] []) := (cFn (by decide) (by decide)).trans cV3
 have e2 : canF true (Fd.mk 3 0 (-1) (-1) (-1) 0 0 []) (T.at 2) = (.mk (IntKind.i32.wrap (T.at 2).n) [] false [] []) := (cFn (by decide) (by decide)).trans cV3
 have g3 : canV 3 (canP true []) = (fun y : Tr => (Tr.mk (IntKind.i32.wrap y.n) [] false [] [] : Tr)) := funext fun y => cV3
 have e3 : canF true (Fd.mk 11 0 0 (-1) (-1) 0 3 []) (T.at 3) = (.mk 0 [] (T.at 3).nul ((lT (T.at 3)).map (fun y : Tr => (Tr.mk (IntKind.i32.wrap y.n) [] false [] [] : Tr))) []) := (cF11 rfl).trans (by rw [show canV (Fd.of (Fd.mk 11 0 0 (-1) (-1) 0 3 [])) (canP true (Fd.sub (Fd.mk 11 0 0 (-1) (-1) 0 3 []))) = (fun y : Tr => (Tr.mk (IntKind.i32.wrap y.n) [] false [] [] : Tr)) from g3])
 have g4 : canV 10 (canP true fs_sEndQuorumEpochRequestTopicPartitionPreferredCandidate) = tl_EndQuorumEpochRequestTopicPartitionPreferredCandidate := funext fun y => (cV10 (sub := canP true fs_sEndQuorumEpochRequestTopicPartitionPreferredCandidate)).trans (tlc_EndQuorumEpochRequestTopicPartitionPreferredCandidate y).symm
 have e4 : canF true (Fd.mk 11 1 (-1) (-1) (-1) 0 10 fs_sEndQuorumEpochRequestTopicPartitionPreferredCandidate) (T.at 4) = (.mk 0 [] (T.at 4).nul ((lT (T.at 4)).map tl_EndQuorumEpochRequestTopicPartitionPreferredCandidate) []) := (cF11 rfl).trans (by rw [show canV (Fd.of (Fd.mk 11 1 (-1) (-1) (-1) 0 10 fs_sEndQuorumEpochRequestTopicPartitionPreferredCandidate)) (canP true (Fd.sub (Fd.mk 11 1 (-1) (-1) (-1) 0 10 fs_sEndQuorumEpochRequestTopicPartitionPreferredCandidate))) = tl_EndQuorumEpochRequestTopicPartitionPreferredCandidate from g4])
 unfold tl_EndQuorumEpochRequestTopicPartition canP fs_sEndQuorumEpochRequestTopicPartition
 simp only [canFs_cons, canFs_nil, Nat.zero_add, Nat.reduceAdd, e0, e1, e2, e3, e4]
 rfl
theorem tlc_EndQuorumEpochRequestTopic (T : Tr) : tl_EndQuorumEpochRequestTopic T = canP true fs_sEndQuorumEpochRequestTopic T := by
 have e0 : canF true (Fd.mk 8 0 (-1) (-1) (-1) 0 0 []) (T.at 0) = (.mk 0 (T.at 0).s false [] []) := (cFn (by decide) (by decide)).trans cV8
 have g1 : canV 10 (canP true fs_sEndQuorumEpochRequestTopicPartition) = tl_EndQuorumEpochRequestTopicPartition := funext fun y => (cV10 (sub := canP true fs_sEndQuorumEpochRequestTopicPartition)).trans (tlc_EndQuorumEpochRequestTopicPartition y).symm
 have e1 : canF true (Fd.mk 11 0 (-1) (-1) (-1) 0 10 fs_sEndQuorumEpochRequestTopicPartition) (T.at 1) = (.mk 0 [] (T.at 1).nul ((lT (T.at 1)).map tl_EndQuorumEpochRequestTopicPartition) []) := (cF11 rfl).trans (by rw [show canV (Fd.of (Fd.mk 11 0 (-1) (-1) (-1) 0 10 fs_sEndQuorumEpochRequestTopicPartition)) (canP true (Fd.sub (Fd.mk 11 0 (-1) (-1) (-1) 0 10 fs_sEndQuorumEpochRequestTopicPartition))) = tl_EndQuorumEpochRequestTopicPartition from g1])
 unfold tl_EndQuorumEpochRequestTopic canP fs_sEndQuorumEpochRequestTopic
 simp only [canFs_cons, canFs_nil, Nat.zero_add, Nat.reduceAdd, e0, e1]
 rfl
theorem tlc_EndQuorumEpochRequestLeaderEndpoint (T : Tr) : tl_EndQuorumEpochRequestLeaderEndpoint T = canP true fs_sEndQuorumEpochRequestLeaderEndpoint T := by
 have e0 : canF true (Fd.mk 8 0 (-1) (-1) (-1) 0 0 []) (T.at 0) = (.mk 0 (T.at 0).s false [] []) := (cFn (by decide) (by decide)).trans cV8
 have e1 : canF true (Fd.mk 8 0 (-1) (-1) (-1) 0 0 []) (T.at 1) = (.mk 0 (T.at 1).s false [] []) := (cFn (by decide) (by decide)).trans cV8
 have e2 : canF true (Fd.mk 5 0 (-1) (-1) (-1) 0 0 []) (T.at 2) = (.mk (IntKind.u16.wrap (T.at 2).n) [] false [] []) := (cFn (by decide) (by decide)).trans cV5
 unfold tl_EndQuorumEpochRequestLeaderEndpoint canP fs_sEndQuorumEpochRequestLeaderEndpoint
 simp only [canFs_cons, canFs_nil, Nat.zero_add, Nat.reduceAdd, e0, e1, e2]
 rfl
theorem tlc_EndQuorumEpochRequest (T : Tr) : tl_EndQuorumEpochRequest T = canP true fs_EndQuorumEpochRequest T := by
 have e0 : canF true (Fd.mk 8 0 (-1) 0 (-1) 0 0 []) (T.at 0) = (.mk 0 (sT (T.at 0)) (T.at 0).nul [] []) := cF8 rfl (by decide)
 have g1 : canV 10 (canP true fs_sEndQuorumEpochRequestTopic) = tl_EndQuorumEpochRequestTopic := funext fun y => (cV10 (sub := canP true fs_sEndQuorumEpochRequestTopic)).trans (tlc_EndQuorumEpochRequestTopic y).symm
 have e1 : canF true (Fd.mk 11 0 (-1) (-1) (-1) 0 10 fs_sEndQuorumEpochRequestTopic) (T.at 1) = (.mk 0 [] (T.at 1).nul ((lT (T.at 1)).map tl_EndQuorumEpochRequestTopic) []) := (cF11 rfl).trans (by rw [show canV (Fd.of (Fd.mk 11 0 (-1) (-1) (-1) 0 10 fs_sEndQuorumEpochRequestTopic)) (canP true (Fd.sub (Fd.mk 11 0 (-1) (-1) (-1) 0 10 fs_sEndQuorumEpochRequestTopic))) = tl_EndQuorumEpochRequestTopic from g1])
 have g2 : canV 10 (canP true fs_sEndQuorumEpochRequestLeaderEndpoint) = tl_EndQuorumEpochRequestLeaderEndpoint := funext fun y => (cV10 (sub := canP true fs_sEndQuorumEpochRequestLeaderEndpoint)).trans (tlc_EndQuorumEpochRequestLeaderEndpoint y).symm
 have e2 : canF true (Fd.mk 11 1 (-1) (-1) (-1) 0 10 fs_sEndQuorumEpochRequestLeaderEndpoint) (T.at 2) = (.mk 0 [] (T.at 2).nul ((lT (T.at 2)).map tl_EndQuorumEpochRequestLeaderEndpoint) []) := (cF11 rfl).trans (by rw [show canV (Fd.of (Fd.mk 11 1 (-1) (-1) (-1) 0 10 fs_sEndQuorumEpochRequestLeaderEndpoint)) (canP true (Fd.sub (Fd.mk 11 1 (-1) (-1) (-1) 0 10 fs_sEndQuorumEpochRequestLeaderEndpoint))) = tl_EndQuorumEpochRequestLeaderEndpoint from g2])
 unfold tl_EndQuorumEpochRequest canP fs_EndQuorumEpochRequest
 simp only [canFs_cons, canFs_nil, Nat.zero_add, Nat.reduceAdd, e0, e1, e2]
 rfl
theorem tld_EndQuorumEpochRequest {v : Int} {flex : Bool} (h : RdGood v flex fs_EndQuorumEpochRequest) (r : Rd) : tl_EndQuorumEpochRequest (decP fs_EndQuorumEpochRequest v flex r).1 = (decP fs_EndQuorumEpochRequest v flex r).1 := (tlc_EndQuorumEpochRequest _).trans (canP_dec h (fun h0 => by cases h0) r)
end Go.Sx
