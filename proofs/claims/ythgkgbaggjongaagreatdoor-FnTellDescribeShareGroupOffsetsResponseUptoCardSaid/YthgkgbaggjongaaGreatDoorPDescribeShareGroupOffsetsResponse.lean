import Derived.Test.YthgkgbaggjongaaGreatDoorDDescribeShareGroupOffsetsResponse
import Derived.Test.YthgkgbaggjongaaGreatDoorTelP
import Derived.KernelRfl
set_option linter.unusedVariables false
set_option linter.unusedSimpArgs false
set_option maxRecDepth 100000
set_option maxHeartbeats 20000000
namespace Go.Sx
open Go.Proofs
theorem tlc_DescribeShareGroupOffsetsResponseGroupTopicPartition (T : Tr) : tl_DescribeShareGroupOffsetsResponseGroupTopicPartition T = canP true fs_sDescribeShareGroupOffsetsResponseGroupTopicPartition T := by
  have e0 : canF true (Fd.mk 3 0 (-1) (-1) (-1) 0 0 []) (T.at 0) = (.mk (IntKind.i32.wrap (T.at 0).n) [] false [] []) := (cFn (by decide) (by decide)).trans cV3
  have e1 : canF true (Fd.mk 4 0 (-1) (-1) (-1) 0 0 []) (T.at 1) = (.mk (T.at 1).n [] false [] []) := (cFn (by decide) (by decide)).trans cV4
  have e2 : canF true (Fd.mk 3 0 (-1) (-1) (-1) 0 0 []) (T.at 2) = (.mk (IntKind.i32.wrap (T.at 2).n) [] false [] []) := (cFn (by decide) (by decide)).trans cV3
  have e3 : canF true (Fd.mk 4 1 (-1) (-1) (-1) (-1) 0 []) (T.at 3) = (.mk (T.at 3).n [] false [] []) := (cFn (by decide) (by decide)).trans cV4
  have e4 : canF true (Fd.mk 2 0 (-1) (-1) (-1) 0 0 []) (T.at 4) = (.mk (IntKind.i16.wrap (T.at 4).n) [] false [] []) := (cFn (by decide) (by decide)).trans cV2
  have e5 : canF true (Fd.mk 8 0 (-1) 0 (-1) 0 0 []) (T.at 5) = (.mk 0 (sT (T.at 5)) (T.at 5).nul [] []) := cF8 rfl (by decide)
  unfold tl_DescribeShareGroupOffsetsResponseGroupTopicPartition canP fs_sDescribeShareGroupOffsetsResponseGroupTopicPartition
  simp only [canFs_cons, canFs_nil, Nat.zero_add, Nat.reduceAdd, e0, e1, e2, e3, e4, e5]
  rfl
theorem tlc_DescribeShareGroupOffsetsResponseGroupTopic (T : Tr) : tl_DescribeShareGroupOffsetsResponseGroupTopic T = canP true fs_sDescribeShareGroupOffsetsResponseGroupTopic T := by
  have e0 : canF true (Fd.mk 8 0 (-1) (-1) (-1) 0 0 []) (T.at 0) = (.mk 0 (T.at 0).s false [] []) := (cFn (by decide) (by decide)).trans cV8
  have e1 : canF true (Fd.mk 7 0 (-1) (-1) (-1) 0 0 []) (T.at 1) = (.mk 0 (pad16 (T.at 1).s) false [] []) := (cFn (by decide) (by decide)).trans cV7
  have g2 : canV 10 (canP true fs_sDescribeShareGroupOffsetsResponseGroupTopicPartition) = tl_DescribeShareGroupOffsetsResponseGroupTopicPartition := funext fun y => (cV10 (sub := canP true fs_sDescribeShareGroupOffsetsResponseGroupTopicPartition)).trans (tlc_DescribeShareGroupOffsetsResponseGroupTopicPartition y).symm
  have e2 : canF true (Fd.mk 11 0 (-1) (-1) (-1) 0 10 fs_sDescribeShareGroupOffsetsResponseGroupTopicPartition) (T.at 2) = (.mk 0 [] (T.at 2).nul ((lT (T.at 2)).map tl_DescribeShareGroupOffsetsResponseGroupTopicPartition) []) := (cF11 rfl).trans (by rw [show canV (Fd.of (Fd.mk 11 0 (-1) (-1) (-1) 0 10 fs_sDescribeShareGroupOffsetsResponseGroupTopicPartition)) (canP true (Fd.sub (Fd.mk 11 0 (-1) (-1) (-1) 0 10 fs_sDescribeShareGroupOffsetsResponseGroupTopicPartition))) = tl_DescribeShareGroupOffsetsResponseGroupTopicPartition from g2])
  unfold tl_DescribeShareGroupOffsetsResponseGroupTopic canP fs_sDescribeShareGroupOffsetsResponseGroupTopic
  simp only [canFs_cons, canFs_nil, Nat.zero_add, Nat.reduceAdd, e0, e1, e2]
  rfl
theorem tlc_DescribeShareGroupOffsetsResponseGroup (T : Tr) : tl_DescribeShareGroupOffsetsResponseGroup T = canP true fs_sDescribeShareGroupOffsetsResponseGroup T := by
  have e0 : canF true (Fd.mk 8 0 (-1) (-1) (-1) 0 0 []) (T.at 0) = (.mk 0 (T.at 0).s false [] []) := (cFn (by decide) (by decide)).trans cV8
  have g1 : canV 10 (canP true fs_sDescribeShareGroupOffsetsResponseGroupTopic) = tl_DescribeShareGroupOffsetsResponseGroupTopic := funext fun y => (cV10 (sub := canP true fs_sDescribeShareGroupOffsetsResponseGroupTopic)).trans (tlc_DescribeShareGroupOffsetsResponseGroupTopic y).symm
  have e1 : canF true (Fd.mk 11 0 (-1) (-1) (-1) 0 10 fs_sDescribeShareGroupOffsetsResponseGroupTopic) (T.at 1) = (.mk 0 [] (T.at 1).nul ((lT (T.at 1)).map tl_DescribeShareGroupOffsetsResponseGroupTopic) []) := (cF11 rfl).trans (by rw [show canV (Fd.of (Fd.mk 11 0 (-1) (-1) (-1) 0 10 fs_sDescribeShareGroupOffsetsResponseGroupTopic)) (canP true (Fd.sub (Fd.mk 11 0 (-1) (-1) (-1) 0 10 fs_sDescribeShareGroupOffsetsResponseGroupTopic))) = tl_DescribeShareGroupOffsetsResponseGroupTopic from g1])
  have e2 : canF true (Fd.mk 2 0 (-1) (-1) (-1) 0 0 []) (T.at 2) = (.mk (IntKind.i16.wrap (T.at 2).n) [] false [] []) := (cFn (by decide) (by decide)).trans cV2
  have e3 : canF true (Fd.mk 8 0 (-1) 0 (-1) 0 0 []) (T.at 3) = (.mk 0 (sT (T.at 3)) (T.at 3).nul [] []) := cF8 rfl (by decide)
  unfold tl_DescribeShareGroupOffsetsResponseGroup canP fs_sDescribeShareGroupOffsetsResponseGroup
  simp only [canFs_cons, canFs_nil, Nat.zero_add, Nat.reduceAdd, e0, e1, e2, e3]
  rfl
theorem tlc_DescribeShareGroupOffsetsResponse (T : Tr) : tl_DescribeShareGroupOffsetsResponse T = canP true fs_DescribeShareGroupOffsetsResponse T := by
  have e0 : canF true (Fd.mk 3 0 (-1) (-1) (-1) 0 0 []) (T.at 0) = (.mk (IntKind.i32.wrap (T.at 0).n) [] false [] []) := (cFn (by decide) (by decide)).trans cV3
  have g1 : canV 10 (canP true fs_sDescribeShareGroupOffsetsResponseGroup) = tl_DescribeShareGroupOffsetsResponseGroup := funext fun y => (cV10 (sub := canP true fs_sDescribeShareGroupOffsetsResponseGroup)).trans (tlc_DescribeShareGroupOffsetsResponseGroup y).symm
  have e1 : canF true (Fd.mk 11 0 (-1) (-1) (-1) 0 10 fs_sDescribeShareGroupOffsetsResponseGroup) (T.at 1) = (.mk 0 [] (T.at 1).nul ((lT (T.at 1)).map tl_DescribeShareGroupOffsetsResponseGroup) []) := (cF11 rfl).trans (by rw [show canV (Fd.of (Fd.mk 11 0 (-1) (-1) (-1) 0 10 fs_sDescribeShareGroupOffsetsResponseGroup)) (canP true (Fd.sub (Fd.mk 11 0 (-1) (-1) (-1) 0 10 fs_sDescribeShareGroupOffsetsResponseGroup))) = tl_DescribeShareGroupOffsetsResponseGroup from g1])
  unfold tl_DescribeShareGroupOffsetsResponse canP fs_DescribeShareGroupOffsetsResponse
  simp only [canFs_cons, canFs_nil, Nat.zero_add, Nat.reduceAdd, e0, e1]
  rfl
theorem tld_DescribeShareGroupOffsetsResponse {v : Int} {flex : Bool} (h : RdGood v flex fs_DescribeShareGroupOffsetsResponse) (r : Rd) : tl_DescribeShareGroupOffsetsResponse (decP fs_DescribeShareGroupOffsetsResponse v flex r).1 = (decP fs_DescribeShareGroupOffsetsResponse v flex r).1 := (tlc_DescribeShareGroupOffsetsResponse _).trans (canP_dec h (fun h0 => by cases h0) r)
end Go.Sx
