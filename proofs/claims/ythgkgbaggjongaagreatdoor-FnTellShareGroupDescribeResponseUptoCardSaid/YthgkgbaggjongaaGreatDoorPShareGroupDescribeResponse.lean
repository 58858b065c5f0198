import Derived.Test.YthgkgbaggjongaaGreatDoorDShareGroupDescribeResponse
import Derived.Test.YthgkgbaggjongaaGreatDoorTelP
import Derived.KernelRfl
set_option linter.unusedVariables false
set_option linter.unusedSimpArgs false
set_option maxRecDepth 100000
set_option maxHeartbeats 20000000
namespace Go.Sx
open Go.Proofs
theorem tlc_ShareGroupDescribeResponseGroupMemberAssignmentTopicPartition (T : Tr) : tl_ShareGroupDescribeResponseGroupMemberAssignmentTopicPartition T = canP true fs_sShareGroupDescribeResponseGroupMemberAssignmentTopicPartition T := by
 have e0 : canF true (Fd.mk 7 0 (-1) (-1) (-1) 0 0 []) (T.at 0) = (.mk 0 (pad16 (T.at 0).s) false [] []) := (cFn (by decide) (by decide)).trans cV7
 have e1 : canF true (Fd.mk 8 0 (-1) (-1) (-1) 0 0 []) (T.at 1) = (.mk 0 (T.at 1).s false [] []) := (cFn (by decide) (by decide)).trans cV8
 have g2 : canV 3 (canP true []) = (fun y : Tr => (Tr.mk (IntKind.i32.wrap y.n) [] false [] [] : Tr)) := funext fun y => cV3
 have e2 : canF true (Fd.mk 11 0 (-1) (-1) (-1) 0 3 []) (T.at 2) = (.mk 0 [] (T.at 2).nul ((lT (T.at 2)).map (fun y : Tr => (Tr.mk (IntKind.i32.wrap y.n) [] false [] [] : Tr))) []) := (cF11 rfl).trans (by rw [show canV (Fd.of (Fd.mk 11 0 (-1) (-1) (-1) 0 3 [])) (canP true (Fd.sub (Fd.mk 11 0 (-1) (-1) (-1) 0 3 []))) = (fun y : Tr => (Tr.mk (IntKind.i32.wrap y.n) [] false [] [] : Tr)) from g2])
 unfold tl_ShareGroupDescribeResponseGroupMemberAssignmentTopicPartition canP fs_sShareGroupDescribeResponseGroupMemberAssignmentTopicPartition
 simp only [canFs_cons, canFs_nil, Nat.zero_add, Nat.reduceAdd, e0, e1, e2]
 rfl
theorem tlc_ShareGroupDescribeResponseGroupMemberAssignment (T : Tr) : tl_ShareGroupDescribeResponseGroupMemberAssignment T = canP true fs_sShareGroupDescribeResponseGroupMemberAssignment T := by
 have g0 : canV 10 (canP true fs_sShareGroupDescribeResponseGroupMemberAssignmentTopicPartition) = tl_ShareGroupDescribeResponseGroupMemberAssignmentTopicPartition := funext fun y => (cV10 (sub := canP true fs_sShareGroupDescribeResponseGroupMemberAssignmentTopicPartition)).trans (tlc_ShareGroupDescribeResponseGroupMemberAssignmentTopicPartition y).symm
 have e0 : canF true (Fd.mk 11 0 (-1) (-1) (-1) 0 10 fs_sShareGroupDescribeResponseGroupMemberAssignmentTopicPartition) (T.at 0) = (.mk 0 [] (T.at 0).nul ((lT (T.at 0)).map tl_ShareGroupDescribeResponseGroupMemberAssignmentTopicPartition) []) := (cF11 rfl).trans (by rw [show canV (Fd.of (Fd.mk 11 0 (-1) (-1) (-1) 0 10 fs_sShareGroupDescribeResponseGroupMemberAssignmentTopicPartition)) (canP true (Fd.sub (Fd.mk 11 0 (-1) (-1) (-1) 0 10 fs_sShareGroupDescribeResponseGroupMemberAssignmentTopicPartition))) = tl_ShareGroupDescribeResponseGroupMemberAssignmentTopicPartition from g0])
 unfold tl_ShareGroupDescribeResponseGroupMemberAssignment canP fs_sShareGroupDescribeResponseGroupMemberAssignment
 simp only [canFs_cons, canFs_nil, Nat.zero_add, Nat.reduceAdd, e0]
 rfl
theorem tlc_ShareGroupDescribeResponseGroupMember (T : Tr) : tl_ShareGroupDescribeResponseGroupMember T = canP true fs_sShareGroupDescribeResponseGroupMember T := by
 have e0 : canF true (Fd.mk 8 0 (-1) (-1) (-1) 0 0 []) (T.at 0) = (.mk 0 (T.at 0).s false [] []) := (cFn (by decide) (by decide)).trans cV8
 have e1 : canF true (Fd.mk 8 0 (-1) 0 (-1) 0 0 []) (T.at 1) = (.mk 0 (sT (T.at 1)) (T.at 1).nul [] []) := cF8 rfl (by decide)
 have e2 : canF true (Fd.mk 3 0 (-1) (-1) (-1) 0 0 []) (T.at 2) = (.mk (IntKind.i32.wrap (T.at 2).n) [] false [] []) := (cFn (by decide) (by decide)).trans cV3
 have e3 : canF true (Fd.mk 8 0 (-1) (-1) (-1) 0 0 []) (T.at 3) = (.mk 0 (T.at 3).s false [] []) := (cFn (by decide) (by decide)).trans cV8
 have e4 : canF true (Fd.mk 8 0 (-1) (-1) (-1) 0 0 []) (T.at 4) = (.mk 0 (T.at 4).s false [] []) := (cFn (by decide) (by decide)).trans cV8
 have g5 : canV 8 (canP true []) = (fun y : Tr => (Tr.mk 0 y.s false [] [] : Tr)) := funext fun y => cV8
 have e5 : canF true (Fd.mk 11 0 (-1) (-1) (-1) 0 8 []) (T.at 5) = (.mk 0 [] (T.at 5).nul ((lT (T.at 5)).map (fun y : Tr => (Tr.mk 0 y.s false [] [] : Tr))) []) := (cF11 rfl).trans (by rw [show canV (Fd.of (Fd.mk 11 0 (-1) (-1) (-1) 0 8 [])) (canP true (Fd.sub (Fd.mk 11 0 (-1) (-1) (-1) 0 8 []))) = (fun y : Tr => (Tr.mk 0 y.s false [] [] : Tr)) from g5])
 have e6 : canF true (Fd.mk 10 0 (-1) (-1) (-1) 0 0 fs_sShareGroupDescribeResponseGroupMemberAssignment) (T.at 6) = (tl_ShareGroupDescribeResponseGroupMemberAssignment (T.at 6)) := (cFn (by decide) (by decide)).trans ((cV10 (sub := canP true fs_sShareGroupDescribeResponseGroupMemberAssignment)).trans (tlc_ShareGroupDescribeResponseGroupMemberAssignment _).symm)
 unfold tl_ShareGroupDescribeResponseGroupMember canP fs_sShareGroupDescribeResponseGroupMember
 simp only [canFs_cons, canFs_nil, Nat.zero_add, Nat.reduceAdd, e0, e1, e2, e3, e4, e5, e6]
 rfl
theorem tlc_ShareGroupDescribeResponseGroup (T : Tr) : tl_ShareGroupDescribeResponseGroup T = canP true fs_sShareGroupDescribeResponseGroup T := by
 have e0 : canF true (Fd.mk 2 0 (-1) (-1) (-1) 0 0 []) (T.at 0) = (.mk (IntKind.i16.wrap (T.at 0).n) [] false [] []) := (cFn (by decide) (by decide)).trans cV2
 have e1 : canF true (Fd.mk 8 0 (-1) 0 (-1) 0 0 []) (T.at 1) = (.mk 0 (sT (T.at 1)) (T.at 1).nul [] []) := cF8 rfl (by decide)
 have e2 : canF true (Fd.mk 8 0 (-1) (-1) (-1) 0 0 []) (T.at 2) = (.mk 0 (T.at 2).s false [] []) := (cFn (by decide) (by decide)).trans cV8
 have e3 : canF true (Fd.mk 8 0 (-1) (-1) (-1) 0 0 []) (T.at 3) = (.mk 0 (T.at 3).s false [] []) := (cFn (by decide) (by decide)).trans cV8
 have e4 : canF true (Fd.mk 3 0 (-1) (-1) (-1) 0 0 []) (T.at 4) = (.mk (IntKind.i32.wrap (T.at 4).n) [] false [] []) := (cFn (by decide) (by decide)).trans cV3
 have e5 : canF true (Fd.mk 3 0 (-1) (-1) (-1) 0 0 []) (T.at 5) = (.mk (IntKind.i32.wrap (T.at 5).n) [] false [] []) := (cFn (by decide) (by decide)).trans cV3
 have e6 : canF true (Fd.mk 8 0 (-1) (-1) (-1) 0 0 []) (T.at 6) = (.mk 0 (T.at 6).s false [] []) := (cFn (by decide) (by decide)).trans cV8
 have g7 : canV 10 (canP true fs_sShareGroupDescribeResponseGroupMember) = tl_ShareGroupDescribeResponseGroupMember := funext fun y => (cV10 (sub := canP true fs_sShareGroupDescribeResponseGroupMember)).trans (tlc_ShareGroupDescribeResponseGroupMember y).symm
 have e7 : canF true (Fd.mk 11 0 (-1) (-1) (-1) 0 10 fs_sShareGroupDescribeResponseGroupMember) (T.at 7) = (.mk 0 [] (T.at 7).nul ((lT (T.at 7)).map tl_ShareGroupDescribeResponseGroupMember) []) := (cF11 rfl).trans (by rw [show canV (Fd.of (Fd.mk 11 0 (-1) (-1) (-1) 0 10 fs_sShareGroupDescribeResponseGroupMember)) (canP true (Fd.sub (Fd.mk 11 0 (-1) (-1) (-1) 0 10 fs_sShareGroupDescribeResponseGroupMember))) = tl_ShareGroupDescribeResponseGroupMember from g7])
 have e8 : canF true (Fd.mk 3 0 (-1) (-1) (-1) (-2147483648) 0 []) (T.at 8) = (.mk (IntKind.i32.wrap (T.at 8).n) [] false [] []) := (cFn (by decide) (by decide)).trans cV3
 unfold tl_ShareGroupDescribeResponseGroup canP fs_sShareGroupDescribeResponseGroup
 simp only [canFs_cons, canFs_nil, Nat.zero_add, Nat.reduceAdd, e0, e1, e2, e3, e4, e5, e6, e7, e8]
 rfl
theorem tlc_ShareGroupDescribeResponse (T : Tr) : tl_ShareGroupDescribeResponse T = canP true fs_ShareGroupDescribeResponse T := by
 have e0 : canF true (Fd.mk 3 0 (-1) (-1) (-1) 0 0 []) (T.at 0) = (.mk (IntKind.i32.wrap (T.at 0).n) [] false [] []) := (cFn (by decide) (by decide)).trans cV3
 have g1 : canV 10 (canP true fs_sShareGroupDescribeResponseGroup) = tl_ShareGroupDescribeResponseGroup := funext fun y => (cV10 (sub := canP true fs_sShareGroupDescribeResponseGroup)).trans (tlc_ShareGroupDescribeResponseGroup y).symm
 have e1 : canF true (Fd.mk 11 0 (-1) (-1) (-1) 0 10 fs_sShareGroupDescribeResponseGroup) (T.at 1) = (.mk 0 [] (T.at 1).nul ((lT (T.at 1)).map tl_ShareGroupDescribeResponseGroup) []) := (cF11 rfl).trans (by rw [show canV (Fd.of (Fd.mk 11 0 (-1) (-1) (-1) 0 10 fs_sShareGroupDescribeResponseGroup)) (canP true (Fd.sub (Fd.mk 11 0 (-1) (-1) (-1) 0 10 fs_sShareGroupDescribeResponseGroup))) = tl_ShareGroupDescribeResponseGroup from g1])
 unfold tl_ShareGroupDescribeResponse canP fs_ShareGroupDescribeResponse
 simp only [canFs_cons, canFs_nil, Nat.zero_add, Nat.reduceAdd, e0, e1]
 rfl
theorem tld_ShareGroupDescribeResponse {v : Int} {flex : Bool} (h : RdGood v flex fs_ShareGroupDescribeResponse) (r : Rd) : tl_ShareGroupDescribeResponse (decP fs_ShareGroupDescribeResponse v flex r).1 = (decP fs_ShareGroupDescribeResponse v flex r).1 := (tlc_ShareGroupDescribeResponse _).trans (canP_dec h (fun h0 => by cases h0) r)
end Go.Sx
