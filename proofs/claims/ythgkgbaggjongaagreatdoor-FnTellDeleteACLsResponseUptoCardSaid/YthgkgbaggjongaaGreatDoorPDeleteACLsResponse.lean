import Derived.Test.YthgkgbaggjongaaGreatDoorDDeleteACLsResponse
import Derived.Test.YthgkgbaggjongaaGreatDoorTelP
import Derived.KernelRfl
set_option linter.unusedVariables false
set_option linter.unusedSimpArgs false
set_option maxRecDepth 100000
set_option maxHeartbeats 20000000
namespace Go.Sx
open Go.Proofs
theorem tlc_DeleteACLsResponseResultMatchingACL (T : Tr) : tl_DeleteACLsResponseResultMatchingACL T = canP true fs_sDeleteACLsResponseResultMatchingACL T := by
  have e0 : canF true (Fd.mk 2 0 (-1) (-1) (-1) 0 0 []) (T.at 0) = (.mk (IntKind.i16.wrap (T.at 0).n) [] false [] []) := (cFn (by decide) (by decide)).trans cV2
  have e1 : canF true (Fd.mk 8 0 (-1) 0 (-1) 0 0 []) (T.at 1) = (.mk 0 (sT (T.at 1)) (T.at 1).nul [] []) := cF8 rfl (by decide)
  have e2 : canF true (Fd.mk 1 0 (-1) (-1) (-1) 0 0 []) (T.at 2) = (.mk (IntKind.i8.wrap (T.at 2).n) [] false [] []) := (cFn (by decide) (by decide)).trans cV1
  have e3 : canF true (Fd.mk 8 0 (-1) (-1) (-1) 0 0 []) (T.at 3) = (.mk 0 (T.at 3).s false [] []) := (cFn (by decide) (by decide)).trans cV8
  have e4 : canF true (Fd.mk 1 1 (-1) (-1) (-1) 3 0 []) (T.at 4) = (.mk (IntKind.i8.wrap (T.at 4).n) [] false [] []) := (cFn (by decide) (by decide)).trans cV1
  have e5 : canF true (Fd.mk 8 0 (-1) (-1) (-1) 0 0 []) (T.at 5) = (.mk 0 (T.at 5).s false [] []) := (cFn (by decide) (by decide)).trans cV8
  have e6 : canF true (Fd.mk 8 0 (-1) (-1) (-1) 0 0 []) (T.at 6) = (.mk 0 (T.at 6).s false [] []) := (cFn (by decide) (by decide)).trans cV8
  have e7 : canF true (Fd.mk 1 0 (-1) (-1) (-1) 0 0 []) (T.at 7) = (.mk (IntKind.i8.wrap (T.at 7).n) [] false [] []) := (cFn (by decide) (by decide)).trans cV1
  have e8 : canF true (Fd.mk 1 0 (-1) (-1) (-1) 0 0 []) (T.at 8) = (.mk (IntKind.i8.wrap (T.at 8).n) [] false [] []) := (cFn (by decide) (by decide)).trans cV1
  unfold tl_DeleteACLsResponseResultMatchingACL canP fs_sDeleteACLsResponseResultMatchingACL
  simp only [canFs_cons, canFs_nil, Nat.zero_add, Nat.reduceAdd, e0, e1, e2, e3, e4, e5, e6, e7, e8]
  rfl
theorem tlc_DeleteACLsResponseResult (T : Tr) : tl_DeleteACLsResponseResult T = canP true fs_sDeleteACLsResponseResult T := by
  have e0 : canF true (Fd.mk 2 0 (-1) (-1) (-1) 0 0 []) (T.at 0) = (.mk (IntKind.i16.wrap (T.at 0).n) [] false [] []) := (cFn (by decide) (by decide)).trans cV2
  have e1 : canF true (Fd.mk 8 0 (-1) 0 (-1) 0 0 []) (T.at 1) = (.mk 0 (sT (T.at 1)) (T.at 1).nul [] []) := cF8 rfl (by decide)
  have g2 : canV 10 (canP true fs_sDeleteACLsResponseResultMatchingACL) = tl_DeleteACLsResponseResultMatchingACL := funext fun y => (cV10 (sub := canP true fs_sDeleteACLsResponseResultMatchingACL)).trans (tlc_DeleteACLsResponseResultMatchingACL y).symm
  have e2 : canF true (Fd.mk 11 0 (-1) (-1) (-1) 0 10 fs_sDeleteACLsResponseResultMatchingACL) (T.at 2) = (.mk 0 [] (T.at 2).nul ((lT (T.at 2)).map tl_DeleteACLsResponseResultMatchingACL) []) := (cF11 rfl).trans (by rw [show canV (Fd.of (Fd.mk 11 0 (-1) (-1) (-1) 0 10 fs_sDeleteACLsResponseResultMatchingACL)) (canP true (Fd.sub (Fd.mk 11 0 (-1) (-1) (-1) 0 10 fs_sDeleteACLsResponseResultMatchingACL))) = tl_DeleteACLsResponseResultMatchingACL from g2])
  unfold tl_DeleteACLsResponseResult canP fs_sDeleteACLsResponseResult
  simp only [canFs_cons, canFs_nil, Nat.zero_add, Nat.reduceAdd, e0, e1, e2]
  rfl
theorem tlc_DeleteACLsResponse (T : Tr) : tl_DeleteACLsResponse T = canP true fs_DeleteACLsResponse T := by
  have e0 : canF true (Fd.mk 3 0 (-1) (-1) (-1) 0 0 []) (T.at 0) = (.mk (IntKind.i32.wrap (T.at 0).n) [] false [] []) := (cFn (by decide) (by decide)).trans cV3
  have g1 : canV 10 (canP true fs_sDeleteACLsResponseResult) = tl_DeleteACLsResponseResult := funext fun y => (cV10 (sub := canP true fs_sDeleteACLsResponseResult)).trans (tlc_DeleteACLsResponseResult y).symm
  have e1 : canF true (Fd.mk 11 0 (-1) (-1) (-1) 0 10 fs_sDeleteACLsResponseResult) (T.at 1) = (.mk 0 [] (T.at 1).nul ((lT (T.at 1)).map tl_DeleteACLsResponseResult) []) := (cF11 rfl).trans (by rw [show canV (Fd.of (Fd.mk 11 0 (-1) (-1) (-1) 0 10 fs_sDeleteACLsResponseResult)) (canP true (Fd.sub (Fd.mk 11 0 (-1) (-1) (-1) 0 10 fs_sDeleteACLsResponseResult))) = tl_DeleteACLsResponseResult from g1])
  unfold tl_DeleteACLsResponse canP fs_DeleteACLsResponse
  simp only [canFs_cons, canFs_nil, Nat.zero_add, Nat.reduceAdd, e0, e1]
  rfl
theorem tld_DeleteACLsResponse {v : Int} {flex : Bool} (h : RdGood v flex fs_DeleteACLsResponse) (r : Rd) : tl_DeleteACLsResponse (decP fs_DeleteACLsResponse v flex r).1 = (decP fs_DeleteACLsResponse v flex r).1 := (tlc_DeleteACLsResponse _).trans (canP_dec h (fun h0 => by cases h0) r)
end Go.Sx
