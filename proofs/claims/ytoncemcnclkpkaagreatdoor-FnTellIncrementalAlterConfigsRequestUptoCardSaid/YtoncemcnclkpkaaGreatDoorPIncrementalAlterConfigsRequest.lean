import Derived.Test.YtoncemcnclkpkaaGreatDoorDIncrementalAlterConfigsRequest
import Derived.Test.YtoncemcnclkpkaaGreatDoorTelP
import Derived.KernelRfl
set_option linter.unusedVariables false
set_option linter.unusedSimpArgs false
set_option maxRecDepth 100000
set_option maxHeartbeats 20000000
namespace Go.Sx
open Go.Proofs
theorem tlc_IncrementalAlterConfigsRequestResourceConfig (T : Tr) : tl_IncrementalAlterConfigsRequestResourceConfig T = canP true fs_sIncrementalAlterConfigsRequestResourceConfig T := by
  have e0 : canF true (Fd.mk 8 0 (-1) (-1) (-1) 0 0 []) (T.at 0) = (.mk 0 (T.at 0).s false [] []) := (cFn (by decide) (by decide)).trans cV8
  have e1 : canF true (Fd.mk 1 0 (-1) (-1) (-1) 0 0 []) (T.at 1) = (.mk (IntKind.i8.wrap (T.at 1).n) [] false [] []) := (cFn (by decide) (by decide)).trans cV1
  have e2 : canF true (Fd.mk 8 0 (-1) 0 (-1) 0 0 []) (T.at 2) = (.mk 0 (sT (T.at 2)) (T.at 2).nul [] []) := cF8 rfl (by decide)
  unfold tl_IncrementalAlterConfigsRequestResourceConfig canP fs_sIncrementalAlterConfigsRequestResourceConfig
  simp only [canFs_cons, canFs_nil, Nat.zero_add, Nat.reduceAdd, e0, e1, e2]
  rfl
theorem tlc_IncrementalAlterConfigsRequestResource (T : Tr) : tl_IncrementalAlterConfigsRequestResource T = canP true fs_sIncrementalAlterConfigsRequestResource T := by
  have e0 : canF true (Fd.mk 1 0 (-1) (-1) (-1) 0 0 []) (T.at 0) = (.mk (IntKind.i8.wrap (T.at 0).n) [] false [] []) := (cFn (by decide) (by decide)).trans cV1
  have e1 : canF true (Fd.mk 8 0 (-1) (-1) (-1) 0 0 []) (T.at 1) = (.mk 0 (T.at 1).s false [] []) := (cFn (by decide) (by decide)).trans cV8
  have g2 : canV 10 (canP true fs_sIncrementalAlterConfigsRequestResourceConfig) = tl_IncrementalAlterConfigsRequestResourceConfig := funext fun y => (cV10 (sub := canP true fs_sIncrementalAlterConfigsRequestResourceConfig)).trans (tlc_IncrementalAlterConfigsRequestResourceConfig y).symm
  have e2 : canF true (Fd.mk 11 0 (-1) (-1) (-1) 0 10 fs_sIncrementalAlterConfigsRequestResourceConfig) (T.at 2) = (.mk 0 [] (T.at 2).nul ((lT (T.at 2)).map tl_IncrementalAlterConfigsRequestResourceConfig) []) := (cF11 rfl).trans (by rw [show canV (Fd.of (Fd.mk 11 0 (-1) (-1) (-1) 0 10 fs_sIncrementalAlterConfigsRequestResourceConfig)) (canP true (Fd.sub (Fd.mk 11 0 (-1) (-1) (-1) 0 10 fs_sIncrementalAlterConfigsRequestResourceConfig))) = tl_IncrementalAlterConfigsRequestResourceConfig from g2])
  unfold tl_IncrementalAlterConfigsRequestResource canP fs_sIncrementalAlterConfigsRequestResource
  simp only [canFs_cons, canFs_nil, Nat.zero_add, Nat.reduceAdd, e0, e1, e2]
  rfl
theorem tlc_IncrementalAlterConfigsRequest (T : Tr) : tl_IncrementalAlterConfigsRequest T = canP true fs_IncrementalAlterConfigsRequest T := by
  have g0 : canV 10 (canP true fs_sIncrementalAlterConfigsRequestResource) = tl_IncrementalAlterConfigsRequestResource := funext fun y => (cV10 (sub := canP true fs_sIncrementalAlterConfigsRequestResource)).trans (tlc_IncrementalAlterConfigsRequestResource y).symm
  have e0 : canF true (Fd.mk 11 0 (-1) (-1) (-1) 0 10 fs_sIncrementalAlterConfigsRequestResource) (T.at 0) = (.mk 0 [] (T.at 0).nul ((lT (T.at 0)).map tl_IncrementalAlterConfigsRequestResource) []) := (cF11 rfl).trans (by rw [show canV (Fd.of (Fd.mk 11 0 (-1) (-1) (-1) 0 10 fs_sIncrementalAlterConfigsRequestResource)) (canP true (Fd.sub (Fd.mk 11 0 (-1) (-1) (-1) 0 10 fs_sIncrementalAlterConfigsRequestResource))) = tl_IncrementalAlterConfigsRequestResource from g0])
  have e1 : canF true (Fd.mk 0 0 (-1) (-1) (-1) 0 0 []) (T.at 1) = (.mk (if decide ((T.at 1).n % 2 = 1) = true then 1 else 0) [] false [] []) := (cFn (by decide) (by decide)).trans cV0
  unfold tl_IncrementalAlterConfigsRequest canP fs_IncrementalAlterConfigsRequest
  simp only [canFs_cons, canFs_nil, Nat.zero_add, Nat.reduceAdd, e0, e1]
  rfl
theorem tld_IncrementalAlterConfigsRequest {v : Int} {flex : Bool} (h : RdGood v flex fs_IncrementalAlterConfigsRequest) (r : Rd) : tl_IncrementalAlterConfigsRequest (decP fs_IncrementalAlterConfigsRequest v flex r).1 = (decP fs_IncrementalAlterConfigsRequest v flex r).1 := (tlc_IncrementalAlterConfigsRequest _).trans (canP_dec h (fun h0 => by cases h0) r)
end Go.Sx
