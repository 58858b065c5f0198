import Derived.Test.YtoncemcnclkpkaaDoorDAddOffsetsToTxnRequest
import Derived.Test.YtoncemcnclkpkaaDoorTelP
import Derived.KernelRfl
set_option linter.unusedVariables false
set_option linter.unusedSimpArgs false
set_option maxRecDepth 100000
set_option maxHeartbeats 20000000
namespace Go.Sx
open Go.Proofs
theorem tlc_AddOffsetsToTxnRequest (T : Tr) : tl_AddOffsetsToTxnRequest T = canP true fs_AddOffsetsToTxnRequest T := by
  have e0 : canF true (Fd.mk 8 0 (-1) (-1) (-1) 0 0 []) (T.at 0) = (.mk 0 (T.at 0).s false [] []) := (cFn (by decide) (by decide)).trans cV8
  have e1 : canF true (Fd.mk 4 0 (-1) (-1) (-1) 0 0 []) (T.at 1) = (.mk (T.at 1).n [] false [] []) := (cFn (by decide) (by decide)).trans cV4
  have e2 : canF true (Fd.mk 2 0 (-1) (-1) (-1) 0 0 []) (T.at 2) = (.mk (IntKind.i16.wrap (T.at 2).n) [] false [] []) := (cFn (by decide) (by decide)).trans cV2
  have e3 : canF true (Fd.mk 8 0 (-1) (-1) (-1) 0 0 []) (T.at 3) = (.mk 0 (T.at 3).s false [] []) := (cFn (by decide) (by decide)).trans cV8
  unfold tl_AddOffsetsToTxnRequest canP fs_AddOffsetsToTxnRequest
  simp only [canFs_cons, canFs_nil, Nat.zero_add, Nat.reduceAdd, e0, e1, e2, e3]
  rfl
theorem tld_AddOffsetsToTxnRequest {v : Int} {flex : Bool} (h : RdGood v flex fs_AddOffsetsToTxnRequest) (r : Rd) : tl_AddOffsetsToTxnRequest (decP fs_AddOffsetsToTxnRequest v flex r).1 = (decP fs_AddOffsetsToTxnRequest v flex r).1 := (tlc_AddOffsetsToTxnRequest _).trans (canP_dec h (fun h0 => by cases h0) r)
end Go.Sx
