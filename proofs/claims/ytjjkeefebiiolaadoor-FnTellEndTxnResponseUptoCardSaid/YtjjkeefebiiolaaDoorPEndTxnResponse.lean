import Derived.Test.YtjjkeefebiiolaaDoorDEndTxnResponse
import Derived.Test.YtjjkeefebiiolaaDoorTelP
import Derived.KernelRfl
set_option linter.unusedVariables false
set_option linter.unusedSimpArgs false
set_option maxRecDepth 100000
set_option maxHeartbeats 20000000
namespace Go.Sx
open Go.Proofs
theorem tlc_EndTxnResponse (T : Tr) : tl_EndTxnResponse T = canP true fs_EndTxnResponse T := by
  have e0 : canF true (Fd.mk 3 0 (-1) (-1) (-1) 0 0 []) (T.at 0) = (.mk (IntKind.i32.wrap (T.at 0).n) [] false [] []) := (cFn (by decide) (by decide)).trans cV3
  have e1 : canF true (Fd.mk 2 0 (-1) (-1) (-1) 0 0 []) (T.at 1) = (.mk (IntKind.i16.wrap (T.at 1).n) [] false [] []) := (cFn (by decide) (by decide)).trans cV2
  have e2 : canF true (Fd.mk 4 5 (-1) (-1) (-1) (-1) 0 []) (T.at 2) = (.mk (T.at 2).n [] false [] []) := (cFn (by decide) (by decide)).trans cV4
  have e3 : canF true (Fd.mk 2 5 (-1) (-1) (-1) (-1) 0 []) (T.at 3) = (.mk (IntKind.i16.wrap (T.at 3).n) [] false [] []) := (cFn (by decide) (by decide)).trans cV2
  unfold tl_EndTxnResponse canP fs_EndTxnResponse
  simp only [canFs_cons, canFs_nil, Nat.zero_add, Nat.reduceAdd, e0, e1, e2, e3]
  rfl
theorem tld_EndTxnResponse {v : Int} {flex : Bool} (h : RdGood v flex fs_EndTxnResponse) (r : Rd) : tl_EndTxnResponse (decP fs_EndTxnResponse v flex r).1 = (decP fs_EndTxnResponse v flex r).1 := (tlc_EndTxnResponse _).trans (canP_dec h (fun h0 => by cases h0) r)
end Go.Sx
