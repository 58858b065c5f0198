import Derived.Test.YtoncemcnclkpkaaDoorDAllocateProducerIDsRequest
import Derived.Test.YtoncemcnclkpkaaDoorTelP
import Derived.KernelRfl
set_option linter.unusedVariables false
set_option linter.unusedSimpArgs false
set_option maxRecDepth 100000
set_option maxHeartbeats 20000000
namespace Go.Sx
open Go.Proofs
theorem tlc_AllocateProducerIDsRequest (T : Tr) : tl_AllocateProducerIDsRequest T = canP true fs_AllocateProducerIDsRequest T := by
  have e0 : canF true (Fd.mk 3 0 (-1) (-1) (-1) 0 0 []) (T.at 0) = (.mk (IntKind.i32.wrap (T.at 0).n) [] false [] []) := (cFn (by decide) (by decide)).trans cV3
  have e1 : canF true (Fd.mk 4 0 (-1) (-1) (-1) (-1) 0 []) (T.at 1) = (.mk (T.at 1).n [] false [] []) := (cFn (by decide) (by decide)).trans cV4
  unfold tl_AllocateProducerIDsRequest canP fs_AllocateProducerIDsRequest
  simp only [canFs_cons, canFs_nil, Nat.zero_add, Nat.reduceAdd, e0, e1]
  rfl
theorem tld_AllocateProducerIDsRequest {v : Int} {flex : Bool} (h : RdGood v flex fs_AllocateProducerIDsRequest) (r : Rd) : tl_AllocateProducerIDsRequest (decP fs_AllocateProducerIDsRequest v flex r).1 = (decP fs_AllocateProducerIDsRequest v flex r).1 := (tlc_AllocateProducerIDsRequest _).trans (canP_dec h (fun h0 => by cases h0) r)
end Go.Sx
