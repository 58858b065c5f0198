import Derived.Test.YtoncemcnclkpkaaDoorDDescribeClusterRequest
import Derived.Test.YtoncemcnclkpkaaDoorTelP
import Derived.KernelRfl
set_option linter.unusedVariables false
set_option linter.unusedSimpArgs false
set_option maxRecDepth 100000
set_option maxHeartbeats 20000000
namespace Go.Sx
open Go.Proofs
theorem tlc_DescribeClusterRequest (T : Tr) : tl_DescribeClusterRequest T = canP true fs_DescribeClusterRequest T := by
  have e0 : canF true (Fd.mk 0 0 (-1) (-1) (-1) 0 0 []) (T.at 0) = (.mk (if decide ((T.at 0).n % 2 = 1) = true then 1 else 0) [] false [] []) := (cFn (by decide) (by decide)).trans cV0
  have e1 : canF true (Fd.mk 1 1 (-1) (-1) (-1) 1 0 []) (T.at 1) = (.mk (IntKind.i8.wrap (T.at 1).n) [] false [] []) := (cFn (by decide) (by decide)).trans cV1
  have e2 : canF true (Fd.mk 0 2 (-1) (-1) (-1) 0 0 []) (T.at 2) = (.mk (if decide ((T.at 2).n % 2 = 1) = true then 1 else 0) [] false [] []) := (cFn (by decide) (by decide)).trans cV0
  unfold tl_DescribeClusterRequest canP fs_DescribeClusterRequest
  simp only [canFs_cons, canFs_nil, Nat.zero_add, Nat.reduceAdd, e0, e1, e2]
  rfl
theorem tld_DescribeClusterRequest {v : Int} {flex : Bool} (h : RdGood v flex fs_DescribeClusterRequest) (r : Rd) : tl_DescribeClusterRequest (decP fs_DescribeClusterRequest v flex r).1 = (decP fs_DescribeClusterRequest v flex r).1 := (tlc_DescribeClusterRequest _).trans (canP_dec h (fun h0 => by cases h0) r)
end Go.Sx
