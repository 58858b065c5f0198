import Derived.Test.YtoncemcnclkpkaaDoorDDescribeTransactionsRequest
import Derived.Test.YtoncemcnclkpkaaDoorTelP
import Derived.KernelRfl
set_option linter.unusedVariables false
set_option linter.unusedSimpArgs false
set_option maxRecDepth 100000
set_option maxHeartbeats 20000000
namespace Go.Sx
open Go.Proofs
theorem tlc_DescribeTransactionsRequest (T : Tr) : tl_DescribeTransactionsRequest T = canP true fs_DescribeTransactionsRequest T := by
  have g0 : canV 8 (canP true []) = (fun y : Tr => (Tr.mk 0 y.s false [] [] : Tr)) := funext fun y => cV8
  have e0 : canF true (Fd.mk 11 0 (-1) (-1) (-1) 0 8 []) (T.at 0) = (.mk 0 [] (T.at 0).nul ((lT (T.at 0)).map (fun y : Tr => (Tr.mk 0 y.s false [] [] : Tr))) []) := (cF11 rfl).trans (by rw [show canV (Fd.of (Fd.mk 11 0 (-1) (-1) (-1) 0 8 [])) (canP true (Fd.sub (Fd.mk 11 0 (-1) (-1) (-1) 0 8 []))) = (fun y : Tr => (Tr.mk 0 y.s false [] [] : Tr)) from g0])
  unfold tl_DescribeTransactionsRequest canP fs_DescribeTransactionsRequest
  simp only [canFs_cons, canFs_nil, Nat.zero_add, Nat.reduceAdd, e0]
  rfl
theorem tld_DescribeTransactionsRequest {v : Int} {flex : Bool} (h : RdGood v flex fs_DescribeTransactionsRequest) (r : Rd) : tl_DescribeTransactionsRequest (decP fs_DescribeTransactionsRequest v flex r).1 = (decP fs_DescribeTransactionsRequest v flex r).1 := (tlc_DescribeTransactionsRequest _).trans (canP_dec h (fun h0 => by cases h0) r)
end Go.Sx
