import Derived.Test.YtoncemcnclkpkaaDoorDExpireDelegationTokenRequest
import Derived.Test.YtoncemcnclkpkaaDoorTelP
import Derived.KernelRfl
set_option linter.unusedVariables false
set_option linter.unusedSimpArgs false
set_option maxRecDepth 100000
set_option maxHeartbeats 20000000
namespace Go.Sx
open Go.Proofs
theorem tlc_ExpireDelegationTokenRequest (T : Tr) : tl_ExpireDelegationTokenRequest T = canP true fs_ExpireDelegationTokenRequest T := by
  have e0 : canF true (Fd.mk 9 0 (-1) (-1) (-1) 0 0 []) (T.at 0) = (.mk 0 (sT (T.at 0)) (T.at 0).nul [] []) := (cFn (by decide) (by decide)).trans cV9
  have e1 : canF true (Fd.mk 4 0 (-1) (-1) (-1) 0 0 []) (T.at 1) = (.mk (T.at 1).n [] false [] []) := (cFn (by decide) (by decide)).trans cV4
  unfold tl_ExpireDelegationTokenRequest canP fs_ExpireDelegationTokenRequest
  simp only [canFs_cons, canFs_nil, Nat.zero_add, Nat.reduceAdd, e0, e1]
  rfl
theorem tld_ExpireDelegationTokenRequest {v : Int} {flex : Bool} (h : RdGood v flex fs_ExpireDelegationTokenRequest) (r : Rd) : tl_ExpireDelegationTokenRequest (decP fs_ExpireDelegationTokenRequest v flex r).1 = (decP fs_ExpireDelegationTokenRequest v flex r).1 := (tlc_ExpireDelegationTokenRequest _).trans (canP_dec h (fun h0 => by cases h0) r)
end Go.Sx
