import Derived.Test.YtoncemcnclkpkaaDoorDSASLAuthenticateRequest
import Derived.Test.YtoncemcnclkpkaaDoorTelP
import Derived.KernelRfl
set_option linter.unusedVariables false
set_option linter.unusedSimpArgs false
set_option maxRecDepth 100000
set_option maxHeartbeats 20000000
namespace Go.Sx
open Go.Proofs
theorem tlc_SASLAuthenticateRequest (T : Tr) : tl_SASLAuthenticateRequest T = canP true fs_SASLAuthenticateRequest T := by
  have e0 : canF true (Fd.mk 9 0 (-1) (-1) (-1) 0 0 []) (T.at 0) = (.mk 0 (sT (T.at 0)) (T.at 0).nul [] []) := (cFn (by decide) (by decide)).trans cV9
  unfold tl_SASLAuthenticateRequest canP fs_SASLAuthenticateRequest
  simp only [canFs_cons, canFs_nil, Nat.zero_add, Nat.reduceAdd, e0]
  rfl
theorem tld_SASLAuthenticateRequest {v : Int} {flex : Bool} (h : RdGood v flex fs_SASLAuthenticateRequest) (r : Rd) : tl_SASLAuthenticateRequest (decP fs_SASLAuthenticateRequest v flex r).1 = (decP fs_SASLAuthenticateRequest v flex r).1 := (tlc_SASLAuthenticateRequest _).trans (canP_dec h (fun h0 => by cases h0) r)
end Go.Sx
