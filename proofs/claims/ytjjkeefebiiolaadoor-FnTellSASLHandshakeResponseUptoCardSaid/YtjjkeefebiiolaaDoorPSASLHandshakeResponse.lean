import Derived.Test.YtjjkeefebiiolaaDoorDSASLHandshakeResponse
import Derived.Test.YtjjkeefebiiolaaDoorTelP
import Derived.KernelRfl
set_option linter.unusedVariables false
set_option linter.unusedSimpArgs false
set_option maxRecDepth 100000
set_option maxHeartbeats 20000000
namespace Go.Sx
open Go.Proofs
theorem tlc_SASLHandshakeResponse (T : Tr) : tl_SASLHandshakeResponse T = canP false fs_SASLHandshakeResponse T := by
  have e0 : canF false (Fd.mk 2 0 (-1) (-1) (-1) 0 0 []) (T.at 0) = (.mk (IntKind.i16.wrap (T.at 0).n) [] false [] []) := (cFn (by decide) (by decide)).trans cV2
  have g1 : canV 8 (canP false []) = (fun y : Tr => (Tr.mk 0 y.s false [] [] : Tr)) := funext fun y => cV8
  have e1 : canF false (Fd.mk 11 0 (-1) (-1) (-1) 0 8 []) (T.at 1) = (.mk 0 [] (T.at 1).nul ((lT (T.at 1)).map (fun y : Tr => (Tr.mk 0 y.s false [] [] : Tr))) []) := (cF11 rfl).trans (by rw [show canV (Fd.of (Fd.mk 11 0 (-1) (-1) (-1) 0 8 [])) (canP false (Fd.sub (Fd.mk 11 0 (-1) (-1) (-1) 0 8 []))) = (fun y : Tr => (Tr.mk 0 y.s false [] [] : Tr)) from g1])
  unfold tl_SASLHandshakeResponse canP fs_SASLHandshakeResponse
  simp only [canFs_cons, canFs_nil, Nat.zero_add, Nat.reduceAdd, e0, e1]
  rfl
theorem tld_SASLHandshakeResponse {v : Int} {flex : Bool} (h : RdGood v flex fs_SASLHandshakeResponse) (hf : flex = false) (r : Rd) : tl_SASLHandshakeResponse (decP fs_SASLHandshakeResponse v flex r).1 = (decP fs_SASLHandshakeResponse v flex r).1 := (tlc_SASLHandshakeResponse _).trans (canP_dec h (fun h0 => hf) r)
end Go.Sx
