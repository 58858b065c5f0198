import Derived.Test.YtoncemcnclkpkaaGreatDoorDControlledShutdownResponse
import Derived.Test.YtoncemcnclkpkaaGreatDoorTelP
import Derived.KernelRfl
set_option linter.unusedVariables false
set_option linter.unusedSimpArgs false
set_option maxRecDepth 100000
set_option maxHeartbeats 20000000
namespace Go.Sx
open Go.Proofs
theorem tlc_ControlledShutdownResponsePartitionsRemaining (T : Tr) : tl_ControlledShutdownResponsePartitionsRemaining T = canP true fs_sControlledShutdownResponsePartitionsRemaining T := by
  have e0 : canF true (Fd.mk 8 0 (-1) (-1) (-1) 0 0 []) (T.at 0) = (.mk 0 (T.at 0).s false [] []) := (cFn (by decide) (by decide)).trans cV8
  have e1 : canF true (Fd.mk 3 0 (-1) (-1) (-1) 0 0 []) (T.at 1) = (.mk (IntKind.i32.wrap (T.at 1).n) [] false [] []) := (cFn (by decide) (by decide)).trans cV3
  unfold tl_ControlledShutdownResponsePartitionsRemaining canP fs_sControlledShutdownResponsePartitionsRemaining
  simp only [canFs_cons, canFs_nil, Nat.zero_add, Nat.reduceAdd, e0, e1]
  rfl
theorem tlc_ControlledShutdownResponse (T : Tr) : tl_ControlledShutdownResponse T = canP true fs_ControlledShutdownResponse T := by
  have e0 : canF true (Fd.mk 2 0 (-1) (-1) (-1) 0 0 []) (T.at 0) = (.mk (IntKind.i16.wrap (T.at 0).n) [] false [] []) := (cFn (by decide) (by decide)).trans cV2
  have g1 : canV 10 (canP true fs_sControlledShutdownResponsePartitionsRemaining) = tl_ControlledShutdownResponsePartitionsRemaining := funext fun y => (cV10 (sub := canP true fs_sControlledShutdownResponsePartitionsRemaining)).trans (tlc_ControlledShutdownResponsePartitionsRemaining y).symm
  have e1 : canF true (Fd.mk 11 0 (-1) (-1) (-1) 0 10 fs_sControlledShutdownResponsePartitionsRemaining) (T.at 1) = (.mk 0 [] (T.at 1).nul ((lT (T.at 1)).map tl_ControlledShutdownResponsePartitionsRemaining) []) := (cF11 rfl).trans (by rw [show canV (Fd.of (Fd.mk 11 0 (-1) (-1) (-1) 0 10 fs_sControlledShutdownResponsePartitionsRemaining)) (canP true (Fd.sub (Fd.mk 11 0 (-1) (-1) (-1) 0 10 fs_sControlledShutdownResponsePartitionsRemaining))) = tl_ControlledShutdownResponsePartitionsRemaining from g1])
  unfold tl_ControlledShutdownResponse canP fs_ControlledShutdownResponse
  simp only [canFs_cons, canFs_nil, Nat.zero_add, Nat.reduceAdd, e0, e1]
  rfl
theorem tld_ControlledShutdownResponse {v : Int} {flex : Bool} (h : RdGood v flex fs_ControlledShutdownResponse) (r : Rd) : tl_ControlledShutdownResponse (decP fs_ControlledShutdownResponse v flex r).1 = (decP fs_ControlledShutdownResponse v flex r).1 := (tlc_ControlledShutdownResponse _).trans (canP_dec h (fun h0 => by cases h0) r)
end Go.Sx
