import Derived.Test.YtoncemcnclkpkaaGreatDoorDDeleteShareGroupOffsetsResponse
import Derived.Test.YtoncemcnclkpkaaGreatDoorTelP
import Derived.KernelRfl
set_option linter.unusedVariables false
set_option linter.unusedSimpArgs false
set_option maxRecDepth 100000
set_option maxHeartbeats 20000000
namespace Go.Sx
open Go.Proofs
theorem tlc_DeleteShareGroupOffsetsResponseTopic (T : Tr) : tl_DeleteShareGroupOffsetsResponseTopic T = canP true fs_sDeleteShareGroupOffsetsResponseTopic T := by
  have e0 : canF true (Fd.mk 8 0 (-1) (-1) (-1) 0 0 []) (T.at 0) = (.mk 0 (T.at 0).s false [] []) := (cFn (by decide) (by decide)).trans cV8
  have e1 : canF true (Fd.mk 7 0 (-1) (-1) (-1) 0 0 []) (T.at 1) = (.mk 0 (pad16 (T.at 1).s) false [] []) := (cFn (by decide) (by decide)).trans cV7
  have e2 : canF true (Fd.mk 2 0 (-1) (-1) (-1) 0 0 []) (T.at 2) = (.mk (IntKind.i16.wrap (T.at 2).n) [] false [] []) := (cFn (by decide) (by decide)).trans cV2
  have e3 : canF true (Fd.mk 8 0 (-1) 0 (-1) 0 0 []) (T.at 3) = (.mk 0 (sT (T.at 3)) (T.at 3).nul [] []) := cF8 rfl (by decide)
  unfold tl_DeleteShareGroupOffsetsResponseTopic canP fs_sDeleteShareGroupOffsetsResponseTopic
  simp only [canFs_cons, canFs_nil, Nat.zero_add, Nat.reduceAdd, e0, e1, e2, e3]
  rfl
theorem tlc_DeleteShareGroupOffsetsResponse (T : Tr) : tl_DeleteShareGroupOffsetsResponse T = canP true fs_DeleteShareGroupOffsetsResponse T := by
  have e0 : canF true (Fd.mk 3 0 (-1) (-1) (-1) 0 0 []) (T.at 0) = (.mk (IntKind.i32.wrap (T.at 0).n) [] false [] []) := (cFn (by decide) (by decide)).trans cV3
  have e1 : canF true (Fd.mk 2 0 (-1) (-1) (-1) 0 0 []) (T.at 1) = (.mk (IntKind.i16.wrap (T.at 1).n) [] false [] []) := (cFn (by decide) (by decide)).trans cV2
  have e2 : canF true (Fd.mk 8 0 (-1) 0 (-1) 0 0 []) (T.at 2) = (.mk 0 (sT (T.at 2)) (T.at 2).nul [] []) := cF8 rfl (by decide)
  have g3 : canV 10 (canP true fs_sDeleteShareGroupOffsetsResponseTopic) = tl_DeleteShareGroupOffsetsResponseTopic := funext fun y => (cV10 (sub := canP true fs_sDeleteShareGroupOffsetsResponseTopic)).trans (tlc_DeleteShareGroupOffsetsResponseTopic y).symm
  have e3 : canF true (Fd.mk 11 0 (-1) (-1) (-1) 0 10 fs_sDeleteShareGroupOffsetsResponseTopic) (T.at 3) = (.mk 0 [] (T.at 3).nul ((lT (T.at 3)).map tl_DeleteShareGroupOffsetsResponseTopic) []) := (cF11 rfl).trans (by rw [show canV (Fd.of (Fd.mk 11 0 (-1) (-1) (-1) 0 10 fs_sDeleteShareGroupOffsetsResponseTopic)) (canP true (Fd.sub (Fd.mk 11 0 (-1) (-1) (-1) 0 10 fs_sDeleteShareGroupOffsetsResponseTopic))) = tl_DeleteShareGroupOffsetsResponseTopic from g3])
  unfold tl_DeleteShareGroupOffsetsResponse canP fs_DeleteShareGroupOffsetsResponse
  simp only [canFs_cons, canFs_nil, Nat.zero_add, Nat.reduceAdd, e0, e1, e2, e3]
  rfl
theorem tld_DeleteShareGroupOffsetsResponse {v : Int} {flex : Bool} (h : RdGood v flex fs_DeleteShareGroupOffsetsResponse) (r : Rd) : tl_DeleteShareGroupOffsetsResponse (decP fs_DeleteShareGroupOffsetsResponse v flex r).1 = (decP fs_DeleteShareGroupOffsetsResponse v flex r).1 := (tlc_DeleteShareGroupOffsetsResponse _).trans (canP_dec h (fun h0 => by cases h0) r)
end Go.Sx
