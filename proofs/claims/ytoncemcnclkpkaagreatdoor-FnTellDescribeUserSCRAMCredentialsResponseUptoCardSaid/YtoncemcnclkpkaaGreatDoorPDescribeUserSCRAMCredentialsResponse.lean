import Derived.Test.YtoncemcnclkpkaaGreatDoorDDescribeUserSCRAMCredentialsResponse
import Derived.Test.YtoncemcnclkpkaaGreatDoorTelP
import Derived.KernelRfl
set_option linter.unusedVariables false
set_option linter.unusedSimpArgs false
set_option maxRecDepth 100000
set_option maxHeartbeats 20000000
namespace Go.Sx
open Go.Proofs
theorem tlc_DescribeUserSCRAMCredentialsResponseResultCredentialInfo (T : Tr) : tl_DescribeUserSCRAMCredentialsResponseResultCredentialInfo T = canP true fs_sDescribeUserSCRAMCredentialsResponseResultCredentialInfo T := by
  have e0 : canF true (Fd.mk 1 0 (-1) (-1) (-1) 0 0 []) (T.at 0) = (.mk (IntKind.i8.wrap (T.at 0).n) [] false [] []) := (cFn (by decide) (by decide)).trans cV1
  have e1 : canF true (Fd.mk 3 0 (-1) (-1) (-1) 0 0 []) (T.at 1) = (.mk (IntKind.i32.wrap (T.at 1).n) [] false [] []) := (cFn (by decide) (by decide)).trans cV3
  unfold tl_DescribeUserSCRAMCredentialsResponseResultCredentialInfo canP fs_sDescribeUserSCRAMCredentialsResponseResultCredentialInfo
  simp only [canFs_cons, canFs_nil, Nat.zero_add, Nat.reduceAdd, e0, e1]
  rfl
theorem tlc_DescribeUserSCRAMCredentialsResponseResult (T : Tr) : tl_DescribeUserSCRAMCredentialsResponseResult T = canP true fs_sDescribeUserSCRAMCredentialsResponseResult T := by
  have e0 : canF true (Fd.mk 8 0 (-1) (-1) (-1) 0 0 []) (T.at 0) = (.mk 0 (T.at 0).s false [] []) := (cFn (by decide) (by decide)).trans cV8
  have e1 : canF true (Fd.mk 2 0 (-1) (-1) (-1) 0 0 []) (T.at 1) = (.mk (IntKind.i16.wrap (T.at 1).n) [] false [] []) := (cFn (by decide) (by decide)).trans cV2
  have e2 : canF true (Fd.mk 8 0 (-1) 0 (-1) 0 0 []) (T.at 2) = (.mk 0 (sT (T.at 2)) (T.at 2).nul [] []) := cF8 rfl (by decide)
  have g3 : canV 10 (canP true fs_sDescribeUserSCRAMCredentialsResponseResultCredentialInfo) = tl_DescribeUserSCRAMCredentialsResponseResultCredentialInfo := funext fun y => (cV10 (sub := canP true fs_sDescribeUserSCRAMCredentialsResponseResultCredentialInfo)).trans (tlc_DescribeUserSCRAMCredentialsResponseResultCredentialInfo y).symm
  have e3 : canF true (Fd.mk 11 0 (-1) (-1) (-1) 0 10 fs_sDescribeUserSCRAMCredentialsResponseResultCredentialInfo) (T.at 3) = (.mk 0 [] (T.at 3).nul ((lT (T.at 3)).map tl_DescribeUserSCRAMCredentialsResponseResultCredentialInfo) []) := (cF11 rfl).trans (by rw [show canV (Fd.of (Fd.mk 11 0 (-1) (-1) (-1) 0 10 fs_sDescribeUserSCRAMCredentialsResponseResultCredentialInfo)) (canP true (Fd.sub (Fd.mk 11 0 (-1) (-1) (-1) 0 10 fs_sDescribeUserSCRAMCredentialsResponseResultCredentialInfo))) = tl_DescribeUserSCRAMCredentialsResponseResultCredentialInfo from g3])
  unfold tl_DescribeUserSCRAMCredentialsResponseResult canP fs_sDescribeUserSCRAMCredentialsResponseResult
  simp only [canFs_cons, canFs_nil, Nat.zero_add, Nat.reduceAdd, e0, e1, e2, e3]
  rfl
theorem tlc_DescribeUserSCRAMCredentialsResponse (T : Tr) : tl_DescribeUserSCRAMCredentialsResponse T = canP true fs_DescribeUserSCRAMCredentialsResponse T := by
  have e0 : canF true (Fd.mk 3 0 (-1) (-1) (-1) 0 0 []) (T.at 0) = (.mk (IntKind.i32.wrap (T.at 0).n) [] false [] []) := (cFn (by decide) (by decide)).trans cV3
  have e1 : canF true (Fd.mk 2 0 (-1) (-1) (-1) 0 0 []) (T.at 1) = (.mk (IntKind.i16.wrap (T.at 1).n) [] false [] []) := (cFn (by decide) (by decide)).trans cV2
  have e2 : canF true (Fd.mk 8 0 (-1) 0 (-1) 0 0 []) (T.at 2) = (.mk 0 (sT (T.at 2)) (T.at 2).nul [] []) := cF8 rfl (by decide)
  have g3 : canV 10 (canP true fs_sDescribeUserSCRAMCredentialsResponseResult) = tl_DescribeUserSCRAMCredentialsResponseResult := funext fun y => (cV10 (sub := canP true fs_sDescribeUserSCRAMCredentialsResponseResult)).trans (tlc_DescribeUserSCRAMCredentialsResponseResult y).symm
  have e3 : canF true (Fd.mk 11 0 (-1) (-1) (-1) 0 10 fs_sDescribeUserSCRAMCredentialsResponseResult) (T.at 3) = (.mk 0 [] (T.at 3).nul ((lT (T.at 3)).map tl_DescribeUserSCRAMCredentialsResponseResult) []) := (cF11 rfl).trans (by rw [show canV (Fd.of (Fd.mk 11 0 (-1) (-1) (-1) 0 10 fs_sDescribeUserSCRAMCredentialsResponseResult)) (canP true (Fd.sub (Fd.mk 11 0 (-1) (-1) (-1) 0 10 fs_sDescribeUserSCRAMCredentialsResponseResult))) = tl_DescribeUserSCRAMCredentialsResponseResult from g3])
  unfold tl_DescribeUserSCRAMCredentialsResponse canP fs_DescribeUserSCRAMCredentialsResponse
  simp only [canFs_cons, canFs_nil, Nat.zero_add, Nat.reduceAdd, e0, e1, e2, e3]
  rfl
theorem tld_DescribeUserSCRAMCredentialsResponse {v : Int} {flex : Bool} (h : RdGood v flex fs_DescribeUserSCRAMCredentialsResponse) (r : Rd) : tl_DescribeUserSCRAMCredentialsResponse (decP fs_DescribeUserSCRAMCredentialsResponse v flex r).1 = (decP fs_DescribeUserSCRAMCredentialsResponse v flex r).1 := (tlc_DescribeUserSCRAMCredentialsResponse _).trans (canP_dec h (fun h0 => by cases h0) r)
end Go.Sx
