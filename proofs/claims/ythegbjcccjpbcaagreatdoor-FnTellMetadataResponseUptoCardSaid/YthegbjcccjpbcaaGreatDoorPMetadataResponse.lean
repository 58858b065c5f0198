import Derived.Test.YthegbjcccjpbcaaGreatDoorDMetadataResponse
import Derived.Test.YthegbjcccjpbcaaGreatDoorTelP
import Derived.KernelRfl
set_option linter.unusedVariables false
set_option linter.unusedSimpArgs false
set_option maxRecDepth 100000
set_option maxHeartbeats 20000000
namespace Go.Sx
open Go.Proofs
theorem tlc_MetadataResponseBroker (T : Tr) : tl_MetadataResponseBroker T = canP true fs_sMetadataResponseBroker T := by
 have e0 : canF true (Fd.mk 3 0 (-1) (-1) (-1) 0 0 []) (T.at 0) = (.mk (IntKind.i32.wrap (T.at 0).n) [] false [] []) := (cFn (by decide) (by decide)).trans cV3
 have e1 : canF true (Fd.mk 8 0 (-1) (-1) (-1) 0 0 []) (T.at 1) = (.mk 0 (T.at 1).s false [] []) := (cFn (by decide) (by decide)).trans cV8
 have e2 : canF true (Fd.mk 3 0 (-1) (-1) (-1) 0 0 []) (T.at 2) = (.mk (IntKind.i32.wrap (T.at 2).n) [] false [] []) := (cFn (by decide) (by decide)).trans cV3
 have e3 : canF true (Fd.mk 8 1 (-1) 1 (-1) 0 0 []) (T.at 3) = (.mk 0 (sT (T.at 3)) (T.at 3).nul [] []) := cF8 rfl (by decide)
 unfold tl_MetadataResponseBroker canP fs_sMetadataResponseBroker
 simp only [canFs_cons, canFs_nil, Nat.zero_add, Nat.reduceAdd, e0, e1, e2, e3]
 rfl
theorem tlc_MetadataResponseTopicPartition (T : Tr) : tl_MetadataResponseTopicPartition T = canP true fs_sMetadataResponseTopicPartition T := by
 have e0 : canF true (Fd.mk 2 0 (-1) (-1) (-1) 0 0 []) (T.at 0) = (.mk (IntKind.i16.wrap (T.at 0).n) [] false [] []) := (cFn (by decide) (by decide)).trans cV2
 have e1 : canF true (Fd.mk 3 0 (-1) (-1) (-1) 0 0 []) (T.at 1) = (.mk (IntKind.i32.wrap (T.at 1).n) [] false [] []) := (cFn (by decide) (by decide)).trans cV3
 have e2 : canF true (Fd.mk 3 0 (-1) (-1) (-1) 0 0 []) (T.at 2) = (.mk (IntKind.i32.wrap (T.at 2).n) [] false [] []) := (cFn (by decide) (by decide)).trans cV3
 have e3 : canF true (Fd.mk 3 7 (-1) (-1) (-1) (-1) 0 []) (T.at 3) = (.mk (IntKind.i32.wrap (T.at 3).n) [] false [] []) := (cFn (by decide) (by decide)).trans cV3
 have g4 : canV 3 (canP true []) = (fun y : Tr => (Tr.mk (IntKind.i32.wrap y.n) [] false [] [] : Tr)) := funext fun y => cV3
 have e4 : canF true (Fd.mk 11 0 (-1) (-1) (-1) 0 3 []) (T.at 4) = (.mk 0 [] (T.at 4).nul ((lT (T.at 4)).map (fun y : Tr => (Tr.mk (IntKind.i32.wrap y.n) [] false [] [] : Tr))) []) := (cF11 rfl).trans (by rw [show canV (Fd.of (Fd.mk 11 0 (-1) (-1) (-1) 0 3 [])) (canP true (Fd.sub (Fd.mk 11 0 (-1) (-1) (-1) 0 3 []))) = (fun y : Tr => (Tr.mk (IntKind.i32.wrap y.n) [] false [] [] : Tr)) from g4])
 have g5 : canV 3 (canP true []) = (fun y : Tr => (Tr.mk (IntKind.i32.wrap y.n) [] false [] [] : Tr)) := funext fun y => cV3
 have e5 : canF true (Fd.mk 11 0 (-1) (-1) (-1) 0 3 []) (T.at 5) = (.mk 0 [] (T.at 5).nul ((lT (T.at 5)).map (fun y : Tr => (Tr.mk (IntKind.i32.wrap y.n) [] false [] [] : Tr))) []) := (cF11 rfl).trans (by rw [show canV (Fd.of (Fd.mk 11 0 (-1) (-1) (-1) 0 3 [])) (canP true (Fd.sub (Fd.mk 11 0 (-1) (-1) (-1) 0 3 []))) = (fun y : Tr => (Tr.mk (IntKind.i32.wrap y.n) [] false [] [] : Tr)) from g5])
 have g6 : canV 3 (canP true []) = (fun y : Tr => (Tr.mk (IntKind.i32.wrap y.n) [] false [] [] : Tr)) := funext fun y => cV3
 have e6 : canF true (Fd.mk 11 5 (-1) (-1) (-1) 0 3 []) (T.at 6) = (.mk 0 [] (T.at 6).nul ((lT (T.at 6)).map (fun y : Tr => (Tr.mk (IntKind.i32.wrap y.n) [] false [] [] : Tr))) []) := (cF11 rfl).trans (by rw [show canV (Fd.of (Fd.mk 11 5 (-1) (-1) (-1) 0 3 [])) (canP true (Fd.sub (Fd.mk 11 5 (-1) (-1) (-1) 0 3 []))) = (fun y : Tr => (Tr.mk (IntKind.i32.wrap y.n) [] false [] [] : Tr)) from g6])
 unfold tl_MetadataResponseTopicPartition canP fs_sMetadataResponseTopicPartition
 simp only [canFs_cons, canFs_nil, Nat.zero_add, Nat.reduceAdd, e0, e1, e2, e3, e4, e5, e6]
 rfl
theorem tlc_MetadataResponseTopic (T : Tr) : tl_MetadataResponseTopic T = canP true fs_sMetadataResponseTopic T := by
 have e0 : canF true (Fd.mk 2 0 (-1) (-1) (-1) 0 0 []) (T.at 0) = (.mk (IntKind.i16.wrap (T.at 0).n) [] false [] []) := (cFn (by decide) (by decide)).trans cV2
 have e1 : canF true (Fd.mk 8 0 (-1) 12 (-1) 0 0 []) (T.at 1) = (.mk 0 (sT (T.at 1)) (T.at 1).nul [] []) := cF8 rfl (by decide)
 have e2 : canF true (Fd.mk 7 10 (-1) (-1) (-1) 0 0 []) (T.at 2) = (.mk 0 (pad16 (T.at 2).s) false [] []) := (cFn (by decide) (by decide)).trans cV7
 have e3 : canF true (Fd.mk 0 1 (-1) (-1) (-1) 0 0 []) (T.at 3) = (.mk (if decide ((T.at 3).n % 2 = 1) = true then 1 else 0) [] false [] []) := (cFn (by decide) (by decide)).trans cV0
 have g4 : canV 10 (canP true fs_sMetadataResponseTopicPartition) = tl_MetadataResponseTopicPartition := funext fun y => (cV10 (sub := canP true fs_sMetadataResponseTopicPartition)).trans (tlc_MetadataResponseTopicPartition y).symm
 have e4 : canF true (Fd.mk 11 0 (-1) (-1) (-1) 0 10 fs_sMetadataResponseTopicPartition) (T.at 4) = (.mk 0 [] (T.at 4).nul ((lT (T.at 4)).map tl_MetadataResponseTopicPartition) []) := (cF11 rfl).trans (by rw [show canV (Fd.of (Fd.mk 11 0 (-1) (-1) (-1) 0 10 fs_sMetadataResponseTopicPartition)) (canP true (Fd.sub (Fd.mk 11 0 (-1) (-1) (-1) 0 10 fs_sMetadataResponseTopicPartition))) = tl_MetadataResponseTopicPartition from g4])
 have e5 : canF true (Fd.mk 3 8 (-1) (-1) (-1) (-2147483648) 0 []) (T.at 5) = (.mk (IntKind.i32.wrap (T.at 5).n) [] false [] []) := (cFn (by decide) (by decide)).trans cV3
 unfold tl_MetadataResponseTopic canP fs_sMetadataResponseTopic
 simp only [canFs_cons, canFs_nil, Nat.zero_add, Nat.reduceAdd, e0, e1, e2, e3, e4, e5]
 rfl
theorem tlc_MetadataResponse (T : Tr) : tl_MetadataResponse T = canP true fs_MetadataResponse T := by
 have e0 : canF true (Fd.mk 3 3 (-1) (-1) (-1) 0 0 []) (T.at 0) = (.mk (IntKind.i32.wrap (T.at 0).n) [] false [] []) := (cFn (by decide) (by decide)).trans cV3
 have g1 : canV 10 (canP true fs_sMetadataResponseBroker) = tl_MetadataResponseBroker := funext fun y => (cV10 (sub := canP true fs_sMetadataResponseBroker)).trans (tlc_MetadataResponseBroker y).symm
 have e1 : canF true (Fd.mk 11 0 (-1) (-1) (-1) 0 10 fs_sMetadataResponseBroker) (T.at 1) = (.mk 0 [] (T.at 1).nul ((lT (T.at 1)).map tl_MetadataResponseBroker) []) := (cF11 rfl).trans (by rw [show canV (Fd.of (Fd.mk 11 0 (-1) (-1) (-1) 0 10 fs_sMetadataResponseBroker)) (canP true (Fd.sub (Fd.mk 11 0 (-1) (-1) (-1) 0 10 fs_sMetadataResponseBroker))) = tl_MetadataResponseBroker from g1])
 have e2 : canF true (Fd.mk 8 2 (-1) 2 (-1) 0 0 []) (T.at 2) = (.mk 0 (sT (T.at 2)) (T.at 2).nul [] []) := cF8 rfl (by decide)
 have e3 : canF true (Fd.mk 3 1 (-1) (-1) (-1) (-1) 0 []) (T.at 3) = (.mk (IntKind.i32.wrap (T.at 3).n) [] false [] []) := (cFn (by decide) (by decide)).trans cV3
 have g4 : canV 10 (canP true fs_sMetadataResponseTopic) = tl_MetadataResponseTopic := funext fun y => (cV10 (sub := canP true fs_sMetadataResponseTopic)).trans (tlc_MetadataResponseTopic y).symm
 have e4 : canF true (Fd.mk 11 0 (-1) (-1) (-1) 0 10 fs_sMetadataResponseTopic) (T.at 4) = (.mk 0 [] (T.at 4).nul ((lT (T.at 4)).map tl_MetadataResponseTopic) []) := (cF11 rfl).trans (by rw [show canV (Fd.of (Fd.mk 11 0 (-1) (-1) (-1) 0 10 fs_sMetadataResponseTopic)) (canP true (Fd.sub (Fd.mk 11 0 (-1) (-1) (-1) 0 10 fs_sMetadataResponseTopic))) = tl_MetadataResponseTopic from g4])
 have e5 : canF true (Fd.mk 3 8 10 (-1) (-1) (-2147483648) 0 []) (T.at 5) = (.mk (IntKind.i32.wrap (T.at 5).n) [] false [] []) := (cFn (by decide) (by decide)).trans cV3
 have e6 : canF true (Fd.mk 2 13 (-1) (-1) (-1) 0 0 []) (T.at 6) = (.mk (IntKind.i16.wrap (T.at 6).n) [] false [] []) := (cFn (by decide) (by decide)).trans cV2
 unfold tl_MetadataResponse canP fs_MetadataResponse
 simp only [canFs_cons, canFs_nil, Nat.zero_add, Nat.reduceAdd, e0, e1, e2, e3, e4, e5, e6]
 rfl
theorem tld_MetadataResponse {v : Int} {flex : Bool} (h : RdGood v flex fs_MetadataResponse) (r : Rd) : tl_MetadataResponse (decP fs_MetadataResponse v flex r).1 = (decP fs_MetadataResponse v flex r).1 := (tlc_MetadataResponse _).trans (canP_dec h (fun h0 => by cases h0) r)
end Go.Sx
