import Derived.Test.YtoncemcnclkpkaaDoorDTxnMetadataKey
import Derived.Test.YtoncemcnclkpkaaDoorTelP
import Derived.KernelRfl
set_option linter.unusedVariables false
set_option linter.unusedSimpArgs false
set_option maxRecDepth 100000
set_option maxHeartbeats 20000000
namespace Go.Sx
open Go.Proofs
theorem tlc_TxnMetadataKey (T : Tr) : tl_TxnMetadataKey T = canP false fs_TxnMetadataKey T := by
  have e0 : canF false (Fd.mk 8 0 (-1) (-1) (-1) 0 0 []) (T.at 0) = (.mk 0 (T.at 0).s false [] []) := (cFn (by decide) (by decide)).trans cV8
  unfold tl_TxnMetadataKey canP fs_TxnMetadataKey
  simp only [canFs_cons, canFs_nil, Nat.zero_add, Nat.reduceAdd, e0]
  rfl
theorem tld_TxnMetadataKey {v : Int} {flex : Bool} (h : RdGood v flex fs_TxnMetadataKey) (hf : flex = false) (r : Rd) : tl_TxnMetadataKey (decP fs_TxnMetadataKey v flex r).1 = (decP fs_TxnMetadataKey v flex r).1 := (tlc_TxnMetadataKey _).trans (canP_dec h (fun h0 => hf) r)
end Go.Sx
