import Derived.Test.YthgkgbaggjongaaGreatDoorLibH
import Derived.KernelRfl
set_option linter.unusedVariables false
set_option linter.unusedSimpArgs false
set_option maxRecDepth 100000
set_option maxHeartbeats 20000000
namespace Go.Sx
open Go.Proofs
def fs_sAddPartitionsToTxnResponseTransactionTopicPartition : List Fd := [.mk 3 0 (-1) (-1) (-1) 0 0 [], .mk 2 0 (-1) (-1) (-1) 0 0 []]
def fs_sAddPartitionsToTxnResponseTransactionTopic : List Fd := [.mk 8 0 (-1) (-1) (-1) 0 0 [], .mk 11 0 (-1) (-1) (-1) 0 10 fs_sAddPartitionsToTxnResponseTransactionTopicPartition]
def fs_sAddPartitionsToTxnResponseTransaction : List Fd := [.mk 8 0 (-1) (-1) (-1) 0 0 [], .mk 11 0 (-1) (-1) (-1) 0 10 fs_sAddPartitionsToTxnResponseTransactionTopic]
def fs_sAddPartitionsToTxnResponseTopicPartition : List Fd := [.mk 3 0 (-1) (-1) (-1) 0 0 [], .mk 2 0 (-1) (-1) (-1) 0 0 []]
def fs_sAddPartitionsToTxnResponseTopic : List Fd := [.mk 8 0 (-1) (-1) (-1) 0 0 [], .mk 11 0 (-1) (-1) (-1) 0 10 fs_sAddPartitionsToTxnResponseTopicPartition]
def fs_AddPartitionsToTxnResponse : List Fd := [.mk 3 0 (-1) (-1) (-1) 0 0 [], .mk 2 4 (-1) (-1) (-1) 0 0 [], .mk 11 4 (-1) (-1) (-1) 0 10 fs_sAddPartitionsToTxnResponseTransaction, .mk 11 0 3 (-1) (-1) 0 10 fs_sAddPartitionsToTxnResponseTopic]
end Go.Sx
