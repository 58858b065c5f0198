import Derived.Test.YthgkgbaggjongaaGreatDoorLibH
import Derived.KernelRfl
set_option linter.unusedVariables false
set_option linter.unusedSimpArgs false
set_option maxRecDepth 100000
set_option maxHeartbeats 20000000
namespace Go.Sx
open Go.Proofs
def fs_sShareGroupDescribeResponseGroupMemberAssignmentTopicPartition : List Fd := [.mk 7 0 (-1) (-1) (-1) 0 0 [], .mk 8 0 (-1) (-1) (-1) 0 0 [], .mk 11 0 (-1) (-1) (-1) 0 3 []]
def fs_sShareGroupDescribeResponseGroupMemberAssignment : List Fd := [.mk 11 0 (-1) (-1) (-1) 0 10 fs_sShareGroupDescribeResponseGroupMemberAssignmentTopicPartition]
def fs_sShareGroupDescribeResponseGroupMember : List Fd := [.mk 8 0 (-1) (-1) (-1) 0 0 [], .mk 8 0 (-1) 0 (-1) 0 0 [], .mk 3 0 (-1) (-1) (-1) 0 0 [], .mk 8 0 (-1) (-1) (-1) 0 0 [], .mk 8 0 (-1) (-1) (-1) 0 0 [], .mk 11 0 (-1) (-1) (-1) 0 8 [], .mk 10 0 (-1) (-1) (-1) 0 0 fs_sShareGroupDescribeResponseGroupMemberAssignment]
def fs_sShareGroupDescribeResponseGroup : List Fd := [.mk 2 0 (-1) (-1) (-1) 0 0 [], .mk 8 0 (-1) 0 (-1) 0 0 [], .mk 8 0 (-1) (-1) (-1) 0 0 [], .mk 8 0 (-1) (-1) (-1) 0 0 [], .mk 3 0 (-1) (-1) (-1) 0 0 [], .mk 3 0 (-1) (-1) (-1) 0 0 [], .mk 8 0 (-1) (-1) (-1) 0 0 [], .mk 11 0 (-1) (-1) (-1) 0 10 fs_sShareGroupDescribeResponseGroupMember, .mk 3 0 (-1) (-1) (-1) (-2147483648) 0 []]
def fs_ShareGroupDescribeResponse : List Fd := [.mk 3 0 (-1) (-1) (-1) 0 0 [], .mk 11 0 (-1) (-1) (-1) 0 10 fs_sShareGroupDescribeResponseGroup]
end Go.Sx
