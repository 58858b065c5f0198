/-
  NARROWER THAN 'FOR EVERY INPUT', by the rows' own cells (each row's printed sentence says how): FnMakeRemoveRaftVoterResponse: loops · FnMakeUnregisterControllerResponse: loops · FnMakeDescribeGroupsRequest: loops · FnMakeFindCoordinatorRequest: loops · FnMakeSyncGroupResponse: loops · FnMakeReadShareGroupStateSummaryRequest: loops · FnMakeGetTelemetrySubscriptionsResponse: loops · FnMakeAlterClientQuotasResponse: loops · FnMakeJoinGroupRequest: loops · FnMakeDescribeACLsResponse: loops · FnMakeDescribeLogDirsResponse: loops.
  DERIVED. THE GIVEN ROWS OF THIS SEAT. 11 by the template 'for every input the law returns true; each argument reads behind the call as it read before'; 0 by the template 'total and deterministic' (their statements: YtahmkeoedpghjaaTotals.lean).
  GIVEN WITH THE SEED: the statements are not yours to turn. If you find one false, say at which input.
  Laid BY PROGRAM, IN A SANDBOX (cutbox-rows.mjs): the forced cells as the released guide's own fill.sh prints them over the translation ca722dec9666959d… (all of the seat's roots in one cut). By AI agents, Wed Nov 11 2026. No macro, syntax, notation, axiom, sorry.
-/
import Derived.Test.YtahmkeoedpghjaaChecked
import GoSem.Claim
import GoSem.ClaimJoined
import GoSem.ClaimMapViews
import Derived.JoinedTies
import Derived.KernelRfl
namespace Go.Proofs.Ytahmkeoedpghjaa
/- THE CELL 'sum', in the pinned program and in every row, IS THE sha256 OF THE DUMP (.gsa) THAT YtahmkeoedpghjaaProg.lean LOADS. Nothing in Lean hashes anything: it is a label: what it is worth is what the hold of that sum in a sandbox is worth. -/
noncomputable def Try.pinned : Pinned := { name := "ytahmkeoedpghjaa", sum := "ca722dec9666959d37d8ca837c8634006d005a16b688563ecf7e9fc79f5027b2", checked := Try.checked }
namespace Rows
def none {H : Type} : Left H := { results := [], args := [] }

/-- 'laws.FnMakeRemoveRaftVoterResponse': WHATEVER THE INPUT: true; the input reads as it did. -/
def fnMakeRemoveRaftVoterResponseSpec : ChangeSpec := { name := "fnMakeRemoveRaftVoterResponse", fn := fun _ => fun
  | [d1, d2] => { results := [.lit (.bool true)], args := [d1, d2] }
  | _ => none }
def fnMakeRemoveRaftVoterResponseRow : OpenClaim := { program := "ytahmkeoedpghjaa", sum := "ca722dec9666959d37d8ca837c8634006d005a16b688563ecf7e9fc79f5027b2", func := "pub-mailsack/laws.FnMakeRemoveRaftVoterResponse", spec := "fnMakeRemoveRaftVoterResponse", inPlace := ["internal/reflectlite.ValueOf", "internal/reflectlite.Swapper", "(internal/reflectlite.Value).Len"], unfollowed := true, recurses := true, loops := true, apart := false }
def FnMakeRemoveRaftVoterResponseSaid : Prop := fnMakeRemoveRaftVoterResponseRow.holds Try.pinned (OpenSpec.ofChange fnMakeRemoveRaftVoterResponseSpec)

/-- ITS FALSE NEIGHBOUR: 'it returns false'. Refute it at one input. -/
def fnMakeRemoveRaftVoterResponseWrong : ChangeSpec := { name := "fnMakeRemoveRaftVoterResponse", fn := fun _ => fun
  | [d1, d2] => { results := [.lit (.bool false)], args := [d1, d2] }
  | _ => none }
def FnMakeRemoveRaftVoterResponseWrongFalsely : Prop := fnMakeRemoveRaftVoterResponseRow.holds Try.pinned (OpenSpec.ofChange fnMakeRemoveRaftVoterResponseWrong)

/-- 'laws.FnMakeUnregisterControllerResponse': WHATEVER THE INPUT: true; the input reads as it did. -/
def fnMakeUnregisterControllerResponseSpec : ChangeSpec := { name := "fnMakeUnregisterControllerResponse", fn := fun _ => fun
  | [d1, d2] => { results := [.lit (.bool true)], args := [d1, d2] }
  | _ => none }
def fnMakeUnregisterControllerResponseRow : OpenClaim := { program := "ytahmkeoedpghjaa", sum := "ca722dec9666959d37d8ca837c8634006d005a16b688563ecf7e9fc79f5027b2", func := "pub-mailsack/laws.FnMakeUnregisterControllerResponse", spec := "fnMakeUnregisterControllerResponse", inPlace := ["internal/reflectlite.ValueOf", "internal/reflectlite.Swapper", "(internal/reflectlite.Value).Len"], unfollowed := true, recurses := true, loops := true, apart := false }
def FnMakeUnregisterControllerResponseSaid : Prop := fnMakeUnregisterControllerResponseRow.holds Try.pinned (OpenSpec.ofChange fnMakeUnregisterControllerResponseSpec)

/-- ITS FALSE NEIGHBOUR: 'it returns false'. Refute it at one input. -/
def fnMakeUnregisterControllerResponseWrong : ChangeSpec := { name := "fnMakeUnregisterControllerResponse", fn := fun _ => fun
  | [d1, d2] => { results := [.lit (.bool false)], args := [d1, d2] }
  | _ => none }
def FnMakeUnregisterControllerResponseWrongFalsely : Prop := fnMakeUnregisterControllerResponseRow.holds Try.pinned (OpenSpec.ofChange fnMakeUnregisterControllerResponseWrong)

/-- 'laws.FnMakeDescribeGroupsRequest': WHATEVER THE INPUT: true; the input reads as it did. -/
def fnMakeDescribeGroupsRequestSpec : ChangeSpec := { name := "fnMakeDescribeGroupsRequest", fn := fun _ => fun
  | [d1, d2] => { results := [.lit (.bool true)], args := [d1, d2] }
  | _ => none }
def fnMakeDescribeGroupsRequestRow : OpenClaim := { program := "ytahmkeoedpghjaa", sum := "ca722dec9666959d37d8ca837c8634006d005a16b688563ecf7e9fc79f5027b2", func := "pub-mailsack/laws.FnMakeDescribeGroupsRequest", spec := "fnMakeDescribeGroupsRequest", inPlace := ["internal/reflectlite.ValueOf", "internal/reflectlite.Swapper", "(internal/reflectlite.Value).Len"], unfollowed := true, recurses := true, loops := true, apart := false }
def FnMakeDescribeGroupsRequestSaid : Prop := fnMakeDescribeGroupsRequestRow.holds Try.pinned (OpenSpec.ofChange fnMakeDescribeGroupsRequestSpec)

/-- ITS FALSE NEIGHBOUR: 'it returns false'. Refute it at one input. -/
def fnMakeDescribeGroupsRequestWrong : ChangeSpec := { name := "fnMakeDescribeGroupsRequest", fn := fun _ => fun
  | [d1, d2] => { results := [.lit (.bool false)], args := [d1, d2] }
  | _ => none }
def FnMakeDescribeGroupsRequestWrongFalsely : Prop := fnMakeDescribeGroupsRequestRow.holds Try.pinned (OpenSpec.ofChange fnMakeDescribeGroupsRequestWrong)

/-- 'laws.FnMakeFindCoordinatorRequest': WHATEVER THE INPUT: true; the input reads as it did. -/
def fnMakeFindCoordinatorRequestSpec : ChangeSpec := { name := "fnMakeFindCoordinatorRequest", fn := fun _ => fun
  | [d1, d2] => { results := [.lit (.bool true)], args := [d1, d2] }
  | _ => none }
def fnMakeFindCoordinatorRequestRow : OpenClaim := { program := "ytahmkeoedpghjaa", sum := "ca722dec9666959d37d8ca837c8634006d005a16b688563ecf7e9fc79f5027b2", func := "pub-mailsack/laws.FnMakeFindCoordinatorRequest", spec := "fnMakeFindCoordinatorRequest", inPlace := ["internal/reflectlite.ValueOf", "internal/reflectlite.Swapper", "(internal/reflectlite.Value).Len"], unfollowed := true, recurses := true, loops := true, apart := false }
def FnMakeFindCoordinatorRequestSaid : Prop := fnMakeFindCoordinatorRequestRow.holds Try.pinned (OpenSpec.ofChange fnMakeFindCoordinatorRequestSpec)

/-- ITS FALSE NEIGHBOUR: 'it returns false'. Refute it at one input. -/
def fnMakeFindCoordinatorRequestWrong : ChangeSpec := { name := "fnMakeFindCoordinatorRequest", fn := fun _ => fun
  | [d1, d2] => { results := [.lit (.bool false)], args := [d1, d2] }
  | _ => none }
def FnMakeFindCoordinatorRequestWrongFalsely : Prop := fnMakeFindCoordinatorRequestRow.holds Try.pinned (OpenSpec.ofChange fnMakeFindCoordinatorRequestWrong)

/-- 'laws.FnMakeSyncGroupResponse': WHATEVER THE INPUT: true; the input reads as it did. -/
def fnMakeSyncGroupResponseSpec : ChangeSpec := { name := "fnMakeSyncGroupResponse", fn := fun _ => fun
  | [d1, d2] => { results := [.lit (.bool true)], args := [d1, d2] }
  | _ => none }
def fnMakeSyncGroupResponseRow : OpenClaim := { program := "ytahmkeoedpghjaa", sum := "ca722dec9666959d37d8ca837c8634006d005a16b688563ecf7e9fc79f5027b2", func := "pub-mailsack/laws.FnMakeSyncGroupResponse", spec := "fnMakeSyncGroupResponse", inPlace := ["internal/reflectlite.ValueOf", "internal/reflectlite.Swapper", "(internal/reflectlite.Value).Len"], unfollowed := true, recurses := true, loops := true, apart := false }
def FnMakeSyncGroupResponseSaid : Prop := fnMakeSyncGroupResponseRow.holds Try.pinned (OpenSpec.ofChange fnMakeSyncGroupResponseSpec)

/-- ITS FALSE NEIGHBOUR: 'it returns false'. Refute it at one input. -/
def fnMakeSyncGroupResponseWrong : ChangeSpec := { name := "fnMakeSyncGroupResponse", fn := fun _ => fun
  | [d1, d2] => { results := [.lit (.bool false)], args := [d1, d2] }
  | _ => none }
def FnMakeSyncGroupResponseWrongFalsely : Prop := fnMakeSyncGroupResponseRow.holds Try.pinned (OpenSpec.ofChange fnMakeSyncGroupResponseWrong)

/-- 'laws.FnMakeReadShareGroupStateSummaryRequest': WHATEVER THE INPUT: true; the input reads as it did. -/
def fnMakeReadShareGroupStateSummaryRequestSpec : ChangeSpec := { name := "fnMakeReadShareGroupStateSummaryRequest", fn := fun _ => fun
  | [d1, d2] => { results := [.lit (.bool true)], args := [d1, d2] }
  | _ => none }
def fnMakeReadShareGroupStateSummaryRequestRow : OpenClaim := { program := "ytahmkeoedpghjaa", sum := "ca722dec9666959d37d8ca837c8634006d005a16b688563ecf7e9fc79f5027b2", func := "pub-mailsack/laws.FnMakeReadShareGroupStateSummaryRequest", spec := "fnMakeReadShareGroupStateSummaryRequest", inPlace := ["internal/reflectlite.ValueOf", "internal/reflectlite.Swapper", "(internal/reflectlite.Value).Len"], unfollowed := true, recurses := true, loops := true, apart := false }
def FnMakeReadShareGroupStateSummaryRequestSaid : Prop := fnMakeReadShareGroupStateSummaryRequestRow.holds Try.pinned (OpenSpec.ofChange fnMakeReadShareGroupStateSummaryRequestSpec)

/-- ITS FALSE NEIGHBOUR: 'it returns false'. Refute it at one input. -/
def fnMakeReadShareGroupStateSummaryRequestWrong : ChangeSpec := { name := "fnMakeReadShareGroupStateSummaryRequest", fn := fun _ => fun
  | [d1, d2] => { results := [.lit (.bool false)], args := [d1, d2] }
  | _ => none }
def FnMakeReadShareGroupStateSummaryRequestWrongFalsely : Prop := fnMakeReadShareGroupStateSummaryRequestRow.holds Try.pinned (OpenSpec.ofChange fnMakeReadShareGroupStateSummaryRequestWrong)

/-- 'laws.FnMakeGetTelemetrySubscriptionsResponse': WHATEVER THE INPUT: true; the input reads as it did. -/
def fnMakeGetTelemetrySubscriptionsResponseSpec : ChangeSpec := { name := "fnMakeGetTelemetrySubscriptionsResponse", fn := fun _ => fun
  | [d1, d2] => { results := [.lit (.bool true)], args := [d1, d2] }
  | _ => none }
def fnMakeGetTelemetrySubscriptionsResponseRow : OpenClaim := { program := "ytahmkeoedpghjaa", sum := "ca722dec9666959d37d8ca837c8634006d005a16b688563ecf7e9fc79f5027b2", func := "pub-mailsack/laws.FnMakeGetTelemetrySubscriptionsResponse", spec := "fnMakeGetTelemetrySubscriptionsResponse", inPlace := ["internal/reflectlite.ValueOf", "internal/reflectlite.Swapper", "(internal/reflectlite.Value).Len"], unfollowed := true, recurses := true, loops := true, apart := false }
def FnMakeGetTelemetrySubscriptionsResponseSaid : Prop := fnMakeGetTelemetrySubscriptionsResponseRow.holds Try.pinned (OpenSpec.ofChange fnMakeGetTelemetrySubscriptionsResponseSpec)

/-- ITS FALSE NEIGHBOUR: 'it returns false'. Refute it at one input. -/
def fnMakeGetTelemetrySubscriptionsResponseWrong : ChangeSpec := { name := "fnMakeGetTelemetrySubscriptionsResponse", fn := fun _ => fun
  | [d1, d2] => { results := [.lit (.bool false)], args := [d1, d2] }
  | _ => none }
def FnMakeGetTelemetrySubscriptionsResponseWrongFalsely : Prop := fnMakeGetTelemetrySubscriptionsResponseRow.holds Try.pinned (OpenSpec.ofChange fnMakeGetTelemetrySubscriptionsResponseWrong)

/-- 'laws.FnMakeAlterClientQuotasResponse': WHATEVER THE INPUT: true; the input reads as it did. -/
def fnMakeAlterClientQuotasResponseSpec : ChangeSpec := { name := "fnMakeAlterClientQuotasResponse", fn := fun _ => fun
  | [d1, d2] => { results := [.lit (.bool true)], args := [d1, d2] }
  | _ => none }
def fnMakeAlterClientQuotasResponseRow : OpenClaim := { program := "ytahmkeoedpghjaa", sum := "ca722dec9666959d37d8ca837c8634006d005a16b688563ecf7e9fc79f5027b2", func := "pub-mailsack/laws.FnMakeAlterClientQuotasResponse", spec := "fnMakeAlterClientQuotasResponse", inPlace := ["internal/reflectlite.ValueOf", "internal/reflectlite.Swapper", "(internal/reflectlite.Value).Len"], unfollowed := true, recurses := true, loops := true, apart := false }
def FnMakeAlterClientQuotasResponseSaid : Prop := fnMakeAlterClientQuotasResponseRow.holds Try.pinned (OpenSpec.ofChange fnMakeAlterClientQuotasResponseSpec)

/-- ITS FALSE NEIGHBOUR: 'it returns false'. Refute it at one input. -/
def fnMakeAlterClientQuotasResponseWrong : ChangeSpec := { name := "fnMakeAlterClientQuotasResponse", fn := fun _ => fun
  | [d1, d2] => { results := [.lit (.bool false)], args := [d1, d2] }
  | _ => none }
def FnMakeAlterClientQuotasResponseWrongFalsely : Prop := fnMakeAlterClientQuotasResponseRow.holds Try.pinned (OpenSpec.ofChange fnMakeAlterClientQuotasResponseWrong)

/-- 'laws.FnMakeJoinGroupRequest': WHATEVER THE INPUT: true; the input reads as it did. -/
def fnMakeJoinGroupRequestSpec : ChangeSpec := { name := "fnMakeJoinGroupRequest", fn := fun _ => fun
  | [d1, d2] => { results := [.lit (.bool true)], args := [d1, d2] }
  | _ => none }
def fnMakeJoinGroupRequestRow : OpenClaim := { program := "ytahmkeoedpghjaa", sum := "ca722dec9666959d37d8ca837c8634006d005a16b688563ecf7e9fc79f5027b2", func := "pub-mailsack/laws.FnMakeJoinGroupRequest", spec := "fnMakeJoinGroupRequest", inPlace := ["internal/reflectlite.ValueOf", "internal/reflectlite.Swapper", "(internal/reflectlite.Value).Len"], unfollowed := true, recurses := true, loops := true, apart := false }
def FnMakeJoinGroupRequestSaid : Prop := fnMakeJoinGroupRequestRow.holds Try.pinned (OpenSpec.ofChange fnMakeJoinGroupRequestSpec)

/-- ITS FALSE NEIGHBOUR: 'it returns false'. Refute it at one input. -/
def fnMakeJoinGroupRequestWrong : ChangeSpec := { name := "fnMakeJoinGroupRequest", fn := fun _ => fun
  | [d1, d2] => { results := [.lit (.bool false)], args := [d1, d2] }
  | _ => none }
def FnMakeJoinGroupRequestWrongFalsely : Prop := fnMakeJoinGroupRequestRow.holds Try.pinned (OpenSpec.ofChange fnMakeJoinGroupRequestWrong)

/-- 'laws.FnMakeDescribeACLsResponse': WHATEVER THE INPUT: true; the input reads as it did. -/
def fnMakeDescribeACLsResponseSpec : ChangeSpec := { name := "fnMakeDescribeACLsResponse", fn := fun _ => fun
  | [d1, d2] => { results := [.lit (.bool true)], args := [d1, d2] }
  | _ => none }
def fnMakeDescribeACLsResponseRow : OpenClaim := { program := "ytahmkeoedpghjaa", sum := "ca722dec9666959d37d8ca837c8634006d005a16b688563ecf7e9fc79f5027b2", func := "pub-mailsack/laws.FnMakeDescribeACLsResponse", spec := "fnMakeDescribeACLsResponse", inPlace := ["internal/reflectlite.ValueOf", "internal/reflectlite.Swapper", "(internal/reflectlite.Value).Len"], unfollowed := true, recurses := true, loops := true, apart := false }
def FnMakeDescribeACLsResponseSaid : Prop := fnMakeDescribeACLsResponseRow.holds Try.pinned (OpenSpec.ofChange fnMakeDescribeACLsResponseSpec)

/-- ITS FALSE NEIGHBOUR: 'it returns false'. Refute it at one input. -/
def fnMakeDescribeACLsResponseWrong : ChangeSpec := { name := "fnMakeDescribeACLsResponse", fn := fun _ => fun
  | [d1, d2] => { results := [.lit (.bool false)], args := [d1, d2] }
  | _ => none }
def FnMakeDescribeACLsResponseWrongFalsely : Prop := fnMakeDescribeACLsResponseRow.holds Try.pinned (OpenSpec.ofChange fnMakeDescribeACLsResponseWrong)

/-- 'laws.FnMakeDescribeLogDirsResponse': WHATEVER THE INPUT: true; the input reads as it did. -/
def fnMakeDescribeLogDirsResponseSpec : ChangeSpec := { name := "fnMakeDescribeLogDirsResponse", fn := fun _ => fun
  | [d1, d2] => { results := [.lit (.bool true)], args := [d1, d2] }
  | _ => none }
def fnMakeDescribeLogDirsResponseRow : OpenClaim := { program := "ytahmkeoedpghjaa", sum := "ca722dec9666959d37d8ca837c8634006d005a16b688563ecf7e9fc79f5027b2", func := "pub-mailsack/laws.FnMakeDescribeLogDirsResponse", spec := "fnMakeDescribeLogDirsResponse", inPlace := ["internal/reflectlite.ValueOf", "internal/reflectlite.Swapper", "(internal/reflectlite.Value).Len"], unfollowed := true, recurses := true, loops := true, apart := false }
def FnMakeDescribeLogDirsResponseSaid : Prop := fnMakeDescribeLogDirsResponseRow.holds Try.pinned (OpenSpec.ofChange fnMakeDescribeLogDirsResponseSpec)

/-- ITS FALSE NEIGHBOUR: 'it returns false'. Refute it at one input. -/
def fnMakeDescribeLogDirsResponseWrong : ChangeSpec := { name := "fnMakeDescribeLogDirsResponse", fn := fun _ => fun
  | [d1, d2] => { results := [.lit (.bool false)], args := [d1, d2] }
  | _ => none }
def FnMakeDescribeLogDirsResponseWrongFalsely : Prop := fnMakeDescribeLogDirsResponseRow.holds Try.pinned (OpenSpec.ofChange fnMakeDescribeLogDirsResponseWrong)

/- THE SECOND FORM. 'bulk': how many values and letters a reading holds, each counted each time it is reached (what is shared counts as often as it is met; a slice's spare places count too). A statement '..UptoSaid' is the law's where the arguments, and the package variables that the reading takes, are together of bulk at most 1048576: NARROWER than '..Said'. Prove '..Said' where nothing that the law and all that it calls make is longer than what came in: it says more and counts as full. Else prove '..UptoSaid'. A law counts once. -/
mutual
def uptoBulk {H : Type} : DataW H → Nat
  | .lit (.string bytes) => bytes.length + 1
  | .lit _ => 1
  | .nil => 1
  | .ptr d => uptoBulk d + 1
  | .slice elems spare => uptoBulkAll elems + uptoBulkAll spare + 1
  | .agg parts => uptoBulkAll parts + 1
  | .iface _ d => uptoBulk d + 1
  | .map entries => uptoBulkEntries entries + 1
  | .held _ => 1
def uptoBulkAll {H : Type} : List (DataW H) → Nat
  | [] => 0
  | d :: r => uptoBulk d + uptoBulkAll r
def uptoBulkEntries {H : Type} : List (Lit × DataW H) → Nat
  | [] => 0
  | x :: r => uptoBulkEntry x + uptoBulkEntries r
def uptoBulkEntry {H : Type} : Lit × DataW H → Nat
  | (.string bytes, d) => bytes.length + uptoBulk d + 1
  | (_, d) => uptoBulk d + 1
 end
def uptoSmall : (H : Type) → List (DataW H) → Bool := fun _ ds => decide (uptoBulkAll ds ≤ 1048576)
def OpenSpec.upto (s : _root_.Go.ChangeSpec) : _root_.Go.OpenSpec := { _root_.Go.OpenSpec.ofChange s with cond := some uptoSmall }

/-- 'laws.FnMakeRemoveRaftVoterResponse', WHERE WHAT IT READS IS OF BULK AT MOST 1048576: true; the input reads as it did. -/
def fnMakeRemoveRaftVoterResponseUptoRow : OpenClaim := { program := "ytahmkeoedpghjaa", sum := "ca722dec9666959d37d8ca837c8634006d005a16b688563ecf7e9fc79f5027b2", func := "pub-mailsack/laws.FnMakeRemoveRaftVoterResponse", spec := "fnMakeRemoveRaftVoterResponse", inPlace := ["internal/reflectlite.ValueOf", "internal/reflectlite.Swapper", "(internal/reflectlite.Value).Len"], unfollowed := true, recurses := true, loops := true, apart := false, narrowed := true }
def FnMakeRemoveRaftVoterResponseUptoSaid : Prop := fnMakeRemoveRaftVoterResponseUptoRow.holds Try.pinned (OpenSpec.upto fnMakeRemoveRaftVoterResponseSpec)

/-- 'laws.FnMakeUnregisterControllerResponse', WHERE WHAT IT READS IS OF BULK AT MOST 1048576: true; the input reads as it did. -/
def fnMakeUnregisterControllerResponseUptoRow : OpenClaim := { program := "ytahmkeoedpghjaa", sum := "ca722dec9666959d37d8ca837c8634006d005a16b688563ecf7e9fc79f5027b2", func := "pub-mailsack/laws.FnMakeUnregisterControllerResponse", spec := "fnMakeUnregisterControllerResponse", inPlace := ["internal/reflectlite.ValueOf", "internal/reflectlite.Swapper", "(internal/reflectlite.Value).Len"], unfollowed := true, recurses := true, loops := true, apart := false, narrowed := true }
def FnMakeUnregisterControllerResponseUptoSaid : Prop := fnMakeUnregisterControllerResponseUptoRow.holds Try.pinned (OpenSpec.upto fnMakeUnregisterControllerResponseSpec)

/-- 'laws.FnMakeDescribeGroupsRequest', WHERE WHAT IT READS IS OF BULK AT MOST 1048576: true; the input reads as it did. -/
def fnMakeDescribeGroupsRequestUptoRow : OpenClaim := { program := "ytahmkeoedpghjaa", sum := "ca722dec9666959d37d8ca837c8634006d005a16b688563ecf7e9fc79f5027b2", func := "pub-mailsack/laws.FnMakeDescribeGroupsRequest", spec := "fnMakeDescribeGroupsRequest", inPlace := ["internal/reflectlite.ValueOf", "internal/reflectlite.Swapper", "(internal/reflectlite.Value).Len"], unfollowed := true, recurses := true, loops := true, apart := false, narrowed := true }
def FnMakeDescribeGroupsRequestUptoSaid : Prop := fnMakeDescribeGroupsRequestUptoRow.holds Try.pinned (OpenSpec.upto fnMakeDescribeGroupsRequestSpec)

/-- 'laws.FnMakeFindCoordinatorRequest', WHERE WHAT IT READS IS OF BULK AT MOST 1048576: true; the input reads as it did. -/
def fnMakeFindCoordinatorRequestUptoRow : OpenClaim := { program := "ytahmkeoedpghjaa", sum := "ca722dec9666959d37d8ca837c8634006d005a16b688563ecf7e9fc79f5027b2", func := "pub-mailsack/laws.FnMakeFindCoordinatorRequest", spec := "fnMakeFindCoordinatorRequest", inPlace := ["internal/reflectlite.ValueOf", "internal/reflectlite.Swapper", "(internal/reflectlite.Value).Len"], unfollowed := true, recurses := true, loops := true, apart := false, narrowed := true }
def FnMakeFindCoordinatorRequestUptoSaid : Prop := fnMakeFindCoordinatorRequestUptoRow.holds Try.pinned (OpenSpec.upto fnMakeFindCoordinatorRequestSpec)

/-- 'laws.FnMakeSyncGroupResponse', WHERE WHAT IT READS IS OF BULK AT MOST 1048576: true; the input reads as it did. -/
def fnMakeSyncGroupResponseUptoRow : OpenClaim := { program := "ytahmkeoedpghjaa", sum := "ca722dec9666959d37d8ca837c8634006d005a16b688563ecf7e9fc79f5027b2", func := "pub-mailsack/laws.FnMakeSyncGroupResponse", spec := "fnMakeSyncGroupResponse", inPlace := ["internal/reflectlite.ValueOf", "internal/reflectlite.Swapper", "(internal/reflectlite.Value).Len"], unfollowed := true, recurses := true, loops := true, apart := false, narrowed := true }
def FnMakeSyncGroupResponseUptoSaid : Prop := fnMakeSyncGroupResponseUptoRow.holds Try.pinned (OpenSpec.upto fnMakeSyncGroupResponseSpec)

/-- 'laws.FnMakeReadShareGroupStateSummaryRequest', WHERE WHAT IT READS IS OF BULK AT MOST 1048576: true; the input reads as it did. -/
def fnMakeReadShareGroupStateSummaryRequestUptoRow : OpenClaim := { program := "ytahmkeoedpghjaa", sum := "ca722dec9666959d37d8ca837c8634006d005a16b688563ecf7e9fc79f5027b2", func := "pub-mailsack/laws.FnMakeReadShareGroupStateSummaryRequest", spec := "fnMakeReadShareGroupStateSummaryRequest", inPlace := ["internal/reflectlite.ValueOf", "internal/reflectlite.Swapper", "(internal/reflectlite.Value).Len"], unfollowed := true, recurses := true, loops := true, apart := false, narrowed := true }
def FnMakeReadShareGroupStateSummaryRequestUptoSaid : Prop := fnMakeReadShareGroupStateSummaryRequestUptoRow.holds Try.pinned (OpenSpec.upto fnMakeReadShareGroupStateSummaryRequestSpec)

/-- 'laws.FnMakeGetTelemetrySubscriptionsResponse', WHERE WHAT IT READS IS OF BULK AT MOST 1048576: true; the input reads as it did. -/
def fnMakeGetTelemetrySubscriptionsResponseUptoRow : OpenClaim := { program := "ytahmkeoedpghjaa", sum := "ca722dec9666959d37d8ca837c8634006d005a16b688563ecf7e9fc79f5027b2", func := "pub-mailsack/laws.FnMakeGetTelemetrySubscriptionsResponse", spec := "fnMakeGetTelemetrySubscriptionsResponse", inPlace := ["internal/reflectlite.ValueOf", "internal/reflectlite.Swapper", "(internal/reflectlite.Value).Len"], unfollowed := true, recurses := true, loops := true, apart := false, narrowed := true }
def FnMakeGetTelemetrySubscriptionsResponseUptoSaid : Prop := fnMakeGetTelemetrySubscriptionsResponseUptoRow.holds Try.pinned (OpenSpec.upto fnMakeGetTelemetrySubscriptionsResponseSpec)

/-- 'laws.FnMakeAlterClientQuotasResponse', WHERE WHAT IT READS IS OF BULK AT MOST 1048576: true; the input reads as it did. -/
def fnMakeAlterClientQuotasResponseUptoRow : OpenClaim := { program := "ytahmkeoedpghjaa", sum := "ca722dec9666959d37d8ca837c8634006d005a16b688563ecf7e9fc79f5027b2", func := "pub-mailsack/laws.FnMakeAlterClientQuotasResponse", spec := "fnMakeAlterClientQuotasResponse", inPlace := ["internal/reflectlite.ValueOf", "internal/reflectlite.Swapper", "(internal/reflectlite.Value).Len"], unfollowed := true, recurses := true, loops := true, apart := false, narrowed := true }
def FnMakeAlterClientQuotasResponseUptoSaid : Prop := fnMakeAlterClientQuotasResponseUptoRow.holds Try.pinned (OpenSpec.upto fnMakeAlterClientQuotasResponseSpec)

/-- 'laws.FnMakeJoinGroupRequest', WHERE WHAT IT READS IS OF BULK AT MOST 1048576: true; the input reads as it did. -/
def fnMakeJoinGroupRequestUptoRow : OpenClaim := { program := "ytahmkeoedpghjaa", sum := "ca722dec9666959d37d8ca837c8634006d005a16b688563ecf7e9fc79f5027b2", func := "pub-mailsack/laws.FnMakeJoinGroupRequest", spec := "fnMakeJoinGroupRequest", inPlace := ["internal/reflectlite.ValueOf", "internal/reflectlite.Swapper", "(internal/reflectlite.Value).Len"], unfollowed := true, recurses := true, loops := true, apart := false, narrowed := true }
def FnMakeJoinGroupRequestUptoSaid : Prop := fnMakeJoinGroupRequestUptoRow.holds Try.pinned (OpenSpec.upto fnMakeJoinGroupRequestSpec)

/-- 'laws.FnMakeDescribeACLsResponse', WHERE WHAT IT READS IS OF BULK AT MOST 1048576: true; the input reads as it did. -/
def fnMakeDescribeACLsResponseUptoRow : OpenClaim := { program := "ytahmkeoedpghjaa", sum := "ca722dec9666959d37d8ca837c8634006d005a16b688563ecf7e9fc79f5027b2", func := "pub-mailsack/laws.FnMakeDescribeACLsResponse", spec := "fnMakeDescribeACLsResponse", inPlace := ["internal/reflectlite.ValueOf", "internal/reflectlite.Swapper", "(internal/reflectlite.Value).Len"], unfollowed := true, recurses := true, loops := true, apart := false, narrowed := true }
def FnMakeDescribeACLsResponseUptoSaid : Prop := fnMakeDescribeACLsResponseUptoRow.holds Try.pinned (OpenSpec.upto fnMakeDescribeACLsResponseSpec)

/-- 'laws.FnMakeDescribeLogDirsResponse', WHERE WHAT IT READS IS OF BULK AT MOST 1048576: true; the input reads as it did. -/
def fnMakeDescribeLogDirsResponseUptoRow : OpenClaim := { program := "ytahmkeoedpghjaa", sum := "ca722dec9666959d37d8ca837c8634006d005a16b688563ecf7e9fc79f5027b2", func := "pub-mailsack/laws.FnMakeDescribeLogDirsResponse", spec := "fnMakeDescribeLogDirsResponse", inPlace := ["internal/reflectlite.ValueOf", "internal/reflectlite.Swapper", "(internal/reflectlite.Value).Len"], unfollowed := true, recurses := true, loops := true, apart := false, narrowed := true }
def FnMakeDescribeLogDirsResponseUptoSaid : Prop := fnMakeDescribeLogDirsResponseUptoRow.holds Try.pinned (OpenSpec.upto fnMakeDescribeLogDirsResponseSpec)

end Rows
end Go.Proofs.Ytahmkeoedpghjaa
