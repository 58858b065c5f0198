/-
  NARROWER THAN 'FOR EVERY INPUT', by the rows' own cells (each row's printed sentence says how): FnUnsafeGroupMetadataKey: laid · FnUnsafeLeaveGroupResponse: laid · FnUnsafeDeleteRecordsRequest: laid · FnUnsafeCreateDelegationTokenResponse: laid · FnUnsafeCreateACLsRequest: laid · FnUnsafeListTransactionsRequest: laid · FnUnsafeDeleteTopicsRequest: laid · FnUnsafeListOffsetsResponse: laid · FnUnsafeBeginQuorumEpochRequest: laid · FnUnsafeCreateTopicsRequest: laid · FnUnsafeShareFetchRequest: laid.
  DERIVED. THE GIVEN ROWS OF THIS SEAT. 11 by the template 'for every input the law returns true; each argument reads behind the call as it read before'; 0 by the template 'total and deterministic' (their statements: YtdnbgafbhifhoaaDoorTotals.lean).
  GIVEN WITH THE SEED: the statements are not yours to turn. If you find one false, say at which input.
  Laid BY PROGRAM, IN A SANDBOX (cutbox-rows.mjs): the forced cells as the released guide's own fill.sh prints them over the translation 50fe4f1709d4ab40… (all of the seat's roots in one cut). By AI agents, Wed Nov 11 2026. No macro, syntax, notation, axiom, sorry.
-/
import Derived.Test.YtdnbgafbhifhoaaDoorChecked
import GoSem.Claim
import GoSem.ClaimJoined
import GoSem.ClaimMapViews
import Derived.JoinedTies
import Derived.KernelRfl
namespace Go.Proofs.YtdnbgafbhifhoaaDoor
/- THE CELL 'sum', in the pinned program and in every row, IS THE sha256 OF THE DUMP (.gsa) THAT YtdnbgafbhifhoaaDoorProg.lean LOADS. Nothing in Lean hashes anything: it is a label: what it is worth is what the hold of that sum in a sandbox is worth. -/
noncomputable def Tryd.pinned : Pinned := { name := "ytdnbgafbhifhoaadoor", sum := "50fe4f1709d4ab405f22c8f9942b898ed222993eb032ba7a8c8fda357375cf98", checked := Tryd.checked }
namespace Rows
def none {H : Type} : Left H := { results := [], args := [] }

/- WHAT THE LISTED PACKAGE-LEVEL VARIABLES READ AS WHEN THE CALL BEGINS. Each datum BY PROGRAM (the guide's laid-datum.mjs) off the statement by which the dump's own 'gosem.cut.vars' lays the variable. In a bare row this is a premise. The card (YtdnbgafbhifhoaaDoorCards.lean) ties it to the program's text. -/
def laid_pub_mailsack_pub_kmsg_inner_kbin_ErrNotEnoughData {H : Type} : DataW H := .iface "*errors.errorString" (.ptr (.agg [.lit (.string [114, 101, 115, 112, 111, 110, 115, 101, 32, 100, 105, 100, 32, 110, 111, 116, 32, 99, 111, 110, 116, 97, 105, 110, 32, 101, 110, 111, 117, 103, 104, 32, 100, 97, 116, 97, 32, 116, 111, 32, 98, 101, 32, 118, 97, 108, 105, 100])]))

/-- 'laws.FnUnsafeGroupMetadataKey': WHATEVER THE INPUT: true; the input reads as it did. -/
def fnUnsafeGroupMetadataKeySpec : ChangeSpec := { name := "fnUnsafeGroupMetadataKey", fn := fun _ => fun
  | [d] => { results := [.lit (.bool true)], args := [d] }
  | _ => none }
def fnUnsafeGroupMetadataKeyRow : OpenClaim := { program := "ytdnbgafbhifhoaadoor", sum := "50fe4f1709d4ab405f22c8f9942b898ed222993eb032ba7a8c8fda357375cf98", func := "pub-mailsack/laws.FnUnsafeGroupMetadataKey", spec := "fnUnsafeGroupMetadataKey", recurses := true, named := ["encoding/binary.BigEndian", "pub-mailsack/pub/kmsg/inner/kbin.ErrNotEnoughData"], apart := false, laid := [("pub-mailsack/pub/kmsg/inner/kbin.ErrNotEnoughData", laid_pub_mailsack_pub_kmsg_inner_kbin_ErrNotEnoughData)] }
def FnUnsafeGroupMetadataKeySaid : Prop := fnUnsafeGroupMetadataKeyRow.holds Tryd.pinned (OpenSpec.ofChange fnUnsafeGroupMetadataKeySpec)

/-- ITS FALSE NEIGHBOUR: 'it returns false'. Refute it at one input. -/
def fnUnsafeGroupMetadataKeyWrong : ChangeSpec := { name := "fnUnsafeGroupMetadataKey", fn := fun _ => fun
  | [d] => { results := [.lit (.bool false)], args := [d] }
  | _ => none }
def FnUnsafeGroupMetadataKeyWrongFalsely : Prop := fnUnsafeGroupMetadataKeyRow.holds Tryd.pinned (OpenSpec.ofChange fnUnsafeGroupMetadataKeyWrong)

/-- 'laws.FnUnsafeLeaveGroupResponse': WHATEVER THE INPUT: true; the input reads as it did. -/
def fnUnsafeLeaveGroupResponseSpec : ChangeSpec := { name := "fnUnsafeLeaveGroupResponse", fn := fun _ => fun
  | [d1, d2] => { results := [.lit (.bool true)], args := [d1, d2] }
  | _ => none }
def fnUnsafeLeaveGroupResponseRow : OpenClaim := { program := "ytdnbgafbhifhoaadoor", sum := "50fe4f1709d4ab405f22c8f9942b898ed222993eb032ba7a8c8fda357375cf98", func := "pub-mailsack/laws.FnUnsafeLeaveGroupResponse", spec := "fnUnsafeLeaveGroupResponse", inPlace := ["internal/reflectlite.ValueOf", "internal/reflectlite.Swapper", "(internal/reflectlite.Value).Len"], unfollowed := true, recurses := true, named := ["encoding/binary.BigEndian", "pub-mailsack/pub/kmsg/inner/kbin.ErrNotEnoughData"], apart := false, laid := [("pub-mailsack/pub/kmsg/inner/kbin.ErrNotEnoughData", laid_pub_mailsack_pub_kmsg_inner_kbin_ErrNotEnoughData)] }
def FnUnsafeLeaveGroupResponseSaid : Prop := fnUnsafeLeaveGroupResponseRow.holds Tryd.pinned (OpenSpec.ofChange fnUnsafeLeaveGroupResponseSpec)

/-- ITS FALSE NEIGHBOUR: 'it returns false'. Refute it at one input. -/
def fnUnsafeLeaveGroupResponseWrong : ChangeSpec := { name := "fnUnsafeLeaveGroupResponse", fn := fun _ => fun
  | [d1, d2] => { results := [.lit (.bool false)], args := [d1, d2] }
  | _ => none }
def FnUnsafeLeaveGroupResponseWrongFalsely : Prop := fnUnsafeLeaveGroupResponseRow.holds Tryd.pinned (OpenSpec.ofChange fnUnsafeLeaveGroupResponseWrong)

/-- 'laws.FnUnsafeDeleteRecordsRequest': WHATEVER THE INPUT: true; the input reads as it did. -/
def fnUnsafeDeleteRecordsRequestSpec : ChangeSpec := { name := "fnUnsafeDeleteRecordsRequest", fn := fun _ => fun
  | [d1, d2] => { results := [.lit (.bool true)], args := [d1, d2] }
  | _ => none }
def fnUnsafeDeleteRecordsRequestRow : OpenClaim := { program := "ytdnbgafbhifhoaadoor", sum := "50fe4f1709d4ab405f22c8f9942b898ed222993eb032ba7a8c8fda357375cf98", func := "pub-mailsack/laws.FnUnsafeDeleteRecordsRequest", spec := "fnUnsafeDeleteRecordsRequest", inPlace := ["internal/reflectlite.ValueOf", "internal/reflectlite.Swapper", "(internal/reflectlite.Value).Len"], unfollowed := true, recurses := true, named := ["encoding/binary.BigEndian", "pub-mailsack/pub/kmsg/inner/kbin.ErrNotEnoughData"], apart := false, laid := [("pub-mailsack/pub/kmsg/inner/kbin.ErrNotEnoughData", laid_pub_mailsack_pub_kmsg_inner_kbin_ErrNotEnoughData)] }
def FnUnsafeDeleteRecordsRequestSaid : Prop := fnUnsafeDeleteRecordsRequestRow.holds Tryd.pinned (OpenSpec.ofChange fnUnsafeDeleteRecordsRequestSpec)

/-- ITS FALSE NEIGHBOUR: 'it returns false'. Refute it at one input. -/
def fnUnsafeDeleteRecordsRequestWrong : ChangeSpec := { name := "fnUnsafeDeleteRecordsRequest", fn := fun _ => fun
  | [d1, d2] => { results := [.lit (.bool false)], args := [d1, d2] }
  | _ => none }
def FnUnsafeDeleteRecordsRequestWrongFalsely : Prop := fnUnsafeDeleteRecordsRequestRow.holds Tryd.pinned (OpenSpec.ofChange fnUnsafeDeleteRecordsRequestWrong)

/-- 'laws.FnUnsafeCreateDelegationTokenResponse': WHATEVER THE INPUT: true; the input reads as it did. -/
def fnUnsafeCreateDelegationTokenResponseSpec : ChangeSpec := { name := "fnUnsafeCreateDelegationTokenResponse", fn := fun _ => fun
  | [d1, d2] => { results := [.lit (.bool true)], args := [d1, d2] }
  | _ => none }
def fnUnsafeCreateDelegationTokenResponseRow : OpenClaim := { program := "ytdnbgafbhifhoaadoor", sum := "50fe4f1709d4ab405f22c8f9942b898ed222993eb032ba7a8c8fda357375cf98", func := "pub-mailsack/laws.FnUnsafeCreateDelegationTokenResponse", spec := "fnUnsafeCreateDelegationTokenResponse", inPlace := ["internal/reflectlite.ValueOf", "internal/reflectlite.Swapper", "(internal/reflectlite.Value).Len"], unfollowed := true, recurses := true, named := ["encoding/binary.BigEndian", "pub-mailsack/pub/kmsg/inner/kbin.ErrNotEnoughData"], apart := false, laid := [("pub-mailsack/pub/kmsg/inner/kbin.ErrNotEnoughData", laid_pub_mailsack_pub_kmsg_inner_kbin_ErrNotEnoughData)] }
def FnUnsafeCreateDelegationTokenResponseSaid : Prop := fnUnsafeCreateDelegationTokenResponseRow.holds Tryd.pinned (OpenSpec.ofChange fnUnsafeCreateDelegationTokenResponseSpec)

/-- ITS FALSE NEIGHBOUR: 'it returns false'. Refute it at one input. -/
def fnUnsafeCreateDelegationTokenResponseWrong : ChangeSpec := { name := "fnUnsafeCreateDelegationTokenResponse", fn := fun _ => fun
  | [d1, d2] => { results := [.lit (.bool false)], args := [d1, d2] }
  | _ => none }
def FnUnsafeCreateDelegationTokenResponseWrongFalsely : Prop := fnUnsafeCreateDelegationTokenResponseRow.holds Tryd.pinned (OpenSpec.ofChange fnUnsafeCreateDelegationTokenResponseWrong)

/-- 'laws.FnUnsafeCreateACLsRequest': WHATEVER THE INPUT: true; the input reads as it did. -/
def fnUnsafeCreateACLsRequestSpec : ChangeSpec := { name := "fnUnsafeCreateACLsRequest", fn := fun _ => fun
  | [d1, d2] => { results := [.lit (.bool true)], args := [d1, d2] }
  | _ => none }
def fnUnsafeCreateACLsRequestRow : OpenClaim := { program := "ytdnbgafbhifhoaadoor", sum := "50fe4f1709d4ab405f22c8f9942b898ed222993eb032ba7a8c8fda357375cf98", func := "pub-mailsack/laws.FnUnsafeCreateACLsRequest", spec := "fnUnsafeCreateACLsRequest", inPlace := ["internal/reflectlite.ValueOf", "internal/reflectlite.Swapper", "(internal/reflectlite.Value).Len"], unfollowed := true, recurses := true, named := ["encoding/binary.BigEndian", "pub-mailsack/pub/kmsg/inner/kbin.ErrNotEnoughData"], apart := false, laid := [("pub-mailsack/pub/kmsg/inner/kbin.ErrNotEnoughData", laid_pub_mailsack_pub_kmsg_inner_kbin_ErrNotEnoughData)] }
def FnUnsafeCreateACLsRequestSaid : Prop := fnUnsafeCreateACLsRequestRow.holds Tryd.pinned (OpenSpec.ofChange fnUnsafeCreateACLsRequestSpec)

/-- ITS FALSE NEIGHBOUR: 'it returns false'. Refute it at one input. -/
def fnUnsafeCreateACLsRequestWrong : ChangeSpec := { name := "fnUnsafeCreateACLsRequest", fn := fun _ => fun
  | [d1, d2] => { results := [.lit (.bool false)], args := [d1, d2] }
  | _ => none }
def FnUnsafeCreateACLsRequestWrongFalsely : Prop := fnUnsafeCreateACLsRequestRow.holds Tryd.pinned (OpenSpec.ofChange fnUnsafeCreateACLsRequestWrong)

/-- 'laws.FnUnsafeListTransactionsRequest': WHATEVER THE INPUT: true; the input reads as it did. -/
def fnUnsafeListTransactionsRequestSpec : ChangeSpec := { name := "fnUnsafeListTransactionsRequest", fn := fun _ => fun
  | [d1, d2] => { results := [.lit (.bool true)], args := [d1, d2] }
  | _ => none }
def fnUnsafeListTransactionsRequestRow : OpenClaim := { program := "ytdnbgafbhifhoaadoor", sum := "50fe4f1709d4ab405f22c8f9942b898ed222993eb032ba7a8c8fda357375cf98", func := "pub-mailsack/laws.FnUnsafeListTransactionsRequest", spec := "fnUnsafeListTransactionsRequest", inPlace := ["internal/reflectlite.ValueOf", "internal/reflectlite.Swapper", "(internal/reflectlite.Value).Len"], unfollowed := true, recurses := true, named := ["encoding/binary.BigEndian", "pub-mailsack/pub/kmsg/inner/kbin.ErrNotEnoughData"], apart := false, laid := [("pub-mailsack/pub/kmsg/inner/kbin.ErrNotEnoughData", laid_pub_mailsack_pub_kmsg_inner_kbin_ErrNotEnoughData)] }
def FnUnsafeListTransactionsRequestSaid : Prop := fnUnsafeListTransactionsRequestRow.holds Tryd.pinned (OpenSpec.ofChange fnUnsafeListTransactionsRequestSpec)

/-- ITS FALSE NEIGHBOUR: 'it returns false'. Refute it at one input. -/
def fnUnsafeListTransactionsRequestWrong : ChangeSpec := { name := "fnUnsafeListTransactionsRequest", fn := fun _ => fun
  | [d1, d2] => { results := [.lit (.bool false)], args := [d1, d2] }
  | _ => none }
def FnUnsafeListTransactionsRequestWrongFalsely : Prop := fnUnsafeListTransactionsRequestRow.holds Tryd.pinned (OpenSpec.ofChange fnUnsafeListTransactionsRequestWrong)

/-- 'laws.FnUnsafeDeleteTopicsRequest': WHATEVER THE INPUT: true; the input reads as it did. -/
def fnUnsafeDeleteTopicsRequestSpec : ChangeSpec := { name := "fnUnsafeDeleteTopicsRequest", fn := fun _ => fun
  | [d1, d2] => { results := [.lit (.bool true)], args := [d1, d2] }
  | _ => none }
def fnUnsafeDeleteTopicsRequestRow : OpenClaim := { program := "ytdnbgafbhifhoaadoor", sum := "50fe4f1709d4ab405f22c8f9942b898ed222993eb032ba7a8c8fda357375cf98", func := "pub-mailsack/laws.FnUnsafeDeleteTopicsRequest", spec := "fnUnsafeDeleteTopicsRequest", inPlace := ["internal/reflectlite.ValueOf", "internal/reflectlite.Swapper", "(internal/reflectlite.Value).Len"], unfollowed := true, recurses := true, named := ["encoding/binary.BigEndian", "pub-mailsack/pub/kmsg/inner/kbin.ErrNotEnoughData"], apart := false, laid := [("pub-mailsack/pub/kmsg/inner/kbin.ErrNotEnoughData", laid_pub_mailsack_pub_kmsg_inner_kbin_ErrNotEnoughData)] }
def FnUnsafeDeleteTopicsRequestSaid : Prop := fnUnsafeDeleteTopicsRequestRow.holds Tryd.pinned (OpenSpec.ofChange fnUnsafeDeleteTopicsRequestSpec)

/-- ITS FALSE NEIGHBOUR: 'it returns false'. Refute it at one input. -/
def fnUnsafeDeleteTopicsRequestWrong : ChangeSpec := { name := "fnUnsafeDeleteTopicsRequest", fn := fun _ => fun
  | [d1, d2] => { results := [.lit (.bool false)], args := [d1, d2] }
  | _ => none }
def FnUnsafeDeleteTopicsRequestWrongFalsely : Prop := fnUnsafeDeleteTopicsRequestRow.holds Tryd.pinned (OpenSpec.ofChange fnUnsafeDeleteTopicsRequestWrong)

/-- 'laws.FnUnsafeListOffsetsResponse': WHATEVER THE INPUT: true; the input reads as it did. -/
def fnUnsafeListOffsetsResponseSpec : ChangeSpec := { name := "fnUnsafeListOffsetsResponse", fn := fun _ => fun
  | [d1, d2] => { results := [.lit (.bool true)], args := [d1, d2] }
  | _ => none }
def fnUnsafeListOffsetsResponseRow : OpenClaim := { program := "ytdnbgafbhifhoaadoor", sum := "50fe4f1709d4ab405f22c8f9942b898ed222993eb032ba7a8c8fda357375cf98", func := "pub-mailsack/laws.FnUnsafeListOffsetsResponse", spec := "fnUnsafeListOffsetsResponse", inPlace := ["internal/reflectlite.ValueOf", "internal/reflectlite.Swapper", "(internal/reflectlite.Value).Len"], unfollowed := true, recurses := true, named := ["encoding/binary.BigEndian", "pub-mailsack/pub/kmsg/inner/kbin.ErrNotEnoughData"], apart := false, laid := [("pub-mailsack/pub/kmsg/inner/kbin.ErrNotEnoughData", laid_pub_mailsack_pub_kmsg_inner_kbin_ErrNotEnoughData)] }
def FnUnsafeListOffsetsResponseSaid : Prop := fnUnsafeListOffsetsResponseRow.holds Tryd.pinned (OpenSpec.ofChange fnUnsafeListOffsetsResponseSpec)

/-- ITS FALSE NEIGHBOUR: 'it returns false'. Refute it at one input. -/
def fnUnsafeListOffsetsResponseWrong : ChangeSpec := { name := "fnUnsafeListOffsetsResponse", fn := fun _ => fun
  | [d1, d2] => { results := [.lit (.bool false)], args := [d1, d2] }
  | _ => none }
def FnUnsafeListOffsetsResponseWrongFalsely : Prop := fnUnsafeListOffsetsResponseRow.holds Tryd.pinned (OpenSpec.ofChange fnUnsafeListOffsetsResponseWrong)

/-- 'laws.FnUnsafeBeginQuorumEpochRequest': WHATEVER THE INPUT: true; the input reads as it did. -/
def fnUnsafeBeginQuorumEpochRequestSpec : ChangeSpec := { name := "fnUnsafeBeginQuorumEpochRequest", fn := fun _ => fun
  | [d1, d2] => { results := [.lit (.bool true)], args := [d1, d2] }
  | _ => none }
def fnUnsafeBeginQuorumEpochRequestRow : OpenClaim := { program := "ytdnbgafbhifhoaadoor", sum := "50fe4f1709d4ab405f22c8f9942b898ed222993eb032ba7a8c8fda357375cf98", func := "pub-mailsack/laws.FnUnsafeBeginQuorumEpochRequest", spec := "fnUnsafeBeginQuorumEpochRequest", inPlace := ["internal/reflectlite.ValueOf", "internal/reflectlite.Swapper", "(internal/reflectlite.Value).Len"], unfollowed := true, recurses := true, named := ["encoding/binary.BigEndian", "pub-mailsack/pub/kmsg/inner/kbin.ErrNotEnoughData"], apart := false, laid := [("pub-mailsack/pub/kmsg/inner/kbin.ErrNotEnoughData", laid_pub_mailsack_pub_kmsg_inner_kbin_ErrNotEnoughData)] }
def FnUnsafeBeginQuorumEpochRequestSaid : Prop := fnUnsafeBeginQuorumEpochRequestRow.holds Tryd.pinned (OpenSpec.ofChange fnUnsafeBeginQuorumEpochRequestSpec)

/-- ITS FALSE NEIGHBOUR: 'it returns false'. Refute it at one input. -/
def fnUnsafeBeginQuorumEpochRequestWrong : ChangeSpec := { name := "fnUnsafeBeginQuorumEpochRequest", fn := fun _ => fun
  | [d1, d2] => { results := [.lit (.bool false)], args := [d1, d2] }
  | _ => none }
def FnUnsafeBeginQuorumEpochRequestWrongFalsely : Prop := fnUnsafeBeginQuorumEpochRequestRow.holds Tryd.pinned (OpenSpec.ofChange fnUnsafeBeginQuorumEpochRequestWrong)

/-- 'laws.FnUnsafeCreateTopicsRequest': WHATEVER THE INPUT: true; the input reads as it did. -/
def fnUnsafeCreateTopicsRequestSpec : ChangeSpec := { name := "fnUnsafeCreateTopicsRequest", fn := fun _ => fun
  | [d1, d2] => { results := [.lit (.bool true)], args := [d1, d2] }
  | _ => none }
def fnUnsafeCreateTopicsRequestRow : OpenClaim := { program := "ytdnbgafbhifhoaadoor", sum := "50fe4f1709d4ab405f22c8f9942b898ed222993eb032ba7a8c8fda357375cf98", func := "pub-mailsack/laws.FnUnsafeCreateTopicsRequest", spec := "fnUnsafeCreateTopicsRequest", inPlace := ["internal/reflectlite.ValueOf", "internal/reflectlite.Swapper", "(internal/reflectlite.Value).Len"], unfollowed := true, recurses := true, named := ["encoding/binary.BigEndian", "pub-mailsack/pub/kmsg/inner/kbin.ErrNotEnoughData"], apart := false, laid := [("pub-mailsack/pub/kmsg/inner/kbin.ErrNotEnoughData", laid_pub_mailsack_pub_kmsg_inner_kbin_ErrNotEnoughData)] }
def FnUnsafeCreateTopicsRequestSaid : Prop := fnUnsafeCreateTopicsRequestRow.holds Tryd.pinned (OpenSpec.ofChange fnUnsafeCreateTopicsRequestSpec)

/-- ITS FALSE NEIGHBOUR: 'it returns false'. Refute it at one input. -/
def fnUnsafeCreateTopicsRequestWrong : ChangeSpec := { name := "fnUnsafeCreateTopicsRequest", fn := fun _ => fun
  | [d1, d2] => { results := [.lit (.bool false)], args := [d1, d2] }
  | _ => none }
def FnUnsafeCreateTopicsRequestWrongFalsely : Prop := fnUnsafeCreateTopicsRequestRow.holds Tryd.pinned (OpenSpec.ofChange fnUnsafeCreateTopicsRequestWrong)

/-- 'laws.FnUnsafeShareFetchRequest': WHATEVER THE INPUT: true; the input reads as it did. -/
def fnUnsafeShareFetchRequestSpec : ChangeSpec := { name := "fnUnsafeShareFetchRequest", fn := fun _ => fun
  | [d1, d2] => { results := [.lit (.bool true)], args := [d1, d2] }
  | _ => none }
def fnUnsafeShareFetchRequestRow : OpenClaim := { program := "ytdnbgafbhifhoaadoor", sum := "50fe4f1709d4ab405f22c8f9942b898ed222993eb032ba7a8c8fda357375cf98", func := "pub-mailsack/laws.FnUnsafeShareFetchRequest", spec := "fnUnsafeShareFetchRequest", inPlace := ["internal/reflectlite.ValueOf", "internal/reflectlite.Swapper", "(internal/reflectlite.Value).Len"], unfollowed := true, recurses := true, named := ["encoding/binary.BigEndian", "pub-mailsack/pub/kmsg/inner/kbin.ErrNotEnoughData"], apart := false, laid := [("pub-mailsack/pub/kmsg/inner/kbin.ErrNotEnoughData", laid_pub_mailsack_pub_kmsg_inner_kbin_ErrNotEnoughData)] }
def FnUnsafeShareFetchRequestSaid : Prop := fnUnsafeShareFetchRequestRow.holds Tryd.pinned (OpenSpec.ofChange fnUnsafeShareFetchRequestSpec)

/-- ITS FALSE NEIGHBOUR: 'it returns false'. Refute it at one input. -/
def fnUnsafeShareFetchRequestWrong : ChangeSpec := { name := "fnUnsafeShareFetchRequest", fn := fun _ => fun
  | [d1, d2] => { results := [.lit (.bool false)], args := [d1, d2] }
  | _ => none }
def FnUnsafeShareFetchRequestWrongFalsely : Prop := fnUnsafeShareFetchRequestRow.holds Tryd.pinned (OpenSpec.ofChange fnUnsafeShareFetchRequestWrong)

/- THE SECOND FORM. 'bulk': how many values and letters a reading holds, each counted each time it is reached (what is shared counts as often as it is met; a slice's spare places count too). A statement '..UptoSaid' is the law's where the arguments, and the package variables that the reading takes, are together of bulk at most 1048576: NARROWER than '..Said'. Prove '..Said' where nothing that the law and all that it calls make is longer than what came in: it says more and counts as full. Else prove '..UptoSaid'. A law counts once. -/
mutual
def uptoBulk {H : Type} : DataW H → Nat
  | .lit (.string bytes) => bytes.length + 1
  | .lit _ => 1
  | .nil => 1
  | .ptr d => uptoBulk d + 1
  | .slice elems spare => uptoBulkAll elems + uptoBulkAll spare + 1
  | .agg parts => uptoBulkAll parts + 1
  | .iface _ d => uptoBulk d + 1
  | .map entries => uptoBulkEntries entries + 1
  | .held _ => 1
def uptoBulkAll {H : Type} : List (DataW H) → Nat
  | [] => 0
  | d :: r => uptoBulk d + uptoBulkAll r
def uptoBulkEntries {H : Type} : List (Lit × DataW H) → Nat
  | [] => 0
  | x :: r => uptoBulkEntry x + uptoBulkEntries r
def uptoBulkEntry {H : Type} : Lit × DataW H → Nat
  | (.string bytes, d) => bytes.length + uptoBulk d + 1
  | (_, d) => uptoBulk d + 1
 end
def uptoSmall : (H : Type) → List (DataW H) → Bool := fun _ ds => decide (uptoBulkAll ds ≤ 1048576)
def OpenSpec.upto (s : _root_.Go.ChangeSpec) : _root_.Go.OpenSpec := { _root_.Go.OpenSpec.ofChange s with cond := some uptoSmall }

/-- 'laws.FnUnsafeGroupMetadataKey', WHERE WHAT IT READS IS OF BULK AT MOST 1048576: true; the input reads as it did. -/
def fnUnsafeGroupMetadataKeyUptoRow : OpenClaim := { program := "ytdnbgafbhifhoaadoor", sum := "50fe4f1709d4ab405f22c8f9942b898ed222993eb032ba7a8c8fda357375cf98", func := "pub-mailsack/laws.FnUnsafeGroupMetadataKey", spec := "fnUnsafeGroupMetadataKey", recurses := true, named := ["encoding/binary.BigEndian", "pub-mailsack/pub/kmsg/inner/kbin.ErrNotEnoughData"], apart := false, laid := [("pub-mailsack/pub/kmsg/inner/kbin.ErrNotEnoughData", laid_pub_mailsack_pub_kmsg_inner_kbin_ErrNotEnoughData)], narrowed := true }
def FnUnsafeGroupMetadataKeyUptoSaid : Prop := fnUnsafeGroupMetadataKeyUptoRow.holds Tryd.pinned (OpenSpec.upto fnUnsafeGroupMetadataKeySpec)

/-- 'laws.FnUnsafeLeaveGroupResponse', WHERE WHAT IT READS IS OF BULK AT MOST 1048576: true; the input reads as it did. -/
def fnUnsafeLeaveGroupResponseUptoRow : OpenClaim := { program := "ytdnbgafbhifhoaadoor", sum := "50fe4f1709d4ab405f22c8f9942b898ed222993eb032ba7a8c8fda357375cf98", func := "pub-mailsack/laws.FnUnsafeLeaveGroupResponse", spec := "fnUnsafeLeaveGroupResponse", inPlace := ["internal/reflectlite.ValueOf", "internal/reflectlite.Swapper", "(internal/reflectlite.Value).Len"], unfollowed := true, recurses := true, named := ["encoding/binary.BigEndian", "pub-mailsack/pub/kmsg/inner/kbin.ErrNotEnoughData"], apart := false, laid := [("pub-mailsack/pub/kmsg/inner/kbin.ErrNotEnoughData", laid_pub_mailsack_pub_kmsg_inner_kbin_ErrNotEnoughData)], narrowed := true }
def FnUnsafeLeaveGroupResponseUptoSaid : Prop := fnUnsafeLeaveGroupResponseUptoRow.holds Tryd.pinned (OpenSpec.upto fnUnsafeLeaveGroupResponseSpec)

/-- 'laws.FnUnsafeDeleteRecordsRequest', WHERE WHAT IT READS IS OF BULK AT MOST 1048576: true; the input reads as it did. -/
def fnUnsafeDeleteRecordsRequestUptoRow : OpenClaim := { program := "ytdnbgafbhifhoaadoor", sum := "50fe4f1709d4ab405f22c8f9942b898ed222993eb032ba7a8c8fda357375cf98", func := "pub-mailsack/laws.FnUnsafeDeleteRecordsRequest", spec := "fnUnsafeDeleteRecordsRequest", inPlace := ["internal/reflectlite.ValueOf", "internal/reflectlite.Swapper", "(internal/reflectlite.Value).Len"], unfollowed := true, recurses := true, named := ["encoding/binary.BigEndian", "pub-mailsack/pub/kmsg/inner/kbin.ErrNotEnoughData"], apart := false, laid := [("pub-mailsack/pub/kmsg/inner/kbin.ErrNotEnoughData", laid_pub_mailsack_pub_kmsg_inner_kbin_ErrNotEnoughData)], narrowed := true }
def FnUnsafeDeleteRecordsRequestUptoSaid : Prop := fnUnsafeDeleteRecordsRequestUptoRow.holds Tryd.pinned (OpenSpec.upto fnUnsafeDeleteRecordsRequestSpec)

/-- 'laws.FnUnsafeCreateDelegationTokenResponse', WHERE WHAT IT READS IS OF BULK AT MOST 1048576: true; the input reads as it did. -/
def fnUnsafeCreateDelegationTokenResponseUptoRow : OpenClaim := { program := "ytdnbgafbhifhoaadoor", sum := "50fe4f1709d4ab405f22c8f9942b898ed222993eb032ba7a8c8fda357375cf98", func := "pub-mailsack/laws.FnUnsafeCreateDelegationTokenResponse", spec := "fnUnsafeCreateDelegationTokenResponse", inPlace := ["internal/reflectlite.ValueOf", "internal/reflectlite.Swapper", "(internal/reflectlite.Value).Len"], unfollowed := true, recurses := true, named := ["encoding/binary.BigEndian", "pub-mailsack/pub/kmsg/inner/kbin.ErrNotEnoughData"], apart := false, laid := [("pub-mailsack/pub/kmsg/inner/kbin.ErrNotEnoughData", laid_pub_mailsack_pub_kmsg_inner_kbin_ErrNotEnoughData)], narrowed := true }
def FnUnsafeCreateDelegationTokenResponseUptoSaid : Prop := fnUnsafeCreateDelegationTokenResponseUptoRow.holds Tryd.pinned (OpenSpec.upto fnUnsafeCreateDelegationTokenResponseSpec)

/-- 'laws.FnUnsafeCreateACLsRequest', WHERE WHAT IT READS IS OF BULK AT MOST 1048576: true; the input reads as it did. -/
def fnUnsafeCreateACLsRequestUptoRow : OpenClaim := { program := "ytdnbgafbhifhoaadoor", sum := "50fe4f1709d4ab405f22c8f9942b898ed222993eb032ba7a8c8fda357375cf98", func := "pub-mailsack/laws.FnUnsafeCreateACLsRequest", spec := "fnUnsafeCreateACLsRequest", inPlace := ["internal/reflectlite.ValueOf", "internal/reflectlite.Swapper", "(internal/reflectlite.Value).Len"], unfollowed := true, recurses := true, named := ["encoding/binary.BigEndian", "pub-mailsack/pub/kmsg/inner/kbin.ErrNotEnoughData"], apart := false, laid := [("pub-mailsack/pub/kmsg/inner/kbin.ErrNotEnoughData", laid_pub_mailsack_pub_kmsg_inner_kbin_ErrNotEnoughData)], narrowed := true }
def FnUnsafeCreateACLsRequestUptoSaid : Prop := fnUnsafeCreateACLsRequestUptoRow.holds Tryd.pinned (OpenSpec.upto fnUnsafeCreateACLsRequestSpec)

/-- 'laws.FnUnsafeListTransactionsRequest', WHERE WHAT IT READS IS OF BULK AT MOST 1048576: true; the input reads as it did. -/
def fnUnsafeListTransactionsRequestUptoRow : OpenClaim := { program := "ytdnbgafbhifhoaadoor", sum := "50fe4f1709d4ab405f22c8f9942b898ed222993eb032ba7a8c8fda357375cf98", func := "pub-mailsack/laws.FnUnsafeListTransactionsRequest", spec := "fnUnsafeListTransactionsRequest", inPlace := ["internal/reflectlite.ValueOf", "internal/reflectlite.Swapper", "(internal/reflectlite.Value).Len"], unfollowed := true, recurses := true, named := ["encoding/binary.BigEndian", "pub-mailsack/pub/kmsg/inner/kbin.ErrNotEnoughData"], apart := false, laid := [("pub-mailsack/pub/kmsg/inner/kbin.ErrNotEnoughData", laid_pub_mailsack_pub_kmsg_inner_kbin_ErrNotEnoughData)], narrowed := true }
def FnUnsafeListTransactionsRequestUptoSaid : Prop := fnUnsafeListTransactionsRequestUptoRow.holds Tryd.pinned (OpenSpec.upto fnUnsafeListTransactionsRequestSpec)

/-- 'laws.FnUnsafeDeleteTopicsRequest', WHERE WHAT IT READS IS OF BULK AT MOST 1048576: true; the input reads as it did. -/
def fnUnsafeDeleteTopicsRequestUptoRow : OpenClaim := { program := "ytdnbgafbhifhoaadoor", sum := "50fe4f1709d4ab405f22c8f9942b898ed222993eb032ba7a8c8fda357375cf98", func := "pub-mailsack/laws.FnUnsafeDeleteTopicsRequest", spec := "fnUnsafeDeleteTopicsRequest", inPlace := ["internal/reflectlite.ValueOf", "internal/reflectlite.Swapper", "(internal/reflectlite.Value).Len"], unfollowed := true, recurses := true, named := ["encoding/binary.BigEndian", "pub-mailsack/pub/kmsg/inner/kbin.ErrNotEnoughData"], apart := false, laid := [("pub-mailsack/pub/kmsg/inner/kbin.ErrNotEnoughData", laid_pub_mailsack_pub_kmsg_inner_kbin_ErrNotEnoughData)], narrowed := true }
def FnUnsafeDeleteTopicsRequestUptoSaid : Prop := fnUnsafeDeleteTopicsRequestUptoRow.holds Tryd.pinned (OpenSpec.upto fnUnsafeDeleteTopicsRequestSpec)

/-- 'laws.FnUnsafeListOffsetsResponse', WHERE WHAT IT READS IS OF BULK AT MOST 1048576: true; the input reads as it did. -/
def fnUnsafeListOffsetsResponseUptoRow : OpenClaim := { program := "ytdnbgafbhifhoaadoor", sum := "50fe4f1709d4ab405f22c8f9942b898ed222993eb032ba7a8c8fda357375cf98", func := "pub-mailsack/laws.FnUnsafeListOffsetsResponse", spec := "fnUnsafeListOffsetsResponse", inPlace := ["internal/reflectlite.ValueOf", "internal/reflectlite.Swapper", "(internal/reflectlite.Value).Len"], unfollowed := true, recurses := true, named := ["encoding/binary.BigEndian", "pub-mailsack/pub/kmsg/inner/kbin.ErrNotEnoughData"], apart := false, laid := [("pub-mailsack/pub/kmsg/inner/kbin.ErrNotEnoughData", laid_pub_mailsack_pub_kmsg_inner_kbin_ErrNotEnoughData)], narrowed := true }
def FnUnsafeListOffsetsResponseUptoSaid : Prop := fnUnsafeListOffsetsResponseUptoRow.holds Tryd.pinned (OpenSpec.upto fnUnsafeListOffsetsResponseSpec)

/-- 'laws.FnUnsafeBeginQuorumEpochRequest', WHERE WHAT IT READS IS OF BULK AT MOST 1048576: true; the input reads as it did. -/
def fnUnsafeBeginQuorumEpochRequestUptoRow : OpenClaim := { program := "ytdnbgafbhifhoaadoor", sum := "50fe4f1709d4ab405f22c8f9942b898ed222993eb032ba7a8c8fda357375cf98", func := "pub-mailsack/laws.FnUnsafeBeginQuorumEpochRequest", spec := "fnUnsafeBeginQuorumEpochRequest", inPlace := ["internal/reflectlite.ValueOf", "internal/reflectlite.Swapper", "(internal/reflectlite.Value).Len"], unfollowed := true, recurses := true, named := ["encoding/binary.BigEndian", "pub-mailsack/pub/kmsg/inner/kbin.ErrNotEnoughData"], apart := false, laid := [("pub-mailsack/pub/kmsg/inner/kbin.ErrNotEnoughData", laid_pub_mailsack_pub_kmsg_inner_kbin_ErrNotEnoughData)], narrowed := true }
def FnUnsafeBeginQuorumEpochRequestUptoSaid : Prop := fnUnsafeBeginQuorumEpochRequestUptoRow.holds Tryd.pinned (OpenSpec.upto fnUnsafeBeginQuorumEpochRequestSpec)

/-- 'laws.FnUnsafeCreateTopicsRequest', WHERE WHAT IT READS IS OF BULK AT MOST 1048576: true; the input reads as it did. -/
def fnUnsafeCreateTopicsRequestUptoRow : OpenClaim := { program := "ytdnbgafbhifhoaadoor", sum := "50fe4f1709d4ab405f22c8f9942b898ed222993eb032ba7a8c8fda357375cf98", func := "pub-mailsack/laws.FnUnsafeCreateTopicsRequest", spec := "fnUnsafeCreateTopicsRequest", inPlace := ["internal/reflectlite.ValueOf", "internal/reflectlite.Swapper", "(internal/reflectlite.Value).Len"], unfollowed := true, recurses := true, named := ["encoding/binary.BigEndian", "pub-mailsack/pub/kmsg/inner/kbin.ErrNotEnoughData"], apart := false, laid := [("pub-mailsack/pub/kmsg/inner/kbin.ErrNotEnoughData", laid_pub_mailsack_pub_kmsg_inner_kbin_ErrNotEnoughData)], narrowed := true }
def FnUnsafeCreateTopicsRequestUptoSaid : Prop := fnUnsafeCreateTopicsRequestUptoRow.holds Tryd.pinned (OpenSpec.upto fnUnsafeCreateTopicsRequestSpec)

/-- 'laws.FnUnsafeShareFetchRequest', WHERE WHAT IT READS IS OF BULK AT MOST 1048576: true; the input reads as it did. -/
def fnUnsafeShareFetchRequestUptoRow : OpenClaim := { program := "ytdnbgafbhifhoaadoor", sum := "50fe4f1709d4ab405f22c8f9942b898ed222993eb032ba7a8c8fda357375cf98", func := "pub-mailsack/laws.FnUnsafeShareFetchRequest", spec := "fnUnsafeShareFetchRequest", inPlace := ["internal/reflectlite.ValueOf", "internal/reflectlite.Swapper", "(internal/reflectlite.Value).Len"], unfollowed := true, recurses := true, named := ["encoding/binary.BigEndian", "pub-mailsack/pub/kmsg/inner/kbin.ErrNotEnoughData"], apart := false, laid := [("pub-mailsack/pub/kmsg/inner/kbin.ErrNotEnoughData", laid_pub_mailsack_pub_kmsg_inner_kbin_ErrNotEnoughData)], narrowed := true }
def FnUnsafeShareFetchRequestUptoSaid : Prop := fnUnsafeShareFetchRequestUptoRow.holds Tryd.pinned (OpenSpec.upto fnUnsafeShareFetchRequestSpec)

end Rows
end Go.Proofs.YtdnbgafbhifhoaaDoor
