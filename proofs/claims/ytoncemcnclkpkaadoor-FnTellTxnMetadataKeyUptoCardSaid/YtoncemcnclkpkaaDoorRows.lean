/-
  NARROWER THAN 'FOR EVERY INPUT', by the rows' own cells (each row's printed sentence says how): FnTellDescribeClusterRequest: loops, laid · FnTellAllocateProducerIDsRequest: loops, laid · FnTellSASLAuthenticateRequest: loops, laid · FnTellExpireDelegationTokenRequest: loops, laid · FnTellAddOffsetsToTxnRequest: loops, laid · FnTellDescribeTransactionsRequest: loops, laid · FnTellTxnMetadataKey: loops, laid.
  DERIVED. THE GIVEN ROWS OF THIS SEAT. 7 by the template 'for every input the law returns true; each argument reads behind the call as it read before'; 0 by the template 'total and deterministic' (their statements: YtoncemcnclkpkaaDoorTotals.lean).
  GIVEN WITH THE SEED: the statements are not yours to turn. If you find one false, say at which input.
  Laid BY PROGRAM, IN A SANDBOX (cutbox-rows.mjs): the forced cells as the released guide's own fill.sh prints them over the translation 8a245673e8a58edc… (all of the seat's roots in one cut). By AI agents, Wed Nov 11 2026. No macro, syntax, notation, axiom, sorry.
-/
import Derived.Test.YtoncemcnclkpkaaDoorChecked
import GoSem.Claim
import GoSem.ClaimJoined
import GoSem.ClaimMapViews
import Derived.JoinedTies
import Derived.KernelRfl
namespace Go.Proofs.YtoncemcnclkpkaaDoor
/- THE CELL 'sum', in the pinned program and in every row, IS THE sha256 OF THE DUMP (.gsa) THAT YtoncemcnclkpkaaDoorProg.lean LOADS. Nothing in Lean hashes anything: it is a label: what it is worth is what the hold of that sum in a sandbox is worth. -/
noncomputable def Tryd.pinned : Pinned := { name := "ytoncemcnclkpkaadoor", sum := "8a245673e8a58edc81c5b4f3766af90af42d896b4711d232d4e8eb5e63f36ec3", checked := Tryd.checked }
namespace Rows
def none {H : Type} : Left H := { results := [], args := [] }

/- WHAT THE LISTED PACKAGE-LEVEL VARIABLES READ AS WHEN THE CALL BEGINS. Each datum BY PROGRAM (the guide's laid-datum.mjs) off the statement by which the dump's own 'gosem.cut.vars' lays the variable. In a bare row this is a premise. The card (YtoncemcnclkpkaaDoorCards.lean) ties it to the program's text. -/
def laid_pub_mailsack_pub_kmsg_inner_kbin_ErrNotEnoughData {H : Type} : DataW H := .iface "*errors.errorString" (.ptr (.agg [.lit (.string [114, 101, 115, 112, 111, 110, 115, 101, 32, 100, 105, 100, 32, 110, 111, 116, 32, 99, 111, 110, 116, 97, 105, 110, 32, 101, 110, 111, 117, 103, 104, 32, 100, 97, 116, 97, 32, 116, 111, 32, 98, 101, 32, 118, 97, 108, 105, 100])]))

/-- 'laws.FnTellDescribeClusterRequest': WHATEVER THE INPUT: true; the input reads as it did. -/
def fnTellDescribeClusterRequestSpec : ChangeSpec := { name := "fnTellDescribeClusterRequest", fn := fun _ => fun
  | [d1, d2] => { results := [.lit (.bool true)], args := [d1, d2] }
  | _ => none }
def fnTellDescribeClusterRequestRow : OpenClaim := { program := "ytoncemcnclkpkaadoor", sum := "8a245673e8a58edc81c5b4f3766af90af42d896b4711d232d4e8eb5e63f36ec3", func := "pub-mailsack/laws.FnTellDescribeClusterRequest", spec := "fnTellDescribeClusterRequest", inPlace := ["internal/reflectlite.ValueOf", "internal/reflectlite.Swapper", "(internal/reflectlite.Value).Len"], unfollowed := true, recurses := true, named := ["pub-mailsack/pub/kmsg/inner/kbin.ErrNotEnoughData"], loops := true, apart := false, laid := [("pub-mailsack/pub/kmsg/inner/kbin.ErrNotEnoughData", laid_pub_mailsack_pub_kmsg_inner_kbin_ErrNotEnoughData)] }
def FnTellDescribeClusterRequestSaid : Prop := fnTellDescribeClusterRequestRow.holds Tryd.pinned (OpenSpec.ofChange fnTellDescribeClusterRequestSpec)

/-- ITS FALSE NEIGHBOUR: 'it returns false'. Refute it at one input. -/
def fnTellDescribeClusterRequestWrong : ChangeSpec := { name := "fnTellDescribeClusterRequest", fn := fun _ => fun
  | [d1, d2] => { results := [.lit (.bool false)], args := [d1, d2] }
  | _ => none }
def FnTellDescribeClusterRequestWrongFalsely : Prop := fnTellDescribeClusterRequestRow.holds Tryd.pinned (OpenSpec.ofChange fnTellDescribeClusterRequestWrong)

/-- 'laws.FnTellAllocateProducerIDsRequest': WHATEVER THE INPUT: true; the input reads as it did. -/
def fnTellAllocateProducerIDsRequestSpec : ChangeSpec := { name := "fnTellAllocateProducerIDsRequest", fn := fun _ => fun
  | [d1, d2] => { results := [.lit (.bool true)], args := [d1, d2] }
  | _ => none }
def fnTellAllocateProducerIDsRequestRow : OpenClaim := { program := "ytoncemcnclkpkaadoor", sum := "8a245673e8a58edc81c5b4f3766af90af42d896b4711d232d4e8eb5e63f36ec3", func := "pub-mailsack/laws.FnTellAllocateProducerIDsRequest", spec := "fnTellAllocateProducerIDsRequest", inPlace := ["internal/reflectlite.ValueOf", "internal/reflectlite.Swapper", "(internal/reflectlite.Value).Len"], unfollowed := true, recurses := true, named := ["encoding/binary.BigEndian", "pub-mailsack/pub/kmsg/inner/kbin.ErrNotEnoughData"], loops := true, apart := false, laid := [("pub-mailsack/pub/kmsg/inner/kbin.ErrNotEnoughData", laid_pub_mailsack_pub_kmsg_inner_kbin_ErrNotEnoughData)] }
def FnTellAllocateProducerIDsRequestSaid : Prop := fnTellAllocateProducerIDsRequestRow.holds Tryd.pinned (OpenSpec.ofChange fnTellAllocateProducerIDsRequestSpec)

/-- ITS FALSE NEIGHBOUR: 'it returns false'. Refute it at one input. -/
def fnTellAllocateProducerIDsRequestWrong : ChangeSpec := { name := "fnTellAllocateProducerIDsRequest", fn := fun _ => fun
  | [d1, d2] => { results := [.lit (.bool false)], args := [d1, d2] }
  | _ => none }
def FnTellAllocateProducerIDsRequestWrongFalsely : Prop := fnTellAllocateProducerIDsRequestRow.holds Tryd.pinned (OpenSpec.ofChange fnTellAllocateProducerIDsRequestWrong)

/-- 'laws.FnTellSASLAuthenticateRequest': WHATEVER THE INPUT: true; the input reads as it did. -/
def fnTellSASLAuthenticateRequestSpec : ChangeSpec := { name := "fnTellSASLAuthenticateRequest", fn := fun _ => fun
  | [d1, d2] => { results := [.lit (.bool true)], args := [d1, d2] }
  | _ => none }
def fnTellSASLAuthenticateRequestRow : OpenClaim := { program := "ytoncemcnclkpkaadoor", sum := "8a245673e8a58edc81c5b4f3766af90af42d896b4711d232d4e8eb5e63f36ec3", func := "pub-mailsack/laws.FnTellSASLAuthenticateRequest", spec := "fnTellSASLAuthenticateRequest", inPlace := ["internal/reflectlite.ValueOf", "internal/reflectlite.Swapper", "(internal/reflectlite.Value).Len"], unfollowed := true, recurses := true, named := ["encoding/binary.BigEndian", "pub-mailsack/pub/kmsg/inner/kbin.ErrNotEnoughData"], loops := true, apart := false, laid := [("pub-mailsack/pub/kmsg/inner/kbin.ErrNotEnoughData", laid_pub_mailsack_pub_kmsg_inner_kbin_ErrNotEnoughData)] }
def FnTellSASLAuthenticateRequestSaid : Prop := fnTellSASLAuthenticateRequestRow.holds Tryd.pinned (OpenSpec.ofChange fnTellSASLAuthenticateRequestSpec)

/-- ITS FALSE NEIGHBOUR: 'it returns false'. Refute it at one input. -/
def fnTellSASLAuthenticateRequestWrong : ChangeSpec := { name := "fnTellSASLAuthenticateRequest", fn := fun _ => fun
  | [d1, d2] => { results := [.lit (.bool false)], args := [d1, d2] }
  | _ => none }
def FnTellSASLAuthenticateRequestWrongFalsely : Prop := fnTellSASLAuthenticateRequestRow.holds Tryd.pinned (OpenSpec.ofChange fnTellSASLAuthenticateRequestWrong)

/-- 'laws.FnTellExpireDelegationTokenRequest': WHATEVER THE INPUT: true; the input reads as it did. -/
def fnTellExpireDelegationTokenRequestSpec : ChangeSpec := { name := "fnTellExpireDelegationTokenRequest", fn := fun _ => fun
  | [d1, d2] => { results := [.lit (.bool true)], args := [d1, d2] }
  | _ => none }
def fnTellExpireDelegationTokenRequestRow : OpenClaim := { program := "ytoncemcnclkpkaadoor", sum := "8a245673e8a58edc81c5b4f3766af90af42d896b4711d232d4e8eb5e63f36ec3", func := "pub-mailsack/laws.FnTellExpireDelegationTokenRequest", spec := "fnTellExpireDelegationTokenRequest", inPlace := ["internal/reflectlite.ValueOf", "internal/reflectlite.Swapper", "(internal/reflectlite.Value).Len"], unfollowed := true, recurses := true, named := ["encoding/binary.BigEndian", "pub-mailsack/pub/kmsg/inner/kbin.ErrNotEnoughData"], loops := true, apart := false, laid := [("pub-mailsack/pub/kmsg/inner/kbin.ErrNotEnoughData", laid_pub_mailsack_pub_kmsg_inner_kbin_ErrNotEnoughData)] }
def FnTellExpireDelegationTokenRequestSaid : Prop := fnTellExpireDelegationTokenRequestRow.holds Tryd.pinned (OpenSpec.ofChange fnTellExpireDelegationTokenRequestSpec)

/-- ITS FALSE NEIGHBOUR: 'it returns false'. Refute it at one input. -/
def fnTellExpireDelegationTokenRequestWrong : ChangeSpec := { name := "fnTellExpireDelegationTokenRequest", fn := fun _ => fun
  | [d1, d2] => { results := [.lit (.bool false)], args := [d1, d2] }
  | _ => none }
def FnTellExpireDelegationTokenRequestWrongFalsely : Prop := fnTellExpireDelegationTokenRequestRow.holds Tryd.pinned (OpenSpec.ofChange fnTellExpireDelegationTokenRequestWrong)

/-- 'laws.FnTellAddOffsetsToTxnRequest': WHATEVER THE INPUT: true; the input reads as it did. -/
def fnTellAddOffsetsToTxnRequestSpec : ChangeSpec := { name := "fnTellAddOffsetsToTxnRequest", fn := fun _ => fun
  | [d1, d2] => { results := [.lit (.bool true)], args := [d1, d2] }
  | _ => none }
def fnTellAddOffsetsToTxnRequestRow : OpenClaim := { program := "ytoncemcnclkpkaadoor", sum := "8a245673e8a58edc81c5b4f3766af90af42d896b4711d232d4e8eb5e63f36ec3", func := "pub-mailsack/laws.FnTellAddOffsetsToTxnRequest", spec := "fnTellAddOffsetsToTxnRequest", inPlace := ["internal/reflectlite.ValueOf", "internal/reflectlite.Swapper", "(internal/reflectlite.Value).Len"], unfollowed := true, recurses := true, named := ["encoding/binary.BigEndian", "pub-mailsack/pub/kmsg/inner/kbin.ErrNotEnoughData"], loops := true, apart := false, laid := [("pub-mailsack/pub/kmsg/inner/kbin.ErrNotEnoughData", laid_pub_mailsack_pub_kmsg_inner_kbin_ErrNotEnoughData)] }
def FnTellAddOffsetsToTxnRequestSaid : Prop := fnTellAddOffsetsToTxnRequestRow.holds Tryd.pinned (OpenSpec.ofChange fnTellAddOffsetsToTxnRequestSpec)

/-- ITS FALSE NEIGHBOUR: 'it returns false'. Refute it at one input. -/
def fnTellAddOffsetsToTxnRequestWrong : ChangeSpec := { name := "fnTellAddOffsetsToTxnRequest", fn := fun _ => fun
  | [d1, d2] => { results := [.lit (.bool false)], args := [d1, d2] }
  | _ => none }
def FnTellAddOffsetsToTxnRequestWrongFalsely : Prop := fnTellAddOffsetsToTxnRequestRow.holds Tryd.pinned (OpenSpec.ofChange fnTellAddOffsetsToTxnRequestWrong)

/-- 'laws.FnTellDescribeTransactionsRequest': WHATEVER THE INPUT: true; the input reads as it did. -/
def fnTellDescribeTransactionsRequestSpec : ChangeSpec := { name := "fnTellDescribeTransactionsRequest", fn := fun _ => fun
  | [d1, d2] => { results := [.lit (.bool true)], args := [d1, d2] }
  | _ => none }
def fnTellDescribeTransactionsRequestRow : OpenClaim := { program := "ytoncemcnclkpkaadoor", sum := "8a245673e8a58edc81c5b4f3766af90af42d896b4711d232d4e8eb5e63f36ec3", func := "pub-mailsack/laws.FnTellDescribeTransactionsRequest", spec := "fnTellDescribeTransactionsRequest", inPlace := ["internal/reflectlite.ValueOf", "internal/reflectlite.Swapper", "(internal/reflectlite.Value).Len"], unfollowed := true, recurses := true, named := ["encoding/binary.BigEndian", "pub-mailsack/pub/kmsg/inner/kbin.ErrNotEnoughData"], loops := true, apart := false, laid := [("pub-mailsack/pub/kmsg/inner/kbin.ErrNotEnoughData", laid_pub_mailsack_pub_kmsg_inner_kbin_ErrNotEnoughData)] }
def FnTellDescribeTransactionsRequestSaid : Prop := fnTellDescribeTransactionsRequestRow.holds Tryd.pinned (OpenSpec.ofChange fnTellDescribeTransactionsRequestSpec)

/-- ITS FALSE NEIGHBOUR: 'it returns false'. Refute it at one input. -/
def fnTellDescribeTransactionsRequestWrong : ChangeSpec := { name := "fnTellDescribeTransactionsRequest", fn := fun _ => fun
  | [d1, d2] => { results := [.lit (.bool false)], args := [d1, d2] }
  | _ => none }
def FnTellDescribeTransactionsRequestWrongFalsely : Prop := fnTellDescribeTransactionsRequestRow.holds Tryd.pinned (OpenSpec.ofChange fnTellDescribeTransactionsRequestWrong)

/-- 'laws.FnTellTxnMetadataKey': WHATEVER THE INPUT: true; the input reads as it did. -/
def fnTellTxnMetadataKeySpec : ChangeSpec := { name := "fnTellTxnMetadataKey", fn := fun _ => fun
  | [d1, d2] => { results := [.lit (.bool true)], args := [d1, d2] }
  | _ => none }
def fnTellTxnMetadataKeyRow : OpenClaim := { program := "ytoncemcnclkpkaadoor", sum := "8a245673e8a58edc81c5b4f3766af90af42d896b4711d232d4e8eb5e63f36ec3", func := "pub-mailsack/laws.FnTellTxnMetadataKey", spec := "fnTellTxnMetadataKey", recurses := true, named := ["encoding/binary.BigEndian", "pub-mailsack/pub/kmsg/inner/kbin.ErrNotEnoughData"], loops := true, apart := false, laid := [("pub-mailsack/pub/kmsg/inner/kbin.ErrNotEnoughData", laid_pub_mailsack_pub_kmsg_inner_kbin_ErrNotEnoughData)] }
def FnTellTxnMetadataKeySaid : Prop := fnTellTxnMetadataKeyRow.holds Tryd.pinned (OpenSpec.ofChange fnTellTxnMetadataKeySpec)

/-- ITS FALSE NEIGHBOUR: 'it returns false'. Refute it at one input. -/
def fnTellTxnMetadataKeyWrong : ChangeSpec := { name := "fnTellTxnMetadataKey", fn := fun _ => fun
  | [d1, d2] => { results := [.lit (.bool false)], args := [d1, d2] }
  | _ => none }
def FnTellTxnMetadataKeyWrongFalsely : Prop := fnTellTxnMetadataKeyRow.holds Tryd.pinned (OpenSpec.ofChange fnTellTxnMetadataKeyWrong)

/- THE SECOND FORM. 'bulk': how many values and letters a reading holds, each counted each time it is reached (what is shared counts as often as it is met; a slice's spare places count too). A statement '..UptoSaid' is the law's where the arguments, and the package variables that the reading takes, are together of bulk at most 1048576: NARROWER than '..Said'. Prove '..Said' where nothing that the law and all that it calls make is longer than what came in: it says more and counts as full. Else prove '..UptoSaid'. A law counts once. -/
mutual
def uptoBulk {H : Type} : DataW H → Nat
  | .lit (.string bytes) => bytes.length + 1
  | .lit _ => 1
  | .nil => 1
  | .ptr d => uptoBulk d + 1
  | .slice elems spare => uptoBulkAll elems + uptoBulkAll spare + 1
  | .agg parts => uptoBulkAll parts + 1
  | .iface _ d => uptoBulk d + 1
  | .map entries => uptoBulkEntries entries + 1
  | .held _ => 1
def uptoBulkAll {H : Type} : List (DataW H) → Nat
  | [] => 0
  | d :: r => uptoBulk d + uptoBulkAll r
def uptoBulkEntries {H : Type} : List (Lit × DataW H) → Nat
  | [] => 0
  | x :: r => uptoBulkEntry x + uptoBulkEntries r
def uptoBulkEntry {H : Type} : Lit × DataW H → Nat
  | (.string bytes, d) => bytes.length + uptoBulk d + 1
  | (_, d) => uptoBulk d + 1
 end
def uptoSmall : (H : Type) → List (DataW H) → Bool := fun _ ds => decide (uptoBulkAll ds ≤ 1048576)
def OpenSpec.upto (s : _root_.Go.ChangeSpec) : _root_.Go.OpenSpec := { _root_.Go.OpenSpec.ofChange s with cond := some uptoSmall }

/-- 'laws.FnTellDescribeClusterRequest', WHERE WHAT IT READS IS OF BULK AT MOST 1048576: true; the input reads as it did. -/
def fnTellDescribeClusterRequestUptoRow : OpenClaim := { program := "ytoncemcnclkpkaadoor", sum := "8a245673e8a58edc81c5b4f3766af90af42d896b4711d232d4e8eb5e63f36ec3", func := "pub-mailsack/laws.FnTellDescribeClusterRequest", spec := "fnTellDescribeClusterRequest", inPlace := ["internal/reflectlite.ValueOf", "internal/reflectlite.Swapper", "(internal/reflectlite.Value).Len"], unfollowed := true, recurses := true, named := ["pub-mailsack/pub/kmsg/inner/kbin.ErrNotEnoughData"], loops := true, apart := false, laid := [("pub-mailsack/pub/kmsg/inner/kbin.ErrNotEnoughData", laid_pub_mailsack_pub_kmsg_inner_kbin_ErrNotEnoughData)], narrowed := true }
def FnTellDescribeClusterRequestUptoSaid : Prop := fnTellDescribeClusterRequestUptoRow.holds Tryd.pinned (OpenSpec.upto fnTellDescribeClusterRequestSpec)

/-- 'laws.FnTellAllocateProducerIDsRequest', WHERE WHAT IT READS IS OF BULK AT MOST 1048576: true; the input reads as it did. -/
def fnTellAllocateProducerIDsRequestUptoRow : OpenClaim := { program := "ytoncemcnclkpkaadoor", sum := "8a245673e8a58edc81c5b4f3766af90af42d896b4711d232d4e8eb5e63f36ec3", func := "pub-mailsack/laws.FnTellAllocateProducerIDsRequest", spec := "fnTellAllocateProducerIDsRequest", inPlace := ["internal/reflectlite.ValueOf", "internal/reflectlite.Swapper", "(internal/reflectlite.Value).Len"], unfollowed := true, recurses := true, named := ["encoding/binary.BigEndian", "pub-mailsack/pub/kmsg/inner/kbin.ErrNotEnoughData"], loops := true, apart := false, laid := [("pub-mailsack/pub/kmsg/inner/kbin.ErrNotEnoughData", laid_pub_mailsack_pub_kmsg_inner_kbin_ErrNotEnoughData)], narrowed := true }
def FnTellAllocateProducerIDsRequestUptoSaid : Prop := fnTellAllocateProducerIDsRequestUptoRow.holds Tryd.pinned (OpenSpec.upto fnTellAllocateProducerIDsRequestSpec)

/-- 'laws.FnTellSASLAuthenticateRequest', WHERE WHAT IT READS IS OF BULK AT MOST 1048576: true; the input reads as it did. -/
def fnTellSASLAuthenticateRequestUptoRow : OpenClaim := { program := "ytoncemcnclkpkaadoor", sum := "8a245673e8a58edc81c5b4f3766af90af42d896b4711d232d4e8eb5e63f36ec3", func := "pub-mailsack/laws.FnTellSASLAuthenticateRequest", spec := "fnTellSASLAuthenticateRequest", inPlace := ["internal/reflectlite.ValueOf", "internal/reflectlite.Swapper", "(internal/reflectlite.Value).Len"], unfollowed := true, recurses := true, named := ["encoding/binary.BigEndian", "pub-mailsack/pub/kmsg/inner/kbin.ErrNotEnoughData"], loops := true, apart := false, laid := [("pub-mailsack/pub/kmsg/inner/kbin.ErrNotEnoughData", laid_pub_mailsack_pub_kmsg_inner_kbin_ErrNotEnoughData)], narrowed := true }
def FnTellSASLAuthenticateRequestUptoSaid : Prop := fnTellSASLAuthenticateRequestUptoRow.holds Tryd.pinned (OpenSpec.upto fnTellSASLAuthenticateRequestSpec)

/-- 'laws.FnTellExpireDelegationTokenRequest', WHERE WHAT IT READS IS OF BULK AT MOST 1048576: true; the input reads as it did. -/
def fnTellExpireDelegationTokenRequestUptoRow : OpenClaim := { program := "ytoncemcnclkpkaadoor", sum := "8a245673e8a58edc81c5b4f3766af90af42d896b4711d232d4e8eb5e63f36ec3", func := "pub-mailsack/laws.FnTellExpireDelegationTokenRequest", spec := "fnTellExpireDelegationTokenRequest", inPlace := ["internal/reflectlite.ValueOf", "internal/reflectlite.Swapper", "(internal/reflectlite.Value).Len"], unfollowed := true, recurses := true, named := ["encoding/binary.BigEndian", "pub-mailsack/pub/kmsg/inner/kbin.ErrNotEnoughData"], loops := true, apart := false, laid := [("pub-mailsack/pub/kmsg/inner/kbin.ErrNotEnoughData", laid_pub_mailsack_pub_kmsg_inner_kbin_ErrNotEnoughData)], narrowed := true }
def FnTellExpireDelegationTokenRequestUptoSaid : Prop := fnTellExpireDelegationTokenRequestUptoRow.holds Tryd.pinned (OpenSpec.upto fnTellExpireDelegationTokenRequestSpec)

/-- 'laws.FnTellAddOffsetsToTxnRequest', WHERE WHAT IT READS IS OF BULK AT MOST 1048576: true; the input reads as it did. -/
def fnTellAddOffsetsToTxnRequestUptoRow : OpenClaim := { program := "ytoncemcnclkpkaadoor", sum := "8a245673e8a58edc81c5b4f3766af90af42d896b4711d232d4e8eb5e63f36ec3", func := "pub-mailsack/laws.FnTellAddOffsetsToTxnRequest", spec := "fnTellAddOffsetsToTxnRequest", inPlace := ["internal/reflectlite.ValueOf", "internal/reflectlite.Swapper", "(internal/reflectlite.Value).Len"], unfollowed := true, recurses := true, named := ["encoding/binary.BigEndian", "pub-mailsack/pub/kmsg/inner/kbin.ErrNotEnoughData"], loops := true, apart := false, laid := [("pub-mailsack/pub/kmsg/inner/kbin.ErrNotEnoughData", laid_pub_mailsack_pub_kmsg_inner_kbin_ErrNotEnoughData)], narrowed := true }
def FnTellAddOffsetsToTxnRequestUptoSaid : Prop := fnTellAddOffsetsToTxnRequestUptoRow.holds Tryd.pinned (OpenSpec.upto fnTellAddOffsetsToTxnRequestSpec)

/-- 'laws.FnTellDescribeTransactionsRequest', WHERE WHAT IT READS IS OF BULK AT MOST 1048576: true; the input reads as it did. -/
def fnTellDescribeTransactionsRequestUptoRow : OpenClaim := { program := "ytoncemcnclkpkaadoor", sum := "8a245673e8a58edc81c5b4f3766af90af42d896b4711d232d4e8eb5e63f36ec3", func := "pub-mailsack/laws.FnTellDescribeTransactionsRequest", spec := "fnTellDescribeTransactionsRequest", inPlace := ["internal/reflectlite.ValueOf", "internal/reflectlite.Swapper", "(internal/reflectlite.Value).Len"], unfollowed := true, recurses := true, named := ["encoding/binary.BigEndian", "pub-mailsack/pub/kmsg/inner/kbin.ErrNotEnoughData"], loops := true, apart := false, laid := [("pub-mailsack/pub/kmsg/inner/kbin.ErrNotEnoughData", laid_pub_mailsack_pub_kmsg_inner_kbin_ErrNotEnoughData)], narrowed := true }
def FnTellDescribeTransactionsRequestUptoSaid : Prop := fnTellDescribeTransactionsRequestUptoRow.holds Tryd.pinned (OpenSpec.upto fnTellDescribeTransactionsRequestSpec)

/-- 'laws.FnTellTxnMetadataKey', WHERE WHAT IT READS IS OF BULK AT MOST 1048576: true; the input reads as it did. -/
def fnTellTxnMetadataKeyUptoRow : OpenClaim := { program := "ytoncemcnclkpkaadoor", sum := "8a245673e8a58edc81c5b4f3766af90af42d896b4711d232d4e8eb5e63f36ec3", func := "pub-mailsack/laws.FnTellTxnMetadataKey", spec := "fnTellTxnMetadataKey", recurses := true, named := ["encoding/binary.BigEndian", "pub-mailsack/pub/kmsg/inner/kbin.ErrNotEnoughData"], loops := true, apart := false, laid := [("pub-mailsack/pub/kmsg/inner/kbin.ErrNotEnoughData", laid_pub_mailsack_pub_kmsg_inner_kbin_ErrNotEnoughData)], narrowed := true }
def FnTellTxnMetadataKeyUptoSaid : Prop := fnTellTxnMetadataKeyUptoRow.holds Tryd.pinned (OpenSpec.upto fnTellTxnMetadataKeySpec)

end Rows
end Go.Proofs.YtoncemcnclkpkaaDoor
