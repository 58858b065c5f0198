/-
  NARROWER THAN 'FOR EVERY INPUT', by the rows' own cells (each row's printed sentence says how): FnTellControlledShutdownResponse: loops, laid · FnTellDescribeQuorumRequest: loops, laid · FnTellDeleteShareGroupOffsetsResponse: loops, laid · FnTellDescribeUserSCRAMCredentialsResponse: loops, laid · FnTellIncrementalAlterConfigsRequest: loops, laid.
  DERIVED. THE GIVEN ROWS OF THIS SEAT. 5 by the template 'for every input the law returns true; each argument reads behind the call as it read before'; 0 by the template 'total and deterministic' (their statements: YtoncemcnclkpkaaGreatDoorTotals.lean).
  GIVEN WITH THE SEED: the statements are not yours to turn. If you find one false, say at which input.
  Laid BY PROGRAM, IN A SANDBOX (cutbox-rows.mjs): the forced cells as the released guide's own fill.sh prints them over the translation 683813cbaac8d179… (all of the seat's roots in one cut). By AI agents, Wed Nov 11 2026. No macro, syntax, notation, axiom, sorry.
-/
import Derived.Test.YtoncemcnclkpkaaGreatDoorChecked
import GoSem.Claim
import GoSem.ClaimJoined
import GoSem.ClaimMapViews
import Derived.JoinedTies
import Derived.KernelRfl
namespace Go.Proofs.YtoncemcnclkpkaaGreatDoor
/- THE CELL 'sum', in the pinned program and in every row, IS THE sha256 OF THE DUMP (.gsa) THAT YtoncemcnclkpkaaGreatDoorProg.lean LOADS. Nothing in Lean hashes anything: it is a label: what it is worth is what the hold of that sum in a sandbox is worth. -/
noncomputable def Tryz.pinned : Pinned := { name := "ytoncemcnclkpkaagreatdoor", sum := "683813cbaac8d1796f4fe5ab4db2f8f8d38991be22b6d713e0c57dc95c238e58", checked := Tryz.checked }
namespace Rows
def none {H : Type} : Left H := { results := [], args := [] }

/- WHAT THE LISTED PACKAGE-LEVEL VARIABLES READ AS WHEN THE CALL BEGINS. Each datum BY PROGRAM (the guide's laid-datum.mjs) off the statement by which the dump's own 'gosem.cut.vars' lays the variable. In a bare row this is a premise. The card (YtoncemcnclkpkaaGreatDoorCards.lean) ties it to the program's text. -/
def laid_pub_mailsack_pub_kmsg_inner_kbin_ErrNotEnoughData {H : Type} : DataW H := .iface "*errors.errorString" (.ptr (.agg [.lit (.string [114, 101, 115, 112, 111, 110, 115, 101, 32, 100, 105, 100, 32, 110, 111, 116, 32, 99, 111, 110, 116, 97, 105, 110, 32, 101, 110, 111, 117, 103, 104, 32, 100, 97, 116, 97, 32, 116, 111, 32, 98, 101, 32, 118, 97, 108, 105, 100])]))

/-- 'laws.FnTellControlledShutdownResponse': WHATEVER THE INPUT: true; the input reads as it did. -/
def fnTellControlledShutdownResponseSpec : ChangeSpec := { name := "fnTellControlledShutdownResponse", fn := fun _ => fun
  | [d1, d2] => { results := [.lit (.bool true)], args := [d1, d2] }
  | _ => none }
def fnTellControlledShutdownResponseRow : OpenClaim := { program := "ytoncemcnclkpkaagreatdoor", sum := "683813cbaac8d1796f4fe5ab4db2f8f8d38991be22b6d713e0c57dc95c238e58", func := "pub-mailsack/laws.FnTellControlledShutdownResponse", spec := "fnTellControlledShutdownResponse", inPlace := ["internal/reflectlite.ValueOf", "internal/reflectlite.Swapper", "(internal/reflectlite.Value).Len"], unfollowed := true, recurses := true, named := ["encoding/binary.BigEndian", "pub-mailsack/pub/kmsg/inner/kbin.ErrNotEnoughData"], loops := true, apart := false, laid := [("pub-mailsack/pub/kmsg/inner/kbin.ErrNotEnoughData", laid_pub_mailsack_pub_kmsg_inner_kbin_ErrNotEnoughData)] }
def FnTellControlledShutdownResponseSaid : Prop := fnTellControlledShutdownResponseRow.holds Tryz.pinned (OpenSpec.ofChange fnTellControlledShutdownResponseSpec)

/-- ITS FALSE NEIGHBOUR: 'it returns false'. Refute it at one input. -/
def fnTellControlledShutdownResponseWrong : ChangeSpec := { name := "fnTellControlledShutdownResponse", fn := fun _ => fun
  | [d1, d2] => { results := [.lit (.bool false)], args := [d1, d2] }
  | _ => none }
def FnTellControlledShutdownResponseWrongFalsely : Prop := fnTellControlledShutdownResponseRow.holds Tryz.pinned (OpenSpec.ofChange fnTellControlledShutdownResponseWrong)

/-- 'laws.FnTellDescribeQuorumRequest': WHATEVER THE INPUT: true; the input reads as it did. -/
def fnTellDescribeQuorumRequestSpec : ChangeSpec := { name := "fnTellDescribeQuorumRequest", fn := fun _ => fun
  | [d1, d2] => { results := [.lit (.bool true)], args := [d1, d2] }
  | _ => none }
def fnTellDescribeQuorumRequestRow : OpenClaim := { program := "ytoncemcnclkpkaagreatdoor", sum := "683813cbaac8d1796f4fe5ab4db2f8f8d38991be22b6d713e0c57dc95c238e58", func := "pub-mailsack/laws.FnTellDescribeQuorumRequest", spec := "fnTellDescribeQuorumRequest", inPlace := ["internal/reflectlite.ValueOf", "internal/reflectlite.Swapper", "(internal/reflectlite.Value).Len"], unfollowed := true, recurses := true, named := ["encoding/binary.BigEndian", "pub-mailsack/pub/kmsg/inner/kbin.ErrNotEnoughData"], loops := true, apart := false, laid := [("pub-mailsack/pub/kmsg/inner/kbin.ErrNotEnoughData", laid_pub_mailsack_pub_kmsg_inner_kbin_ErrNotEnoughData)] }
def FnTellDescribeQuorumRequestSaid : Prop := fnTellDescribeQuorumRequestRow.holds Tryz.pinned (OpenSpec.ofChange fnTellDescribeQuorumRequestSpec)

/-- ITS FALSE NEIGHBOUR: 'it returns false'. Refute it at one input. -/
def fnTellDescribeQuorumRequestWrong : ChangeSpec := { name := "fnTellDescribeQuorumRequest", fn := fun _ => fun
  | [d1, d2] => { results := [.lit (.bool false)], args := [d1, d2] }
  | _ => none }
def FnTellDescribeQuorumRequestWrongFalsely : Prop := fnTellDescribeQuorumRequestRow.holds Tryz.pinned (OpenSpec.ofChange fnTellDescribeQuorumRequestWrong)

/-- 'laws.FnTellDeleteShareGroupOffsetsResponse': WHATEVER THE INPUT: true; the input reads as it did. -/
def fnTellDeleteShareGroupOffsetsResponseSpec : ChangeSpec := { name := "fnTellDeleteShareGroupOffsetsResponse", fn := fun _ => fun
  | [d1, d2] => { results := [.lit (.bool true)], args := [d1, d2] }
  | _ => none }
def fnTellDeleteShareGroupOffsetsResponseRow : OpenClaim := { program := "ytoncemcnclkpkaagreatdoor", sum := "683813cbaac8d1796f4fe5ab4db2f8f8d38991be22b6d713e0c57dc95c238e58", func := "pub-mailsack/laws.FnTellDeleteShareGroupOffsetsResponse", spec := "fnTellDeleteShareGroupOffsetsResponse", inPlace := ["internal/reflectlite.ValueOf", "internal/reflectlite.Swapper", "(internal/reflectlite.Value).Len"], unfollowed := true, recurses := true, named := ["encoding/binary.BigEndian", "pub-mailsack/pub/kmsg/inner/kbin.ErrNotEnoughData"], loops := true, apart := false, laid := [("pub-mailsack/pub/kmsg/inner/kbin.ErrNotEnoughData", laid_pub_mailsack_pub_kmsg_inner_kbin_ErrNotEnoughData)] }
def FnTellDeleteShareGroupOffsetsResponseSaid : Prop := fnTellDeleteShareGroupOffsetsResponseRow.holds Tryz.pinned (OpenSpec.ofChange fnTellDeleteShareGroupOffsetsResponseSpec)

/-- ITS FALSE NEIGHBOUR: 'it returns false'. Refute it at one input. -/
def fnTellDeleteShareGroupOffsetsResponseWrong : ChangeSpec := { name := "fnTellDeleteShareGroupOffsetsResponse", fn := fun _ => fun
  | [d1, d2] => { results := [.lit (.bool false)], args := [d1, d2] }
  | _ => none }
def FnTellDeleteShareGroupOffsetsResponseWrongFalsely : Prop := fnTellDeleteShareGroupOffsetsResponseRow.holds Tryz.pinned (OpenSpec.ofChange fnTellDeleteShareGroupOffsetsResponseWrong)

/-- 'laws.FnTellDescribeUserSCRAMCredentialsResponse': WHATEVER THE INPUT: true; the input reads as it did. -/
def fnTellDescribeUserSCRAMCredentialsResponseSpec : ChangeSpec := { name := "fnTellDescribeUserSCRAMCredentialsResponse", fn := fun _ => fun
  | [d1, d2] => { results := [.lit (.bool true)], args := [d1, d2] }
  | _ => none }
def fnTellDescribeUserSCRAMCredentialsResponseRow : OpenClaim := { program := "ytoncemcnclkpkaagreatdoor", sum := "683813cbaac8d1796f4fe5ab4db2f8f8d38991be22b6d713e0c57dc95c238e58", func := "pub-mailsack/laws.FnTellDescribeUserSCRAMCredentialsResponse", spec := "fnTellDescribeUserSCRAMCredentialsResponse", inPlace := ["internal/reflectlite.ValueOf", "internal/reflectlite.Swapper", "(internal/reflectlite.Value).Len"], unfollowed := true, recurses := true, named := ["encoding/binary.BigEndian", "pub-mailsack/pub/kmsg/inner/kbin.ErrNotEnoughData"], loops := true, apart := false, laid := [("pub-mailsack/pub/kmsg/inner/kbin.ErrNotEnoughData", laid_pub_mailsack_pub_kmsg_inner_kbin_ErrNotEnoughData)] }
def FnTellDescribeUserSCRAMCredentialsResponseSaid : Prop := fnTellDescribeUserSCRAMCredentialsResponseRow.holds Tryz.pinned (OpenSpec.ofChange fnTellDescribeUserSCRAMCredentialsResponseSpec)

/-- ITS FALSE NEIGHBOUR: 'it returns false'. Refute it at one input. -/
def fnTellDescribeUserSCRAMCredentialsResponseWrong : ChangeSpec := { name := "fnTellDescribeUserSCRAMCredentialsResponse", fn := fun _ => fun
  | [d1, d2] => { results := [.lit (.bool false)], args := [d1, d2] }
  | _ => none }
def FnTellDescribeUserSCRAMCredentialsResponseWrongFalsely : Prop := fnTellDescribeUserSCRAMCredentialsResponseRow.holds Tryz.pinned (OpenSpec.ofChange fnTellDescribeUserSCRAMCredentialsResponseWrong)

/-- 'laws.FnTellIncrementalAlterConfigsRequest': WHATEVER THE INPUT: true; the input reads as it did. -/
def fnTellIncrementalAlterConfigsRequestSpec : ChangeSpec := { name := "fnTellIncrementalAlterConfigsRequest", fn := fun _ => fun
  | [d1, d2] => { results := [.lit (.bool true)], args := [d1, d2] }
  | _ => none }
def fnTellIncrementalAlterConfigsRequestRow : OpenClaim := { program := "ytoncemcnclkpkaagreatdoor", sum := "683813cbaac8d1796f4fe5ab4db2f8f8d38991be22b6d713e0c57dc95c238e58", func := "pub-mailsack/laws.FnTellIncrementalAlterConfigsRequest", spec := "fnTellIncrementalAlterConfigsRequest", inPlace := ["internal/reflectlite.ValueOf", "internal/reflectlite.Swapper", "(internal/reflectlite.Value).Len"], unfollowed := true, recurses := true, named := ["encoding/binary.BigEndian", "pub-mailsack/pub/kmsg/inner/kbin.ErrNotEnoughData"], loops := true, apart := false, laid := [("pub-mailsack/pub/kmsg/inner/kbin.ErrNotEnoughData", laid_pub_mailsack_pub_kmsg_inner_kbin_ErrNotEnoughData)] }
def FnTellIncrementalAlterConfigsRequestSaid : Prop := fnTellIncrementalAlterConfigsRequestRow.holds Tryz.pinned (OpenSpec.ofChange fnTellIncrementalAlterConfigsRequestSpec)

/-- ITS FALSE NEIGHBOUR: 'it returns false'. Refute it at one input. -/
def fnTellIncrementalAlterConfigsRequestWrong : ChangeSpec := { name := "fnTellIncrementalAlterConfigsRequest", fn := fun _ => fun
  | [d1, d2] => { results := [.lit (.bool false)], args := [d1, d2] }
  | _ => none }
def FnTellIncrementalAlterConfigsRequestWrongFalsely : Prop := fnTellIncrementalAlterConfigsRequestRow.holds Tryz.pinned (OpenSpec.ofChange fnTellIncrementalAlterConfigsRequestWrong)

/- THE SECOND FORM. 'bulk': how many values and letters a reading holds, each counted each time it is reached (what is shared counts as often as it is met; a slice's spare places count too). A statement '..UptoSaid' is the law's where the arguments, and the package variables that the reading takes, are together of bulk at most 1048576: NARROWER than '..Said'. Prove '..Said' where nothing that the law and all that it calls make is longer than what came in: it says more and counts as full. Else prove '..UptoSaid'. A law counts once. -/
mutual
def uptoBulk {H : Type} : DataW H → Nat
  | .lit (.string bytes) => bytes.length + 1
  | .lit _ => 1
  | .nil => 1
  | .ptr d => uptoBulk d + 1
  | .slice elems spare => uptoBulkAll elems + uptoBulkAll spare + 1
  | .agg parts => uptoBulkAll parts + 1
  | .iface _ d => uptoBulk d + 1
  | .map entries => uptoBulkEntries entries + 1
  | .held _ => 1
def uptoBulkAll {H : Type} : List (DataW H) → Nat
  | [] => 0
  | d :: r => uptoBulk d + uptoBulkAll r
def uptoBulkEntries {H : Type} : List (Lit × DataW H) → Nat
  | [] => 0
  | x :: r => uptoBulkEntry x + uptoBulkEntries r
def uptoBulkEntry {H : Type} : Lit × DataW H → Nat
  | (.string bytes, d) => bytes.length + uptoBulk d + 1
  | (_, d) => uptoBulk d + 1
 end
def uptoSmall : (H : Type) → List (DataW H) → Bool := fun _ ds => decide (uptoBulkAll ds ≤ 1048576)
def OpenSpec.upto (s : _root_.Go.ChangeSpec) : _root_.Go.OpenSpec := { _root_.Go.OpenSpec.ofChange s with cond := some uptoSmall }

/-- 'laws.FnTellControlledShutdownResponse', WHERE WHAT IT READS IS OF BULK AT MOST 1048576: true; the input reads as it did. -/
def fnTellControlledShutdownResponseUptoRow : OpenClaim := { program := "ytoncemcnclkpkaagreatdoor", sum := "683813cbaac8d1796f4fe5ab4db2f8f8d38991be22b6d713e0c57dc95c238e58", func := "pub-mailsack/laws.FnTellControlledShutdownResponse", spec := "fnTellControlledShutdownResponse", inPlace := ["internal/reflectlite.ValueOf", "internal/reflectlite.Swapper", "(internal/reflectlite.Value).Len"], unfollowed := true, recurses := true, named := ["encoding/binary.BigEndian", "pub-mailsack/pub/kmsg/inner/kbin.ErrNotEnoughData"], loops := true, apart := false, laid := [("pub-mailsack/pub/kmsg/inner/kbin.ErrNotEnoughData", laid_pub_mailsack_pub_kmsg_inner_kbin_ErrNotEnoughData)], narrowed := true }
def FnTellControlledShutdownResponseUptoSaid : Prop := fnTellControlledShutdownResponseUptoRow.holds Tryz.pinned (OpenSpec.upto fnTellControlledShutdownResponseSpec)

/-- 'laws.FnTellDescribeQuorumRequest', WHERE WHAT IT READS IS OF BULK AT MOST 1048576: true; the input reads as it did. -/
def fnTellDescribeQuorumRequestUptoRow : OpenClaim := { program := "ytoncemcnclkpkaagreatdoor", sum := "683813cbaac8d1796f4fe5ab4db2f8f8d38991be22b6d713e0c57dc95c238e58", func := "pub-mailsack/laws.FnTellDescribeQuorumRequest", spec := "fnTellDescribeQuorumRequest", inPlace := ["internal/reflectlite.ValueOf", "internal/reflectlite.Swapper", "(internal/reflectlite.Value).Len"], unfollowed := true, recurses := true, named := ["encoding/binary.BigEndian", "pub-mailsack/pub/kmsg/inner/kbin.ErrNotEnoughData"], loops := true, apart := false, laid := [("pub-mailsack/pub/kmsg/inner/kbin.ErrNotEnoughData", laid_pub_mailsack_pub_kmsg_inner_kbin_ErrNotEnoughData)], narrowed := true }
def FnTellDescribeQuorumRequestUptoSaid : Prop := fnTellDescribeQuorumRequestUptoRow.holds Tryz.pinned (OpenSpec.upto fnTellDescribeQuorumRequestSpec)

/-- 'laws.FnTellDeleteShareGroupOffsetsResponse', WHERE WHAT IT READS IS OF BULK AT MOST 1048576: true; the input reads as it did. -/
def fnTellDeleteShareGroupOffsetsResponseUptoRow : OpenClaim := { program := "ytoncemcnclkpkaagreatdoor", sum := "683813cbaac8d1796f4fe5ab4db2f8f8d38991be22b6d713e0c57dc95c238e58", func := "pub-mailsack/laws.FnTellDeleteShareGroupOffsetsResponse", spec := "fnTellDeleteShareGroupOffsetsResponse", inPlace := ["internal/reflectlite.ValueOf", "internal/reflectlite.Swapper", "(internal/reflectlite.Value).Len"], unfollowed := true, recurses := true, named := ["encoding/binary.BigEndian", "pub-mailsack/pub/kmsg/inner/kbin.ErrNotEnoughData"], loops := true, apart := false, laid := [("pub-mailsack/pub/kmsg/inner/kbin.ErrNotEnoughData", laid_pub_mailsack_pub_kmsg_inner_kbin_ErrNotEnoughData)], narrowed := true }
def FnTellDeleteShareGroupOffsetsResponseUptoSaid : Prop := fnTellDeleteShareGroupOffsetsResponseUptoRow.holds Tryz.pinned (OpenSpec.upto fnTellDeleteShareGroupOffsetsResponseSpec)

/-- 'laws.FnTellDescribeUserSCRAMCredentialsResponse', WHERE WHAT IT READS IS OF BULK AT MOST 1048576: true; the input reads as it did. -/
def fnTellDescribeUserSCRAMCredentialsResponseUptoRow : OpenClaim := { program := "ytoncemcnclkpkaagreatdoor", sum := "683813cbaac8d1796f4fe5ab4db2f8f8d38991be22b6d713e0c57dc95c238e58", func := "pub-mailsack/laws.FnTellDescribeUserSCRAMCredentialsResponse", spec := "fnTellDescribeUserSCRAMCredentialsResponse", inPlace := ["internal/reflectlite.ValueOf", "internal/reflectlite.Swapper", "(internal/reflectlite.Value).Len"], unfollowed := true, recurses := true, named := ["encoding/binary.BigEndian", "pub-mailsack/pub/kmsg/inner/kbin.ErrNotEnoughData"], loops := true, apart := false, laid := [("pub-mailsack/pub/kmsg/inner/kbin.ErrNotEnoughData", laid_pub_mailsack_pub_kmsg_inner_kbin_ErrNotEnoughData)], narrowed := true }
def FnTellDescribeUserSCRAMCredentialsResponseUptoSaid : Prop := fnTellDescribeUserSCRAMCredentialsResponseUptoRow.holds Tryz.pinned (OpenSpec.upto fnTellDescribeUserSCRAMCredentialsResponseSpec)

/-- 'laws.FnTellIncrementalAlterConfigsRequest', WHERE WHAT IT READS IS OF BULK AT MOST 1048576: true; the input reads as it did. -/
def fnTellIncrementalAlterConfigsRequestUptoRow : OpenClaim := { program := "ytoncemcnclkpkaagreatdoor", sum := "683813cbaac8d1796f4fe5ab4db2f8f8d38991be22b6d713e0c57dc95c238e58", func := "pub-mailsack/laws.FnTellIncrementalAlterConfigsRequest", spec := "fnTellIncrementalAlterConfigsRequest", inPlace := ["internal/reflectlite.ValueOf", "internal/reflectlite.Swapper", "(internal/reflectlite.Value).Len"], unfollowed := true, recurses := true, named := ["encoding/binary.BigEndian", "pub-mailsack/pub/kmsg/inner/kbin.ErrNotEnoughData"], loops := true, apart := false, laid := [("pub-mailsack/pub/kmsg/inner/kbin.ErrNotEnoughData", laid_pub_mailsack_pub_kmsg_inner_kbin_ErrNotEnoughData)], narrowed := true }
def FnTellIncrementalAlterConfigsRequestUptoSaid : Prop := fnTellIncrementalAlterConfigsRequestUptoRow.holds Tryz.pinned (OpenSpec.upto fnTellIncrementalAlterConfigsRequestSpec)

end Rows
end Go.Proofs.YtoncemcnclkpkaaGreatDoor
