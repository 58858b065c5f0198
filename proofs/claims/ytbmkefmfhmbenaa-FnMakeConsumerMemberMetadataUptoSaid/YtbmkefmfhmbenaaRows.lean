/-
  NARROWER THAN 'FOR EVERY INPUT', by the rows' own cells (each row's printed sentence says how): FnMakeOffsetDeleteRequest: loops · FnMakeConsumerMemberMetadata: loops · FnMakeUnregisterBrokerRequest: loops · FnMakeInitProducerIDResponse: loops · FnMakeBrokerHeartbeatResponse: loops.
  DERIVED. THE GIVEN ROWS OF THIS SEAT. 5 by the template 'for every input the law returns true; each argument reads behind the call as it read before'; 0 by the template 'total and deterministic' (their statements: YtbmkefmfhmbenaaTotals.lean).
  GIVEN WITH THE SEED: the statements are not yours to turn. If you find one false, say at which input.
  Laid BY PROGRAM, IN A SANDBOX (cutbox-rows.mjs): the forced cells as the released guide's own fill.sh prints them over the translation 2cbde18f76f934b4… (all of the seat's roots in one cut). By AI agents, Wed Nov 11 2026. No macro, syntax, notation, axiom, sorry.
-/
import Derived.Test.YtbmkefmfhmbenaaChecked
import GoSem.Claim
import GoSem.ClaimJoined
import GoSem.ClaimMapViews
import Derived.JoinedTies
import Derived.KernelRfl
namespace Go.Proofs.Ytbmkefmfhmbenaa
/- THE CELL 'sum', in the pinned program and in every row, IS THE sha256 OF THE DUMP (.gsa) THAT YtbmkefmfhmbenaaProg.lean LOADS. Nothing in Lean hashes anything: it is a label: what it is worth is what the hold of that sum in a sandbox is worth. -/
noncomputable def Try.pinned : Pinned := { name := "ytbmkefmfhmbenaa", sum := "2cbde18f76f934b4c8222c08bfec1a07c81c51ff92987604575d8fec4bba696b", checked := Try.checked }
namespace Rows
def none {H : Type} : Left H := { results := [], args := [] }

/-- 'laws.FnMakeOffsetDeleteRequest': WHATEVER THE INPUT: true; the input reads as it did. -/
def fnMakeOffsetDeleteRequestSpec : ChangeSpec := { name := "fnMakeOffsetDeleteRequest", fn := fun _ => fun
  | [d1, d2] => { results := [.lit (.bool true)], args := [d1, d2] }
  | _ => none }
def fnMakeOffsetDeleteRequestRow : OpenClaim := { program := "ytbmkefmfhmbenaa", sum := "2cbde18f76f934b4c8222c08bfec1a07c81c51ff92987604575d8fec4bba696b", func := "pub-mailsack/laws.FnMakeOffsetDeleteRequest", spec := "fnMakeOffsetDeleteRequest", recurses := true, loops := true, apart := false }
def FnMakeOffsetDeleteRequestSaid : Prop := fnMakeOffsetDeleteRequestRow.holds Try.pinned (OpenSpec.ofChange fnMakeOffsetDeleteRequestSpec)

/-- ITS FALSE NEIGHBOUR: 'it returns false'. Refute it at one input. -/
def fnMakeOffsetDeleteRequestWrong : ChangeSpec := { name := "fnMakeOffsetDeleteRequest", fn := fun _ => fun
  | [d1, d2] => { results := [.lit (.bool false)], args := [d1, d2] }
  | _ => none }
def FnMakeOffsetDeleteRequestWrongFalsely : Prop := fnMakeOffsetDeleteRequestRow.holds Try.pinned (OpenSpec.ofChange fnMakeOffsetDeleteRequestWrong)

/-- 'laws.FnMakeConsumerMemberMetadata': WHATEVER THE INPUT: true; the input reads as it did. -/
def fnMakeConsumerMemberMetadataSpec : ChangeSpec := { name := "fnMakeConsumerMemberMetadata", fn := fun _ => fun
  | [d1, d2] => { results := [.lit (.bool true)], args := [d1, d2] }
  | _ => none }
def fnMakeConsumerMemberMetadataRow : OpenClaim := { program := "ytbmkefmfhmbenaa", sum := "2cbde18f76f934b4c8222c08bfec1a07c81c51ff92987604575d8fec4bba696b", func := "pub-mailsack/laws.FnMakeConsumerMemberMetadata", spec := "fnMakeConsumerMemberMetadata", recurses := true, loops := true, apart := false }
def FnMakeConsumerMemberMetadataSaid : Prop := fnMakeConsumerMemberMetadataRow.holds Try.pinned (OpenSpec.ofChange fnMakeConsumerMemberMetadataSpec)

/-- ITS FALSE NEIGHBOUR: 'it returns false'. Refute it at one input. -/
def fnMakeConsumerMemberMetadataWrong : ChangeSpec := { name := "fnMakeConsumerMemberMetadata", fn := fun _ => fun
  | [d1, d2] => { results := [.lit (.bool false)], args := [d1, d2] }
  | _ => none }
def FnMakeConsumerMemberMetadataWrongFalsely : Prop := fnMakeConsumerMemberMetadataRow.holds Try.pinned (OpenSpec.ofChange fnMakeConsumerMemberMetadataWrong)

/-- 'laws.FnMakeUnregisterBrokerRequest': WHATEVER THE INPUT: true; the input reads as it did. -/
def fnMakeUnregisterBrokerRequestSpec : ChangeSpec := { name := "fnMakeUnregisterBrokerRequest", fn := fun _ => fun
  | [d1, d2] => { results := [.lit (.bool true)], args := [d1, d2] }
  | _ => none }
def fnMakeUnregisterBrokerRequestRow : OpenClaim := { program := "ytbmkefmfhmbenaa", sum := "2cbde18f76f934b4c8222c08bfec1a07c81c51ff92987604575d8fec4bba696b", func := "pub-mailsack/laws.FnMakeUnregisterBrokerRequest", spec := "fnMakeUnregisterBrokerRequest", inPlace := ["internal/reflectlite.ValueOf", "internal/reflectlite.Swapper", "(internal/reflectlite.Value).Len"], unfollowed := true, recurses := true, loops := true, apart := false }
def FnMakeUnregisterBrokerRequestSaid : Prop := fnMakeUnregisterBrokerRequestRow.holds Try.pinned (OpenSpec.ofChange fnMakeUnregisterBrokerRequestSpec)

/-- ITS FALSE NEIGHBOUR: 'it returns false'. Refute it at one input. -/
def fnMakeUnregisterBrokerRequestWrong : ChangeSpec := { name := "fnMakeUnregisterBrokerRequest", fn := fun _ => fun
  | [d1, d2] => { results := [.lit (.bool false)], args := [d1, d2] }
  | _ => none }
def FnMakeUnregisterBrokerRequestWrongFalsely : Prop := fnMakeUnregisterBrokerRequestRow.holds Try.pinned (OpenSpec.ofChange fnMakeUnregisterBrokerRequestWrong)

/-- 'laws.FnMakeInitProducerIDResponse': WHATEVER THE INPUT: true; the input reads as it did. -/
def fnMakeInitProducerIDResponseSpec : ChangeSpec := { name := "fnMakeInitProducerIDResponse", fn := fun _ => fun
  | [d1, d2] => { results := [.lit (.bool true)], args := [d1, d2] }
  | _ => none }
def fnMakeInitProducerIDResponseRow : OpenClaim := { program := "ytbmkefmfhmbenaa", sum := "2cbde18f76f934b4c8222c08bfec1a07c81c51ff92987604575d8fec4bba696b", func := "pub-mailsack/laws.FnMakeInitProducerIDResponse", spec := "fnMakeInitProducerIDResponse", inPlace := ["internal/reflectlite.ValueOf", "internal/reflectlite.Swapper", "(internal/reflectlite.Value).Len"], unfollowed := true, recurses := true, loops := true, apart := false }
def FnMakeInitProducerIDResponseSaid : Prop := fnMakeInitProducerIDResponseRow.holds Try.pinned (OpenSpec.ofChange fnMakeInitProducerIDResponseSpec)

/-- ITS FALSE NEIGHBOUR: 'it returns false'. Refute it at one input. -/
def fnMakeInitProducerIDResponseWrong : ChangeSpec := { name := "fnMakeInitProducerIDResponse", fn := fun _ => fun
  | [d1, d2] => { results := [.lit (.bool false)], args := [d1, d2] }
  | _ => none }
def FnMakeInitProducerIDResponseWrongFalsely : Prop := fnMakeInitProducerIDResponseRow.holds Try.pinned (OpenSpec.ofChange fnMakeInitProducerIDResponseWrong)

/-- 'laws.FnMakeBrokerHeartbeatResponse': WHATEVER THE INPUT: true; the input reads as it did. -/
def fnMakeBrokerHeartbeatResponseSpec : ChangeSpec := { name := "fnMakeBrokerHeartbeatResponse", fn := fun _ => fun
  | [d1, d2] => { results := [.lit (.bool true)], args := [d1, d2] }
  | _ => none }
def fnMakeBrokerHeartbeatResponseRow : OpenClaim := { program := "ytbmkefmfhmbenaa", sum := "2cbde18f76f934b4c8222c08bfec1a07c81c51ff92987604575d8fec4bba696b", func := "pub-mailsack/laws.FnMakeBrokerHeartbeatResponse", spec := "fnMakeBrokerHeartbeatResponse", inPlace := ["internal/reflectlite.ValueOf", "internal/reflectlite.Swapper", "(internal/reflectlite.Value).Len"], unfollowed := true, recurses := true, loops := true, apart := false }
def FnMakeBrokerHeartbeatResponseSaid : Prop := fnMakeBrokerHeartbeatResponseRow.holds Try.pinned (OpenSpec.ofChange fnMakeBrokerHeartbeatResponseSpec)

/-- ITS FALSE NEIGHBOUR: 'it returns false'. Refute it at one input. -/
def fnMakeBrokerHeartbeatResponseWrong : ChangeSpec := { name := "fnMakeBrokerHeartbeatResponse", fn := fun _ => fun
  | [d1, d2] => { results := [.lit (.bool false)], args := [d1, d2] }
  | _ => none }
def FnMakeBrokerHeartbeatResponseWrongFalsely : Prop := fnMakeBrokerHeartbeatResponseRow.holds Try.pinned (OpenSpec.ofChange fnMakeBrokerHeartbeatResponseWrong)

/- THE SECOND FORM. 'bulk': how many values and letters a reading holds, each counted each time it is reached (what is shared counts as often as it is met; a slice's spare places count too). A statement '..UptoSaid' is the law's where the arguments, and the package variables that the reading takes, are together of bulk at most 1048576: NARROWER than '..Said'. Prove '..Said' where nothing that the law and all that it calls make is longer than what came in: it says more and counts as full. Else prove '..UptoSaid'. A law counts once. -/
mutual
def uptoBulk {H : Type} : DataW H → Nat
  | .lit (.string bytes) => bytes.length + 1
  | .lit _ => 1
  | .nil => 1
  | .ptr d => uptoBulk d + 1
  | .slice elems spare => uptoBulkAll elems + uptoBulkAll spare + 1
  | .agg parts => uptoBulkAll parts + 1
  | .iface _ d => uptoBulk d + 1
  | .map entries => uptoBulkEntries entries + 1
  | .held _ => 1
def uptoBulkAll {H : Type} : List (DataW H) → Nat
  | [] => 0
  | d :: r => uptoBulk d + uptoBulkAll r
def uptoBulkEntries {H : Type} : List (Lit × DataW H) → Nat
  | [] => 0
  | x :: r => uptoBulkEntry x + uptoBulkEntries r
def uptoBulkEntry {H : Type} : Lit × DataW H → Nat
  | (.string bytes, d) => bytes.length + uptoBulk d + 1
  | (_, d) => uptoBulk d + 1
 end
def uptoSmall : (H : Type) → List (DataW H) → Bool := fun _ ds => decide (uptoBulkAll ds ≤ 1048576)
def OpenSpec.upto (s : _root_.Go.ChangeSpec) : _root_.Go.OpenSpec := { _root_.Go.OpenSpec.ofChange s with cond := some uptoSmall }

/-- 'laws.FnMakeOffsetDeleteRequest', WHERE WHAT IT READS IS OF BULK AT MOST 1048576: true; the input reads as it did. -/
def fnMakeOffsetDeleteRequestUptoRow : OpenClaim := { program := "ytbmkefmfhmbenaa", sum := "2cbde18f76f934b4c8222c08bfec1a07c81c51ff92987604575d8fec4bba696b", func := "pub-mailsack/laws.FnMakeOffsetDeleteRequest", spec := "fnMakeOffsetDeleteRequest", recurses := true, loops := true, apart := false, narrowed := true }
def FnMakeOffsetDeleteRequestUptoSaid : Prop := fnMakeOffsetDeleteRequestUptoRow.holds Try.pinned (OpenSpec.upto fnMakeOffsetDeleteRequestSpec)

/-- 'laws.FnMakeConsumerMemberMetadata', WHERE WHAT IT READS IS OF BULK AT MOST 1048576: true; the input reads as it did. -/
def fnMakeConsumerMemberMetadataUptoRow : OpenClaim := { program := "ytbmkefmfhmbenaa", sum := "2cbde18f76f934b4c8222c08bfec1a07c81c51ff92987604575d8fec4bba696b", func := "pub-mailsack/laws.FnMakeConsumerMemberMetadata", spec := "fnMakeConsumerMemberMetadata", recurses := true, loops := true, apart := false, narrowed := true }
def FnMakeConsumerMemberMetadataUptoSaid : Prop := fnMakeConsumerMemberMetadataUptoRow.holds Try.pinned (OpenSpec.upto fnMakeConsumerMemberMetadataSpec)

/-- 'laws.FnMakeUnregisterBrokerRequest', WHERE WHAT IT READS IS OF BULK AT MOST 1048576: true; the input reads as it did. -/
def fnMakeUnregisterBrokerRequestUptoRow : OpenClaim := { program := "ytbmkefmfhmbenaa", sum := "2cbde18f76f934b4c8222c08bfec1a07c81c51ff92987604575d8fec4bba696b", func := "pub-mailsack/laws.FnMakeUnregisterBrokerRequest", spec := "fnMakeUnregisterBrokerRequest", inPlace := ["internal/reflectlite.ValueOf", "internal/reflectlite.Swapper", "(internal/reflectlite.Value).Len"], unfollowed := true, recurses := true, loops := true, apart := false, narrowed := true }
def FnMakeUnregisterBrokerRequestUptoSaid : Prop := fnMakeUnregisterBrokerRequestUptoRow.holds Try.pinned (OpenSpec.upto fnMakeUnregisterBrokerRequestSpec)

/-- 'laws.FnMakeInitProducerIDResponse', WHERE WHAT IT READS IS OF BULK AT MOST 1048576: true; the input reads as it did. -/
def fnMakeInitProducerIDResponseUptoRow : OpenClaim := { program := "ytbmkefmfhmbenaa", sum := "2cbde18f76f934b4c8222c08bfec1a07c81c51ff92987604575d8fec4bba696b", func := "pub-mailsack/laws.FnMakeInitProducerIDResponse", spec := "fnMakeInitProducerIDResponse", inPlace := ["internal/reflectlite.ValueOf", "internal/reflectlite.Swapper", "(internal/reflectlite.Value).Len"], unfollowed := true, recurses := true, loops := true, apart := false, narrowed := true }
def FnMakeInitProducerIDResponseUptoSaid : Prop := fnMakeInitProducerIDResponseUptoRow.holds Try.pinned (OpenSpec.upto fnMakeInitProducerIDResponseSpec)

/-- 'laws.FnMakeBrokerHeartbeatResponse', WHERE WHAT IT READS IS OF BULK AT MOST 1048576: true; the input reads as it did. -/
def fnMakeBrokerHeartbeatResponseUptoRow : OpenClaim := { program := "ytbmkefmfhmbenaa", sum := "2cbde18f76f934b4c8222c08bfec1a07c81c51ff92987604575d8fec4bba696b", func := "pub-mailsack/laws.FnMakeBrokerHeartbeatResponse", spec := "fnMakeBrokerHeartbeatResponse", inPlace := ["internal/reflectlite.ValueOf", "internal/reflectlite.Swapper", "(internal/reflectlite.Value).Len"], unfollowed := true, recurses := true, loops := true, apart := false, narrowed := true }
def FnMakeBrokerHeartbeatResponseUptoSaid : Prop := fnMakeBrokerHeartbeatResponseUptoRow.holds Try.pinned (OpenSpec.upto fnMakeBrokerHeartbeatResponseSpec)

end Rows
end Go.Proofs.Ytbmkefmfhmbenaa
