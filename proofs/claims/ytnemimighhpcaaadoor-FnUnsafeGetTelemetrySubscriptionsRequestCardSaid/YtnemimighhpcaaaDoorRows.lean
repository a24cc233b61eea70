/-
  NARROWER THAN 'FOR EVERY INPUT', by the rows' own cells (each row's printed sentence says how): FnBehindSASLHandshakeRequest: loops, laid · FnUnsafeGetTelemetrySubscriptionsRequest: laid · FnDefaultControlledShutdownRequest: loops, laid · FnUnsafeHeartbeatResponse: laid · FnUnsafeRenewDelegationTokenResponse: laid · FnTellPushTelemetryRequest: loops, laid · FnUnsafeAddRaftVoterResponse: laid · FnTellOffsetCommitValue: loops, laid.
  DERIVED. THE GIVEN ROWS OF THIS SEAT. 8 by the template 'for every input the law returns true; each argument reads behind the call as it read before'; 0 by the template 'total and deterministic' (their statements: YtnemimighhpcaaaDoorTotals.lean).
  GIVEN WITH THE SEED: the statements are not yours to turn. If you find one false, say at which input.
  Laid BY PROGRAM, IN A SANDBOX (cutbox-rows.mjs): the forced cells as the released guide's own fill.sh prints them over the translation fdac20702841fc60… (all of the seat's roots in one cut). By AI agents, Wed Nov 11 2026. No macro, syntax, notation, axiom, sorry.
-/
import Derived.Test.YtnemimighhpcaaaDoorChecked
import GoSem.Claim
import GoSem.ClaimJoined
import GoSem.ClaimMapViews
import Derived.JoinedTies
import Derived.KernelRfl
namespace Go.Proofs.YtnemimighhpcaaaDoor
/- THE CELL 'sum', in the pinned program and in every row, IS THE sha256 OF THE DUMP (.gsa) THAT YtnemimighhpcaaaDoorProg.lean LOADS. Nothing in Lean hashes anything: it is a label: what it is worth is what the hold of that sum in a sandbox is worth. -/
noncomputable def Tryd.pinned : Pinned := { name := "ytnemimighhpcaaadoor", sum := "fdac20702841fc604940ffa7a944b5c56638a3ec5d520e1c25379a7c41d550be", checked := Tryd.checked }
namespace Rows
def none {H : Type} : Left H := { results := [], args := [] }

/- WHAT THE LISTED PACKAGE-LEVEL VARIABLES READ AS WHEN THE CALL BEGINS. Each datum BY PROGRAM (the guide's laid-datum.mjs) off the statement by which the dump's own 'gosem.cut.vars' lays the variable. In a bare row this is a premise. The card (YtnemimighhpcaaaDoorCards.lean) ties it to the program's text. -/
def laid_pub_mailsack_pub_kmsg_inner_kbin_ErrNotEnoughData {H : Type} : DataW H := .iface "*errors.errorString" (.ptr (.agg [.lit (.string [114, 101, 115, 112, 111, 110, 115, 101, 32, 100, 105, 100, 32, 110, 111, 116, 32, 99, 111, 110, 116, 97, 105, 110, 32, 101, 110, 111, 117, 103, 104, 32, 100, 97, 116, 97, 32, 116, 111, 32, 98, 101, 32, 118, 97, 108, 105, 100])]))

/-- 'laws.FnBehindSASLHandshakeRequest': WHATEVER THE INPUT: true; the input reads as it did. -/
def fnBehindSASLHandshakeRequestSpec : ChangeSpec := { name := "fnBehindSASLHandshakeRequest", fn := fun _ => fun
  | [d1, d2, d3] => { results := [.lit (.bool true)], args := [d1, d2, d3] }
  | _ => none }
def fnBehindSASLHandshakeRequestRow : OpenClaim := { program := "ytnemimighhpcaaadoor", sum := "fdac20702841fc604940ffa7a944b5c56638a3ec5d520e1c25379a7c41d550be", func := "pub-mailsack/laws.FnBehindSASLHandshakeRequest", spec := "fnBehindSASLHandshakeRequest", recurses := true, named := ["encoding/binary.BigEndian", "pub-mailsack/pub/kmsg/inner/kbin.ErrNotEnoughData"], loops := true, apart := false, laid := [("pub-mailsack/pub/kmsg/inner/kbin.ErrNotEnoughData", laid_pub_mailsack_pub_kmsg_inner_kbin_ErrNotEnoughData)] }
def FnBehindSASLHandshakeRequestSaid : Prop := fnBehindSASLHandshakeRequestRow.holds Tryd.pinned (OpenSpec.ofChange fnBehindSASLHandshakeRequestSpec)

/-- ITS FALSE NEIGHBOUR: 'it returns false'. Refute it at one input. -/
def fnBehindSASLHandshakeRequestWrong : ChangeSpec := { name := "fnBehindSASLHandshakeRequest", fn := fun _ => fun
  | [d1, d2, d3] => { results := [.lit (.bool false)], args := [d1, d2, d3] }
  | _ => none }
def FnBehindSASLHandshakeRequestWrongFalsely : Prop := fnBehindSASLHandshakeRequestRow.holds Tryd.pinned (OpenSpec.ofChange fnBehindSASLHandshakeRequestWrong)

/-- 'laws.FnUnsafeGetTelemetrySubscriptionsRequest': WHATEVER THE INPUT: true; the input reads as it did. -/
def fnUnsafeGetTelemetrySubscriptionsRequestSpec : ChangeSpec := { name := "fnUnsafeGetTelemetrySubscriptionsRequest", fn := fun _ => fun
  | [d1, d2] => { results := [.lit (.bool true)], args := [d1, d2] }
  | _ => none }
def fnUnsafeGetTelemetrySubscriptionsRequestRow : OpenClaim := { program := "ytnemimighhpcaaadoor", sum := "fdac20702841fc604940ffa7a944b5c56638a3ec5d520e1c25379a7c41d550be", func := "pub-mailsack/laws.FnUnsafeGetTelemetrySubscriptionsRequest", spec := "fnUnsafeGetTelemetrySubscriptionsRequest", inPlace := ["internal/reflectlite.ValueOf", "internal/reflectlite.Swapper", "(internal/reflectlite.Value).Len"], unfollowed := true, recurses := true, named := ["pub-mailsack/pub/kmsg/inner/kbin.ErrNotEnoughData"], apart := false, laid := [("pub-mailsack/pub/kmsg/inner/kbin.ErrNotEnoughData", laid_pub_mailsack_pub_kmsg_inner_kbin_ErrNotEnoughData)] }
def FnUnsafeGetTelemetrySubscriptionsRequestSaid : Prop := fnUnsafeGetTelemetrySubscriptionsRequestRow.holds Tryd.pinned (OpenSpec.ofChange fnUnsafeGetTelemetrySubscriptionsRequestSpec)

/-- ITS FALSE NEIGHBOUR: 'it returns false'. Refute it at one input. -/
def fnUnsafeGetTelemetrySubscriptionsRequestWrong : ChangeSpec := { name := "fnUnsafeGetTelemetrySubscriptionsRequest", fn := fun _ => fun
  | [d1, d2] => { results := [.lit (.bool false)], args := [d1, d2] }
  | _ => none }
def FnUnsafeGetTelemetrySubscriptionsRequestWrongFalsely : Prop := fnUnsafeGetTelemetrySubscriptionsRequestRow.holds Tryd.pinned (OpenSpec.ofChange fnUnsafeGetTelemetrySubscriptionsRequestWrong)

/-- 'laws.FnDefaultControlledShutdownRequest': WHATEVER THE INPUT: true; the input reads as it did. -/
def fnDefaultControlledShutdownRequestSpec : ChangeSpec := { name := "fnDefaultControlledShutdownRequest", fn := fun _ => fun
  | [d1, d2] => { results := [.lit (.bool true)], args := [d1, d2] }
  | _ => none }
def fnDefaultControlledShutdownRequestRow : OpenClaim := { program := "ytnemimighhpcaaadoor", sum := "fdac20702841fc604940ffa7a944b5c56638a3ec5d520e1c25379a7c41d550be", func := "pub-mailsack/laws.FnDefaultControlledShutdownRequest", spec := "fnDefaultControlledShutdownRequest", inPlace := ["internal/reflectlite.ValueOf", "internal/reflectlite.Swapper", "(internal/reflectlite.Value).Len"], unfollowed := true, recurses := true, named := ["encoding/binary.BigEndian", "pub-mailsack/pub/kmsg/inner/kbin.ErrNotEnoughData"], loops := true, apart := false, laid := [("pub-mailsack/pub/kmsg/inner/kbin.ErrNotEnoughData", laid_pub_mailsack_pub_kmsg_inner_kbin_ErrNotEnoughData)] }
def FnDefaultControlledShutdownRequestSaid : Prop := fnDefaultControlledShutdownRequestRow.holds Tryd.pinned (OpenSpec.ofChange fnDefaultControlledShutdownRequestSpec)

/-- ITS FALSE NEIGHBOUR: 'it returns false'. Refute it at one input. -/
def fnDefaultControlledShutdownRequestWrong : ChangeSpec := { name := "fnDefaultControlledShutdownRequest", fn := fun _ => fun
  | [d1, d2] => { results := [.lit (.bool false)], args := [d1, d2] }
  | _ => none }
def FnDefaultControlledShutdownRequestWrongFalsely : Prop := fnDefaultControlledShutdownRequestRow.holds Tryd.pinned (OpenSpec.ofChange fnDefaultControlledShutdownRequestWrong)

/-- 'laws.FnUnsafeHeartbeatResponse': WHATEVER THE INPUT: true; the input reads as it did. -/
def fnUnsafeHeartbeatResponseSpec : ChangeSpec := { name := "fnUnsafeHeartbeatResponse", fn := fun _ => fun
  | [d1, d2] => { results := [.lit (.bool true)], args := [d1, d2] }
  | _ => none }
def fnUnsafeHeartbeatResponseRow : OpenClaim := { program := "ytnemimighhpcaaadoor", sum := "fdac20702841fc604940ffa7a944b5c56638a3ec5d520e1c25379a7c41d550be", func := "pub-mailsack/laws.FnUnsafeHeartbeatResponse", spec := "fnUnsafeHeartbeatResponse", inPlace := ["internal/reflectlite.ValueOf", "internal/reflectlite.Swapper", "(internal/reflectlite.Value).Len"], unfollowed := true, recurses := true, named := ["encoding/binary.BigEndian", "pub-mailsack/pub/kmsg/inner/kbin.ErrNotEnoughData"], apart := false, laid := [("pub-mailsack/pub/kmsg/inner/kbin.ErrNotEnoughData", laid_pub_mailsack_pub_kmsg_inner_kbin_ErrNotEnoughData)] }
def FnUnsafeHeartbeatResponseSaid : Prop := fnUnsafeHeartbeatResponseRow.holds Tryd.pinned (OpenSpec.ofChange fnUnsafeHeartbeatResponseSpec)

/-- ITS FALSE NEIGHBOUR: 'it returns false'. Refute it at one input. -/
def fnUnsafeHeartbeatResponseWrong : ChangeSpec := { name := "fnUnsafeHeartbeatResponse", fn := fun _ => fun
  | [d1, d2] => { results := [.lit (.bool false)], args := [d1, d2] }
  | _ => none }
def FnUnsafeHeartbeatResponseWrongFalsely : Prop := fnUnsafeHeartbeatResponseRow.holds Tryd.pinned (OpenSpec.ofChange fnUnsafeHeartbeatResponseWrong)

/-- 'laws.FnUnsafeRenewDelegationTokenResponse': WHATEVER THE INPUT: true; the input reads as it did. -/
def fnUnsafeRenewDelegationTokenResponseSpec : ChangeSpec := { name := "fnUnsafeRenewDelegationTokenResponse", fn := fun _ => fun
  | [d1, d2] => { results := [.lit (.bool true)], args := [d1, d2] }
  | _ => none }
def fnUnsafeRenewDelegationTokenResponseRow : OpenClaim := { program := "ytnemimighhpcaaadoor", sum := "fdac20702841fc604940ffa7a944b5c56638a3ec5d520e1c25379a7c41d550be", func := "pub-mailsack/laws.FnUnsafeRenewDelegationTokenResponse", spec := "fnUnsafeRenewDelegationTokenResponse", inPlace := ["internal/reflectlite.ValueOf", "internal/reflectlite.Swapper", "(internal/reflectlite.Value).Len"], unfollowed := true, recurses := true, named := ["encoding/binary.BigEndian", "pub-mailsack/pub/kmsg/inner/kbin.ErrNotEnoughData"], apart := false, laid := [("pub-mailsack/pub/kmsg/inner/kbin.ErrNotEnoughData", laid_pub_mailsack_pub_kmsg_inner_kbin_ErrNotEnoughData)] }
def FnUnsafeRenewDelegationTokenResponseSaid : Prop := fnUnsafeRenewDelegationTokenResponseRow.holds Tryd.pinned (OpenSpec.ofChange fnUnsafeRenewDelegationTokenResponseSpec)

/-- ITS FALSE NEIGHBOUR: 'it returns false'. Refute it at one input. -/
def fnUnsafeRenewDelegationTokenResponseWrong : ChangeSpec := { name := "fnUnsafeRenewDelegationTokenResponse", fn := fun _ => fun
  | [d1, d2] => { results := [.lit (.bool false)], args := [d1, d2] }
  | _ => none }
def FnUnsafeRenewDelegationTokenResponseWrongFalsely : Prop := fnUnsafeRenewDelegationTokenResponseRow.holds Tryd.pinned (OpenSpec.ofChange fnUnsafeRenewDelegationTokenResponseWrong)

/-- 'laws.FnTellPushTelemetryRequest': WHATEVER THE INPUT: true; the input reads as it did. -/
def fnTellPushTelemetryRequestSpec : ChangeSpec := { name := "fnTellPushTelemetryRequest", fn := fun _ => fun
  | [d1, d2] => { results := [.lit (.bool true)], args := [d1, d2] }
  | _ => none }
def fnTellPushTelemetryRequestRow : OpenClaim := { program := "ytnemimighhpcaaadoor", sum := "fdac20702841fc604940ffa7a944b5c56638a3ec5d520e1c25379a7c41d550be", func := "pub-mailsack/laws.FnTellPushTelemetryRequest", spec := "fnTellPushTelemetryRequest", inPlace := ["internal/reflectlite.ValueOf", "internal/reflectlite.Swapper", "(internal/reflectlite.Value).Len"], unfollowed := true, recurses := true, named := ["encoding/binary.BigEndian", "pub-mailsack/pub/kmsg/inner/kbin.ErrNotEnoughData"], loops := true, apart := false, laid := [("pub-mailsack/pub/kmsg/inner/kbin.ErrNotEnoughData", laid_pub_mailsack_pub_kmsg_inner_kbin_ErrNotEnoughData)] }
def FnTellPushTelemetryRequestSaid : Prop := fnTellPushTelemetryRequestRow.holds Tryd.pinned (OpenSpec.ofChange fnTellPushTelemetryRequestSpec)

/-- ITS FALSE NEIGHBOUR: 'it returns false'. Refute it at one input. -/
def fnTellPushTelemetryRequestWrong : ChangeSpec := { name := "fnTellPushTelemetryRequest", fn := fun _ => fun
  | [d1, d2] => { results := [.lit (.bool false)], args := [d1, d2] }
  | _ => none }
def FnTellPushTelemetryRequestWrongFalsely : Prop := fnTellPushTelemetryRequestRow.holds Tryd.pinned (OpenSpec.ofChange fnTellPushTelemetryRequestWrong)

/-- 'laws.FnUnsafeAddRaftVoterResponse': WHATEVER THE INPUT: true; the input reads as it did. -/
def fnUnsafeAddRaftVoterResponseSpec : ChangeSpec := { name := "fnUnsafeAddRaftVoterResponse", fn := fun _ => fun
  | [d1, d2] => { results := [.lit (.bool true)], args := [d1, d2] }
  | _ => none }
def fnUnsafeAddRaftVoterResponseRow : OpenClaim := { program := "ytnemimighhpcaaadoor", sum := "fdac20702841fc604940ffa7a944b5c56638a3ec5d520e1c25379a7c41d550be", func := "pub-mailsack/laws.FnUnsafeAddRaftVoterResponse", spec := "fnUnsafeAddRaftVoterResponse", inPlace := ["internal/reflectlite.ValueOf", "internal/reflectlite.Swapper", "(internal/reflectlite.Value).Len"], unfollowed := true, recurses := true, named := ["encoding/binary.BigEndian", "pub-mailsack/pub/kmsg/inner/kbin.ErrNotEnoughData"], apart := false, laid := [("pub-mailsack/pub/kmsg/inner/kbin.ErrNotEnoughData", laid_pub_mailsack_pub_kmsg_inner_kbin_ErrNotEnoughData)] }
def FnUnsafeAddRaftVoterResponseSaid : Prop := fnUnsafeAddRaftVoterResponseRow.holds Tryd.pinned (OpenSpec.ofChange fnUnsafeAddRaftVoterResponseSpec)

/-- ITS FALSE NEIGHBOUR: 'it returns false'. Refute it at one input. -/
def fnUnsafeAddRaftVoterResponseWrong : ChangeSpec := { name := "fnUnsafeAddRaftVoterResponse", fn := fun _ => fun
  | [d1, d2] => { results := [.lit (.bool false)], args := [d1, d2] }
  | _ => none }
def FnUnsafeAddRaftVoterResponseWrongFalsely : Prop := fnUnsafeAddRaftVoterResponseRow.holds Tryd.pinned (OpenSpec.ofChange fnUnsafeAddRaftVoterResponseWrong)

/-- 'laws.FnTellOffsetCommitValue': WHATEVER THE INPUT: true; the input reads as it did. -/
def fnTellOffsetCommitValueSpec : ChangeSpec := { name := "fnTellOffsetCommitValue", fn := fun _ => fun
  | [d1, d2] => { results := [.lit (.bool true)], args := [d1, d2] }
  | _ => none }
def fnTellOffsetCommitValueRow : OpenClaim := { program := "ytnemimighhpcaaadoor", sum := "fdac20702841fc604940ffa7a944b5c56638a3ec5d520e1c25379a7c41d550be", func := "pub-mailsack/laws.FnTellOffsetCommitValue", spec := "fnTellOffsetCommitValue", inPlace := ["internal/reflectlite.ValueOf", "internal/reflectlite.Swapper", "(internal/reflectlite.Value).Len"], unfollowed := true, recurses := true, named := ["encoding/binary.BigEndian", "pub-mailsack/pub/kmsg/inner/kbin.ErrNotEnoughData"], loops := true, apart := false, laid := [("pub-mailsack/pub/kmsg/inner/kbin.ErrNotEnoughData", laid_pub_mailsack_pub_kmsg_inner_kbin_ErrNotEnoughData)] }
def FnTellOffsetCommitValueSaid : Prop := fnTellOffsetCommitValueRow.holds Tryd.pinned (OpenSpec.ofChange fnTellOffsetCommitValueSpec)

/-- ITS FALSE NEIGHBOUR: 'it returns false'. Refute it at one input. -/
def fnTellOffsetCommitValueWrong : ChangeSpec := { name := "fnTellOffsetCommitValue", fn := fun _ => fun
  | [d1, d2] => { results := [.lit (.bool false)], args := [d1, d2] }
  | _ => none }
def FnTellOffsetCommitValueWrongFalsely : Prop := fnTellOffsetCommitValueRow.holds Tryd.pinned (OpenSpec.ofChange fnTellOffsetCommitValueWrong)

/- THE SECOND FORM. 'bulk': how many values and letters a reading holds, each counted each time it is reached (what is shared counts as often as it is met; a slice's spare places count too). A statement '..UptoSaid' is the law's where the arguments, and the package variables that the reading takes, are together of bulk at most 1048576: NARROWER than '..Said'. Prove '..Said' where nothing that the law and all that it calls make is longer than what came in: it says more and counts as full. Else prove '..UptoSaid'. A law counts once. -/
mutual
def uptoBulk {H : Type} : DataW H → Nat
  | .lit (.string bytes) => bytes.length + 1
  | .lit _ => 1
  | .nil => 1
  | .ptr d => uptoBulk d + 1
  | .slice elems spare => uptoBulkAll elems + uptoBulkAll spare + 1
  | .agg parts => uptoBulkAll parts + 1
  | .iface _ d => uptoBulk d + 1
  | .map entries => uptoBulkEntries entries + 1
  | .held _ => 1
def uptoBulkAll {H : Type} : List (DataW H) → Nat
  | [] => 0
  | d :: r => uptoBulk d + uptoBulkAll r
def uptoBulkEntries {H : Type} : List (Lit × DataW H) → Nat
  | [] => 0
  | x :: r => uptoBulkEntry x + uptoBulkEntries r
def uptoBulkEntry {H : Type} : Lit × DataW H → Nat
  | (.string bytes, d) => bytes.length + uptoBulk d + 1
  | (_, d) => uptoBulk d + 1
 end
def uptoSmall : (H : Type) → List (DataW H) → Bool := fun _ ds => decide (uptoBulkAll ds ≤ 1048576)
def OpenSpec.upto (s : _root_.Go.ChangeSpec) : _root_.Go.OpenSpec := { _root_.Go.OpenSpec.ofChange s with cond := some uptoSmall }

/-- 'laws.FnBehindSASLHandshakeRequest', WHERE WHAT IT READS IS OF BULK AT MOST 1048576: true; the input reads as it did. -/
def fnBehindSASLHandshakeRequestUptoRow : OpenClaim := { program := "ytnemimighhpcaaadoor", sum := "fdac20702841fc604940ffa7a944b5c56638a3ec5d520e1c25379a7c41d550be", func := "pub-mailsack/laws.FnBehindSASLHandshakeRequest", spec := "fnBehindSASLHandshakeRequest", recurses := true, named := ["encoding/binary.BigEndian", "pub-mailsack/pub/kmsg/inner/kbin.ErrNotEnoughData"], loops := true, apart := false, laid := [("pub-mailsack/pub/kmsg/inner/kbin.ErrNotEnoughData", laid_pub_mailsack_pub_kmsg_inner_kbin_ErrNotEnoughData)], narrowed := true }
def FnBehindSASLHandshakeRequestUptoSaid : Prop := fnBehindSASLHandshakeRequestUptoRow.holds Tryd.pinned (OpenSpec.upto fnBehindSASLHandshakeRequestSpec)

/-- 'laws.FnUnsafeGetTelemetrySubscriptionsRequest', WHERE WHAT IT READS IS OF BULK AT MOST 1048576: true; the input reads as it did. -/
def fnUnsafeGetTelemetrySubscriptionsRequestUptoRow : OpenClaim := { program := "ytnemimighhpcaaadoor", sum := "fdac20702841fc604940ffa7a944b5c56638a3ec5d520e1c25379a7c41d550be", func := "pub-mailsack/laws.FnUnsafeGetTelemetrySubscriptionsRequest", spec := "fnUnsafeGetTelemetrySubscriptionsRequest", inPlace := ["internal/reflectlite.ValueOf", "internal/reflectlite.Swapper", "(internal/reflectlite.Value).Len"], unfollowed := true, recurses := true, named := ["pub-mailsack/pub/kmsg/inner/kbin.ErrNotEnoughData"], apart := false, laid := [("pub-mailsack/pub/kmsg/inner/kbin.ErrNotEnoughData", laid_pub_mailsack_pub_kmsg_inner_kbin_ErrNotEnoughData)], narrowed := true }
def FnUnsafeGetTelemetrySubscriptionsRequestUptoSaid : Prop := fnUnsafeGetTelemetrySubscriptionsRequestUptoRow.holds Tryd.pinned (OpenSpec.upto fnUnsafeGetTelemetrySubscriptionsRequestSpec)

/-- 'laws.FnDefaultControlledShutdownRequest', WHERE WHAT IT READS IS OF BULK AT MOST 1048576: true; the input reads as it did. -/
def fnDefaultControlledShutdownRequestUptoRow : OpenClaim := { program := "ytnemimighhpcaaadoor", sum := "fdac20702841fc604940ffa7a944b5c56638a3ec5d520e1c25379a7c41d550be", func := "pub-mailsack/laws.FnDefaultControlledShutdownRequest", spec := "fnDefaultControlledShutdownRequest", inPlace := ["internal/reflectlite.ValueOf", "internal/reflectlite.Swapper", "(internal/reflectlite.Value).Len"], unfollowed := true, recurses := true, named := ["encoding/binary.BigEndian", "pub-mailsack/pub/kmsg/inner/kbin.ErrNotEnoughData"], loops := true, apart := false, laid := [("pub-mailsack/pub/kmsg/inner/kbin.ErrNotEnoughData", laid_pub_mailsack_pub_kmsg_inner_kbin_ErrNotEnoughData)], narrowed := true }
def FnDefaultControlledShutdownRequestUptoSaid : Prop := fnDefaultControlledShutdownRequestUptoRow.holds Tryd.pinned (OpenSpec.upto fnDefaultControlledShutdownRequestSpec)

/-- 'laws.FnUnsafeHeartbeatResponse', WHERE WHAT IT READS IS OF BULK AT MOST 1048576: true; the input reads as it did. -/
def fnUnsafeHeartbeatResponseUptoRow : OpenClaim := { program := "ytnemimighhpcaaadoor", sum := "fdac20702841fc604940ffa7a944b5c56638a3ec5d520e1c25379a7c41d550be", func := "pub-mailsack/laws.FnUnsafeHeartbeatResponse", spec := "fnUnsafeHeartbeatResponse", inPlace := ["internal/reflectlite.ValueOf", "internal/reflectlite.Swapper", "(internal/reflectlite.Value).Len"], unfollowed := true, recurses := true, named := ["encoding/binary.BigEndian", "pub-mailsack/pub/kmsg/inner/kbin.ErrNotEnoughData"], apart := false, laid := [("pub-mailsack/pub/kmsg/inner/kbin.ErrNotEnoughData", laid_pub_mailsack_pub_kmsg_inner_kbin_ErrNotEnoughData)], narrowed := true }
def FnUnsafeHeartbeatResponseUptoSaid : Prop := fnUnsafeHeartbeatResponseUptoRow.holds Tryd.pinned (OpenSpec.upto fnUnsafeHeartbeatResponseSpec)

/-- 'laws.FnUnsafeRenewDelegationTokenResponse', WHERE WHAT IT READS IS OF BULK AT MOST 1048576: true; the input reads as it did. -/
def fnUnsafeRenewDelegationTokenResponseUptoRow : OpenClaim := { program := "ytnemimighhpcaaadoor", sum := "fdac20702841fc604940ffa7a944b5c56638a3ec5d520e1c25379a7c41d550be", func := "pub-mailsack/laws.FnUnsafeRenewDelegationTokenResponse", spec := "fnUnsafeRenewDelegationTokenResponse", inPlace := ["internal/reflectlite.ValueOf", "internal/reflectlite.Swapper", "(internal/reflectlite.Value).Len"], unfollowed := true, recurses := true, named := ["encoding/binary.BigEndian", "pub-mailsack/pub/kmsg/inner/kbin.ErrNotEnoughData"], apart := false, laid := [("pub-mailsack/pub/kmsg/inner/kbin.ErrNotEnoughData", laid_pub_mailsack_pub_kmsg_inner_kbin_ErrNotEnoughData)], narrowed := true }
def FnUnsafeRenewDelegationTokenResponseUptoSaid : Prop := fnUnsafeRenewDelegationTokenResponseUptoRow.holds Tryd.pinned (OpenSpec.upto fnUnsafeRenewDelegationTokenResponseSpec)

/-- 'laws.FnTellPushTelemetryRequest', WHERE WHAT IT READS IS OF BULK AT MOST 1048576: true; the input reads as it did. -/
def fnTellPushTelemetryRequestUptoRow : OpenClaim := { program := "ytnemimighhpcaaadoor", sum := "fdac20702841fc604940ffa7a944b5c56638a3ec5d520e1c25379a7c41d550be", func := "pub-mailsack/laws.FnTellPushTelemetryRequest", spec := "fnTellPushTelemetryRequest", inPlace := ["internal/reflectlite.ValueOf", "internal/reflectlite.Swapper", "(internal/reflectlite.Value).Len"], unfollowed := true, recurses := true, named := ["encoding/binary.BigEndian", "pub-mailsack/pub/kmsg/inner/kbin.ErrNotEnoughData"], loops := true, apart := false, laid := [("pub-mailsack/pub/kmsg/inner/kbin.ErrNotEnoughData", laid_pub_mailsack_pub_kmsg_inner_kbin_ErrNotEnoughData)], narrowed := true }
def FnTellPushTelemetryRequestUptoSaid : Prop := fnTellPushTelemetryRequestUptoRow.holds Tryd.pinned (OpenSpec.upto fnTellPushTelemetryRequestSpec)

/-- 'laws.FnUnsafeAddRaftVoterResponse', WHERE WHAT IT READS IS OF BULK AT MOST 1048576: true; the input reads as it did. -/
def fnUnsafeAddRaftVoterResponseUptoRow : OpenClaim := { program := "ytnemimighhpcaaadoor", sum := "fdac20702841fc604940ffa7a944b5c56638a3ec5d520e1c25379a7c41d550be", func := "pub-mailsack/laws.FnUnsafeAddRaftVoterResponse", spec := "fnUnsafeAddRaftVoterResponse", inPlace := ["internal/reflectlite.ValueOf", "internal/reflectlite.Swapper", "(internal/reflectlite.Value).Len"], unfollowed := true, recurses := true, named := ["encoding/binary.BigEndian", "pub-mailsack/pub/kmsg/inner/kbin.ErrNotEnoughData"], apart := false, laid := [("pub-mailsack/pub/kmsg/inner/kbin.ErrNotEnoughData", laid_pub_mailsack_pub_kmsg_inner_kbin_ErrNotEnoughData)], narrowed := true }
def FnUnsafeAddRaftVoterResponseUptoSaid : Prop := fnUnsafeAddRaftVoterResponseUptoRow.holds Tryd.pinned (OpenSpec.upto fnUnsafeAddRaftVoterResponseSpec)

/-- 'laws.FnTellOffsetCommitValue', WHERE WHAT IT READS IS OF BULK AT MOST 1048576: true; the input reads as it did. -/
def fnTellOffsetCommitValueUptoRow : OpenClaim := { program := "ytnemimighhpcaaadoor", sum := "fdac20702841fc604940ffa7a944b5c56638a3ec5d520e1c25379a7c41d550be", func := "pub-mailsack/laws.FnTellOffsetCommitValue", spec := "fnTellOffsetCommitValue", inPlace := ["internal/reflectlite.ValueOf", "internal/reflectlite.Swapper", "(internal/reflectlite.Value).Len"], unfollowed := true, recurses := true, named := ["encoding/binary.BigEndian", "pub-mailsack/pub/kmsg/inner/kbin.ErrNotEnoughData"], loops := true, apart := false, laid := [("pub-mailsack/pub/kmsg/inner/kbin.ErrNotEnoughData", laid_pub_mailsack_pub_kmsg_inner_kbin_ErrNotEnoughData)], narrowed := true }
def FnTellOffsetCommitValueUptoSaid : Prop := fnTellOffsetCommitValueUptoRow.holds Tryd.pinned (OpenSpec.upto fnTellOffsetCommitValueSpec)

end Rows
end Go.Proofs.YtnemimighhpcaaaDoor
