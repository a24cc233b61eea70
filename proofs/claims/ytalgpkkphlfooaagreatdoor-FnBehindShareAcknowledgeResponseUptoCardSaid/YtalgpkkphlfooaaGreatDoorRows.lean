/-
  NARROWER THAN 'FOR EVERY INPUT', by the rows' own cells (each row's printed sentence says how): FnBehindListPartitionReassignmentsResponse: loops, laid · FnBehindAddPartitionsToTxnRequest: loops, laid · FnBehindDeleteShareGroupStateResponse: loops, laid · FnBehindAssignReplicasToDirsResponse: loops, laid · FnBehindShareAcknowledgeResponse: loops, laid.
  DERIVED. THE GIVEN ROWS OF THIS SEAT. 5 by the template 'for every input the law returns true; each argument reads behind the call as it read before'; 0 by the template 'total and deterministic' (their statements: YtalgpkkphlfooaaGreatDoorTotals.lean).
  GIVEN WITH THE SEED: the statements are not yours to turn. If you find one false, say at which input.
  Laid BY PROGRAM, IN A SANDBOX (cutbox-rows.mjs): the forced cells as the released guide's own fill.sh prints them over the translation 975631c8074e86fc… (all of the seat's roots in one cut). By AI agents, Wed Nov 11 2026. No macro, syntax, notation, axiom, sorry.
-/
import Derived.Test.YtalgpkkphlfooaaGreatDoorChecked
import GoSem.Claim
import GoSem.ClaimJoined
import GoSem.ClaimMapViews
import Derived.JoinedTies
import Derived.KernelRfl
namespace Go.Proofs.YtalgpkkphlfooaaGreatDoor
/- THE CELL 'sum', in the pinned program and in every row, IS THE sha256 OF THE DUMP (.gsa) THAT YtalgpkkphlfooaaGreatDoorProg.lean LOADS. Nothing in Lean hashes anything: it is a label: what it is worth is what the hold of that sum in a sandbox is worth. -/
noncomputable def Tryz.pinned : Pinned := { name := "ytalgpkkphlfooaagreatdoor", sum := "975631c8074e86fcc6b48569bfa62b88de8cf4ed44c399d973e7d75b9839fe7d", checked := Tryz.checked }
namespace Rows
def none {H : Type} : Left H := { results := [], args := [] }

/- WHAT THE LISTED PACKAGE-LEVEL VARIABLES READ AS WHEN THE CALL BEGINS. Each datum BY PROGRAM (the guide's laid-datum.mjs) off the statement by which the dump's own 'gosem.cut.vars' lays the variable. In a bare row this is a premise. The card (YtalgpkkphlfooaaGreatDoorCards.lean) ties it to the program's text. -/
def laid_pub_mailsack_pub_kmsg_inner_kbin_ErrNotEnoughData {H : Type} : DataW H := .iface "*errors.errorString" (.ptr (.agg [.lit (.string [114, 101, 115, 112, 111, 110, 115, 101, 32, 100, 105, 100, 32, 110, 111, 116, 32, 99, 111, 110, 116, 97, 105, 110, 32, 101, 110, 111, 117, 103, 104, 32, 100, 97, 116, 97, 32, 116, 111, 32, 98, 101, 32, 118, 97, 108, 105, 100])]))

/-- 'laws.FnBehindListPartitionReassignmentsResponse': WHATEVER THE INPUT: true; the input reads as it did. -/
def fnBehindListPartitionReassignmentsResponseSpec : ChangeSpec := { name := "fnBehindListPartitionReassignmentsResponse", fn := fun _ => fun
  | [d1, d2, d3] => { results := [.lit (.bool true)], args := [d1, d2, d3] }
  | _ => none }
def fnBehindListPartitionReassignmentsResponseRow : OpenClaim := { program := "ytalgpkkphlfooaagreatdoor", sum := "975631c8074e86fcc6b48569bfa62b88de8cf4ed44c399d973e7d75b9839fe7d", func := "pub-mailsack/laws.FnBehindListPartitionReassignmentsResponse", spec := "fnBehindListPartitionReassignmentsResponse", inPlace := ["internal/reflectlite.ValueOf", "internal/reflectlite.Swapper", "(internal/reflectlite.Value).Len"], unfollowed := true, recurses := true, named := ["encoding/binary.BigEndian", "pub-mailsack/pub/kmsg/inner/kbin.ErrNotEnoughData"], loops := true, apart := false, laid := [("pub-mailsack/pub/kmsg/inner/kbin.ErrNotEnoughData", laid_pub_mailsack_pub_kmsg_inner_kbin_ErrNotEnoughData)] }
def FnBehindListPartitionReassignmentsResponseSaid : Prop := fnBehindListPartitionReassignmentsResponseRow.holds Tryz.pinned (OpenSpec.ofChange fnBehindListPartitionReassignmentsResponseSpec)

/-- ITS FALSE NEIGHBOUR: 'it returns false'. Refute it at one input. -/
def fnBehindListPartitionReassignmentsResponseWrong : ChangeSpec := { name := "fnBehindListPartitionReassignmentsResponse", fn := fun _ => fun
  | [d1, d2, d3] => { results := [.lit (.bool false)], args := [d1, d2, d3] }
  | _ => none }
def FnBehindListPartitionReassignmentsResponseWrongFalsely : Prop := fnBehindListPartitionReassignmentsResponseRow.holds Tryz.pinned (OpenSpec.ofChange fnBehindListPartitionReassignmentsResponseWrong)

/-- 'laws.FnBehindAddPartitionsToTxnRequest': WHATEVER THE INPUT: true; the input reads as it did. -/
def fnBehindAddPartitionsToTxnRequestSpec : ChangeSpec := { name := "fnBehindAddPartitionsToTxnRequest", fn := fun _ => fun
  | [d1, d2, d3] => { results := [.lit (.bool true)], args := [d1, d2, d3] }
  | _ => none }
def fnBehindAddPartitionsToTxnRequestRow : OpenClaim := { program := "ytalgpkkphlfooaagreatdoor", sum := "975631c8074e86fcc6b48569bfa62b88de8cf4ed44c399d973e7d75b9839fe7d", func := "pub-mailsack/laws.FnBehindAddPartitionsToTxnRequest", spec := "fnBehindAddPartitionsToTxnRequest", inPlace := ["internal/reflectlite.ValueOf", "internal/reflectlite.Swapper", "(internal/reflectlite.Value).Len"], unfollowed := true, recurses := true, named := ["encoding/binary.BigEndian", "pub-mailsack/pub/kmsg/inner/kbin.ErrNotEnoughData"], loops := true, apart := false, laid := [("pub-mailsack/pub/kmsg/inner/kbin.ErrNotEnoughData", laid_pub_mailsack_pub_kmsg_inner_kbin_ErrNotEnoughData)] }
def FnBehindAddPartitionsToTxnRequestSaid : Prop := fnBehindAddPartitionsToTxnRequestRow.holds Tryz.pinned (OpenSpec.ofChange fnBehindAddPartitionsToTxnRequestSpec)

/-- ITS FALSE NEIGHBOUR: 'it returns false'. Refute it at one input. -/
def fnBehindAddPartitionsToTxnRequestWrong : ChangeSpec := { name := "fnBehindAddPartitionsToTxnRequest", fn := fun _ => fun
  | [d1, d2, d3] => { results := [.lit (.bool false)], args := [d1, d2, d3] }
  | _ => none }
def FnBehindAddPartitionsToTxnRequestWrongFalsely : Prop := fnBehindAddPartitionsToTxnRequestRow.holds Tryz.pinned (OpenSpec.ofChange fnBehindAddPartitionsToTxnRequestWrong)

/-- 'laws.FnBehindDeleteShareGroupStateResponse': WHATEVER THE INPUT: true; the input reads as it did. -/
def fnBehindDeleteShareGroupStateResponseSpec : ChangeSpec := { name := "fnBehindDeleteShareGroupStateResponse", fn := fun _ => fun
  | [d1, d2, d3] => { results := [.lit (.bool true)], args := [d1, d2, d3] }
  | _ => none }
def fnBehindDeleteShareGroupStateResponseRow : OpenClaim := { program := "ytalgpkkphlfooaagreatdoor", sum := "975631c8074e86fcc6b48569bfa62b88de8cf4ed44c399d973e7d75b9839fe7d", func := "pub-mailsack/laws.FnBehindDeleteShareGroupStateResponse", spec := "fnBehindDeleteShareGroupStateResponse", inPlace := ["internal/reflectlite.ValueOf", "internal/reflectlite.Swapper", "(internal/reflectlite.Value).Len"], unfollowed := true, recurses := true, named := ["encoding/binary.BigEndian", "pub-mailsack/pub/kmsg/inner/kbin.ErrNotEnoughData"], loops := true, apart := false, laid := [("pub-mailsack/pub/kmsg/inner/kbin.ErrNotEnoughData", laid_pub_mailsack_pub_kmsg_inner_kbin_ErrNotEnoughData)] }
def FnBehindDeleteShareGroupStateResponseSaid : Prop := fnBehindDeleteShareGroupStateResponseRow.holds Tryz.pinned (OpenSpec.ofChange fnBehindDeleteShareGroupStateResponseSpec)

/-- ITS FALSE NEIGHBOUR: 'it returns false'. Refute it at one input. -/
def fnBehindDeleteShareGroupStateResponseWrong : ChangeSpec := { name := "fnBehindDeleteShareGroupStateResponse", fn := fun _ => fun
  | [d1, d2, d3] => { results := [.lit (.bool false)], args := [d1, d2, d3] }
  | _ => none }
def FnBehindDeleteShareGroupStateResponseWrongFalsely : Prop := fnBehindDeleteShareGroupStateResponseRow.holds Tryz.pinned (OpenSpec.ofChange fnBehindDeleteShareGroupStateResponseWrong)

/-- 'laws.FnBehindAssignReplicasToDirsResponse': WHATEVER THE INPUT: true; the input reads as it did. -/
def fnBehindAssignReplicasToDirsResponseSpec : ChangeSpec := { name := "fnBehindAssignReplicasToDirsResponse", fn := fun _ => fun
  | [d1, d2, d3] => { results := [.lit (.bool true)], args := [d1, d2, d3] }
  | _ => none }
def fnBehindAssignReplicasToDirsResponseRow : OpenClaim := { program := "ytalgpkkphlfooaagreatdoor", sum := "975631c8074e86fcc6b48569bfa62b88de8cf4ed44c399d973e7d75b9839fe7d", func := "pub-mailsack/laws.FnBehindAssignReplicasToDirsResponse", spec := "fnBehindAssignReplicasToDirsResponse", inPlace := ["internal/reflectlite.ValueOf", "internal/reflectlite.Swapper", "(internal/reflectlite.Value).Len"], unfollowed := true, recurses := true, named := ["encoding/binary.BigEndian", "pub-mailsack/pub/kmsg/inner/kbin.ErrNotEnoughData"], loops := true, apart := false, laid := [("pub-mailsack/pub/kmsg/inner/kbin.ErrNotEnoughData", laid_pub_mailsack_pub_kmsg_inner_kbin_ErrNotEnoughData)] }
def FnBehindAssignReplicasToDirsResponseSaid : Prop := fnBehindAssignReplicasToDirsResponseRow.holds Tryz.pinned (OpenSpec.ofChange fnBehindAssignReplicasToDirsResponseSpec)

/-- ITS FALSE NEIGHBOUR: 'it returns false'. Refute it at one input. -/
def fnBehindAssignReplicasToDirsResponseWrong : ChangeSpec := { name := "fnBehindAssignReplicasToDirsResponse", fn := fun _ => fun
  | [d1, d2, d3] => { results := [.lit (.bool false)], args := [d1, d2, d3] }
  | _ => none }
def FnBehindAssignReplicasToDirsResponseWrongFalsely : Prop := fnBehindAssignReplicasToDirsResponseRow.holds Tryz.pinned (OpenSpec.ofChange fnBehindAssignReplicasToDirsResponseWrong)

/-- 'laws.FnBehindShareAcknowledgeResponse': WHATEVER THE INPUT: true; the input reads as it did. -/
def fnBehindShareAcknowledgeResponseSpec : ChangeSpec := { name := "fnBehindShareAcknowledgeResponse", fn := fun _ => fun
  | [d1, d2, d3] => { results := [.lit (.bool true)], args := [d1, d2, d3] }
  | _ => none }
def fnBehindShareAcknowledgeResponseRow : OpenClaim := { program := "ytalgpkkphlfooaagreatdoor", sum := "975631c8074e86fcc6b48569bfa62b88de8cf4ed44c399d973e7d75b9839fe7d", func := "pub-mailsack/laws.FnBehindShareAcknowledgeResponse", spec := "fnBehindShareAcknowledgeResponse", inPlace := ["internal/reflectlite.ValueOf", "internal/reflectlite.Swapper", "(internal/reflectlite.Value).Len"], unfollowed := true, recurses := true, named := ["encoding/binary.BigEndian", "pub-mailsack/pub/kmsg/inner/kbin.ErrNotEnoughData"], loops := true, apart := false, laid := [("pub-mailsack/pub/kmsg/inner/kbin.ErrNotEnoughData", laid_pub_mailsack_pub_kmsg_inner_kbin_ErrNotEnoughData)] }
def FnBehindShareAcknowledgeResponseSaid : Prop := fnBehindShareAcknowledgeResponseRow.holds Tryz.pinned (OpenSpec.ofChange fnBehindShareAcknowledgeResponseSpec)

/-- ITS FALSE NEIGHBOUR: 'it returns false'. Refute it at one input. -/
def fnBehindShareAcknowledgeResponseWrong : ChangeSpec := { name := "fnBehindShareAcknowledgeResponse", fn := fun _ => fun
  | [d1, d2, d3] => { results := [.lit (.bool false)], args := [d1, d2, d3] }
  | _ => none }
def FnBehindShareAcknowledgeResponseWrongFalsely : Prop := fnBehindShareAcknowledgeResponseRow.holds Tryz.pinned (OpenSpec.ofChange fnBehindShareAcknowledgeResponseWrong)

/- THE SECOND FORM. 'bulk': how many values and letters a reading holds, each counted each time it is reached (what is shared counts as often as it is met; a slice's spare places count too). A statement '..UptoSaid' is the law's where the arguments, and the package variables that the reading takes, are together of bulk at most 1048576: NARROWER than '..Said'. Prove '..Said' where nothing that the law and all that it calls make is longer than what came in: it says more and counts as full. Else prove '..UptoSaid'. A law counts once. -/
mutual
def uptoBulk {H : Type} : DataW H → Nat
  | .lit (.string bytes) => bytes.length + 1
  | .lit _ => 1
  | .nil => 1
  | .ptr d => uptoBulk d + 1
  | .slice elems spare => uptoBulkAll elems + uptoBulkAll spare + 1
  | .agg parts => uptoBulkAll parts + 1
  | .iface _ d => uptoBulk d + 1
  | .map entries => uptoBulkEntries entries + 1
  | .held _ => 1
def uptoBulkAll {H : Type} : List (DataW H) → Nat
  | [] => 0
  | d :: r => uptoBulk d + uptoBulkAll r
def uptoBulkEntries {H : Type} : List (Lit × DataW H) → Nat
  | [] => 0
  | x :: r => uptoBulkEntry x + uptoBulkEntries r
def uptoBulkEntry {H : Type} : Lit × DataW H → Nat
  | (.string bytes, d) => bytes.length + uptoBulk d + 1
  | (_, d) => uptoBulk d + 1
 end
def uptoSmall : (H : Type) → List (DataW H) → Bool := fun _ ds => decide (uptoBulkAll ds ≤ 1048576)
def OpenSpec.upto (s : _root_.Go.ChangeSpec) : _root_.Go.OpenSpec := { _root_.Go.OpenSpec.ofChange s with cond := some uptoSmall }

/-- 'laws.FnBehindListPartitionReassignmentsResponse', WHERE WHAT IT READS IS OF BULK AT MOST 1048576: true; the input reads as it did. -/
def fnBehindListPartitionReassignmentsResponseUptoRow : OpenClaim := { program := "ytalgpkkphlfooaagreatdoor", sum := "975631c8074e86fcc6b48569bfa62b88de8cf4ed44c399d973e7d75b9839fe7d", func := "pub-mailsack/laws.FnBehindListPartitionReassignmentsResponse", spec := "fnBehindListPartitionReassignmentsResponse", inPlace := ["internal/reflectlite.ValueOf", "internal/reflectlite.Swapper", "(internal/reflectlite.Value).Len"], unfollowed := true, recurses := true, named := ["encoding/binary.BigEndian", "pub-mailsack/pub/kmsg/inner/kbin.ErrNotEnoughData"], loops := true, apart := false, laid := [("pub-mailsack/pub/kmsg/inner/kbin.ErrNotEnoughData", laid_pub_mailsack_pub_kmsg_inner_kbin_ErrNotEnoughData)], narrowed := true }
def FnBehindListPartitionReassignmentsResponseUptoSaid : Prop := fnBehindListPartitionReassignmentsResponseUptoRow.holds Tryz.pinned (OpenSpec.upto fnBehindListPartitionReassignmentsResponseSpec)

/-- 'laws.FnBehindAddPartitionsToTxnRequest', WHERE WHAT IT READS IS OF BULK AT MOST 1048576: true; the input reads as it did. -/
def fnBehindAddPartitionsToTxnRequestUptoRow : OpenClaim := { program := "ytalgpkkphlfooaagreatdoor", sum := "975631c8074e86fcc6b48569bfa62b88de8cf4ed44c399d973e7d75b9839fe7d", func := "pub-mailsack/laws.FnBehindAddPartitionsToTxnRequest", spec := "fnBehindAddPartitionsToTxnRequest", inPlace := ["internal/reflectlite.ValueOf", "internal/reflectlite.Swapper", "(internal/reflectlite.Value).Len"], unfollowed := true, recurses := true, named := ["encoding/binary.BigEndian", "pub-mailsack/pub/kmsg/inner/kbin.ErrNotEnoughData"], loops := true, apart := false, laid := [("pub-mailsack/pub/kmsg/inner/kbin.ErrNotEnoughData", laid_pub_mailsack_pub_kmsg_inner_kbin_ErrNotEnoughData)], narrowed := true }
def FnBehindAddPartitionsToTxnRequestUptoSaid : Prop := fnBehindAddPartitionsToTxnRequestUptoRow.holds Tryz.pinned (OpenSpec.upto fnBehindAddPartitionsToTxnRequestSpec)

/-- 'laws.FnBehindDeleteShareGroupStateResponse', WHERE WHAT IT READS IS OF BULK AT MOST 1048576: true; the input reads as it did. -/
def fnBehindDeleteShareGroupStateResponseUptoRow : OpenClaim := { program := "ytalgpkkphlfooaagreatdoor", sum := "975631c8074e86fcc6b48569bfa62b88de8cf4ed44c399d973e7d75b9839fe7d", func := "pub-mailsack/laws.FnBehindDeleteShareGroupStateResponse", spec := "fnBehindDeleteShareGroupStateResponse", inPlace := ["internal/reflectlite.ValueOf", "internal/reflectlite.Swapper", "(internal/reflectlite.Value).Len"], unfollowed := true, recurses := true, named := ["encoding/binary.BigEndian", "pub-mailsack/pub/kmsg/inner/kbin.ErrNotEnoughData"], loops := true, apart := false, laid := [("pub-mailsack/pub/kmsg/inner/kbin.ErrNotEnoughData", laid_pub_mailsack_pub_kmsg_inner_kbin_ErrNotEnoughData)], narrowed := true }
def FnBehindDeleteShareGroupStateResponseUptoSaid : Prop := fnBehindDeleteShareGroupStateResponseUptoRow.holds Tryz.pinned (OpenSpec.upto fnBehindDeleteShareGroupStateResponseSpec)

/-- 'laws.FnBehindAssignReplicasToDirsResponse', WHERE WHAT IT READS IS OF BULK AT MOST 1048576: true; the input reads as it did. -/
def fnBehindAssignReplicasToDirsResponseUptoRow : OpenClaim := { program := "ytalgpkkphlfooaagreatdoor", sum := "975631c8074e86fcc6b48569bfa62b88de8cf4ed44c399d973e7d75b9839fe7d", func := "pub-mailsack/laws.FnBehindAssignReplicasToDirsResponse", spec := "fnBehindAssignReplicasToDirsResponse", inPlace := ["internal/reflectlite.ValueOf", "internal/reflectlite.Swapper", "(internal/reflectlite.Value).Len"], unfollowed := true, recurses := true, named := ["encoding/binary.BigEndian", "pub-mailsack/pub/kmsg/inner/kbin.ErrNotEnoughData"], loops := true, apart := false, laid := [("pub-mailsack/pub/kmsg/inner/kbin.ErrNotEnoughData", laid_pub_mailsack_pub_kmsg_inner_kbin_ErrNotEnoughData)], narrowed := true }
def FnBehindAssignReplicasToDirsResponseUptoSaid : Prop := fnBehindAssignReplicasToDirsResponseUptoRow.holds Tryz.pinned (OpenSpec.upto fnBehindAssignReplicasToDirsResponseSpec)

/-- 'laws.FnBehindShareAcknowledgeResponse', WHERE WHAT IT READS IS OF BULK AT MOST 1048576: true; the input reads as it did. -/
def fnBehindShareAcknowledgeResponseUptoRow : OpenClaim := { program := "ytalgpkkphlfooaagreatdoor", sum := "975631c8074e86fcc6b48569bfa62b88de8cf4ed44c399d973e7d75b9839fe7d", func := "pub-mailsack/laws.FnBehindShareAcknowledgeResponse", spec := "fnBehindShareAcknowledgeResponse", inPlace := ["internal/reflectlite.ValueOf", "internal/reflectlite.Swapper", "(internal/reflectlite.Value).Len"], unfollowed := true, recurses := true, named := ["encoding/binary.BigEndian", "pub-mailsack/pub/kmsg/inner/kbin.ErrNotEnoughData"], loops := true, apart := false, laid := [("pub-mailsack/pub/kmsg/inner/kbin.ErrNotEnoughData", laid_pub_mailsack_pub_kmsg_inner_kbin_ErrNotEnoughData)], narrowed := true }
def FnBehindShareAcknowledgeResponseUptoSaid : Prop := fnBehindShareAcknowledgeResponseUptoRow.holds Tryz.pinned (OpenSpec.upto fnBehindShareAcknowledgeResponseSpec)

end Rows
end Go.Proofs.YtalgpkkphlfooaaGreatDoor
