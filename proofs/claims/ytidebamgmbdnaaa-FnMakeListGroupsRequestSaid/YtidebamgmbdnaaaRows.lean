/-
  NARROWER THAN 'FOR EVERY INPUT', by the rows' own cells (each row's printed sentence says how): FnMakeBrokerRegistrationResponse: loops · FnMakeListGroupsRequest: loops · FnMakeAlterReplicaLogDirsResponse: loops · FnMakeConsumerGroupHeartbeatRequest: loops · FnMakeConsumerMemberAssignment: loops.
  DERIVED. THE GIVEN ROWS OF THIS SEAT. 5 by the template 'for every input the law returns true; each argument reads behind the call as it read before'; 0 by the template 'total and deterministic' (their statements: YtidebamgmbdnaaaTotals.lean).
  GIVEN WITH THE SEED: the statements are not yours to turn. If you find one false, say at which input.
  Laid BY PROGRAM, IN A SANDBOX (cutbox-rows.mjs): the forced cells as the released guide's own fill.sh prints them over the translation 9f761df8b6ad31ee… (all of the seat's roots in one cut). By AI agents, Wed Nov 11 2026. No macro, syntax, notation, axiom, sorry.
-/
import Derived.Test.YtidebamgmbdnaaaChecked
import GoSem.Claim
import GoSem.ClaimJoined
import GoSem.ClaimMapViews
import Derived.JoinedTies
import Derived.KernelRfl
namespace Go.Proofs.Ytidebamgmbdnaaa
/- THE CELL 'sum', in the pinned program and in every row, IS THE sha256 OF THE DUMP (.gsa) THAT YtidebamgmbdnaaaProg.lean LOADS. Nothing in Lean hashes anything: it is a label: what it is worth is what the hold of that sum in a sandbox is worth. -/
noncomputable def Try.pinned : Pinned := { name := "ytidebamgmbdnaaa", sum := "9f761df8b6ad31ee472d0903cdcdd04aea14ea4d93f6525208ba4f571cccfab6", checked := Try.checked }
namespace Rows
def none {H : Type} : Left H := { results := [], args := [] }

/-- 'laws.FnMakeBrokerRegistrationResponse': WHATEVER THE INPUT: true; the input reads as it did. -/
def fnMakeBrokerRegistrationResponseSpec : ChangeSpec := { name := "fnMakeBrokerRegistrationResponse", fn := fun _ => fun
  | [d1, d2] => { results := [.lit (.bool true)], args := [d1, d2] }
  | _ => none }
def fnMakeBrokerRegistrationResponseRow : OpenClaim := { program := "ytidebamgmbdnaaa", sum := "9f761df8b6ad31ee472d0903cdcdd04aea14ea4d93f6525208ba4f571cccfab6", func := "pub-mailsack/laws.FnMakeBrokerRegistrationResponse", spec := "fnMakeBrokerRegistrationResponse", inPlace := ["internal/reflectlite.ValueOf", "internal/reflectlite.Swapper", "(internal/reflectlite.Value).Len"], unfollowed := true, recurses := true, loops := true, apart := false }
def FnMakeBrokerRegistrationResponseSaid : Prop := fnMakeBrokerRegistrationResponseRow.holds Try.pinned (OpenSpec.ofChange fnMakeBrokerRegistrationResponseSpec)

/-- ITS FALSE NEIGHBOUR: 'it returns false'. Refute it at one input. -/
def fnMakeBrokerRegistrationResponseWrong : ChangeSpec := { name := "fnMakeBrokerRegistrationResponse", fn := fun _ => fun
  | [d1, d2] => { results := [.lit (.bool false)], args := [d1, d2] }
  | _ => none }
def FnMakeBrokerRegistrationResponseWrongFalsely : Prop := fnMakeBrokerRegistrationResponseRow.holds Try.pinned (OpenSpec.ofChange fnMakeBrokerRegistrationResponseWrong)

/-- 'laws.FnMakeListGroupsRequest': WHATEVER THE INPUT: true; the input reads as it did. -/
def fnMakeListGroupsRequestSpec : ChangeSpec := { name := "fnMakeListGroupsRequest", fn := fun _ => fun
  | [d1, d2] => { results := [.lit (.bool true)], args := [d1, d2] }
  | _ => none }
def fnMakeListGroupsRequestRow : OpenClaim := { program := "ytidebamgmbdnaaa", sum := "9f761df8b6ad31ee472d0903cdcdd04aea14ea4d93f6525208ba4f571cccfab6", func := "pub-mailsack/laws.FnMakeListGroupsRequest", spec := "fnMakeListGroupsRequest", inPlace := ["internal/reflectlite.ValueOf", "internal/reflectlite.Swapper", "(internal/reflectlite.Value).Len"], unfollowed := true, recurses := true, loops := true, apart := false }
def FnMakeListGroupsRequestSaid : Prop := fnMakeListGroupsRequestRow.holds Try.pinned (OpenSpec.ofChange fnMakeListGroupsRequestSpec)

/-- ITS FALSE NEIGHBOUR: 'it returns false'. Refute it at one input. -/
def fnMakeListGroupsRequestWrong : ChangeSpec := { name := "fnMakeListGroupsRequest", fn := fun _ => fun
  | [d1, d2] => { results := [.lit (.bool false)], args := [d1, d2] }
  | _ => none }
def FnMakeListGroupsRequestWrongFalsely : Prop := fnMakeListGroupsRequestRow.holds Try.pinned (OpenSpec.ofChange fnMakeListGroupsRequestWrong)

/-- 'laws.FnMakeAlterReplicaLogDirsResponse': WHATEVER THE INPUT: true; the input reads as it did. -/
def fnMakeAlterReplicaLogDirsResponseSpec : ChangeSpec := { name := "fnMakeAlterReplicaLogDirsResponse", fn := fun _ => fun
  | [d1, d2] => { results := [.lit (.bool true)], args := [d1, d2] }
  | _ => none }
def fnMakeAlterReplicaLogDirsResponseRow : OpenClaim := { program := "ytidebamgmbdnaaa", sum := "9f761df8b6ad31ee472d0903cdcdd04aea14ea4d93f6525208ba4f571cccfab6", func := "pub-mailsack/laws.FnMakeAlterReplicaLogDirsResponse", spec := "fnMakeAlterReplicaLogDirsResponse", inPlace := ["internal/reflectlite.ValueOf", "internal/reflectlite.Swapper", "(internal/reflectlite.Value).Len"], unfollowed := true, recurses := true, loops := true, apart := false }
def FnMakeAlterReplicaLogDirsResponseSaid : Prop := fnMakeAlterReplicaLogDirsResponseRow.holds Try.pinned (OpenSpec.ofChange fnMakeAlterReplicaLogDirsResponseSpec)

/-- ITS FALSE NEIGHBOUR: 'it returns false'. Refute it at one input. -/
def fnMakeAlterReplicaLogDirsResponseWrong : ChangeSpec := { name := "fnMakeAlterReplicaLogDirsResponse", fn := fun _ => fun
  | [d1, d2] => { results := [.lit (.bool false)], args := [d1, d2] }
  | _ => none }
def FnMakeAlterReplicaLogDirsResponseWrongFalsely : Prop := fnMakeAlterReplicaLogDirsResponseRow.holds Try.pinned (OpenSpec.ofChange fnMakeAlterReplicaLogDirsResponseWrong)

/-- 'laws.FnMakeConsumerGroupHeartbeatRequest': WHATEVER THE INPUT: true; the input reads as it did. -/
def fnMakeConsumerGroupHeartbeatRequestSpec : ChangeSpec := { name := "fnMakeConsumerGroupHeartbeatRequest", fn := fun _ => fun
  | [d1, d2] => { results := [.lit (.bool true)], args := [d1, d2] }
  | _ => none }
def fnMakeConsumerGroupHeartbeatRequestRow : OpenClaim := { program := "ytidebamgmbdnaaa", sum := "9f761df8b6ad31ee472d0903cdcdd04aea14ea4d93f6525208ba4f571cccfab6", func := "pub-mailsack/laws.FnMakeConsumerGroupHeartbeatRequest", spec := "fnMakeConsumerGroupHeartbeatRequest", inPlace := ["internal/reflectlite.ValueOf", "internal/reflectlite.Swapper", "(internal/reflectlite.Value).Len"], unfollowed := true, recurses := true, loops := true, apart := false }
def FnMakeConsumerGroupHeartbeatRequestSaid : Prop := fnMakeConsumerGroupHeartbeatRequestRow.holds Try.pinned (OpenSpec.ofChange fnMakeConsumerGroupHeartbeatRequestSpec)

/-- ITS FALSE NEIGHBOUR: 'it returns false'. Refute it at one input. -/
def fnMakeConsumerGroupHeartbeatRequestWrong : ChangeSpec := { name := "fnMakeConsumerGroupHeartbeatRequest", fn := fun _ => fun
  | [d1, d2] => { results := [.lit (.bool false)], args := [d1, d2] }
  | _ => none }
def FnMakeConsumerGroupHeartbeatRequestWrongFalsely : Prop := fnMakeConsumerGroupHeartbeatRequestRow.holds Try.pinned (OpenSpec.ofChange fnMakeConsumerGroupHeartbeatRequestWrong)

/-- 'laws.FnMakeConsumerMemberAssignment': WHATEVER THE INPUT: true; the input reads as it did. -/
def fnMakeConsumerMemberAssignmentSpec : ChangeSpec := { name := "fnMakeConsumerMemberAssignment", fn := fun _ => fun
  | [d1, d2] => { results := [.lit (.bool true)], args := [d1, d2] }
  | _ => none }
def fnMakeConsumerMemberAssignmentRow : OpenClaim := { program := "ytidebamgmbdnaaa", sum := "9f761df8b6ad31ee472d0903cdcdd04aea14ea4d93f6525208ba4f571cccfab6", func := "pub-mailsack/laws.FnMakeConsumerMemberAssignment", spec := "fnMakeConsumerMemberAssignment", recurses := true, loops := true, apart := false }
def FnMakeConsumerMemberAssignmentSaid : Prop := fnMakeConsumerMemberAssignmentRow.holds Try.pinned (OpenSpec.ofChange fnMakeConsumerMemberAssignmentSpec)

/-- ITS FALSE NEIGHBOUR: 'it returns false'. Refute it at one input. -/
def fnMakeConsumerMemberAssignmentWrong : ChangeSpec := { name := "fnMakeConsumerMemberAssignment", fn := fun _ => fun
  | [d1, d2] => { results := [.lit (.bool false)], args := [d1, d2] }
  | _ => none }
def FnMakeConsumerMemberAssignmentWrongFalsely : Prop := fnMakeConsumerMemberAssignmentRow.holds Try.pinned (OpenSpec.ofChange fnMakeConsumerMemberAssignmentWrong)

/- THE SECOND FORM. 'bulk': how many values and letters a reading holds, each counted each time it is reached (what is shared counts as often as it is met; a slice's spare places count too). A statement '..UptoSaid' is the law's where the arguments, and the package variables that the reading takes, are together of bulk at most 1048576: NARROWER than '..Said'. Prove '..Said' where nothing that the law and all that it calls make is longer than what came in: it says more and counts as full. Else prove '..UptoSaid'. A law counts once. -/
mutual
def uptoBulk {H : Type} : DataW H → Nat
  | .lit (.string bytes) => bytes.length + 1
  | .lit _ => 1
  | .nil => 1
  | .ptr d => uptoBulk d + 1
  | .slice elems spare => uptoBulkAll elems + uptoBulkAll spare + 1
  | .agg parts => uptoBulkAll parts + 1
  | .iface _ d => uptoBulk d + 1
  | .map entries => uptoBulkEntries entries + 1
  | .held _ => 1
def uptoBulkAll {H : Type} : List (DataW H) → Nat
  | [] => 0
  | d :: r => uptoBulk d + uptoBulkAll r
def uptoBulkEntries {H : Type} : List (Lit × DataW H) → Nat
  | [] => 0
  | x :: r => uptoBulkEntry x + uptoBulkEntries r
def uptoBulkEntry {H : Type} : Lit × DataW H → Nat
  | (.string bytes, d) => bytes.length + uptoBulk d + 1
  | (_, d) => uptoBulk d + 1
 end
def uptoSmall : (H : Type) → List (DataW H) → Bool := fun _ ds => decide (uptoBulkAll ds ≤ 1048576)
def OpenSpec.upto (s : _root_.Go.ChangeSpec) : _root_.Go.OpenSpec := { _root_.Go.OpenSpec.ofChange s with cond := some uptoSmall }

/-- 'laws.FnMakeBrokerRegistrationResponse', WHERE WHAT IT READS IS OF BULK AT MOST 1048576: true; the input reads as it did. -/
def fnMakeBrokerRegistrationResponseUptoRow : OpenClaim := { program := "ytidebamgmbdnaaa", sum := "9f761df8b6ad31ee472d0903cdcdd04aea14ea4d93f6525208ba4f571cccfab6", func := "pub-mailsack/laws.FnMakeBrokerRegistrationResponse", spec := "fnMakeBrokerRegistrationResponse", inPlace := ["internal/reflectlite.ValueOf", "internal/reflectlite.Swapper", "(internal/reflectlite.Value).Len"], unfollowed := true, recurses := true, loops := true, apart := false, narrowed := true }
def FnMakeBrokerRegistrationResponseUptoSaid : Prop := fnMakeBrokerRegistrationResponseUptoRow.holds Try.pinned (OpenSpec.upto fnMakeBrokerRegistrationResponseSpec)

/-- 'laws.FnMakeListGroupsRequest', WHERE WHAT IT READS IS OF BULK AT MOST 1048576: true; the input reads as it did. -/
def fnMakeListGroupsRequestUptoRow : OpenClaim := { program := "ytidebamgmbdnaaa", sum := "9f761df8b6ad31ee472d0903cdcdd04aea14ea4d93f6525208ba4f571cccfab6", func := "pub-mailsack/laws.FnMakeListGroupsRequest", spec := "fnMakeListGroupsRequest", inPlace := ["internal/reflectlite.ValueOf", "internal/reflectlite.Swapper", "(internal/reflectlite.Value).Len"], unfollowed := true, recurses := true, loops := true, apart := false, narrowed := true }
def FnMakeListGroupsRequestUptoSaid : Prop := fnMakeListGroupsRequestUptoRow.holds Try.pinned (OpenSpec.upto fnMakeListGroupsRequestSpec)

/-- 'laws.FnMakeAlterReplicaLogDirsResponse', WHERE WHAT IT READS IS OF BULK AT MOST 1048576: true; the input reads as it did. -/
def fnMakeAlterReplicaLogDirsResponseUptoRow : OpenClaim := { program := "ytidebamgmbdnaaa", sum := "9f761df8b6ad31ee472d0903cdcdd04aea14ea4d93f6525208ba4f571cccfab6", func := "pub-mailsack/laws.FnMakeAlterReplicaLogDirsResponse", spec := "fnMakeAlterReplicaLogDirsResponse", inPlace := ["internal/reflectlite.ValueOf", "internal/reflectlite.Swapper", "(internal/reflectlite.Value).Len"], unfollowed := true, recurses := true, loops := true, apart := false, narrowed := true }
def FnMakeAlterReplicaLogDirsResponseUptoSaid : Prop := fnMakeAlterReplicaLogDirsResponseUptoRow.holds Try.pinned (OpenSpec.upto fnMakeAlterReplicaLogDirsResponseSpec)

/-- 'laws.FnMakeConsumerGroupHeartbeatRequest', WHERE WHAT IT READS IS OF BULK AT MOST 1048576: true; the input reads as it did. -/
def fnMakeConsumerGroupHeartbeatRequestUptoRow : OpenClaim := { program := "ytidebamgmbdnaaa", sum := "9f761df8b6ad31ee472d0903cdcdd04aea14ea4d93f6525208ba4f571cccfab6", func := "pub-mailsack/laws.FnMakeConsumerGroupHeartbeatRequest", spec := "fnMakeConsumerGroupHeartbeatRequest", inPlace := ["internal/reflectlite.ValueOf", "internal/reflectlite.Swapper", "(internal/reflectlite.Value).Len"], unfollowed := true, recurses := true, loops := true, apart := false, narrowed := true }
def FnMakeConsumerGroupHeartbeatRequestUptoSaid : Prop := fnMakeConsumerGroupHeartbeatRequestUptoRow.holds Try.pinned (OpenSpec.upto fnMakeConsumerGroupHeartbeatRequestSpec)

/-- 'laws.FnMakeConsumerMemberAssignment', WHERE WHAT IT READS IS OF BULK AT MOST 1048576: true; the input reads as it did. -/
def fnMakeConsumerMemberAssignmentUptoRow : OpenClaim := { program := "ytidebamgmbdnaaa", sum := "9f761df8b6ad31ee472d0903cdcdd04aea14ea4d93f6525208ba4f571cccfab6", func := "pub-mailsack/laws.FnMakeConsumerMemberAssignment", spec := "fnMakeConsumerMemberAssignment", recurses := true, loops := true, apart := false, narrowed := true }
def FnMakeConsumerMemberAssignmentUptoSaid : Prop := fnMakeConsumerMemberAssignmentUptoRow.holds Try.pinned (OpenSpec.upto fnMakeConsumerMemberAssignmentSpec)

end Rows
end Go.Proofs.Ytidebamgmbdnaaa
