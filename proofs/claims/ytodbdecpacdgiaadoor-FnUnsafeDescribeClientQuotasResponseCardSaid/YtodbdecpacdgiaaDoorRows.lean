/-
  NARROWER THAN 'FOR EVERY INPUT', by the rows' own cells (each row's printed sentence says how): FnUnsafeOffsetFetchRequest: laid · FnUnsafeDescribeProducersResponse: laid · FnUnsafeSyncGroupRequest: laid · FnUnsafeAlterClientQuotasRequest: laid · FnUnsafeDescribeClientQuotasResponse: laid.
  DERIVED. THE GIVEN ROWS OF THIS SEAT. 5 by the template 'for every input the law returns true; each argument reads behind the call as it read before'; 0 by the template 'total and deterministic' (their statements: YtodbdecpacdgiaaDoorTotals.lean).
  GIVEN WITH THE SEED: the statements are not yours to turn. If you find one false, say at which input.
  Laid BY PROGRAM, IN A SANDBOX (cutbox-rows.mjs): the forced cells as the released guide's own fill.sh prints them over the translation cbcd38575cb523af… (all of the seat's roots in one cut). By AI agents, Wed Nov 11 2026. No macro, syntax, notation, axiom, sorry.
-/
import Derived.Test.YtodbdecpacdgiaaDoorChecked
import GoSem.Claim
import GoSem.ClaimJoined
import GoSem.ClaimMapViews
import Derived.JoinedTies
import Derived.KernelRfl
namespace Go.Proofs.YtodbdecpacdgiaaDoor
/- THE CELL 'sum', in the pinned program and in every row, IS THE sha256 OF THE DUMP (.gsa) THAT YtodbdecpacdgiaaDoorProg.lean LOADS. Nothing in Lean hashes anything: it is a label: what it is worth is what the hold of that sum in a sandbox is worth. -/
noncomputable def Tryd.pinned : Pinned := { name := "ytodbdecpacdgiaadoor", sum := "cbcd38575cb523afe331e8f9b98a3fea1bdbbb3b9ad99efe5cbd929dd341c73e", checked := Tryd.checked }
namespace Rows
def none {H : Type} : Left H := { results := [], args := [] }

/- WHAT THE LISTED PACKAGE-LEVEL VARIABLES READ AS WHEN THE CALL BEGINS. Each datum BY PROGRAM (the guide's laid-datum.mjs) off the statement by which the dump's own 'gosem.cut.vars' lays the variable. In a bare row this is a premise. The card (YtodbdecpacdgiaaDoorCards.lean) ties it to the program's text. -/
def laid_pub_mailsack_pub_kmsg_inner_kbin_ErrNotEnoughData {H : Type} : DataW H := .iface "*errors.errorString" (.ptr (.agg [.lit (.string [114, 101, 115, 112, 111, 110, 115, 101, 32, 100, 105, 100, 32, 110, 111, 116, 32, 99, 111, 110, 116, 97, 105, 110, 32, 101, 110, 111, 117, 103, 104, 32, 100, 97, 116, 97, 32, 116, 111, 32, 98, 101, 32, 118, 97, 108, 105, 100])]))

/-- 'laws.FnUnsafeOffsetFetchRequest': WHATEVER THE INPUT: true; the input reads as it did. -/
def fnUnsafeOffsetFetchRequestSpec : ChangeSpec := { name := "fnUnsafeOffsetFetchRequest", fn := fun _ => fun
  | [d1, d2] => { results := [.lit (.bool true)], args := [d1, d2] }
  | _ => none }
def fnUnsafeOffsetFetchRequestRow : OpenClaim := { program := "ytodbdecpacdgiaadoor", sum := "cbcd38575cb523afe331e8f9b98a3fea1bdbbb3b9ad99efe5cbd929dd341c73e", func := "pub-mailsack/laws.FnUnsafeOffsetFetchRequest", spec := "fnUnsafeOffsetFetchRequest", inPlace := ["internal/reflectlite.ValueOf", "internal/reflectlite.Swapper", "(internal/reflectlite.Value).Len"], unfollowed := true, recurses := true, named := ["encoding/binary.BigEndian", "pub-mailsack/pub/kmsg/inner/kbin.ErrNotEnoughData"], apart := false, laid := [("pub-mailsack/pub/kmsg/inner/kbin.ErrNotEnoughData", laid_pub_mailsack_pub_kmsg_inner_kbin_ErrNotEnoughData)] }
def FnUnsafeOffsetFetchRequestSaid : Prop := fnUnsafeOffsetFetchRequestRow.holds Tryd.pinned (OpenSpec.ofChange fnUnsafeOffsetFetchRequestSpec)

/-- ITS FALSE NEIGHBOUR: 'it returns false'. Refute it at one input. -/
def fnUnsafeOffsetFetchRequestWrong : ChangeSpec := { name := "fnUnsafeOffsetFetchRequest", fn := fun _ => fun
  | [d1, d2] => { results := [.lit (.bool false)], args := [d1, d2] }
  | _ => none }
def FnUnsafeOffsetFetchRequestWrongFalsely : Prop := fnUnsafeOffsetFetchRequestRow.holds Tryd.pinned (OpenSpec.ofChange fnUnsafeOffsetFetchRequestWrong)

/-- 'laws.FnUnsafeDescribeProducersResponse': WHATEVER THE INPUT: true; the input reads as it did. -/
def fnUnsafeDescribeProducersResponseSpec : ChangeSpec := { name := "fnUnsafeDescribeProducersResponse", fn := fun _ => fun
  | [d1, d2] => { results := [.lit (.bool true)], args := [d1, d2] }
  | _ => none }
def fnUnsafeDescribeProducersResponseRow : OpenClaim := { program := "ytodbdecpacdgiaadoor", sum := "cbcd38575cb523afe331e8f9b98a3fea1bdbbb3b9ad99efe5cbd929dd341c73e", func := "pub-mailsack/laws.FnUnsafeDescribeProducersResponse", spec := "fnUnsafeDescribeProducersResponse", inPlace := ["internal/reflectlite.ValueOf", "internal/reflectlite.Swapper", "(internal/reflectlite.Value).Len"], unfollowed := true, recurses := true, named := ["encoding/binary.BigEndian", "pub-mailsack/pub/kmsg/inner/kbin.ErrNotEnoughData"], apart := false, laid := [("pub-mailsack/pub/kmsg/inner/kbin.ErrNotEnoughData", laid_pub_mailsack_pub_kmsg_inner_kbin_ErrNotEnoughData)] }
def FnUnsafeDescribeProducersResponseSaid : Prop := fnUnsafeDescribeProducersResponseRow.holds Tryd.pinned (OpenSpec.ofChange fnUnsafeDescribeProducersResponseSpec)

/-- ITS FALSE NEIGHBOUR: 'it returns false'. Refute it at one input. -/
def fnUnsafeDescribeProducersResponseWrong : ChangeSpec := { name := "fnUnsafeDescribeProducersResponse", fn := fun _ => fun
  | [d1, d2] => { results := [.lit (.bool false)], args := [d1, d2] }
  | _ => none }
def FnUnsafeDescribeProducersResponseWrongFalsely : Prop := fnUnsafeDescribeProducersResponseRow.holds Tryd.pinned (OpenSpec.ofChange fnUnsafeDescribeProducersResponseWrong)

/-- 'laws.FnUnsafeSyncGroupRequest': WHATEVER THE INPUT: true; the input reads as it did. -/
def fnUnsafeSyncGroupRequestSpec : ChangeSpec := { name := "fnUnsafeSyncGroupRequest", fn := fun _ => fun
  | [d1, d2] => { results := [.lit (.bool true)], args := [d1, d2] }
  | _ => none }
def fnUnsafeSyncGroupRequestRow : OpenClaim := { program := "ytodbdecpacdgiaadoor", sum := "cbcd38575cb523afe331e8f9b98a3fea1bdbbb3b9ad99efe5cbd929dd341c73e", func := "pub-mailsack/laws.FnUnsafeSyncGroupRequest", spec := "fnUnsafeSyncGroupRequest", inPlace := ["internal/reflectlite.ValueOf", "internal/reflectlite.Swapper", "(internal/reflectlite.Value).Len"], unfollowed := true, recurses := true, named := ["encoding/binary.BigEndian", "pub-mailsack/pub/kmsg/inner/kbin.ErrNotEnoughData"], apart := false, laid := [("pub-mailsack/pub/kmsg/inner/kbin.ErrNotEnoughData", laid_pub_mailsack_pub_kmsg_inner_kbin_ErrNotEnoughData)] }
def FnUnsafeSyncGroupRequestSaid : Prop := fnUnsafeSyncGroupRequestRow.holds Tryd.pinned (OpenSpec.ofChange fnUnsafeSyncGroupRequestSpec)

/-- ITS FALSE NEIGHBOUR: 'it returns false'. Refute it at one input. -/
def fnUnsafeSyncGroupRequestWrong : ChangeSpec := { name := "fnUnsafeSyncGroupRequest", fn := fun _ => fun
  | [d1, d2] => { results := [.lit (.bool false)], args := [d1, d2] }
  | _ => none }
def FnUnsafeSyncGroupRequestWrongFalsely : Prop := fnUnsafeSyncGroupRequestRow.holds Tryd.pinned (OpenSpec.ofChange fnUnsafeSyncGroupRequestWrong)

/-- 'laws.FnUnsafeAlterClientQuotasRequest': WHATEVER THE INPUT: true; the input reads as it did. -/
def fnUnsafeAlterClientQuotasRequestSpec : ChangeSpec := { name := "fnUnsafeAlterClientQuotasRequest", fn := fun _ => fun
  | [d1, d2] => { results := [.lit (.bool true)], args := [d1, d2] }
  | _ => none }
def fnUnsafeAlterClientQuotasRequestRow : OpenClaim := { program := "ytodbdecpacdgiaadoor", sum := "cbcd38575cb523afe331e8f9b98a3fea1bdbbb3b9ad99efe5cbd929dd341c73e", func := "pub-mailsack/laws.FnUnsafeAlterClientQuotasRequest", spec := "fnUnsafeAlterClientQuotasRequest", inPlace := ["math.Float64frombits", "internal/reflectlite.ValueOf", "internal/reflectlite.Swapper", "(internal/reflectlite.Value).Len", "math.Float64bits"], unfollowed := true, recurses := true, named := ["encoding/binary.BigEndian", "pub-mailsack/pub/kmsg/inner/kbin.ErrNotEnoughData"], apart := false, laid := [("pub-mailsack/pub/kmsg/inner/kbin.ErrNotEnoughData", laid_pub_mailsack_pub_kmsg_inner_kbin_ErrNotEnoughData)] }
def FnUnsafeAlterClientQuotasRequestSaid : Prop := fnUnsafeAlterClientQuotasRequestRow.holds Tryd.pinned (OpenSpec.ofChange fnUnsafeAlterClientQuotasRequestSpec)

/-- ITS FALSE NEIGHBOUR: 'it returns false'. Refute it at one input. -/
def fnUnsafeAlterClientQuotasRequestWrong : ChangeSpec := { name := "fnUnsafeAlterClientQuotasRequest", fn := fun _ => fun
  | [d1, d2] => { results := [.lit (.bool false)], args := [d1, d2] }
  | _ => none }
def FnUnsafeAlterClientQuotasRequestWrongFalsely : Prop := fnUnsafeAlterClientQuotasRequestRow.holds Tryd.pinned (OpenSpec.ofChange fnUnsafeAlterClientQuotasRequestWrong)

/-- 'laws.FnUnsafeDescribeClientQuotasResponse': WHATEVER THE INPUT: true; the input reads as it did. -/
def fnUnsafeDescribeClientQuotasResponseSpec : ChangeSpec := { name := "fnUnsafeDescribeClientQuotasResponse", fn := fun _ => fun
  | [d1, d2] => { results := [.lit (.bool true)], args := [d1, d2] }
  | _ => none }
def fnUnsafeDescribeClientQuotasResponseRow : OpenClaim := { program := "ytodbdecpacdgiaadoor", sum := "cbcd38575cb523afe331e8f9b98a3fea1bdbbb3b9ad99efe5cbd929dd341c73e", func := "pub-mailsack/laws.FnUnsafeDescribeClientQuotasResponse", spec := "fnUnsafeDescribeClientQuotasResponse", inPlace := ["math.Float64frombits", "internal/reflectlite.ValueOf", "internal/reflectlite.Swapper", "(internal/reflectlite.Value).Len", "math.Float64bits"], unfollowed := true, recurses := true, named := ["encoding/binary.BigEndian", "pub-mailsack/pub/kmsg/inner/kbin.ErrNotEnoughData"], apart := false, laid := [("pub-mailsack/pub/kmsg/inner/kbin.ErrNotEnoughData", laid_pub_mailsack_pub_kmsg_inner_kbin_ErrNotEnoughData)] }
def FnUnsafeDescribeClientQuotasResponseSaid : Prop := fnUnsafeDescribeClientQuotasResponseRow.holds Tryd.pinned (OpenSpec.ofChange fnUnsafeDescribeClientQuotasResponseSpec)

/-- ITS FALSE NEIGHBOUR: 'it returns false'. Refute it at one input. -/
def fnUnsafeDescribeClientQuotasResponseWrong : ChangeSpec := { name := "fnUnsafeDescribeClientQuotasResponse", fn := fun _ => fun
  | [d1, d2] => { results := [.lit (.bool false)], args := [d1, d2] }
  | _ => none }
def FnUnsafeDescribeClientQuotasResponseWrongFalsely : Prop := fnUnsafeDescribeClientQuotasResponseRow.holds Tryd.pinned (OpenSpec.ofChange fnUnsafeDescribeClientQuotasResponseWrong)

/- THE SECOND FORM. 'bulk': how many values and letters a reading holds, each counted each time it is reached (what is shared counts as often as it is met; a slice's spare places count too). A statement '..UptoSaid' is the law's where the arguments, and the package variables that the reading takes, are together of bulk at most 1048576: NARROWER than '..Said'. Prove '..Said' where nothing that the law and all that it calls make is longer than what came in: it says more and counts as full. Else prove '..UptoSaid'. A law counts once. -/
mutual
def uptoBulk {H : Type} : DataW H → Nat
  | .lit (.string bytes) => bytes.length + 1
  | .lit _ => 1
  | .nil => 1
  | .ptr d => uptoBulk d + 1
  | .slice elems spare => uptoBulkAll elems + uptoBulkAll spare + 1
  | .agg parts => uptoBulkAll parts + 1
  | .iface _ d => uptoBulk d + 1
  | .map entries => uptoBulkEntries entries + 1
  | .held _ => 1
def uptoBulkAll {H : Type} : List (DataW H) → Nat
  | [] => 0
  | d :: r => uptoBulk d + uptoBulkAll r
def uptoBulkEntries {H : Type} : List (Lit × DataW H) → Nat
  | [] => 0
  | x :: r => uptoBulkEntry x + uptoBulkEntries r
def uptoBulkEntry {H : Type} : Lit × DataW H → Nat
  | (.string bytes, d) => bytes.length + uptoBulk d + 1
  | (_, d) => uptoBulk d + 1
 end
def uptoSmall : (H : Type) → List (DataW H) → Bool := fun _ ds => decide (uptoBulkAll ds ≤ 1048576)
def OpenSpec.upto (s : _root_.Go.ChangeSpec) : _root_.Go.OpenSpec := { _root_.Go.OpenSpec.ofChange s with cond := some uptoSmall }

/-- 'laws.FnUnsafeOffsetFetchRequest', WHERE WHAT IT READS IS OF BULK AT MOST 1048576: true; the input reads as it did. -/
def fnUnsafeOffsetFetchRequestUptoRow : OpenClaim := { program := "ytodbdecpacdgiaadoor", sum := "cbcd38575cb523afe331e8f9b98a3fea1bdbbb3b9ad99efe5cbd929dd341c73e", func := "pub-mailsack/laws.FnUnsafeOffsetFetchRequest", spec := "fnUnsafeOffsetFetchRequest", inPlace := ["internal/reflectlite.ValueOf", "internal/reflectlite.Swapper", "(internal/reflectlite.Value).Len"], unfollowed := true, recurses := true, named := ["encoding/binary.BigEndian", "pub-mailsack/pub/kmsg/inner/kbin.ErrNotEnoughData"], apart := false, laid := [("pub-mailsack/pub/kmsg/inner/kbin.ErrNotEnoughData", laid_pub_mailsack_pub_kmsg_inner_kbin_ErrNotEnoughData)], narrowed := true }
def FnUnsafeOffsetFetchRequestUptoSaid : Prop := fnUnsafeOffsetFetchRequestUptoRow.holds Tryd.pinned (OpenSpec.upto fnUnsafeOffsetFetchRequestSpec)

/-- 'laws.FnUnsafeDescribeProducersResponse', WHERE WHAT IT READS IS OF BULK AT MOST 1048576: true; the input reads as it did. -/
def fnUnsafeDescribeProducersResponseUptoRow : OpenClaim := { program := "ytodbdecpacdgiaadoor", sum := "cbcd38575cb523afe331e8f9b98a3fea1bdbbb3b9ad99efe5cbd929dd341c73e", func := "pub-mailsack/laws.FnUnsafeDescribeProducersResponse", spec := "fnUnsafeDescribeProducersResponse", inPlace := ["internal/reflectlite.ValueOf", "internal/reflectlite.Swapper", "(internal/reflectlite.Value).Len"], unfollowed := true, recurses := true, named := ["encoding/binary.BigEndian", "pub-mailsack/pub/kmsg/inner/kbin.ErrNotEnoughData"], apart := false, laid := [("pub-mailsack/pub/kmsg/inner/kbin.ErrNotEnoughData", laid_pub_mailsack_pub_kmsg_inner_kbin_ErrNotEnoughData)], narrowed := true }
def FnUnsafeDescribeProducersResponseUptoSaid : Prop := fnUnsafeDescribeProducersResponseUptoRow.holds Tryd.pinned (OpenSpec.upto fnUnsafeDescribeProducersResponseSpec)

/-- 'laws.FnUnsafeSyncGroupRequest', WHERE WHAT IT READS IS OF BULK AT MOST 1048576: true; the input reads as it did. -/
def fnUnsafeSyncGroupRequestUptoRow : OpenClaim := { program := "ytodbdecpacdgiaadoor", sum := "cbcd38575cb523afe331e8f9b98a3fea1bdbbb3b9ad99efe5cbd929dd341c73e", func := "pub-mailsack/laws.FnUnsafeSyncGroupRequest", spec := "fnUnsafeSyncGroupRequest", inPlace := ["internal/reflectlite.ValueOf", "internal/reflectlite.Swapper", "(internal/reflectlite.Value).Len"], unfollowed := true, recurses := true, named := ["encoding/binary.BigEndian", "pub-mailsack/pub/kmsg/inner/kbin.ErrNotEnoughData"], apart := false, laid := [("pub-mailsack/pub/kmsg/inner/kbin.ErrNotEnoughData", laid_pub_mailsack_pub_kmsg_inner_kbin_ErrNotEnoughData)], narrowed := true }
def FnUnsafeSyncGroupRequestUptoSaid : Prop := fnUnsafeSyncGroupRequestUptoRow.holds Tryd.pinned (OpenSpec.upto fnUnsafeSyncGroupRequestSpec)

/-- 'laws.FnUnsafeAlterClientQuotasRequest', WHERE WHAT IT READS IS OF BULK AT MOST 1048576: true; the input reads as it did. -/
def fnUnsafeAlterClientQuotasRequestUptoRow : OpenClaim := { program := "ytodbdecpacdgiaadoor", sum := "cbcd38575cb523afe331e8f9b98a3fea1bdbbb3b9ad99efe5cbd929dd341c73e", func := "pub-mailsack/laws.FnUnsafeAlterClientQuotasRequest", spec := "fnUnsafeAlterClientQuotasRequest", inPlace := ["math.Float64frombits", "internal/reflectlite.ValueOf", "internal/reflectlite.Swapper", "(internal/reflectlite.Value).Len", "math.Float64bits"], unfollowed := true, recurses := true, named := ["encoding/binary.BigEndian", "pub-mailsack/pub/kmsg/inner/kbin.ErrNotEnoughData"], apart := false, laid := [("pub-mailsack/pub/kmsg/inner/kbin.ErrNotEnoughData", laid_pub_mailsack_pub_kmsg_inner_kbin_ErrNotEnoughData)], narrowed := true }
def FnUnsafeAlterClientQuotasRequestUptoSaid : Prop := fnUnsafeAlterClientQuotasRequestUptoRow.holds Tryd.pinned (OpenSpec.upto fnUnsafeAlterClientQuotasRequestSpec)

/-- 'laws.FnUnsafeDescribeClientQuotasResponse', WHERE WHAT IT READS IS OF BULK AT MOST 1048576: true; the input reads as it did. -/
def fnUnsafeDescribeClientQuotasResponseUptoRow : OpenClaim := { program := "ytodbdecpacdgiaadoor", sum := "cbcd38575cb523afe331e8f9b98a3fea1bdbbb3b9ad99efe5cbd929dd341c73e", func := "pub-mailsack/laws.FnUnsafeDescribeClientQuotasResponse", spec := "fnUnsafeDescribeClientQuotasResponse", inPlace := ["math.Float64frombits", "internal/reflectlite.ValueOf", "internal/reflectlite.Swapper", "(internal/reflectlite.Value).Len", "math.Float64bits"], unfollowed := true, recurses := true, named := ["encoding/binary.BigEndian", "pub-mailsack/pub/kmsg/inner/kbin.ErrNotEnoughData"], apart := false, laid := [("pub-mailsack/pub/kmsg/inner/kbin.ErrNotEnoughData", laid_pub_mailsack_pub_kmsg_inner_kbin_ErrNotEnoughData)], narrowed := true }
def FnUnsafeDescribeClientQuotasResponseUptoSaid : Prop := fnUnsafeDescribeClientQuotasResponseUptoRow.holds Tryd.pinned (OpenSpec.upto fnUnsafeDescribeClientQuotasResponseSpec)

end Rows
end Go.Proofs.YtodbdecpacdgiaaDoor
