/-
  NARROWER THAN 'FOR EVERY INPUT', by the rows' own cells (each row's printed sentence says how): FnTellDescribeConfigsRequest: loops, laid · FnTellAlterUserSCRAMCredentialsRequest: loops, laid · FnTellDescribeDelegationTokenResponse: loops, laid.
  DERIVED. THE GIVEN ROWS OF THIS SEAT. 3 by the template 'for every input the law returns true; each argument reads behind the call as it read before'; 0 by the template 'total and deterministic' (their statements: YtdklogmmfnddiaaGreatDoorTotals.lean).
  GIVEN WITH THE SEED: the statements are not yours to turn. If you find one false, say at which input.
  Laid BY PROGRAM, IN A SANDBOX (cutbox-rows.mjs): the forced cells as the released guide's own fill.sh prints them over the translation da6962fce5e4dccd… (all of the seat's roots in one cut). By AI agents, Wed Nov 11 2026. No macro, syntax, notation, axiom, sorry.
-/
import Derived.Test.YtdklogmmfnddiaaGreatDoorChecked
import GoSem.Claim
import GoSem.ClaimJoined
import GoSem.ClaimMapViews
import Derived.JoinedTies
import Derived.KernelRfl
namespace Go.Proofs.YtdklogmmfnddiaaGreatDoor
/- THE CELL 'sum', in the pinned program and in every row, IS THE sha256 OF THE DUMP (.gsa) THAT YtdklogmmfnddiaaGreatDoorProg.lean LOADS. Nothing in Lean hashes anything: it is a label: what it is worth is what the hold of that sum in a sandbox is worth. -/
noncomputable def Tryz.pinned : Pinned := { name := "ytdklogmmfnddiaagreatdoor", sum := "da6962fce5e4dccd3823ca38a99efc9e79f2d26aa7b981d68e339f103127e688", checked := Tryz.checked }
namespace Rows
def none {H : Type} : Left H := { results := [], args := [] }

/- WHAT THE LISTED PACKAGE-LEVEL VARIABLES READ AS WHEN THE CALL BEGINS. Each datum BY PROGRAM (the guide's laid-datum.mjs) off the statement by which the dump's own 'gosem.cut.vars' lays the variable. In a bare row this is a premise. The card (YtdklogmmfnddiaaGreatDoorCards.lean) ties it to the program's text. -/
def laid_pub_mailsack_pub_kmsg_inner_kbin_ErrNotEnoughData {H : Type} : DataW H := .iface "*errors.errorString" (.ptr (.agg [.lit (.string [114, 101, 115, 112, 111, 110, 115, 101, 32, 100, 105, 100, 32, 110, 111, 116, 32, 99, 111, 110, 116, 97, 105, 110, 32, 101, 110, 111, 117, 103, 104, 32, 100, 97, 116, 97, 32, 116, 111, 32, 98, 101, 32, 118, 97, 108, 105, 100])]))

/-- 'laws.FnTellDescribeConfigsRequest': WHATEVER THE INPUT: true; the input reads as it did. -/
def fnTellDescribeConfigsRequestSpec : ChangeSpec := { name := "fnTellDescribeConfigsRequest", fn := fun _ => fun
  | [d1, d2] => { results := [.lit (.bool true)], args := [d1, d2] }
  | _ => none }
def fnTellDescribeConfigsRequestRow : OpenClaim := { program := "ytdklogmmfnddiaagreatdoor", sum := "da6962fce5e4dccd3823ca38a99efc9e79f2d26aa7b981d68e339f103127e688", func := "pub-mailsack/laws.FnTellDescribeConfigsRequest", spec := "fnTellDescribeConfigsRequest", inPlace := ["internal/reflectlite.ValueOf", "internal/reflectlite.Swapper", "(internal/reflectlite.Value).Len"], unfollowed := true, recurses := true, named := ["encoding/binary.BigEndian", "pub-mailsack/pub/kmsg/inner/kbin.ErrNotEnoughData"], loops := true, apart := false, laid := [("pub-mailsack/pub/kmsg/inner/kbin.ErrNotEnoughData", laid_pub_mailsack_pub_kmsg_inner_kbin_ErrNotEnoughData)] }
def FnTellDescribeConfigsRequestSaid : Prop := fnTellDescribeConfigsRequestRow.holds Tryz.pinned (OpenSpec.ofChange fnTellDescribeConfigsRequestSpec)

/-- ITS FALSE NEIGHBOUR: 'it returns false'. Refute it at one input. -/
def fnTellDescribeConfigsRequestWrong : ChangeSpec := { name := "fnTellDescribeConfigsRequest", fn := fun _ => fun
  | [d1, d2] => { results := [.lit (.bool false)], args := [d1, d2] }
  | _ => none }
def FnTellDescribeConfigsRequestWrongFalsely : Prop := fnTellDescribeConfigsRequestRow.holds Tryz.pinned (OpenSpec.ofChange fnTellDescribeConfigsRequestWrong)

/-- 'laws.FnTellAlterUserSCRAMCredentialsRequest': WHATEVER THE INPUT: true; the input reads as it did. -/
def fnTellAlterUserSCRAMCredentialsRequestSpec : ChangeSpec := { name := "fnTellAlterUserSCRAMCredentialsRequest", fn := fun _ => fun
  | [d1, d2] => { results := [.lit (.bool true)], args := [d1, d2] }
  | _ => none }
def fnTellAlterUserSCRAMCredentialsRequestRow : OpenClaim := { program := "ytdklogmmfnddiaagreatdoor", sum := "da6962fce5e4dccd3823ca38a99efc9e79f2d26aa7b981d68e339f103127e688", func := "pub-mailsack/laws.FnTellAlterUserSCRAMCredentialsRequest", spec := "fnTellAlterUserSCRAMCredentialsRequest", inPlace := ["internal/reflectlite.ValueOf", "internal/reflectlite.Swapper", "(internal/reflectlite.Value).Len"], unfollowed := true, recurses := true, named := ["encoding/binary.BigEndian", "pub-mailsack/pub/kmsg/inner/kbin.ErrNotEnoughData"], loops := true, apart := false, laid := [("pub-mailsack/pub/kmsg/inner/kbin.ErrNotEnoughData", laid_pub_mailsack_pub_kmsg_inner_kbin_ErrNotEnoughData)] }
def FnTellAlterUserSCRAMCredentialsRequestSaid : Prop := fnTellAlterUserSCRAMCredentialsRequestRow.holds Tryz.pinned (OpenSpec.ofChange fnTellAlterUserSCRAMCredentialsRequestSpec)

/-- ITS FALSE NEIGHBOUR: 'it returns false'. Refute it at one input. -/
def fnTellAlterUserSCRAMCredentialsRequestWrong : ChangeSpec := { name := "fnTellAlterUserSCRAMCredentialsRequest", fn := fun _ => fun
  | [d1, d2] => { results := [.lit (.bool false)], args := [d1, d2] }
  | _ => none }
def FnTellAlterUserSCRAMCredentialsRequestWrongFalsely : Prop := fnTellAlterUserSCRAMCredentialsRequestRow.holds Tryz.pinned (OpenSpec.ofChange fnTellAlterUserSCRAMCredentialsRequestWrong)

/-- 'laws.FnTellDescribeDelegationTokenResponse': WHATEVER THE INPUT: true; the input reads as it did. -/
def fnTellDescribeDelegationTokenResponseSpec : ChangeSpec := { name := "fnTellDescribeDelegationTokenResponse", fn := fun _ => fun
  | [d1, d2] => { results := [.lit (.bool true)], args := [d1, d2] }
  | _ => none }
def fnTellDescribeDelegationTokenResponseRow : OpenClaim := { program := "ytdklogmmfnddiaagreatdoor", sum := "da6962fce5e4dccd3823ca38a99efc9e79f2d26aa7b981d68e339f103127e688", func := "pub-mailsack/laws.FnTellDescribeDelegationTokenResponse", spec := "fnTellDescribeDelegationTokenResponse", inPlace := ["internal/reflectlite.ValueOf", "internal/reflectlite.Swapper", "(internal/reflectlite.Value).Len"], unfollowed := true, recurses := true, named := ["encoding/binary.BigEndian", "pub-mailsack/pub/kmsg/inner/kbin.ErrNotEnoughData"], loops := true, apart := false, laid := [("pub-mailsack/pub/kmsg/inner/kbin.ErrNotEnoughData", laid_pub_mailsack_pub_kmsg_inner_kbin_ErrNotEnoughData)] }
def FnTellDescribeDelegationTokenResponseSaid : Prop := fnTellDescribeDelegationTokenResponseRow.holds Tryz.pinned (OpenSpec.ofChange fnTellDescribeDelegationTokenResponseSpec)

/-- ITS FALSE NEIGHBOUR: 'it returns false'. Refute it at one input. -/
def fnTellDescribeDelegationTokenResponseWrong : ChangeSpec := { name := "fnTellDescribeDelegationTokenResponse", fn := fun _ => fun
  | [d1, d2] => { results := [.lit (.bool false)], args := [d1, d2] }
  | _ => none }
def FnTellDescribeDelegationTokenResponseWrongFalsely : Prop := fnTellDescribeDelegationTokenResponseRow.holds Tryz.pinned (OpenSpec.ofChange fnTellDescribeDelegationTokenResponseWrong)

/- THE SECOND FORM. 'bulk': how many values and letters a reading holds, each counted each time it is reached (what is shared counts as often as it is met; a slice's spare places count too). A statement '..UptoSaid' is the law's where the arguments, and the package variables that the reading takes, are together of bulk at most 1048576: NARROWER than '..Said'. Prove '..Said' where nothing that the law and all that it calls make is longer than what came in: it says more and counts as full. Else prove '..UptoSaid'. A law counts once. -/
mutual
def uptoBulk {H : Type} : DataW H → Nat
  | .lit (.string bytes) => bytes.length + 1
  | .lit _ => 1
  | .nil => 1
  | .ptr d => uptoBulk d + 1
  | .slice elems spare => uptoBulkAll elems + uptoBulkAll spare + 1
  | .agg parts => uptoBulkAll parts + 1
  | .iface _ d => uptoBulk d + 1
  | .map entries => uptoBulkEntries entries + 1
  | .held _ => 1
def uptoBulkAll {H : Type} : List (DataW H) → Nat
  | [] => 0
  | d :: r => uptoBulk d + uptoBulkAll r
def uptoBulkEntries {H : Type} : List (Lit × DataW H) → Nat
  | [] => 0
  | x :: r => uptoBulkEntry x + uptoBulkEntries r
def uptoBulkEntry {H : Type} : Lit × DataW H → Nat
  | (.string bytes, d) => bytes.length + uptoBulk d + 1
  | (_, d) => uptoBulk d + 1
 end
def uptoSmall : (H : Type) → List (DataW H) → Bool := fun _ ds => decide (uptoBulkAll ds ≤ 1048576)
def OpenSpec.upto (s : _root_.Go.ChangeSpec) : _root_.Go.OpenSpec := { _root_.Go.OpenSpec.ofChange s with cond := some uptoSmall }

/-- 'laws.FnTellDescribeConfigsRequest', WHERE WHAT IT READS IS OF BULK AT MOST 1048576: true; the input reads as it did. -/
def fnTellDescribeConfigsRequestUptoRow : OpenClaim := { program := "ytdklogmmfnddiaagreatdoor", sum := "da6962fce5e4dccd3823ca38a99efc9e79f2d26aa7b981d68e339f103127e688", func := "pub-mailsack/laws.FnTellDescribeConfigsRequest", spec := "fnTellDescribeConfigsRequest", inPlace := ["internal/reflectlite.ValueOf", "internal/reflectlite.Swapper", "(internal/reflectlite.Value).Len"], unfollowed := true, recurses := true, named := ["encoding/binary.BigEndian", "pub-mailsack/pub/kmsg/inner/kbin.ErrNotEnoughData"], loops := true, apart := false, laid := [("pub-mailsack/pub/kmsg/inner/kbin.ErrNotEnoughData", laid_pub_mailsack_pub_kmsg_inner_kbin_ErrNotEnoughData)], narrowed := true }
def FnTellDescribeConfigsRequestUptoSaid : Prop := fnTellDescribeConfigsRequestUptoRow.holds Tryz.pinned (OpenSpec.upto fnTellDescribeConfigsRequestSpec)

/-- 'laws.FnTellAlterUserSCRAMCredentialsRequest', WHERE WHAT IT READS IS OF BULK AT MOST 1048576: true; the input reads as it did. -/
def fnTellAlterUserSCRAMCredentialsRequestUptoRow : OpenClaim := { program := "ytdklogmmfnddiaagreatdoor", sum := "da6962fce5e4dccd3823ca38a99efc9e79f2d26aa7b981d68e339f103127e688", func := "pub-mailsack/laws.FnTellAlterUserSCRAMCredentialsRequest", spec := "fnTellAlterUserSCRAMCredentialsRequest", inPlace := ["internal/reflectlite.ValueOf", "internal/reflectlite.Swapper", "(internal/reflectlite.Value).Len"], unfollowed := true, recurses := true, named := ["encoding/binary.BigEndian", "pub-mailsack/pub/kmsg/inner/kbin.ErrNotEnoughData"], loops := true, apart := false, laid := [("pub-mailsack/pub/kmsg/inner/kbin.ErrNotEnoughData", laid_pub_mailsack_pub_kmsg_inner_kbin_ErrNotEnoughData)], narrowed := true }
def FnTellAlterUserSCRAMCredentialsRequestUptoSaid : Prop := fnTellAlterUserSCRAMCredentialsRequestUptoRow.holds Tryz.pinned (OpenSpec.upto fnTellAlterUserSCRAMCredentialsRequestSpec)

/-- 'laws.FnTellDescribeDelegationTokenResponse', WHERE WHAT IT READS IS OF BULK AT MOST 1048576: true; the input reads as it did. -/
def fnTellDescribeDelegationTokenResponseUptoRow : OpenClaim := { program := "ytdklogmmfnddiaagreatdoor", sum := "da6962fce5e4dccd3823ca38a99efc9e79f2d26aa7b981d68e339f103127e688", func := "pub-mailsack/laws.FnTellDescribeDelegationTokenResponse", spec := "fnTellDescribeDelegationTokenResponse", inPlace := ["internal/reflectlite.ValueOf", "internal/reflectlite.Swapper", "(internal/reflectlite.Value).Len"], unfollowed := true, recurses := true, named := ["encoding/binary.BigEndian", "pub-mailsack/pub/kmsg/inner/kbin.ErrNotEnoughData"], loops := true, apart := false, laid := [("pub-mailsack/pub/kmsg/inner/kbin.ErrNotEnoughData", laid_pub_mailsack_pub_kmsg_inner_kbin_ErrNotEnoughData)], narrowed := true }
def FnTellDescribeDelegationTokenResponseUptoSaid : Prop := fnTellDescribeDelegationTokenResponseUptoRow.holds Tryz.pinned (OpenSpec.upto fnTellDescribeDelegationTokenResponseSpec)

end Rows
end Go.Proofs.YtdklogmmfnddiaaGreatDoor
