/-
  NARROWER THAN 'FOR EVERY INPUT', by the rows' own cells (each row's printed sentence says how): FnBehindControllerRegistrationResponse: loops, laid · FnBehindEndTxnRequest: loops, laid · FnBehindInitProducerIDRequest: loops, laid · FnBehindShareGroupDescribeRequest: loops, laid · FnBehindDescribeUserSCRAMCredentialsRequest: loops, laid · FnBehindStreamsGroupDescribeRequest: loops, laid · FnBehindDeleteShareGroupOffsetsRequest: loops, laid · FnBehindDescribeACLsRequest: loops, laid · FnBehindCreatePartitionsResponse: loops, laid · FnBehindDeleteGroupsResponse: loops, laid · FnBehindDeleteShareGroupStateResponse: loops, laid · FnBehindDescribeShareGroupOffsetsRequest: loops, laid.
  DERIVED. THE GIVEN ROWS OF THIS SEAT. 12 by the template 'for every input the law returns true; each argument reads behind the call as it read before'; 0 by the template 'total and deterministic' (their statements: YtobbchmjgoaleaaGreatDoorTotals.lean).
  GIVEN WITH THE SEED: the statements are not yours to turn. If you find one false, say at which input.
  Laid BY PROGRAM, IN A SANDBOX (cutbox-rows.mjs): the forced cells as the released guide's own fill.sh prints them over the translation f2a9152e48ce110f… (all of the seat's roots in one cut). By AI agents, Wed Nov 11 2026. No macro, syntax, notation, axiom, sorry.
-/
import Derived.Test.YtobbchmjgoaleaaGreatDoorChecked
import GoSem.Claim
import GoSem.ClaimJoined
import GoSem.ClaimMapViews
import Derived.JoinedTies
import Derived.KernelRfl
namespace Go.Proofs.YtobbchmjgoaleaaGreatDoor
/- THE CELL 'sum', in the pinned program and in every row, IS THE sha256 OF THE DUMP (.gsa) THAT YtobbchmjgoaleaaGreatDoorProg.lean LOADS. Nothing in Lean hashes anything: it is a label: what it is worth is what the hold of that sum in a sandbox is worth. -/
noncomputable def Tryz.pinned : Pinned := { name := "ytobbchmjgoaleaagreatdoor", sum := "f2a9152e48ce110f375d7e0a2c500f25376c96bdfb24c1d45f06da1dbee60300", checked := Tryz.checked }
namespace Rows
def none {H : Type} : Left H := { results := [], args := [] }

/- WHAT THE LISTED PACKAGE-LEVEL VARIABLES READ AS WHEN THE CALL BEGINS. Each datum BY PROGRAM (the guide's laid-datum.mjs) off the statement by which the dump's own 'gosem.cut.vars' lays the variable. In a bare row this is a premise. The card (YtobbchmjgoaleaaGreatDoorCards.lean) ties it to the program's text. -/
def laid_pub_mailsack_pub_kmsg_inner_kbin_ErrNotEnoughData {H : Type} : DataW H := .iface "*errors.errorString" (.ptr (.agg [.lit (.string [114, 101, 115, 112, 111, 110, 115, 101, 32, 100, 105, 100, 32, 110, 111, 116, 32, 99, 111, 110, 116, 97, 105, 110, 32, 101, 110, 111, 117, 103, 104, 32, 100, 97, 116, 97, 32, 116, 111, 32, 98, 101, 32, 118, 97, 108, 105, 100])]))

/-- 'laws.FnBehindControllerRegistrationResponse': WHATEVER THE INPUT: true; the input reads as it did. -/
def fnBehindControllerRegistrationResponseSpec : ChangeSpec := { name := "fnBehindControllerRegistrationResponse", fn := fun _ => fun
  | [d1, d2, d3] => { results := [.lit (.bool true)], args := [d1, d2, d3] }
  | _ => none }
def fnBehindControllerRegistrationResponseRow : OpenClaim := { program := "ytobbchmjgoaleaagreatdoor", sum := "f2a9152e48ce110f375d7e0a2c500f25376c96bdfb24c1d45f06da1dbee60300", func := "pub-mailsack/laws.FnBehindControllerRegistrationResponse", spec := "fnBehindControllerRegistrationResponse", inPlace := ["internal/reflectlite.ValueOf", "internal/reflectlite.Swapper", "(internal/reflectlite.Value).Len"], unfollowed := true, recurses := true, named := ["encoding/binary.BigEndian", "pub-mailsack/pub/kmsg/inner/kbin.ErrNotEnoughData"], loops := true, apart := false, laid := [("pub-mailsack/pub/kmsg/inner/kbin.ErrNotEnoughData", laid_pub_mailsack_pub_kmsg_inner_kbin_ErrNotEnoughData)] }
def FnBehindControllerRegistrationResponseSaid : Prop := fnBehindControllerRegistrationResponseRow.holds Tryz.pinned (OpenSpec.ofChange fnBehindControllerRegistrationResponseSpec)

/-- ITS FALSE NEIGHBOUR: 'it returns false'. Refute it at one input. -/
def fnBehindControllerRegistrationResponseWrong : ChangeSpec := { name := "fnBehindControllerRegistrationResponse", fn := fun _ => fun
  | [d1, d2, d3] => { results := [.lit (.bool false)], args := [d1, d2, d3] }
  | _ => none }
def FnBehindControllerRegistrationResponseWrongFalsely : Prop := fnBehindControllerRegistrationResponseRow.holds Tryz.pinned (OpenSpec.ofChange fnBehindControllerRegistrationResponseWrong)

/-- 'laws.FnBehindEndTxnRequest': WHATEVER THE INPUT: true; the input reads as it did. -/
def fnBehindEndTxnRequestSpec : ChangeSpec := { name := "fnBehindEndTxnRequest", fn := fun _ => fun
  | [d1, d2, d3] => { results := [.lit (.bool true)], args := [d1, d2, d3] }
  | _ => none }
def fnBehindEndTxnRequestRow : OpenClaim := { program := "ytobbchmjgoaleaagreatdoor", sum := "f2a9152e48ce110f375d7e0a2c500f25376c96bdfb24c1d45f06da1dbee60300", func := "pub-mailsack/laws.FnBehindEndTxnRequest", spec := "fnBehindEndTxnRequest", inPlace := ["internal/reflectlite.ValueOf", "internal/reflectlite.Swapper", "(internal/reflectlite.Value).Len"], unfollowed := true, recurses := true, named := ["encoding/binary.BigEndian", "pub-mailsack/pub/kmsg/inner/kbin.ErrNotEnoughData"], loops := true, apart := false, laid := [("pub-mailsack/pub/kmsg/inner/kbin.ErrNotEnoughData", laid_pub_mailsack_pub_kmsg_inner_kbin_ErrNotEnoughData)] }
def FnBehindEndTxnRequestSaid : Prop := fnBehindEndTxnRequestRow.holds Tryz.pinned (OpenSpec.ofChange fnBehindEndTxnRequestSpec)

/-- ITS FALSE NEIGHBOUR: 'it returns false'. Refute it at one input. -/
def fnBehindEndTxnRequestWrong : ChangeSpec := { name := "fnBehindEndTxnRequest", fn := fun _ => fun
  | [d1, d2, d3] => { results := [.lit (.bool false)], args := [d1, d2, d3] }
  | _ => none }
def FnBehindEndTxnRequestWrongFalsely : Prop := fnBehindEndTxnRequestRow.holds Tryz.pinned (OpenSpec.ofChange fnBehindEndTxnRequestWrong)

/-- 'laws.FnBehindInitProducerIDRequest': WHATEVER THE INPUT: true; the input reads as it did. -/
def fnBehindInitProducerIDRequestSpec : ChangeSpec := { name := "fnBehindInitProducerIDRequest", fn := fun _ => fun
  | [d1, d2, d3] => { results := [.lit (.bool true)], args := [d1, d2, d3] }
  | _ => none }
def fnBehindInitProducerIDRequestRow : OpenClaim := { program := "ytobbchmjgoaleaagreatdoor", sum := "f2a9152e48ce110f375d7e0a2c500f25376c96bdfb24c1d45f06da1dbee60300", func := "pub-mailsack/laws.FnBehindInitProducerIDRequest", spec := "fnBehindInitProducerIDRequest", inPlace := ["internal/reflectlite.ValueOf", "internal/reflectlite.Swapper", "(internal/reflectlite.Value).Len"], unfollowed := true, recurses := true, named := ["encoding/binary.BigEndian", "pub-mailsack/pub/kmsg/inner/kbin.ErrNotEnoughData"], loops := true, apart := false, laid := [("pub-mailsack/pub/kmsg/inner/kbin.ErrNotEnoughData", laid_pub_mailsack_pub_kmsg_inner_kbin_ErrNotEnoughData)] }
def FnBehindInitProducerIDRequestSaid : Prop := fnBehindInitProducerIDRequestRow.holds Tryz.pinned (OpenSpec.ofChange fnBehindInitProducerIDRequestSpec)

/-- ITS FALSE NEIGHBOUR: 'it returns false'. Refute it at one input. -/
def fnBehindInitProducerIDRequestWrong : ChangeSpec := { name := "fnBehindInitProducerIDRequest", fn := fun _ => fun
  | [d1, d2, d3] => { results := [.lit (.bool false)], args := [d1, d2, d3] }
  | _ => none }
def FnBehindInitProducerIDRequestWrongFalsely : Prop := fnBehindInitProducerIDRequestRow.holds Tryz.pinned (OpenSpec.ofChange fnBehindInitProducerIDRequestWrong)

/-- 'laws.FnBehindShareGroupDescribeRequest': WHATEVER THE INPUT: true; the input reads as it did. -/
def fnBehindShareGroupDescribeRequestSpec : ChangeSpec := { name := "fnBehindShareGroupDescribeRequest", fn := fun _ => fun
  | [d1, d2, d3] => { results := [.lit (.bool true)], args := [d1, d2, d3] }
  | _ => none }
def fnBehindShareGroupDescribeRequestRow : OpenClaim := { program := "ytobbchmjgoaleaagreatdoor", sum := "f2a9152e48ce110f375d7e0a2c500f25376c96bdfb24c1d45f06da1dbee60300", func := "pub-mailsack/laws.FnBehindShareGroupDescribeRequest", spec := "fnBehindShareGroupDescribeRequest", inPlace := ["internal/reflectlite.ValueOf", "internal/reflectlite.Swapper", "(internal/reflectlite.Value).Len"], unfollowed := true, recurses := true, named := ["encoding/binary.BigEndian", "pub-mailsack/pub/kmsg/inner/kbin.ErrNotEnoughData"], loops := true, apart := false, laid := [("pub-mailsack/pub/kmsg/inner/kbin.ErrNotEnoughData", laid_pub_mailsack_pub_kmsg_inner_kbin_ErrNotEnoughData)] }
def FnBehindShareGroupDescribeRequestSaid : Prop := fnBehindShareGroupDescribeRequestRow.holds Tryz.pinned (OpenSpec.ofChange fnBehindShareGroupDescribeRequestSpec)

/-- ITS FALSE NEIGHBOUR: 'it returns false'. Refute it at one input. -/
def fnBehindShareGroupDescribeRequestWrong : ChangeSpec := { name := "fnBehindShareGroupDescribeRequest", fn := fun _ => fun
  | [d1, d2, d3] => { results := [.lit (.bool false)], args := [d1, d2, d3] }
  | _ => none }
def FnBehindShareGroupDescribeRequestWrongFalsely : Prop := fnBehindShareGroupDescribeRequestRow.holds Tryz.pinned (OpenSpec.ofChange fnBehindShareGroupDescribeRequestWrong)

/-- 'laws.FnBehindDescribeUserSCRAMCredentialsRequest': WHATEVER THE INPUT: true; the input reads as it did. -/
def fnBehindDescribeUserSCRAMCredentialsRequestSpec : ChangeSpec := { name := "fnBehindDescribeUserSCRAMCredentialsRequest", fn := fun _ => fun
  | [d1, d2, d3] => { results := [.lit (.bool true)], args := [d1, d2, d3] }
  | _ => none }
def fnBehindDescribeUserSCRAMCredentialsRequestRow : OpenClaim := { program := "ytobbchmjgoaleaagreatdoor", sum := "f2a9152e48ce110f375d7e0a2c500f25376c96bdfb24c1d45f06da1dbee60300", func := "pub-mailsack/laws.FnBehindDescribeUserSCRAMCredentialsRequest", spec := "fnBehindDescribeUserSCRAMCredentialsRequest", inPlace := ["internal/reflectlite.ValueOf", "internal/reflectlite.Swapper", "(internal/reflectlite.Value).Len"], unfollowed := true, recurses := true, named := ["encoding/binary.BigEndian", "pub-mailsack/pub/kmsg/inner/kbin.ErrNotEnoughData"], loops := true, apart := false, laid := [("pub-mailsack/pub/kmsg/inner/kbin.ErrNotEnoughData", laid_pub_mailsack_pub_kmsg_inner_kbin_ErrNotEnoughData)] }
def FnBehindDescribeUserSCRAMCredentialsRequestSaid : Prop := fnBehindDescribeUserSCRAMCredentialsRequestRow.holds Tryz.pinned (OpenSpec.ofChange fnBehindDescribeUserSCRAMCredentialsRequestSpec)

/-- ITS FALSE NEIGHBOUR: 'it returns false'. Refute it at one input. -/
def fnBehindDescribeUserSCRAMCredentialsRequestWrong : ChangeSpec := { name := "fnBehindDescribeUserSCRAMCredentialsRequest", fn := fun _ => fun
  | [d1, d2, d3] => { results := [.lit (.bool false)], args := [d1, d2, d3] }
  | _ => none }
def FnBehindDescribeUserSCRAMCredentialsRequestWrongFalsely : Prop := fnBehindDescribeUserSCRAMCredentialsRequestRow.holds Tryz.pinned (OpenSpec.ofChange fnBehindDescribeUserSCRAMCredentialsRequestWrong)

/-- 'laws.FnBehindStreamsGroupDescribeRequest': WHATEVER THE INPUT: true; the input reads as it did. -/
def fnBehindStreamsGroupDescribeRequestSpec : ChangeSpec := { name := "fnBehindStreamsGroupDescribeRequest", fn := fun _ => fun
  | [d1, d2, d3] => { results := [.lit (.bool true)], args := [d1, d2, d3] }
  | _ => none }
def fnBehindStreamsGroupDescribeRequestRow : OpenClaim := { program := "ytobbchmjgoaleaagreatdoor", sum := "f2a9152e48ce110f375d7e0a2c500f25376c96bdfb24c1d45f06da1dbee60300", func := "pub-mailsack/laws.FnBehindStreamsGroupDescribeRequest", spec := "fnBehindStreamsGroupDescribeRequest", inPlace := ["internal/reflectlite.ValueOf", "internal/reflectlite.Swapper", "(internal/reflectlite.Value).Len"], unfollowed := true, recurses := true, named := ["encoding/binary.BigEndian", "pub-mailsack/pub/kmsg/inner/kbin.ErrNotEnoughData"], loops := true, apart := false, laid := [("pub-mailsack/pub/kmsg/inner/kbin.ErrNotEnoughData", laid_pub_mailsack_pub_kmsg_inner_kbin_ErrNotEnoughData)] }
def FnBehindStreamsGroupDescribeRequestSaid : Prop := fnBehindStreamsGroupDescribeRequestRow.holds Tryz.pinned (OpenSpec.ofChange fnBehindStreamsGroupDescribeRequestSpec)

/-- ITS FALSE NEIGHBOUR: 'it returns false'. Refute it at one input. -/
def fnBehindStreamsGroupDescribeRequestWrong : ChangeSpec := { name := "fnBehindStreamsGroupDescribeRequest", fn := fun _ => fun
  | [d1, d2, d3] => { results := [.lit (.bool false)], args := [d1, d2, d3] }
  | _ => none }
def FnBehindStreamsGroupDescribeRequestWrongFalsely : Prop := fnBehindStreamsGroupDescribeRequestRow.holds Tryz.pinned (OpenSpec.ofChange fnBehindStreamsGroupDescribeRequestWrong)

/-- 'laws.FnBehindDeleteShareGroupOffsetsRequest': WHATEVER THE INPUT: true; the input reads as it did. -/
def fnBehindDeleteShareGroupOffsetsRequestSpec : ChangeSpec := { name := "fnBehindDeleteShareGroupOffsetsRequest", fn := fun _ => fun
  | [d1, d2, d3] => { results := [.lit (.bool true)], args := [d1, d2, d3] }
  | _ => none }
def fnBehindDeleteShareGroupOffsetsRequestRow : OpenClaim := { program := "ytobbchmjgoaleaagreatdoor", sum := "f2a9152e48ce110f375d7e0a2c500f25376c96bdfb24c1d45f06da1dbee60300", func := "pub-mailsack/laws.FnBehindDeleteShareGroupOffsetsRequest", spec := "fnBehindDeleteShareGroupOffsetsRequest", inPlace := ["internal/reflectlite.ValueOf", "internal/reflectlite.Swapper", "(internal/reflectlite.Value).Len"], unfollowed := true, recurses := true, named := ["encoding/binary.BigEndian", "pub-mailsack/pub/kmsg/inner/kbin.ErrNotEnoughData"], loops := true, apart := false, laid := [("pub-mailsack/pub/kmsg/inner/kbin.ErrNotEnoughData", laid_pub_mailsack_pub_kmsg_inner_kbin_ErrNotEnoughData)] }
def FnBehindDeleteShareGroupOffsetsRequestSaid : Prop := fnBehindDeleteShareGroupOffsetsRequestRow.holds Tryz.pinned (OpenSpec.ofChange fnBehindDeleteShareGroupOffsetsRequestSpec)

/-- ITS FALSE NEIGHBOUR: 'it returns false'. Refute it at one input. -/
def fnBehindDeleteShareGroupOffsetsRequestWrong : ChangeSpec := { name := "fnBehindDeleteShareGroupOffsetsRequest", fn := fun _ => fun
  | [d1, d2, d3] => { results := [.lit (.bool false)], args := [d1, d2, d3] }
  | _ => none }
def FnBehindDeleteShareGroupOffsetsRequestWrongFalsely : Prop := fnBehindDeleteShareGroupOffsetsRequestRow.holds Tryz.pinned (OpenSpec.ofChange fnBehindDeleteShareGroupOffsetsRequestWrong)

/-- 'laws.FnBehindDescribeACLsRequest': WHATEVER THE INPUT: true; the input reads as it did. -/
def fnBehindDescribeACLsRequestSpec : ChangeSpec := { name := "fnBehindDescribeACLsRequest", fn := fun _ => fun
  | [d1, d2, d3] => { results := [.lit (.bool true)], args := [d1, d2, d3] }
  | _ => none }
def fnBehindDescribeACLsRequestRow : OpenClaim := { program := "ytobbchmjgoaleaagreatdoor", sum := "f2a9152e48ce110f375d7e0a2c500f25376c96bdfb24c1d45f06da1dbee60300", func := "pub-mailsack/laws.FnBehindDescribeACLsRequest", spec := "fnBehindDescribeACLsRequest", inPlace := ["internal/reflectlite.ValueOf", "internal/reflectlite.Swapper", "(internal/reflectlite.Value).Len"], unfollowed := true, recurses := true, named := ["encoding/binary.BigEndian", "pub-mailsack/pub/kmsg/inner/kbin.ErrNotEnoughData"], loops := true, apart := false, laid := [("pub-mailsack/pub/kmsg/inner/kbin.ErrNotEnoughData", laid_pub_mailsack_pub_kmsg_inner_kbin_ErrNotEnoughData)] }
def FnBehindDescribeACLsRequestSaid : Prop := fnBehindDescribeACLsRequestRow.holds Tryz.pinned (OpenSpec.ofChange fnBehindDescribeACLsRequestSpec)

/-- ITS FALSE NEIGHBOUR: 'it returns false'. Refute it at one input. -/
def fnBehindDescribeACLsRequestWrong : ChangeSpec := { name := "fnBehindDescribeACLsRequest", fn := fun _ => fun
  | [d1, d2, d3] => { results := [.lit (.bool false)], args := [d1, d2, d3] }
  | _ => none }
def FnBehindDescribeACLsRequestWrongFalsely : Prop := fnBehindDescribeACLsRequestRow.holds Tryz.pinned (OpenSpec.ofChange fnBehindDescribeACLsRequestWrong)

/-- 'laws.FnBehindCreatePartitionsResponse': WHATEVER THE INPUT: true; the input reads as it did. -/
def fnBehindCreatePartitionsResponseSpec : ChangeSpec := { name := "fnBehindCreatePartitionsResponse", fn := fun _ => fun
  | [d1, d2, d3] => { results := [.lit (.bool true)], args := [d1, d2, d3] }
  | _ => none }
def fnBehindCreatePartitionsResponseRow : OpenClaim := { program := "ytobbchmjgoaleaagreatdoor", sum := "f2a9152e48ce110f375d7e0a2c500f25376c96bdfb24c1d45f06da1dbee60300", func := "pub-mailsack/laws.FnBehindCreatePartitionsResponse", spec := "fnBehindCreatePartitionsResponse", inPlace := ["internal/reflectlite.ValueOf", "internal/reflectlite.Swapper", "(internal/reflectlite.Value).Len"], unfollowed := true, recurses := true, named := ["encoding/binary.BigEndian", "pub-mailsack/pub/kmsg/inner/kbin.ErrNotEnoughData"], loops := true, apart := false, laid := [("pub-mailsack/pub/kmsg/inner/kbin.ErrNotEnoughData", laid_pub_mailsack_pub_kmsg_inner_kbin_ErrNotEnoughData)] }
def FnBehindCreatePartitionsResponseSaid : Prop := fnBehindCreatePartitionsResponseRow.holds Tryz.pinned (OpenSpec.ofChange fnBehindCreatePartitionsResponseSpec)

/-- ITS FALSE NEIGHBOUR: 'it returns false'. Refute it at one input. -/
def fnBehindCreatePartitionsResponseWrong : ChangeSpec := { name := "fnBehindCreatePartitionsResponse", fn := fun _ => fun
  | [d1, d2, d3] => { results := [.lit (.bool false)], args := [d1, d2, d3] }
  | _ => none }
def FnBehindCreatePartitionsResponseWrongFalsely : Prop := fnBehindCreatePartitionsResponseRow.holds Tryz.pinned (OpenSpec.ofChange fnBehindCreatePartitionsResponseWrong)

/-- 'laws.FnBehindDeleteGroupsResponse': WHATEVER THE INPUT: true; the input reads as it did. -/
def fnBehindDeleteGroupsResponseSpec : ChangeSpec := { name := "fnBehindDeleteGroupsResponse", fn := fun _ => fun
  | [d1, d2, d3] => { results := [.lit (.bool true)], args := [d1, d2, d3] }
  | _ => none }
def fnBehindDeleteGroupsResponseRow : OpenClaim := { program := "ytobbchmjgoaleaagreatdoor", sum := "f2a9152e48ce110f375d7e0a2c500f25376c96bdfb24c1d45f06da1dbee60300", func := "pub-mailsack/laws.FnBehindDeleteGroupsResponse", spec := "fnBehindDeleteGroupsResponse", inPlace := ["internal/reflectlite.ValueOf", "internal/reflectlite.Swapper", "(internal/reflectlite.Value).Len"], unfollowed := true, recurses := true, named := ["encoding/binary.BigEndian", "pub-mailsack/pub/kmsg/inner/kbin.ErrNotEnoughData"], loops := true, apart := false, laid := [("pub-mailsack/pub/kmsg/inner/kbin.ErrNotEnoughData", laid_pub_mailsack_pub_kmsg_inner_kbin_ErrNotEnoughData)] }
def FnBehindDeleteGroupsResponseSaid : Prop := fnBehindDeleteGroupsResponseRow.holds Tryz.pinned (OpenSpec.ofChange fnBehindDeleteGroupsResponseSpec)

/-- ITS FALSE NEIGHBOUR: 'it returns false'. Refute it at one input. -/
def fnBehindDeleteGroupsResponseWrong : ChangeSpec := { name := "fnBehindDeleteGroupsResponse", fn := fun _ => fun
  | [d1, d2, d3] => { results := [.lit (.bool false)], args := [d1, d2, d3] }
  | _ => none }
def FnBehindDeleteGroupsResponseWrongFalsely : Prop := fnBehindDeleteGroupsResponseRow.holds Tryz.pinned (OpenSpec.ofChange fnBehindDeleteGroupsResponseWrong)

/-- 'laws.FnBehindDeleteShareGroupStateResponse': WHATEVER THE INPUT: true; the input reads as it did. -/
def fnBehindDeleteShareGroupStateResponseSpec : ChangeSpec := { name := "fnBehindDeleteShareGroupStateResponse", fn := fun _ => fun
  | [d1, d2, d3] => { results := [.lit (.bool true)], args := [d1, d2, d3] }
  | _ => none }
def fnBehindDeleteShareGroupStateResponseRow : OpenClaim := { program := "ytobbchmjgoaleaagreatdoor", sum := "f2a9152e48ce110f375d7e0a2c500f25376c96bdfb24c1d45f06da1dbee60300", func := "pub-mailsack/laws.FnBehindDeleteShareGroupStateResponse", spec := "fnBehindDeleteShareGroupStateResponse", inPlace := ["internal/reflectlite.ValueOf", "internal/reflectlite.Swapper", "(internal/reflectlite.Value).Len"], unfollowed := true, recurses := true, named := ["encoding/binary.BigEndian", "pub-mailsack/pub/kmsg/inner/kbin.ErrNotEnoughData"], loops := true, apart := false, laid := [("pub-mailsack/pub/kmsg/inner/kbin.ErrNotEnoughData", laid_pub_mailsack_pub_kmsg_inner_kbin_ErrNotEnoughData)] }
def FnBehindDeleteShareGroupStateResponseSaid : Prop := fnBehindDeleteShareGroupStateResponseRow.holds Tryz.pinned (OpenSpec.ofChange fnBehindDeleteShareGroupStateResponseSpec)

/-- ITS FALSE NEIGHBOUR: 'it returns false'. Refute it at one input. -/
def fnBehindDeleteShareGroupStateResponseWrong : ChangeSpec := { name := "fnBehindDeleteShareGroupStateResponse", fn := fun _ => fun
  | [d1, d2, d3] => { results := [.lit (.bool false)], args := [d1, d2, d3] }
  | _ => none }
def FnBehindDeleteShareGroupStateResponseWrongFalsely : Prop := fnBehindDeleteShareGroupStateResponseRow.holds Tryz.pinned (OpenSpec.ofChange fnBehindDeleteShareGroupStateResponseWrong)

/-- 'laws.FnBehindDescribeShareGroupOffsetsRequest': WHATEVER THE INPUT: true; the input reads as it did. -/
def fnBehindDescribeShareGroupOffsetsRequestSpec : ChangeSpec := { name := "fnBehindDescribeShareGroupOffsetsRequest", fn := fun _ => fun
  | [d1, d2, d3] => { results := [.lit (.bool true)], args := [d1, d2, d3] }
  | _ => none }
def fnBehindDescribeShareGroupOffsetsRequestRow : OpenClaim := { program := "ytobbchmjgoaleaagreatdoor", sum := "f2a9152e48ce110f375d7e0a2c500f25376c96bdfb24c1d45f06da1dbee60300", func := "pub-mailsack/laws.FnBehindDescribeShareGroupOffsetsRequest", spec := "fnBehindDescribeShareGroupOffsetsRequest", inPlace := ["internal/reflectlite.ValueOf", "internal/reflectlite.Swapper", "(internal/reflectlite.Value).Len"], unfollowed := true, recurses := true, named := ["encoding/binary.BigEndian", "pub-mailsack/pub/kmsg/inner/kbin.ErrNotEnoughData"], loops := true, apart := false, laid := [("pub-mailsack/pub/kmsg/inner/kbin.ErrNotEnoughData", laid_pub_mailsack_pub_kmsg_inner_kbin_ErrNotEnoughData)] }
def FnBehindDescribeShareGroupOffsetsRequestSaid : Prop := fnBehindDescribeShareGroupOffsetsRequestRow.holds Tryz.pinned (OpenSpec.ofChange fnBehindDescribeShareGroupOffsetsRequestSpec)

/-- ITS FALSE NEIGHBOUR: 'it returns false'. Refute it at one input. -/
def fnBehindDescribeShareGroupOffsetsRequestWrong : ChangeSpec := { name := "fnBehindDescribeShareGroupOffsetsRequest", fn := fun _ => fun
  | [d1, d2, d3] => { results := [.lit (.bool false)], args := [d1, d2, d3] }
  | _ => none }
def FnBehindDescribeShareGroupOffsetsRequestWrongFalsely : Prop := fnBehindDescribeShareGroupOffsetsRequestRow.holds Tryz.pinned (OpenSpec.ofChange fnBehindDescribeShareGroupOffsetsRequestWrong)

/- THE SECOND FORM. 'bulk': how many values and letters a reading holds, each counted each time it is reached (what is shared counts as often as it is met; a slice's spare places count too). A statement '..UptoSaid' is the law's where the arguments, and the package variables that the reading takes, are together of bulk at most 1048576: NARROWER than '..Said'. Prove '..Said' where nothing that the law and all that it calls make is longer than what came in: it says more and counts as full. Else prove '..UptoSaid'. A law counts once. -/
mutual
def uptoBulk {H : Type} : DataW H → Nat
  | .lit (.string bytes) => bytes.length + 1
  | .lit _ => 1
  | .nil => 1
  | .ptr d => uptoBulk d + 1
  | .slice elems spare => uptoBulkAll elems + uptoBulkAll spare + 1
  | .agg parts => uptoBulkAll parts + 1
  | .iface _ d => uptoBulk d + 1
  | .map entries => uptoBulkEntries entries + 1
  | .held _ => 1
def uptoBulkAll {H : Type} : List (DataW H) → Nat
  | [] => 0
  | d :: r => uptoBulk d + uptoBulkAll r
def uptoBulkEntries {H : Type} : List (Lit × DataW H) → Nat
  | [] => 0
  | x :: r => uptoBulkEntry x + uptoBulkEntries r
def uptoBulkEntry {H : Type} : Lit × DataW H → Nat
  | (.string bytes, d) => bytes.length + uptoBulk d + 1
  | (_, d) => uptoBulk d + 1
 end
def uptoSmall : (H : Type) → List (DataW H) → Bool := fun _ ds => decide (uptoBulkAll ds ≤ 1048576)
def OpenSpec.upto (s : _root_.Go.ChangeSpec) : _root_.Go.OpenSpec := { _root_.Go.OpenSpec.ofChange s with cond := some uptoSmall }

/-- 'laws.FnBehindControllerRegistrationResponse', WHERE WHAT IT READS IS OF BULK AT MOST 1048576: true; the input reads as it did. -/
def fnBehindControllerRegistrationResponseUptoRow : OpenClaim := { program := "ytobbchmjgoaleaagreatdoor", sum := "f2a9152e48ce110f375d7e0a2c500f25376c96bdfb24c1d45f06da1dbee60300", func := "pub-mailsack/laws.FnBehindControllerRegistrationResponse", spec := "fnBehindControllerRegistrationResponse", inPlace := ["internal/reflectlite.ValueOf", "internal/reflectlite.Swapper", "(internal/reflectlite.Value).Len"], unfollowed := true, recurses := true, named := ["encoding/binary.BigEndian", "pub-mailsack/pub/kmsg/inner/kbin.ErrNotEnoughData"], loops := true, apart := false, laid := [("pub-mailsack/pub/kmsg/inner/kbin.ErrNotEnoughData", laid_pub_mailsack_pub_kmsg_inner_kbin_ErrNotEnoughData)], narrowed := true }
def FnBehindControllerRegistrationResponseUptoSaid : Prop := fnBehindControllerRegistrationResponseUptoRow.holds Tryz.pinned (OpenSpec.upto fnBehindControllerRegistrationResponseSpec)

/-- 'laws.FnBehindEndTxnRequest', WHERE WHAT IT READS IS OF BULK AT MOST 1048576: true; the input reads as it did. -/
def fnBehindEndTxnRequestUptoRow : OpenClaim := { program := "ytobbchmjgoaleaagreatdoor", sum := "f2a9152e48ce110f375d7e0a2c500f25376c96bdfb24c1d45f06da1dbee60300", func := "pub-mailsack/laws.FnBehindEndTxnRequest", spec := "fnBehindEndTxnRequest", inPlace := ["internal/reflectlite.ValueOf", "internal/reflectlite.Swapper", "(internal/reflectlite.Value).Len"], unfollowed := true, recurses := true, named := ["encoding/binary.BigEndian", "pub-mailsack/pub/kmsg/inner/kbin.ErrNotEnoughData"], loops := true, apart := false, laid := [("pub-mailsack/pub/kmsg/inner/kbin.ErrNotEnoughData", laid_pub_mailsack_pub_kmsg_inner_kbin_ErrNotEnoughData)], narrowed := true }
def FnBehindEndTxnRequestUptoSaid : Prop := fnBehindEndTxnRequestUptoRow.holds Tryz.pinned (OpenSpec.upto fnBehindEndTxnRequestSpec)

/-- 'laws.FnBehindInitProducerIDRequest', WHERE WHAT IT READS IS OF BULK AT MOST 1048576: true; the input reads as it did. -/
def fnBehindInitProducerIDRequestUptoRow : OpenClaim := { program := "ytobbchmjgoaleaagreatdoor", sum := "f2a9152e48ce110f375d7e0a2c500f25376c96bdfb24c1d45f06da1dbee60300", func := "pub-mailsack/laws.FnBehindInitProducerIDRequest", spec := "fnBehindInitProducerIDRequest", inPlace := ["internal/reflectlite.ValueOf", "internal/reflectlite.Swapper", "(internal/reflectlite.Value).Len"], unfollowed := true, recurses := true, named := ["encoding/binary.BigEndian", "pub-mailsack/pub/kmsg/inner/kbin.ErrNotEnoughData"], loops := true, apart := false, laid := [("pub-mailsack/pub/kmsg/inner/kbin.ErrNotEnoughData", laid_pub_mailsack_pub_kmsg_inner_kbin_ErrNotEnoughData)], narrowed := true }
def FnBehindInitProducerIDRequestUptoSaid : Prop := fnBehindInitProducerIDRequestUptoRow.holds Tryz.pinned (OpenSpec.upto fnBehindInitProducerIDRequestSpec)

/-- 'laws.FnBehindShareGroupDescribeRequest', WHERE WHAT IT READS IS OF BULK AT MOST 1048576: true; the input reads as it did. -/
def fnBehindShareGroupDescribeRequestUptoRow : OpenClaim := { program := "ytobbchmjgoaleaagreatdoor", sum := "f2a9152e48ce110f375d7e0a2c500f25376c96bdfb24c1d45f06da1dbee60300", func := "pub-mailsack/laws.FnBehindShareGroupDescribeRequest", spec := "fnBehindShareGroupDescribeRequest", inPlace := ["internal/reflectlite.ValueOf", "internal/reflectlite.Swapper", "(internal/reflectlite.Value).Len"], unfollowed := true, recurses := true, named := ["encoding/binary.BigEndian", "pub-mailsack/pub/kmsg/inner/kbin.ErrNotEnoughData"], loops := true, apart := false, laid := [("pub-mailsack/pub/kmsg/inner/kbin.ErrNotEnoughData", laid_pub_mailsack_pub_kmsg_inner_kbin_ErrNotEnoughData)], narrowed := true }
def FnBehindShareGroupDescribeRequestUptoSaid : Prop := fnBehindShareGroupDescribeRequestUptoRow.holds Tryz.pinned (OpenSpec.upto fnBehindShareGroupDescribeRequestSpec)

/-- 'laws.FnBehindDescribeUserSCRAMCredentialsRequest', WHERE WHAT IT READS IS OF BULK AT MOST 1048576: true; the input reads as it did. -/
def fnBehindDescribeUserSCRAMCredentialsRequestUptoRow : OpenClaim := { program := "ytobbchmjgoaleaagreatdoor", sum := "f2a9152e48ce110f375d7e0a2c500f25376c96bdfb24c1d45f06da1dbee60300", func := "pub-mailsack/laws.FnBehindDescribeUserSCRAMCredentialsRequest", spec := "fnBehindDescribeUserSCRAMCredentialsRequest", inPlace := ["internal/reflectlite.ValueOf", "internal/reflectlite.Swapper", "(internal/reflectlite.Value).Len"], unfollowed := true, recurses := true, named := ["encoding/binary.BigEndian", "pub-mailsack/pub/kmsg/inner/kbin.ErrNotEnoughData"], loops := true, apart := false, laid := [("pub-mailsack/pub/kmsg/inner/kbin.ErrNotEnoughData", laid_pub_mailsack_pub_kmsg_inner_kbin_ErrNotEnoughData)], narrowed := true }
def FnBehindDescribeUserSCRAMCredentialsRequestUptoSaid : Prop := fnBehindDescribeUserSCRAMCredentialsRequestUptoRow.holds Tryz.pinned (OpenSpec.upto fnBehindDescribeUserSCRAMCredentialsRequestSpec)

/-- 'laws.FnBehindStreamsGroupDescribeRequest', WHERE WHAT IT READS IS OF BULK AT MOST 1048576: true; the input reads as it did. -/
def fnBehindStreamsGroupDescribeRequestUptoRow : OpenClaim := { program := "ytobbchmjgoaleaagreatdoor", sum := "f2a9152e48ce110f375d7e0a2c500f25376c96bdfb24c1d45f06da1dbee60300", func := "pub-mailsack/laws.FnBehindStreamsGroupDescribeRequest", spec := "fnBehindStreamsGroupDescribeRequest", inPlace := ["internal/reflectlite.ValueOf", "internal/reflectlite.Swapper", "(internal/reflectlite.Value).Len"], unfollowed := true, recurses := true, named := ["encoding/binary.BigEndian", "pub-mailsack/pub/kmsg/inner/kbin.ErrNotEnoughData"], loops := true, apart := false, laid := [("pub-mailsack/pub/kmsg/inner/kbin.ErrNotEnoughData", laid_pub_mailsack_pub_kmsg_inner_kbin_ErrNotEnoughData)], narrowed := true }
def FnBehindStreamsGroupDescribeRequestUptoSaid : Prop := fnBehindStreamsGroupDescribeRequestUptoRow.holds Tryz.pinned (OpenSpec.upto fnBehindStreamsGroupDescribeRequestSpec)

/-- 'laws.FnBehindDeleteShareGroupOffsetsRequest', WHERE WHAT IT READS IS OF BULK AT MOST 1048576: true; the input reads as it did. -/
def fnBehindDeleteShareGroupOffsetsRequestUptoRow : OpenClaim := { program := "ytobbchmjgoaleaagreatdoor", sum := "f2a9152e48ce110f375d7e0a2c500f25376c96bdfb24c1d45f06da1dbee60300", func := "pub-mailsack/laws.FnBehindDeleteShareGroupOffsetsRequest", spec := "fnBehindDeleteShareGroupOffsetsRequest", inPlace := ["internal/reflectlite.ValueOf", "internal/reflectlite.Swapper", "(internal/reflectlite.Value).Len"], unfollowed := true, recurses := true, named := ["encoding/binary.BigEndian", "pub-mailsack/pub/kmsg/inner/kbin.ErrNotEnoughData"], loops := true, apart := false, laid := [("pub-mailsack/pub/kmsg/inner/kbin.ErrNotEnoughData", laid_pub_mailsack_pub_kmsg_inner_kbin_ErrNotEnoughData)], narrowed := true }
def FnBehindDeleteShareGroupOffsetsRequestUptoSaid : Prop := fnBehindDeleteShareGroupOffsetsRequestUptoRow.holds Tryz.pinned (OpenSpec.upto fnBehindDeleteShareGroupOffsetsRequestSpec)

/-- 'laws.FnBehindDescribeACLsRequest', WHERE WHAT IT READS IS OF BULK AT MOST 1048576: true; the input reads as it did. -/
def fnBehindDescribeACLsRequestUptoRow : OpenClaim := { program := "ytobbchmjgoaleaagreatdoor", sum := "f2a9152e48ce110f375d7e0a2c500f25376c96bdfb24c1d45f06da1dbee60300", func := "pub-mailsack/laws.FnBehindDescribeACLsRequest", spec := "fnBehindDescribeACLsRequest", inPlace := ["internal/reflectlite.ValueOf", "internal/reflectlite.Swapper", "(internal/reflectlite.Value).Len"], unfollowed := true, recurses := true, named := ["encoding/binary.BigEndian", "pub-mailsack/pub/kmsg/inner/kbin.ErrNotEnoughData"], loops := true, apart := false, laid := [("pub-mailsack/pub/kmsg/inner/kbin.ErrNotEnoughData", laid_pub_mailsack_pub_kmsg_inner_kbin_ErrNotEnoughData)], narrowed := true }
def FnBehindDescribeACLsRequestUptoSaid : Prop := fnBehindDescribeACLsRequestUptoRow.holds Tryz.pinned (OpenSpec.upto fnBehindDescribeACLsRequestSpec)

/-- 'laws.FnBehindCreatePartitionsResponse', WHERE WHAT IT READS IS OF BULK AT MOST 1048576: true; the input reads as it did. -/
def fnBehindCreatePartitionsResponseUptoRow : OpenClaim := { program := "ytobbchmjgoaleaagreatdoor", sum := "f2a9152e48ce110f375d7e0a2c500f25376c96bdfb24c1d45f06da1dbee60300", func := "pub-mailsack/laws.FnBehindCreatePartitionsResponse", spec := "fnBehindCreatePartitionsResponse", inPlace := ["internal/reflectlite.ValueOf", "internal/reflectlite.Swapper", "(internal/reflectlite.Value).Len"], unfollowed := true, recurses := true, named := ["encoding/binary.BigEndian", "pub-mailsack/pub/kmsg/inner/kbin.ErrNotEnoughData"], loops := true, apart := false, laid := [("pub-mailsack/pub/kmsg/inner/kbin.ErrNotEnoughData", laid_pub_mailsack_pub_kmsg_inner_kbin_ErrNotEnoughData)], narrowed := true }
def FnBehindCreatePartitionsResponseUptoSaid : Prop := fnBehindCreatePartitionsResponseUptoRow.holds Tryz.pinned (OpenSpec.upto fnBehindCreatePartitionsResponseSpec)

/-- 'laws.FnBehindDeleteGroupsResponse', WHERE WHAT IT READS IS OF BULK AT MOST 1048576: true; the input reads as it did. -/
def fnBehindDeleteGroupsResponseUptoRow : OpenClaim := { program := "ytobbchmjgoaleaagreatdoor", sum := "f2a9152e48ce110f375d7e0a2c500f25376c96bdfb24c1d45f06da1dbee60300", func := "pub-mailsack/laws.FnBehindDeleteGroupsResponse", spec := "fnBehindDeleteGroupsResponse", inPlace := ["internal/reflectlite.ValueOf", "internal/reflectlite.Swapper", "(internal/reflectlite.Value).Len"], unfollowed := true, recurses := true, named := ["encoding/binary.BigEndian", "pub-mailsack/pub/kmsg/inner/kbin.ErrNotEnoughData"], loops := true, apart := false, laid := [("pub-mailsack/pub/kmsg/inner/kbin.ErrNotEnoughData", laid_pub_mailsack_pub_kmsg_inner_kbin_ErrNotEnoughData)], narrowed := true }
def FnBehindDeleteGroupsResponseUptoSaid : Prop := fnBehindDeleteGroupsResponseUptoRow.holds Tryz.pinned (OpenSpec.upto fnBehindDeleteGroupsResponseSpec)

/-- 'laws.FnBehindDeleteShareGroupStateResponse', WHERE WHAT IT READS IS OF BULK AT MOST 1048576: true; the input reads as it did. -/
def fnBehindDeleteShareGroupStateResponseUptoRow : OpenClaim := { program := "ytobbchmjgoaleaagreatdoor", sum := "f2a9152e48ce110f375d7e0a2c500f25376c96bdfb24c1d45f06da1dbee60300", func := "pub-mailsack/laws.FnBehindDeleteShareGroupStateResponse", spec := "fnBehindDeleteShareGroupStateResponse", inPlace := ["internal/reflectlite.ValueOf", "internal/reflectlite.Swapper", "(internal/reflectlite.Value).Len"], unfollowed := true, recurses := true, named := ["encoding/binary.BigEndian", "pub-mailsack/pub/kmsg/inner/kbin.ErrNotEnoughData"], loops := true, apart := false, laid := [("pub-mailsack/pub/kmsg/inner/kbin.ErrNotEnoughData", laid_pub_mailsack_pub_kmsg_inner_kbin_ErrNotEnoughData)], narrowed := true }
def FnBehindDeleteShareGroupStateResponseUptoSaid : Prop := fnBehindDeleteShareGroupStateResponseUptoRow.holds Tryz.pinned (OpenSpec.upto fnBehindDeleteShareGroupStateResponseSpec)

/-- 'laws.FnBehindDescribeShareGroupOffsetsRequest', WHERE WHAT IT READS IS OF BULK AT MOST 1048576: true; the input reads as it did. -/
def fnBehindDescribeShareGroupOffsetsRequestUptoRow : OpenClaim := { program := "ytobbchmjgoaleaagreatdoor", sum := "f2a9152e48ce110f375d7e0a2c500f25376c96bdfb24c1d45f06da1dbee60300", func := "pub-mailsack/laws.FnBehindDescribeShareGroupOffsetsRequest", spec := "fnBehindDescribeShareGroupOffsetsRequest", inPlace := ["internal/reflectlite.ValueOf", "internal/reflectlite.Swapper", "(internal/reflectlite.Value).Len"], unfollowed := true, recurses := true, named := ["encoding/binary.BigEndian", "pub-mailsack/pub/kmsg/inner/kbin.ErrNotEnoughData"], loops := true, apart := false, laid := [("pub-mailsack/pub/kmsg/inner/kbin.ErrNotEnoughData", laid_pub_mailsack_pub_kmsg_inner_kbin_ErrNotEnoughData)], narrowed := true }
def FnBehindDescribeShareGroupOffsetsRequestUptoSaid : Prop := fnBehindDescribeShareGroupOffsetsRequestUptoRow.holds Tryz.pinned (OpenSpec.upto fnBehindDescribeShareGroupOffsetsRequestSpec)

end Rows
end Go.Proofs.YtobbchmjgoaleaaGreatDoor
