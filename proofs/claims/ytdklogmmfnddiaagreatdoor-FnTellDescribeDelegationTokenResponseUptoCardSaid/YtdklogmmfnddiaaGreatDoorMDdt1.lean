/-
  The fields of DescribeDelegationTokenResponse, as plain lists.
-/
import Derived.Test.YtdklogmmfnddiaaGreatDoorMB1
import Derived.Test.YtdklogmmfnddiaaGreatDoorMB13
import Derived.Test.YtdklogmmfnddiaaGreatDoorMB14
import Derived.Test.YtdklogmmfnddiaaGreatDoorMB18
import Derived.Deep.CutBlock
import Derived.Deep.DeepCutAuto
namespace Go.Proofs.YtdklogmmfnddiaaGreatDoor

def q_DescribeDelegationTokenResponseTokenDetailRenewer : List F := [.mk 8 0 (-1) (-1) (-1) 0 0 [], .mk 8 0 (-1) (-1) (-1) 0 0 []]
def q_DescribeDelegationTokenResponseTokenDetail : List F := [.mk 8 0 (-1) (-1) (-1) 0 0 [], .mk 8 0 (-1) (-1) (-1) 0 0 [], .mk 8 3 (-1) (-1) (-1) 0 0 [], .mk 8 3 (-1) (-1) (-1) 0 0 [], .mk 4 0 (-1) (-1) (-1) 0 0 [], .mk 4 0 (-1) (-1) (-1) 0 0 [], .mk 4 0 (-1) (-1) (-1) 0 0 [], .mk 8 0 (-1) (-1) (-1) 0 0 [], .mk 9 0 (-1) (-1) (-1) 0 0 [], .mk 11 0 (-1) (-1) (-1) 0 10 q_DescribeDelegationTokenResponseTokenDetailRenewer]
def q_DescribeDelegationTokenResponse : List F := [.mk 2 0 (-1) (-1) (-1) 0 0 [], .mk 11 0 (-1) (-1) (-1) 0 10 q_DescribeDelegationTokenResponseTokenDetail, .mk 3 0 (-1) (-1) (-1) 0 0 []]
end Go.Proofs.YtdklogmmfnddiaaGreatDoor
/-
  DescribeDelegationTokenResponse: reading.
-/
namespace Go.Proofs.YtdklogmmfnddiaaGreatDoor
open Go.ChangeShapes Go.WideShapes Go.ChangeAt Go.RowKit

set_option maxRecDepth 100000 in
theorem d_DescribeDelegationTokenResponse (w : World) (x : Value) : Calls Tryz.prog 71 #[x] w fun e w' => e = .returned (.tuple #[]) ∧ w = w' := by
  go_enter Tryz.func71, Tryz.ntmps71
  go_wp2
  refine bodyPost_end (v := .tuple #[]) (by simp [results, Tryz.results71, go_sem]) rfl ?_
  exact ⟨rfl, rfl⟩
set_option maxRecDepth 100000 in
theorem d_DescribeDelegationTokenResponseTokenDetailRenewer (w : World) (x : Value) : Calls Tryz.prog 104 #[x] w fun e w' => e = .returned (.tuple #[]) ∧ w = w' := by
  go_enter Tryz.func104, Tryz.ntmps104
  go_wp2
  refine bodyPost_end (v := .tuple #[]) (by simp [results, Tryz.results104, go_sem]) rfl ?_
  exact ⟨rfl, rfl⟩
set_option maxRecDepth 100000 in
theorem d_DescribeDelegationTokenResponseTokenDetail (w : World) (x : Value) : Calls Tryz.prog 102 #[x] w fun e w' => e = .returned (.tuple #[]) ∧ w = w' := by
  go_enter Tryz.func102, Tryz.ntmps102
  go_wp2
  refine bodyPost_end (v := .tuple #[]) (by simp [results, Tryz.results102, go_sem]) rfl ?_
  exact ⟨rfl, rfl⟩
set_option maxRecDepth 100000 in
theorem info_DescribeDelegationTokenResponseTokenDetailRenewer : (Tryz.prog.info? 146).map (fun i => (i.zero, i.size, decide (i.bytes ≤ 65536))) = some (some (.agg #[.string ⟨#[]⟩, .string ⟨#[]⟩, .map none]), 3, true) := by kernel_rfl
set_option maxRecDepth 100000 in
theorem info_DescribeDelegationTokenResponseTokenDetail : (Tryz.prog.info? 123).map (fun i => (i.zero, i.size, decide (i.bytes ≤ 65536))) = some (some (.agg #[.string ⟨#[]⟩, .string ⟨#[]⟩, .string ⟨#[]⟩, .string ⟨#[]⟩, .int .i64 0, .int .i64 0, .int .i64 0, .string ⟨#[]⟩, .slice none 0 0, .slice none 0 0, .map none]), 11, true) := by kernel_rfl
end Go.Proofs.YtdklogmmfnddiaaGreatDoor
