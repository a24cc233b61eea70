/-
  The fields of WriteTxnMarkersRequest, as plain lists.
-/
import Derived.Test.YtdebdgofomnpoaaGreatDoorMB1
import Derived.Test.YtdebdgofomnpoaaGreatDoorMB13
import Derived.Test.YtdebdgofomnpoaaGreatDoorMB17
import Derived.Deep.CutBlock
import Derived.Deep.DeepCutAuto
namespace Go.Proofs.YtdebdgofomnpoaaGreatDoor

def q_WriteTxnMarkersRequestMarkerTopic : List F := [.mk 8 0 (-1) (-1) (-1) 0 0 [], .mk 11 0 (-1) (-1) (-1) 0 3 []]
def q_WriteTxnMarkersRequestMarker : List F := [.mk 4 0 (-1) (-1) (-1) 0 0 [], .mk 2 0 (-1) (-1) (-1) 0 0 [], .mk 0 0 (-1) (-1) (-1) 0 0 [], .mk 11 0 (-1) (-1) (-1) 0 10 q_WriteTxnMarkersRequestMarkerTopic, .mk 3 0 (-1) (-1) (-1) 0 0 [], .mk 1 2 (-1) (-1) (-1) 0 0 []]
def q_WriteTxnMarkersRequest : List F := [.mk 11 0 (-1) (-1) (-1) 0 10 q_WriteTxnMarkersRequestMarker]
end Go.Proofs.YtdebdgofomnpoaaGreatDoor
/-
  WriteTxnMarkersRequest: reading.
-/
namespace Go.Proofs.YtdebdgofomnpoaaGreatDoor
open Go.ChangeShapes Go.WideShapes Go.ChangeAt Go.RowKit

set_option maxRecDepth 100000 in
theorem d_WriteTxnMarkersRequest (w : World) (x : Value) : Calls Tryz.prog 182 #[x] w fun e w' => e = .returned (.tuple #[]) ∧ w = w' := by
  go_enter Tryz.func182, Tryz.ntmps182
  go_wp2
  refine bodyPost_end (v := .tuple #[]) (by simp [results, Tryz.results182, go_sem]) rfl ?_
  exact ⟨rfl, rfl⟩
set_option maxRecDepth 100000 in
theorem d_WriteTxnMarkersRequestMarkerTopic (w : World) (x : Value) : Calls Tryz.prog 256 #[x] w fun e w' => e = .returned (.tuple #[]) ∧ w = w' := by
  go_enter Tryz.func256, Tryz.ntmps256
  go_wp2
  refine bodyPost_end (v := .tuple #[]) (by simp [results, Tryz.results256, go_sem]) rfl ?_
  exact ⟨rfl, rfl⟩
set_option maxRecDepth 100000 in
theorem d_WriteTxnMarkersRequestMarker (w : World) (x : Value) : Calls Tryz.prog 255 #[x] w fun e w' => e = .returned (.tuple #[]) ∧ w = w' := by
  go_enter Tryz.func255, Tryz.ntmps255
  go_wp2
  refine bodyPost_end (v := .tuple #[]) (by simp [results, Tryz.results255, go_sem]) rfl ?_
  exact ⟨rfl, rfl⟩
theorem info_one3 : (Tryz.prog.info? 21).map (fun i => (i.zero, i.size, decide (i.bytes ≤ 65536))) = some (some (.int .i32 0), 1, true) := by kernel_rfl
theorem vk_one3 {W : World} {K : Nat → Prop} {p : List Value → List T → Prop} {n : Int} (h : -2147483648 ≤ n ∧ n ≤ 2147483647) : VK W K 3 (-1) p [.int .i32 n] (.mk n [] false [] []) := ⟨n, rfl, h, rfl⟩
set_option maxRecDepth 100000 in
theorem info_WriteTxnMarkersRequestMarkerTopic : (Tryz.prog.info? 266).map (fun i => (i.zero, i.size, decide (i.bytes ≤ 65536))) = some (some (.agg #[.string ⟨#[]⟩, .slice none 0 0, .map none]), 3, true) := by kernel_rfl
set_option maxRecDepth 100000 in
theorem info_WriteTxnMarkersRequestMarker : (Tryz.prog.info? 180).map (fun i => (i.zero, i.size, decide (i.bytes ≤ 65536))) = some (some (.agg #[.int .i64 0, .int .i16 0, .bool false, .slice none 0 0, .int .i32 0, .int .i8 0, .map none]), 7, true) := by kernel_rfl
end Go.Proofs.YtdebdgofomnpoaaGreatDoor
/-
  A LOOP OF readFrom AS A DECLARATION OF ITS OWN: the code at a place of a function's body, and what a return says.
-/
namespace Go.Proofs.YtdebdgofomnpoaaGreatDoor
open Go.ChangeShapes Go.WideShapes Go.ChangeAt Go.RowKit

/-- the code at a place of a code: the way to it, 'true' being the second of two -/
def codeAt : List Bool → Code → Code
  | [], c => c
  | i :: r, .seq a b => codeAt r (bif i then b else a)
  | i :: r, .cond _ a b => codeAt r (bif i then b else a)
  | _ :: r, .loop c => codeAt r c
  | _ :: r, .block _ c => codeAt r c
  | _ :: r, .scope c => codeAt r c
  | _ :: _, c => c
theorem ret_post {P : Program} {fn : Func} {R : Ending → World → Prop} {a : Act} {w : World} {v : Value} {t : Tmp} (hr : fn.results = #[.tmp t]) (h1 : a.defers = []) (h2 : a.tmps.getD t undef = v) (hR : R (.returned v) w) : bodyPost P fn R .ret a w := by
  refine bodyPost_ret (v := v) ?_ h1 hR
  subst h2
  simp [results, hr]
theorem inBlock_ret {Q : Exit → Act → World → Prop} {n : Nat} {a : Act} {w : World} (h : Q .ret a w) : Exit.inBlock n Q .ret a w := h
theorem then_ret {K : Act → World → Prop} {Q : Exit → Act → World → Prop} {a : Act} {w : World} (h : Q .ret a w) : Exit.then K Q .ret a w := h
theorem RowRel.at_end {U1 w U : World} {rb : Nat} {G : Nat → Prop} {g : St → T × St} {s0 : St} {N m k : Nat} {zs : List Value} {ty : TypeId} {ofk : Int} {fs : List F} {v0 av : Value} (h : RowRel U1 w U rb G g s0 N m k zs ty ofk fs v0 av) (hk : ¬ k < N) : RowRel U1 w U rb G g s0 N m N zs ty ofk fs v0 av := by
  have e : k = N := by
    rcases h with ⟨h1, h2, _⟩ | ⟨h1, h2, _⟩ <;> omega
  subst e
  exact h
end Go.Proofs.YtdebdgofomnpoaaGreatDoor
