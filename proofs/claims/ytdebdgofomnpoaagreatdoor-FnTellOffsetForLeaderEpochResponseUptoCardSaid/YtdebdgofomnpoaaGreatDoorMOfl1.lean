/-
  The fields of OffsetForLeaderEpochResponse, as plain lists.
-/
import Derived.Test.YtdebdgofomnpoaaGreatDoorMB1
import Derived.Test.YtdebdgofomnpoaaGreatDoorMB13
import Derived.Test.YtdebdgofomnpoaaGreatDoorMB17
import Derived.Deep.CutBlock
import Derived.Deep.DeepCutAuto
namespace Go.Proofs.YtdebdgofomnpoaaGreatDoor

def q_OffsetForLeaderEpochResponseTopicPartition : List F := [.mk 2 0 (-1) (-1) (-1) 0 0 [], .mk 3 0 (-1) (-1) (-1) 0 0 [], .mk 3 1 (-1) (-1) (-1) (-1) 0 [], .mk 4 0 (-1) (-1) (-1) (-1) 0 []]
def q_OffsetForLeaderEpochResponseTopic : List F := [.mk 8 0 (-1) (-1) (-1) 0 0 [], .mk 11 0 (-1) (-1) (-1) 0 10 q_OffsetForLeaderEpochResponseTopicPartition]
def q_OffsetForLeaderEpochResponse : List F := [.mk 3 2 (-1) (-1) (-1) 0 0 [], .mk 11 0 (-1) (-1) (-1) 0 10 q_OffsetForLeaderEpochResponseTopic]
end Go.Proofs.YtdebdgofomnpoaaGreatDoor
/-
  OffsetForLeaderEpochResponse: reading.
-/
namespace Go.Proofs.YtdebdgofomnpoaaGreatDoor
open Go.ChangeShapes Go.WideShapes Go.ChangeAt Go.RowKit

set_option maxRecDepth 100000 in
theorem d_OffsetForLeaderEpochResponseTopicPartition {w : World} {b o : Nat} (c2 : w.cell? ⟨b, o + 2, none⟩ = some (.int .i32 0)) (f2 : w.frozen? ⟨b, o + 2, none⟩ = false) (c3 : w.cell? ⟨b, o + 3, none⟩ = some (.int .i64 0)) (f3 : w.frozen? ⟨b, o + 3, none⟩ = false) : Calls Tryz.prog 245 #[.pointer (some ⟨b, o, none⟩)] w fun e w' => e = .returned (.tuple #[]) ∧ ((w.setCell ⟨b, o + 2, none⟩ (.int .i32 (-1))).setCell ⟨b, o + 3, none⟩ (.int .i64 (-1))) = w' := by
  go_enter Tryz.func245, Tryz.ntmps245
  go_wp2
  exact bodyPost_end (v := .tuple #[]) (by simp [results, Tryz.results245, go_sem]) rfl ⟨rfl, rfl⟩
theorem d_OffsetForLeaderEpochResponse (w : World) (x : Value) : Calls Tryz.prog 167 #[x] w fun e w' => e = .returned (.tuple #[]) ∧ w = w' := by
  go_enter Tryz.func167, Tryz.ntmps167
  go_wp2
  refine bodyPost_end (v := .tuple #[]) (by simp [results, Tryz.results167, go_sem]) rfl ?_
  exact ⟨rfl, rfl⟩
theorem d_OffsetForLeaderEpochResponseTopic (w : World) (x : Value) : Calls Tryz.prog 244 #[x] w fun e w' => e = .returned (.tuple #[]) ∧ w = w' := by
  go_enter Tryz.func244, Tryz.ntmps244
  go_wp2
  refine bodyPost_end (v := .tuple #[]) (by simp [results, Tryz.results244, go_sem]) rfl ?_
  exact ⟨rfl, rfl⟩
set_option maxRecDepth 100000 in
theorem info_OffsetForLeaderEpochResponseTopicPartition : (Tryz.prog.info? 259).map (fun i => (i.zero, i.size, decide (i.bytes ≤ 65536))) = some (some (.agg #[.int .i16 0, .int .i32 0, .int .i32 0, .int .i64 0, .map none]), 5, true) := by kernel_rfl
set_option maxRecDepth 100000 in
theorem info_OffsetForLeaderEpochResponseTopic : (Tryz.prog.info? 152).map (fun i => (i.zero, i.size, decide (i.bytes ≤ 65536))) = some (some (.agg #[.string ⟨#[]⟩, .slice none 0 0, .map none]), 3, true) := by kernel_rfl
end Go.Proofs.YtdebdgofomnpoaaGreatDoor
/-
  A LOOP OF readFrom AS A DECLARATION OF ITS OWN: the code at a place of a function's body, and what a return says.
-/
namespace Go.Proofs.YtdebdgofomnpoaaGreatDoor
open Go.ChangeShapes Go.WideShapes Go.ChangeAt Go.RowKit

/-- the code at a place of a code: the way to it, 'true' being the second of two -/
def codeAt : List Bool → Code → Code
  | [], c => c
  | i :: r, .seq a b => codeAt r (bif i then b else a)
  | i :: r, .cond _ a b => codeAt r (bif i then b else a)
  | _ :: r, .loop c => codeAt r c
  | _ :: r, .block _ c => codeAt r c
  | _ :: r, .scope c => codeAt r c
  | _ :: _, c => c
theorem ret_post {P : Program} {fn : Func} {R : Ending → World → Prop} {a : Act} {w : World} {v : Value} {t : Tmp} (hr : fn.results = #[.tmp t]) (h1 : a.defers = []) (h2 : a.tmps.getD t undef = v) (hR : R (.returned v) w) : bodyPost P fn R .ret a w := by
  refine bodyPost_ret (v := v) ?_ h1 hR
  subst h2
  simp [results, hr]
theorem inBlock_ret {Q : Exit → Act → World → Prop} {n : Nat} {a : Act} {w : World} (h : Q .ret a w) : Exit.inBlock n Q .ret a w := h
theorem then_ret {K : Act → World → Prop} {Q : Exit → Act → World → Prop} {a : Act} {w : World} (h : Q .ret a w) : Exit.then K Q .ret a w := h
theorem RowRel.at_end {U1 w U : World} {rb : Nat} {G : Nat → Prop} {g : St → T × St} {s0 : St} {N m k : Nat} {zs : List Value} {ty : TypeId} {ofk : Int} {fs : List F} {v0 av : Value} (h : RowRel U1 w U rb G g s0 N m k zs ty ofk fs v0 av) (hk : ¬ k < N) : RowRel U1 w U rb G g s0 N m N zs ty ofk fs v0 av := by
  have e : k = N := by
    rcases h with ⟨h1, h2, _⟩ | ⟨h1, h2, _⟩ <;> omega
  subst e
  exact h
end Go.Proofs.YtdebdgofomnpoaaGreatDoor
