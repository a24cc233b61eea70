/-
  SIXTEEN OCTETS read and stored as a whole: the box that they lie in, the struct that they go into.
-/
import Derived.Test.YtdebdgofomnpoaaGreatDoorMB13
import Derived.Test.YtdebdgofomnpoaaGreatDoorMB1
import Derived.Test.YtdebdgofomnpoaaGreatDoorMB17
import Derived.Deep.MidRow
import Derived.Deep.CutBlock
import Derived.Deep.DeepCutAuto
namespace Go.Proofs.YtdebdgofomnpoaaGreatDoor
open Go.ChangeShapes Go.WideShapes Go.ChangeAt Go.RowKit

theorem setAll_cells (b : Nat) : ∀ (vs : List Value) (o : Nat) (w : World), setAll w b o vs = w.setCells b o vs
  | [], _, _ => rfl
  | v :: r, o, w => by rw [setAll, World.setCells, setAll_cells b r]
theorem info16 {n : Nat} (h : n = 16) : (Tryz.prog.info? 113).map (·.size) = some n := by
  subst h
  kernel_rfl
theorem one16 (x : Bs) : (x.map bv).toArray.all (·.oneCell') = true := by
  rw [Array.all_eq_true_iff_forall_mem]
  intro v hv
  simp only [List.mem_toArray, List.mem_map] at hv
  obtain ⟨b, _, rfl⟩ := hv
  rfl
theorem uuid_len (s : St) : ((rdUuid s).1.map bv).length = 16 := by rw [List.length_map]; exact pad16_length _
theorem box_there (w : World) {arr : Array Value} {ty : TypeId} {n : Nat} (h : n = arr.size) : (w.alloc (.cells arr ty)).there w.heap.size 0 n := fun j hj => by
  subst h
  have hb := heap_alloc_new w (.cells arr ty)
  refine ⟨?_, freeOf hb _⟩
  rw [cellOf hb (0 + j) _ (by rw [Nat.zero_add]; exact Array.getElem?_eq_getElem hj)]
  rfl
theorem box_keep (w : World) {arr : Array Value} {ty : TypeId} {cs : List Value} (h : cs.length = arr.size) : Keep [] w ((w.alloc (.cells arr ty)).setCells w.heap.size 0 cs) := by
  have hb : (w.alloc (.cells arr ty)).heap[w.heap.size]? = some (.cells ([] ++ arr.toList ++ []).toArray ty (0, 0)) := by simpa using heap_alloc_new w (.cells arr ty)
  have hk := (setAll_heap (pre := []) (xs := cs) (by simpa using h) hb).2
  rw [List.length_nil, setAll_cells] at hk
  exact Keep.fresh (B := []) (((keep_box (A := []) _).weaken (by simp)).trans hk) (by simp)
theorem box_range (w : World) {arr : Array Value} {ty : TypeId} {cs : List Value} (h : cs.length = arr.size) : ((w.alloc (.cells arr ty)).setCells w.heap.size 0 cs).rangeAt w.heap.size 0 cs :=
  World.rangeAt_setCells_same _ _ _ _ (box_there w h)
/-- a store of many cells, of a list of them -/
theorem wpList_store_list {P : Program} {ops : Array Oper} {rest : List Oper} {op : Oper} {a : Act} {w : World} {Q : Exit → Act → World → Prop} (hgd : op.guard = none) (ty : TypeId) (x y : Operand) (ho : op.op = .store ty x y)
    (b o : Nat) (cs : List Value) (hx : a.eval x = .pointer (some ⟨b, o, none⟩)) (hy : a.eval y = .agg cs.toArray)
    (ht : w.there b o cs.length) (hi : (P.info? ty).map (·.size) = some cs.length) (h1 : cs.toArray.all (·.oneCell') = true)
    (h : wpList P ops Q rest (a.put op.dst undef) (w.setCells b o cs)) : wpList P ops Q (op :: rest) a w :=
  wpList_store_mid hgd ty x y ho b o cs.toArray hx hy (by simpa using ht) (by simpa using hi) h1 (by simpa using h)
namespace ElSt
variable {w U : World} {row rb : Nat} {G : Nat → Prop} {s : St} {pre cd rest post : List Value} {ty : TypeId} {fs : List F} {td : List T}
theorem there_ {olds : List Value} (h : ElSt w U row rb G s pre cd (olds ++ rest) post ty fs td) {o n : Nat} (ho : o = pre.length + cd.length) (hn : n = olds.length) : U.there row o n := fun j hj => by
  subst ho hn
  refine ⟨?_, freeOf h.blk _⟩
  rw [cellOf h.blk _ (olds[j]) ?_]
  · rfl
  · rw [List.getElem?_toArray, Nat.add_assoc, List.getElem?_append_right (by omega), List.getElem?_append_right (by omega), List.append_assoc, List.getElem?_append_left (by omega)]
    rw [show pre.length + (cd.length + j) - pre.length - cd.length = j by omega]
    exact List.getElem?_eq_getElem hj
theorem putsC {xs olds : List Value} {f : F} {t : T} (h : ElSt w U row rb G s pre cd (olds ++ rest) post ty fs td) {o : Nat} (ho : o = pre.length + cd.length) (hl : xs.length = olds.length) (hv : VF U (Nw G w rb U) f xs t) : ElSt w (U.setCells row o xs) row rb G s pre (cd ++ xs) rest post ty (fs ++ [f]) (td ++ [t]) := by
  have h1 := h.puts ho hl hv
  rw [setAll_cells] at h1
  exact h1
end ElSt
end Go.Proofs.YtdebdgofomnpoaaGreatDoor
/-
  The fields of AlterPartitionRequest, as plain lists.
-/
namespace Go.Proofs.YtdebdgofomnpoaaGreatDoor

def q_AlterPartitionRequestTopicPartitionNewEpochISR : List F := [.mk 3 0 (-1) (-1) (-1) 0 0 [], .mk 4 0 (-1) (-1) (-1) (-1) 0 []]
def q_AlterPartitionRequestTopicPartition : List F := [.mk 3 0 (-1) (-1) (-1) 0 0 [], .mk 3 0 (-1) (-1) (-1) 0 0 [], .mk 11 0 2 (-1) (-1) 0 3 [], .mk 11 3 (-1) (-1) (-1) 0 10 q_AlterPartitionRequestTopicPartitionNewEpochISR, .mk 1 1 (-1) (-1) (-1) 0 0 [], .mk 3 0 (-1) (-1) (-1) 0 0 []]
def q_AlterPartitionRequestTopic : List F := [.mk 8 0 1 (-1) (-1) 0 0 [], .mk 7 2 (-1) (-1) (-1) 0 0 [], .mk 11 0 (-1) (-1) (-1) 0 10 q_AlterPartitionRequestTopicPartition]
def q_AlterPartitionRequest : List F := [.mk 3 0 (-1) (-1) (-1) 0 0 [], .mk 4 0 (-1) (-1) (-1) (-1) 0 [], .mk 11 0 (-1) (-1) (-1) 0 10 q_AlterPartitionRequestTopic]
end Go.Proofs.YtdebdgofomnpoaaGreatDoor
/-
  AlterPartitionRequest: reading.
-/
namespace Go.Proofs.YtdebdgofomnpoaaGreatDoor
open Go.ChangeShapes Go.WideShapes Go.ChangeAt Go.RowKit

set_option maxRecDepth 100000 in
theorem d_AlterPartitionRequestTopicPartitionNewEpochISR {w : World} {b o : Nat} (c1 : w.cell? ⟨b, o + 1, none⟩ = some (.int .i64 0)) (f1 : w.frozen? ⟨b, o + 1, none⟩ = false) : Calls Tryz.prog 273 #[.pointer (some ⟨b, o, none⟩)] w fun e w' => e = .returned (.tuple #[]) ∧ (w.setCell ⟨b, o + 1, none⟩ (.int .i64 (-1))) = w' := by
  go_enter Tryz.func273, Tryz.ntmps273
  go_wp2
  exact bodyPost_end (v := .tuple #[]) (by simp [results, Tryz.results273, go_sem]) rfl ⟨rfl, rfl⟩
set_option maxRecDepth 100000 in
theorem d_AlterPartitionRequestTopicPartition (w : World) (x : Value) : Calls Tryz.prog 272 #[x] w fun e w' => e = .returned (.tuple #[]) ∧ w = w' := by
  go_enter Tryz.func272, Tryz.ntmps272
  go_wp2
  refine bodyPost_end (v := .tuple #[]) (by simp [results, Tryz.results272, go_sem]) rfl ?_
  exact ⟨rfl, rfl⟩
set_option maxRecDepth 100000 in
theorem d_AlterPartitionRequestTopic (w : World) (x : Value) : Calls Tryz.prog 271 #[x] w fun e w' => e = .returned (.tuple #[]) ∧ w = w' := by
  go_enter Tryz.func271, Tryz.ntmps271
  go_wp2
  refine bodyPost_end (v := .tuple #[]) (by simp [results, Tryz.results271, go_sem]) rfl ?_
  exact ⟨rfl, rfl⟩
set_option maxRecDepth 100000 in
theorem d_AlterPartitionRequest {w : World} {b : Nat} (c2 : w.cell? ⟨b, 2, none⟩ = some (.int .i64 (-1))) (f2 : w.frozen? ⟨b, 2, none⟩ = false) : Calls Tryz.prog 197 #[.pointer (some ⟨b, 0, none⟩)] w fun e w' => e = .returned (.tuple #[]) ∧ w = w' := by
  have e2 := setCell_self c2
  go_enter Tryz.func197, Tryz.ntmps197
  go_wp2
  refine bodyPost_end (v := .tuple #[]) (by simp [results, Tryz.results197, go_sem]) rfl ⟨rfl, rfl⟩
set_option maxRecDepth 100000 in
theorem apr_default0 {w : World} {b : Nat} (hb : w.heap[b]? = some (.cells #[.int .i16 0, .int .i32 0, .int .i64 0, .slice none 0 0, .map none] 203 (0, 0))) : Calls Tryz.prog 197 #[.pointer (some ⟨b, 0, none⟩)] w fun e w' => e = .returned (.tuple #[]) ∧ (w.setCell ⟨b, 2, none⟩ (.int .i64 (-1))) = w' := by
  have c2 := cellOf hb 2 _ rfl
  have f2 := freeOf hb 2
  clear hb
  go_enter Tryz.func197, Tryz.ntmps197
  go_wp2
  exact bodyPost_end (v := .tuple #[]) (by simp [results, Tryz.results197, go_sem]) rfl ⟨rfl, rfl⟩
theorem info_one3 : (Tryz.prog.info? 21).map (fun i => (i.zero, i.size, decide (i.bytes ≤ 65536))) = some (some (.int .i32 0), 1, true) := by kernel_rfl
theorem vk_one3 {W : World} {K : Nat → Prop} {p : List Value → List T → Prop} {n : Int} (h : -2147483648 ≤ n ∧ n ≤ 2147483647) : VK W K 3 (-1) p [.int .i32 n] (.mk n [] false [] []) := ⟨n, rfl, h, rfl⟩
set_option maxRecDepth 100000 in
theorem info_AlterPartitionRequestTopicPartitionNewEpochISR : (Tryz.prog.info? 283).map (fun i => (i.zero, i.size, decide (i.bytes ≤ 65536))) = some (some (.agg #[.int .i32 0, .int .i64 0, .map none]), 3, true) := by kernel_rfl
set_option maxRecDepth 100000 in
theorem info_AlterPartitionRequestTopicPartition : (Tryz.prog.info? 280).map (fun i => (i.zero, i.size, decide (i.bytes ≤ 65536))) = some (some (.agg #[.int .i32 0, .int .i32 0, .slice none 0 0, .slice none 0 0, .int .i8 0, .int .i32 0, .map none]), 7, true) := by kernel_rfl
set_option maxRecDepth 100000 in
theorem info_AlterPartitionRequestTopic : (Tryz.prog.info? 208).map (fun i => (i.zero, i.size, decide (i.bytes ≤ 65536))) = some (some (.agg #[.string ⟨#[]⟩, .int .u8 0, .int .u8 0, .int .u8 0, .int .u8 0, .int .u8 0, .int .u8 0, .int .u8 0, .int .u8 0, .int .u8 0, .int .u8 0, .int .u8 0, .int .u8 0, .int .u8 0, .int .u8 0, .int .u8 0, .int .u8 0, .slice none 0 0, .map none]), 19, true) := by kernel_rfl
end Go.Proofs.YtdebdgofomnpoaaGreatDoor
/-
  A LOOP OF readFrom AS A DECLARATION OF ITS OWN: the code at a place of a function's body, and what a return says.
-/
namespace Go.Proofs.YtdebdgofomnpoaaGreatDoor
open Go.ChangeShapes Go.WideShapes Go.ChangeAt Go.RowKit

/-- the code at a place of a code: the way to it, 'true' being the second of two -/
def codeAt : List Bool → Code → Code
  | [], c => c
  | i :: r, .seq a b => codeAt r (bif i then b else a)
  | i :: r, .cond _ a b => codeAt r (bif i then b else a)
  | _ :: r, .loop c => codeAt r c
  | _ :: r, .block _ c => codeAt r c
  | _ :: r, .scope c => codeAt r c
  | _ :: _, c => c
theorem ret_post {P : Program} {fn : Func} {R : Ending → World → Prop} {a : Act} {w : World} {v : Value} {t : Tmp} (hr : fn.results = #[.tmp t]) (h1 : a.defers = []) (h2 : a.tmps.getD t undef = v) (hR : R (.returned v) w) : bodyPost P fn R .ret a w := by
  refine bodyPost_ret (v := v) ?_ h1 hR
  subst h2
  simp [results, hr]
theorem inBlock_ret {Q : Exit → Act → World → Prop} {n : Nat} {a : Act} {w : World} (h : Q .ret a w) : Exit.inBlock n Q .ret a w := h
theorem then_ret {K : Act → World → Prop} {Q : Exit → Act → World → Prop} {a : Act} {w : World} (h : Q .ret a w) : Exit.then K Q .ret a w := h
theorem RowRel.at_end {U1 w U : World} {rb : Nat} {G : Nat → Prop} {g : St → T × St} {s0 : St} {N m k : Nat} {zs : List Value} {ty : TypeId} {ofk : Int} {fs : List F} {v0 av : Value} (h : RowRel U1 w U rb G g s0 N m k zs ty ofk fs v0 av) (hk : ¬ k < N) : RowRel U1 w U rb G g s0 N m N zs ty ofk fs v0 av := by
  have e : k = N := by
    rcases h with ⟨h1, h2, _⟩ | ⟨h1, h2, _⟩ <;> omega
  subst e
  exact h
end Go.Proofs.YtdebdgofomnpoaaGreatDoor
