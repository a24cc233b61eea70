/-
  A panic's word does not hang on the slots.
-/
import Derived.Test.YtdklogmmfnddiaaDoorMB13
import Derived.Test.YtdklogmmfnddiaaDoorMB5
import Derived.Deep.MidRow
namespace Go.Proofs.YtdklogmmfnddiaaDoor
open Go.ChangeShapes Go.WideShapes Go.ChangeAt Go.RowKit

/-- what a panic says does not hang on the slots -/
def PanOk (Q : Exit → Act → World → Prop) : Prop := ∀ (c : List PanicEntry) (a a' : Act) (w : World), a'.defers = a.defers → Q (.panic c) a w → Q (.panic c) a' w
theorem PanOk.then_ {K : Act → World → Prop} {Q : Exit → Act → World → Prop} (h : PanOk Q) : PanOk (Exit.then K Q) := h
theorem PanOk.inBlock {n : Nat} {Q : Exit → Act → World → Prop} (h : PanOk Q) : PanOk (Exit.inBlock n Q) := h
theorem PanOk.post {P : Program} {fn : Func} {R : Ending → World → Prop} : PanOk (bodyPost P fn R) := fun _ _ _ _ e h => ⟨e.trans h.1, h.2⟩
theorem PanOk.put {Q : Exit → Act → World → Prop} (h : PanOk Q) {d : Option Tmp} {v : Value} (c : List PanicEntry) (a : Act) (w : World) (hq : Q (.panic c) (a.put d v) w) : Q (.panic c) a w := h c _ _ w (by cases d <;> rfl) hq
end Go.Proofs.YtdklogmmfnddiaaDoor
/-
  SIXTEEN OCTETS read and stored as a whole: the box that they lie in, the struct that they go into.
-/
namespace Go.Proofs.YtdklogmmfnddiaaDoor
open Go.ChangeShapes Go.WideShapes Go.ChangeAt Go.RowKit

theorem setAll_cells (b : Nat) : ∀ (vs : List Value) (o : Nat) (w : World), setAll w b o vs = w.setCells b o vs
  | [], _, _ => rfl
  | v :: r, o, w => by rw [setAll, World.setCells, setAll_cells b r]
theorem info16 {n : Nat} (h : n = 16) : (Tryd.prog.info? 89).map (·.size) = some n := by
  subst h
  kernel_rfl
theorem one16 (x : Bs) : (x.map bv).toArray.all (·.oneCell') = true := by
  rw [Array.all_eq_true_iff_forall_mem]
  intro v hv
  simp only [List.mem_toArray, List.mem_map] at hv
  obtain ⟨b, _, rfl⟩ := hv
  rfl
theorem uuid_len (s : St) : ((rdUuid s).1.map bv).length = 16 := by rw [List.length_map]; exact pad16_length _
theorem box_there (w : World) {arr : Array Value} {ty : TypeId} {n : Nat} (h : n = arr.size) : (w.alloc (.cells arr ty)).there w.heap.size 0 n := fun j hj => by
  subst h
  have hb := heap_alloc_new w (.cells arr ty)
  refine ⟨?_, freeOf hb _⟩
  rw [cellOf hb (0 + j) _ (by rw [Nat.zero_add]; exact Array.getElem?_eq_getElem hj)]
  rfl
theorem box_keep (w : World) {arr : Array Value} {ty : TypeId} {cs : List Value} (h : cs.length = arr.size) : Keep [] w ((w.alloc (.cells arr ty)).setCells w.heap.size 0 cs) := by
  have hb : (w.alloc (.cells arr ty)).heap[w.heap.size]? = some (.cells ([] ++ arr.toList ++ []).toArray ty (0, 0)) := by simpa using heap_alloc_new w (.cells arr ty)
  have hk := (setAll_heap (pre := []) (xs := cs) (by simpa using h) hb).2
  rw [List.length_nil, setAll_cells] at hk
  exact Keep.fresh (B := []) (((keep_box (A := []) _).weaken (by simp)).trans hk) (by simp)
theorem box_range (w : World) {arr : Array Value} {ty : TypeId} {cs : List Value} (h : cs.length = arr.size) : ((w.alloc (.cells arr ty)).setCells w.heap.size 0 cs).rangeAt w.heap.size 0 cs :=
  World.rangeAt_setCells_same _ _ _ _ (box_there w h)
/-- a store of many cells, of a list of them -/
theorem wpList_store_list {P : Program} {ops : Array Oper} {rest : List Oper} {op : Oper} {a : Act} {w : World} {Q : Exit → Act → World → Prop} (hgd : op.guard = none) (ty : TypeId) (x y : Operand) (ho : op.op = .store ty x y)
    (b o : Nat) (cs : List Value) (hx : a.eval x = .pointer (some ⟨b, o, none⟩)) (hy : a.eval y = .agg cs.toArray)
    (ht : w.there b o cs.length) (hi : (P.info? ty).map (·.size) = some cs.length) (h1 : cs.toArray.all (·.oneCell') = true)
    (h : wpList P ops Q rest (a.put op.dst undef) (w.setCells b o cs)) : wpList P ops Q (op :: rest) a w :=
  wpList_store_mid hgd ty x y ho b o cs.toArray hx hy (by simpa using ht) (by simpa using hi) h1 (by simpa using h)
namespace ElSt
variable {w U : World} {row rb : Nat} {G : Nat → Prop} {s : St} {pre cd rest post : List Value} {ty : TypeId} {fs : List F} {td : List T}
theorem there_ {olds : List Value} (h : ElSt w U row rb G s pre cd (olds ++ rest) post ty fs td) {o n : Nat} (ho : o = pre.length + cd.length) (hn : n = olds.length) : U.there row o n := fun j hj => by
  subst ho hn
  refine ⟨?_, freeOf h.blk _⟩
  rw [cellOf h.blk _ (olds[j]) ?_]
  · rfl
  · rw [List.getElem?_toArray, Nat.add_assoc, List.getElem?_append_right (by omega), List.getElem?_append_right (by omega), List.append_assoc, List.getElem?_append_left (by omega)]
    rw [show pre.length + (cd.length + j) - pre.length - cd.length = j by omega]
    exact List.getElem?_eq_getElem hj
theorem putsC {xs olds : List Value} {f : F} {t : T} (h : ElSt w U row rb G s pre cd (olds ++ rest) post ty fs td) {o : Nat} (ho : o = pre.length + cd.length) (hl : xs.length = olds.length) (hv : VF U (Nw G w rb U) f xs t) : ElSt w (U.setCells row o xs) row rb G s pre (cd ++ xs) rest post ty (fs ++ [f]) (td ++ [t]) := by
  have h1 := h.puts ho hl hv
  rw [setAll_cells] at h1
  exact h1
end ElSt
end Go.Proofs.YtdklogmmfnddiaaDoor
/-
  Floating numbers are stored; the shape of octets that were read.
-/
namespace Go.Proofs.YtdklogmmfnddiaaDoor
open Go.ChangeShapes Go.WideShapes Go.ChangeAt Go.RowKit

theorem run_store_f64 : ∀ (a : Addr) (m : Mode) (n : Nat) (W : World), (store a (.float .f64 n) m).run Tryd.prog W = stored Tryd.prog W a (.float .f64 n) m := fun a m _ W => run_store Tryd.prog W a _ m rfl
theorem OS.shape {w : World} {G : Nat → Prop} {v : Value} {o : Option Bs} (h : OS w G v o) : ∃ a n c, v = .slice a n c := by
  obtain ⟨ao, cap, rfl⟩ := RS.shape h.1
  exact ⟨_, _, _, rfl⟩
end Go.Proofs.YtdklogmmfnddiaaDoor
/-
  Reader.Uint16.
-/
namespace Go.Proofs.YtdklogmmfnddiaaDoor
open Go.ChangeShapes Go.WideShapes Go.ChangeAt Go.RowKit

theorem u16_val (b0 b1 : UInt8) (r : Bs) (bad : Bool) : ((rdN 2 (b0 :: b1 :: r, bad)).1 : Int) = 256 * (b0.toNat : Int) + b1.toNat := by
  simp only [rdN, List.length_cons, if_neg (show ¬ r.length + 1 + 1 < 2 by omega), List.take_succ_cons, List.take_zero, be, List.foldl_cons, List.foldl_nil]
  omega
theorem rdU_range2 (s : St) : 0 ≤ ((rdN 2 s).1 : Int) ∧ ((rdN 2 s).1 : Int) ≤ 65535 := by
  have h := rdN_lt 2 s
  omega
end Go.Proofs.YtdklogmmfnddiaaDoor
/-
  A struct's cells within a block; fields taken apart.
-/
namespace Go.Proofs.YtdklogmmfnddiaaDoor
open Go.ChangeShapes Go.WideShapes Go.ChangeAt Go.RowKit

/-- a struct's cells within a block -/
def Pt (W : World) (pb po : Nat) (c : List Value) : Prop := ∃ pre post ty, W.heap[pb]? = some (.cells (pre ++ (c ++ post)).toArray ty (0, 0)) ∧ pre.length = po
theorem Pt.keep {A : List Nat} {W W' : World} {pb po : Nat} {c : List Value} (h : Pt W pb po c) (k : Keep A W W') (ha : pb ∉ A) : Pt W' pb po c := by
  obtain ⟨pre, post, ty, h1, h2⟩ := h
  exact ⟨pre, post, ty, (k.block pb (World.heap_lt h1) ha).trans h1, h2⟩
theorem Pt.cell {W : World} {pb po : Nat} {c : List Value} (h : Pt W pb po c) {o j : Nat} {v : Value} (ho : o = po + j) (hv : c[j]? = some v) : W.cell? ⟨pb, o, none⟩ = some v := by
  obtain ⟨pre, post, ty, h1, h2⟩ := h
  refine cellOf h1 o _ ?_
  have hj := (List.getElem?_eq_some_iff.1 hv).1
  subst ho h2
  simp [List.getElem?_append_right, List.getElem?_append_left hj, hv]
theorem Pt.lt {W : World} {pb po : Nat} {c : List Value} (h : Pt W pb po c) : pb < W.heap.size := by
  obtain ⟨pre, post, ty, h1, h2⟩ := h
  exact World.heap_lt h1
theorem Pt.whole {W : World} {pb po : Nat} {c : List Value} (h : Pt W pb po c) {o j : Nat} {v : Value} (ho : o = po + j) (hv : c[j]? = some v) : ∃ arr ty, W.heap[pb]? = some (.cells arr ty (0, 0)) ∧ arr[o]? = some v := by
  obtain ⟨pre, post, ty, h1, h2⟩ := h
  have hj := (List.getElem?_eq_some_iff.1 hv).1
  refine ⟨_, ty, h1, ?_⟩
  subst ho h2
  simp [List.getElem?_append_right, List.getElem?_append_left hj, hv]

section
variable {W : World} {G : Nat → Prop} {a b nul c d e : Int} {sub : List F} {cs : List Value} {t : T}
theorem vf_bool_inv (h : VF W G (.mk 0 a b nul c d e sub) cs t) : ∃ x : Bool, cs = [.bool x] ∧ t = .mk (if x then 1 else 0) [] false [] [] := h
theorem vf_i8_inv (h : VF W G (.mk 1 a b nul c d e sub) cs t) : ∃ n : Int, cs = [.int .i8 n] ∧ (-128 ≤ n ∧ n ≤ 127) ∧ t = .mk n [] false [] [] := h
theorem vf_i16_inv (h : VF W G (.mk 2 a b nul c d e sub) cs t) : ∃ n : Int, cs = [.int .i16 n] ∧ (-32768 ≤ n ∧ n ≤ 32767) ∧ t = .mk n [] false [] [] := h
theorem vf_i32_inv (h : VF W G (.mk 3 a b nul c d e sub) cs t) : ∃ n : Int, cs = [.int .i32 n] ∧ (-2147483648 ≤ n ∧ n ≤ 2147483647) ∧ t = .mk n [] false [] [] := h
theorem vf_i64_inv (h : VF W G (.mk 4 a b nul c d e sub) cs t) : ∃ n : Int, cs = [.int .i64 n] ∧ (-9223372036854775808 ≤ n ∧ n ≤ 9223372036854775807) ∧ t = .mk n [] false [] [] := h
theorem vf_8 (h : VF W G (.mk 8 a b nul c d e sub) cs t) : if 0 ≤ nul then ∃ v o, cs = [v] ∧ PS W G v o ∧ t = nstrT o else ∃ x : Bs, cs = [str x] ∧ t = .mk 0 x false [] [] := by
  have h' : VK W G 8 nul (VFs W G sub) cs t := h
  simp only [VK] at h'
  rw [if_neg (by decide), if_neg (by decide), if_neg (by decide), if_neg (by decide), if_neg (by decide), if_neg (by decide), if_neg (by decide), if_pos True.intro] at h'
  exact h'
theorem vf_str_inv (hn : nul < 0) (h : VF W G (.mk 8 a b nul c d e sub) cs t) : ∃ x : Bs, cs = [.string ⟨x.toArray⟩] ∧ t = .mk 0 x false [] [] := by
  have h' := vf_8 h
  rw [if_neg (by omega)] at h'
  exact h'
theorem vf_nstr_inv (hn : 0 ≤ nul) (h : VF W G (.mk 8 a b nul c d e sub) cs t) : ∃ v o, cs = [v] ∧ PS W G v o ∧ t = nstrT o := by
  have h' := vf_8 h
  rw [if_pos hn] at h'
  exact h'
theorem vf_uuid_inv (h : VF W G (.mk 7 a b nul c d e sub) cs t) : ∃ x : Bs, x.length = 16 ∧ cs = x.map bv ∧ t = .mk 0 x false [] [] := h
theorem vf_part_inv (h : VF W G (.mk 10 a b nul c d e sub) cs t) : ∃ cs' v l u, cs = cs' ++ [v] ∧ VFs W G sub cs' l ∧ MP W G v u ∧ t = .mk 0 [] false l u := h
theorem vf_f64_inv (h : VF W G (.mk 6 a b nul c d e sub) cs t) : ∃ n : Nat, n < 18446744073709551616 ∧ cs = [.float .f64 n] ∧ t = .mk (sgn 8 n) [] false [] [] := h
theorem vf_oct_inv (h : VF W G (.mk 9 a b nul c d e sub) cs t) : ∃ v o, cs = [v] ∧ OS W G v o ∧ t = octT o := h
theorem vf_list_inv (h : VF W G (.mk 11 a b nul c d e sub) cs t) : ∃ v, cs = [v] ∧ VL W G (VK W G e (-1) (VFs W G sub)) (wdK e (wdFs sub)) v t := h
end
theorem RW.part {W : World} {G : Nat → Prop} {v : Value} {css : List (List Value)} {m n : Nat} (h : RW W G v n css.flatten) (hn : css.length = n) (hm : ∀ c ∈ css, c.length = m) {i : Nat} (hi : i < css.length) : ∃ row cap, v = .slice (some ⟨row, 0, none⟩) n cap ∧ n ≤ cap ∧ G row ∧ Pt W row (i * m) css[i] := by
  subst hn
  rcases h with ⟨h0, _⟩ | ⟨h0, row, cap, extra, ty, h1, h2, h3, h4⟩
  · omega
  · refine ⟨row, cap, h1, h2, h3, (css.take i).flatten, (css.drop (i + 1)).flatten ++ extra, ty, ?_, ?_⟩
    · have e : css = css.take i ++ css[i] :: css.drop (i + 1) := by rw [← List.drop_eq_getElem_cons hi, List.take_append_drop]
      have e2 : css.flatten = (css.take i).flatten ++ (css[i] ++ (css.drop (i + 1)).flatten) := by
        have e3 := congrArg List.flatten e
        rw [List.flatten_append, List.flatten_cons] at e3
        exact e3
      have e4 : css.flatten ++ extra = (css.take i).flatten ++ (css[i] ++ ((css.drop (i + 1)).flatten ++ extra)) := by rw [e2, List.append_assoc, List.append_assoc]
      rw [h4, e4]
    · rw [flatten_len _ m (fun c hc => hm c (List.mem_of_mem_take hc)), List.length_take, Nat.min_eq_left (by omega), Nat.mul_comm]
theorem small_text {N : Nat} {o : Option Bs} (h : small N (nstrT o)) : ∀ x, o = some x → x.length ≤ N := by
  rintro x rfl
  exact h.1
theorem small_oct {N : Nat} {o : Option Bs} (h : small N (octT o)) : ∀ x, o = some x → x.length ≤ N := by
  rintro x rfl
  exact h.1
section
variable {W : World} {G : Nat → Prop} {nul : Int} {p : List Value → List T → Prop} {cs : List Value} {t : T}
theorem vk_i8_inv (h : VK W G 1 nul p cs t) : ∃ n : Int, cs = [.int .i8 n] ∧ (-128 ≤ n ∧ n ≤ 127) ∧ t = .mk n [] false [] [] := h
theorem vk_i16_inv (h : VK W G 2 nul p cs t) : ∃ n : Int, cs = [.int .i16 n] ∧ (-32768 ≤ n ∧ n ≤ 32767) ∧ t = .mk n [] false [] [] := h
theorem vk_i32_inv (h : VK W G 3 nul p cs t) : ∃ n : Int, cs = [.int .i32 n] ∧ (-2147483648 ≤ n ∧ n ≤ 2147483647) ∧ t = .mk n [] false [] [] := h
theorem vk_i64_inv (h : VK W G 4 nul p cs t) : ∃ n : Int, cs = [.int .i64 n] ∧ (-9223372036854775808 ≤ n ∧ n ≤ 9223372036854775807) ∧ t = .mk n [] false [] [] := h
theorem vk_str_inv (h : VK W G 8 (-1) p cs t) : ∃ x : Bs, cs = [.string ⟨x.toArray⟩] ∧ t = .mk 0 x false [] [] := by
  have h2 : ∃ x : Bs, cs = [str x] ∧ t = .mk 0 x false [] [] := by
    simp only [VK] at h
    simpa using h
  exact h2
end
end Go.Proofs.YtdklogmmfnddiaaDoor
/-
  Sixteen octets in the middle of a struct, read as octets.
-/
namespace Go.Proofs.YtdklogmmfnddiaaDoor
open Go.ChangeShapes Go.WideShapes Go.ChangeAt Go.RowKit

theorem rb_cells2 {W : World} {b : Nat} {pre post : List Value} {x : Bs} {t : TypeId} (h : W.heap[b]? = some (.cells (pre ++ x.map bv ++ post).toArray t (0, 0))) : RB W (fun k => k = b) (.slice (some ⟨b, pre.length, none⟩) x.length x.length) x := by
  refine ⟨_, _, rfl, Nat.le_refl _, (fun h => by cases h), fun a ha => ?_⟩
  cases ha
  refine ⟨fun _ => rfl, fun i hi => ⟨rfl, ?_⟩⟩
  simp only [World.cell?, h, Option.isSome_none, Bool.false_eq_true, if_false]
  have hi' : i < x.length := by simpa using hi
  rw [List.getElem?_toArray, List.append_assoc, List.getElem?_append_right (by omega), List.getElem?_append_left (by simp; omega)]
  rw [Nat.add_sub_cancel_left]
  exact List.getElem?_eq_getElem hi
theorem Pt.rb {W : World} {pb po : Nat} {c : List Value} (h : Pt W pb po c) {o j : Nat} {x : Bs} (ho : o = po + j) (hx : (c.drop j).take x.length = x.map bv) (hl : j + x.length ≤ c.length) : RB W (fun k => k = pb) (.slice (some ⟨pb, o, none⟩) x.length x.length) x := by
  obtain ⟨pre, post, ty, h1, h2⟩ := h
  have e : c = c.take j ++ (x.map bv ++ (c.drop j).drop x.length) := by
    rw [← hx, List.take_append_drop, List.take_append_drop]
  have hb : W.heap[pb]? = some (.cells ((pre ++ c.take j) ++ x.map bv ++ ((c.drop j).drop x.length ++ post)).toArray ty (0, 0)) := by
    rw [h1]
    congr 3
    conv => lhs; rw [e]
    simp only [List.append_assoc]
  have h3 := rb_cells2 hb
  have hlen : (pre ++ c.take j).length = o := by
    rw [List.length_append, List.length_take, h2, ho]
    omega
  rw [hlen] at h3
  exact h3
theorem vf_u16_inv {W : World} {G : Nat → Prop} {a b nul c d e : Int} {sub : List F} {cs : List Value} {t : T} (h : VF W G (.mk 5 a b nul c d e sub) cs t) : ∃ n : Int, cs = [.int .u16 n] ∧ (0 ≤ n ∧ n ≤ 65535) ∧ t = .mk n [] false [] [] := h
end Go.Proofs.YtdklogmmfnddiaaDoor
/-
  A struct within a struct: its cells.
-/
namespace Go.Proofs.YtdklogmmfnddiaaDoor
open Go.ChangeShapes Go.WideShapes Go.ChangeAt Go.RowKit

theorem Pt.mid {W : World} {pb po : Nat} {c : List Value} (h : Pt W pb po c) (j m : Nat) {o : Nat} {cs : List Value} (ho : o = po + j) (hj : j ≤ c.length) (hcs : (c.drop j).take m = cs) : Pt W pb o cs := by
  obtain ⟨pre, post, ty, h1, h2⟩ := h
  refine ⟨pre ++ c.take j, (c.drop j).drop m ++ post, ty, ?_, ?_⟩
  · rw [h1, ← hcs]
    have e : c = c.take j ++ ((c.drop j).take m ++ (c.drop j).drop m) := by rw [List.take_append_drop, List.take_append_drop]
    conv => lhs; rw [e]
    simp
  · subst ho h2
    simp
    omega
end Go.Proofs.YtdklogmmfnddiaaDoor
