/-
  sort.Slice over the numbers of tags, as Tags.Each calls it.
-/
import Derived.Test.YtbdlilalihgdeaaDoorMB6
import Derived.Test.YtbdlilalihgdeaaDoorMB14
import Derived.Shelf.GgSortFunc.Whole
import Derived.Shelf.GgSortFunc.Tiny
import Derived.Sort.LotA
import Derived.Deep.QuietTactic
namespace Go.Proofs.YtbdlilalihgdeaaDoor
open Go.Shelf Go.RowKit Go.Lib Go.Sort

noncomputable def siE : TypeInfo := (Tryd.prog.info? 52).get (by kernel_rfl)
theorem siK (n : Nat) (h2 : 2 ≤ n) (ke : Nat) : Lib.swapperK n siE ke = 6 := by
  have a : siE.hasPointers = false := by kernel_rfl
  have b : siE.bytes = 4 := by kernel_rfl
  have c : (n == 0) = false := by simp; omega
  have d : (n == 1) = false := by simp; omega
  simp [Lib.swapperK, a, b, c, d]
/-- numbers as cells of a row -/
def nv (n : Nat) : Value := .int .u32 (n : Int)
theorem holds_nums {w : World} {g : Nat} {cur : Array Value} {e : TypeId} {ss : List Int} (hb : w.heap[g]? = some (.cells cur e (0, 0))) (ht : cur.toList.take ss.length = ss.map (Value.int .u32)) : Holds (Value.int .u32) w g 0 ss.toArray := by
  intro j hj
  have hj' : j < ss.length := by simpa using hj
  refine ⟨?_, by simp [World.frozen?, hb]⟩
  have h1 : (cur.toList.take ss.length)[j]? = (ss.map (Value.int .u32))[j]? := by rw [ht]
  rw [List.getElem?_take_of_lt hj'] at h1
  simp only [World.cell?, hb, Nat.zero_add]
  simp only [Option.isSome_none, Bool.false_eq_true, if_false]
  rw [← Array.getElem?_toList, h1]
  simp [hj']
theorem heap_nums {w : World} {g n : Nat} {os : Array Obj} {cur : Array Value} {e : TypeId} {fr : Nat × Nat} (d : Array Int) (hb : w.heap[g]? = some (.cells cur e fr)) :
    (grow (putRow (Value.int .u32) (Sort.ahead w n) g 0 d) os).heap[g]? = some (.cells (putCells (Value.int .u32) 0 d cur) e fr) := by
  have hg : g < w.heap.size := (Array.getElem?_eq_some_iff.1 hb).1
  rw [heap_grow_old _ _ (by simpa using hg)]
  simp [putRow, mapBlock, Sort.ahead, Array.getElem?_modify, hb, onCells]
theorem keep_nums {w : World} {g n : Nat} {os : Array Obj} (d : Array Int) : Keep [g] w (grow (putRow (Value.int .u32) (Sort.ahead w n) g 0 d) os) := by
  refine ⟨rfl, rfl, rfl, by simp, fun k hk hne => ?_⟩
  rw [heap_grow_old _ _ (by simpa using hk)]
  have : g ≠ k := fun e => hne (by simp [e])
  simp [putRow, mapBlock, Sort.ahead, Array.getElem?_modify, this]
theorem take_nums (cur : Array Value) (ts : List Int) (h : ts.length ≤ cur.size) : (putCells (Value.int .u32) 0 ts.toArray cur).toList.take ts.length = ts.map (Value.int .u32) := by
  apply List.ext_getElem?
  intro j
  by_cases hj : j < ts.length
  · rw [List.getElem?_take_of_lt hj, Array.getElem?_toList]
    simp [putCells, hj, show j < cur.size by omega]
  · rw [List.getElem?_take_eq_none (by omega), List.getElem?_eq_none (by simp; omega)]
theorem nums_sorted {ss K : List Int} {d' : Array Int} (hp : PermIn 0 ss.toArray.size ss.toArray d') (hs : SortedIn ltInt 0 ss.toArray.size d') (hK : K.Pairwise (· < ·)) (hperm : ss.Perm K) : d'.toList = K := by
  obtain ⟨hsz, _, hpm⟩ := hp
  have e1 : d'.extract 0 ss.toArray.size = d' := by rw [← hsz]; exact Array.extract_size
  rw [e1, Array.extract_size] at hpm
  refine List.Perm.eq_of_pairwise (le := fun x y => x ≤ y) (fun a b _ _ h1 h2 => by omega) ?_ (hK.imp (fun h => by omega)) (hpm.trans hperm)
  refine List.pairwise_iff_getElem.2 fun i j hi hj hij => ?_
  have hi' : i < d'.size := by simpa using hi
  have hj' : j < d'.size := by simpa using hj
  have := hs i j (Nat.zero_le _) hij (by omega)
  simp only [ltInt, decide_eq_false_iff_not, getElem!_pos d' i hi', getElem!_pos d' j hj'] at this
  simp only [Array.getElem_toList]
  omega
end Go.Proofs.YtbdlilalihgdeaaDoor
