/-
  sort.Slice over the numbers of tags, as Tags.Each calls it.
-/
import Derived.Test.YtidebamgmbdnaaaMB6
import Derived.Test.YtidebamgmbdnaaaMB14
import Derived.Shelf.GgSortFunc.Whole
import Derived.Shelf.GgSortFunc.Tiny
import Derived.Sort.LotA
import Derived.Deep.QuietTactic
namespace Go.Proofs.Ytidebamgmbdnaaa
open Go.Shelf Go.RowKit Go.Lib Go.Sort

noncomputable def siT : TypeInfo := (Try.prog.info? 146).get (by kernel_rfl)
noncomputable def siE : TypeInfo := (Try.prog.info? 59).get (by kernel_rfl)
theorem siK (n : Nat) (h2 : 2 ≤ n) (ke : Nat) : Lib.swapperK n siE ke = 6 := by
  have a : siE.hasPointers = false := by kernel_rfl
  have b : siE.bytes = 4 := by kernel_rfl
  have c : (n == 0) = false := by simp; omega
  have d : (n == 1) = false := by simp; omega
  simp [Lib.swapperK, a, b, c, d]
set_option maxHeartbeats 2000000 in
/-- the comparing closure: it reads the boxed slice and two of the row's cells -/
theorem less_any (blk off c Bs size : Nat) (W : World) (G : Nat → Int) (hs : W.cell? ⟨Bs, 0, none⟩ = some (.slice (some ⟨blk, off, none⟩) size c))
    (hc : ∀ t, t < size → W.cell? ⟨blk, off + t, none⟩ = some (.int .u32 (G t))) (i j : Nat) (hi : i < size) (hj : j < size) :
    Calls Try.prog 111 #[.int .i64 i, .int .i64 j, .pointer (some ⟨Bs, 0, none⟩)] W fun e w' => e = .returned (.bool (decide (G i < G j))) ∧ ∃ q, w' = W.drewN q := by
  have ci := hc i hi
  have cj := hc j hj
  go_enter Try.func111, Try.ntmps111
  go_wp2
  go_quiet (fail)
  go_wp2
  go_ret
  exact ⟨rfl, nq, rfl⟩

/-- numbers as cells of a row -/
def nv (n : Nat) : Value := .int .u32 (n : Int)
theorem holds_nums {w : World} {g : Nat} {cur : Array Value} {e : TypeId} {ss : List Int} (hb : w.heap[g]? = some (.cells cur e (0, 0))) (ht : cur.toList.take ss.length = ss.map (Value.int .u32)) : Holds (Value.int .u32) w g 0 ss.toArray := by
  intro j hj
  have hj' : j < ss.length := by simpa using hj
  refine ⟨?_, by simp [World.frozen?, hb]⟩
  have h1 : (cur.toList.take ss.length)[j]? = (ss.map (Value.int .u32))[j]? := by rw [ht]
  rw [List.getElem?_take_of_lt hj'] at h1
  simp only [World.cell?, hb, Nat.zero_add]
  simp only [Option.isSome_none, Bool.false_eq_true, if_false]
  rw [← Array.getElem?_toList, h1]
  simp [hj']
theorem heap_nums {w : World} {g n : Nat} {os : Array Obj} {cur : Array Value} {e : TypeId} {fr : Nat × Nat} (d : Array Int) (hb : w.heap[g]? = some (.cells cur e fr)) :
    (grow (putRow (Value.int .u32) (Sort.ahead w n) g 0 d) os).heap[g]? = some (.cells (putCells (Value.int .u32) 0 d cur) e fr) := by
  have hg : g < w.heap.size := (Array.getElem?_eq_some_iff.1 hb).1
  rw [heap_grow_old _ _ (by simpa using hg)]
  simp [putRow, mapBlock, Sort.ahead, Array.getElem?_modify, hb, onCells]
theorem keep_nums {w : World} {g n : Nat} {os : Array Obj} (d : Array Int) : Keep [g] w (grow (putRow (Value.int .u32) (Sort.ahead w n) g 0 d) os) := by
  refine ⟨rfl, rfl, rfl, by simp, fun k hk hne => ?_⟩
  rw [heap_grow_old _ _ (by simpa using hk)]
  have : g ≠ k := fun e => hne (by simp [e])
  simp [putRow, mapBlock, Sort.ahead, Array.getElem?_modify, this]
theorem take_nums (cur : Array Value) (ts : List Int) (h : ts.length ≤ cur.size) : (putCells (Value.int .u32) 0 ts.toArray cur).toList.take ts.length = ts.map (Value.int .u32) := by
  apply List.ext_getElem?
  intro j
  by_cases hj : j < ts.length
  · rw [List.getElem?_take_of_lt hj, Array.getElem?_toList]
    simp [putCells, hj, show j < cur.size by omega]
  · rw [List.getElem?_take_eq_none (by omega), List.getElem?_eq_none (by simp; omega)]
theorem nums_sorted {ss K : List Int} {d' : Array Int} (hp : PermIn 0 ss.toArray.size ss.toArray d') (hs : SortedIn ltInt 0 ss.toArray.size d') (hK : K.Pairwise (· < ·)) (hperm : ss.Perm K) : d'.toList = K := by
  obtain ⟨hsz, _, hpm⟩ := hp
  have e1 : d'.extract 0 ss.toArray.size = d' := by rw [← hsz]; exact Array.extract_size
  rw [e1, Array.extract_size] at hpm
  refine List.Perm.eq_of_pairwise (le := fun x y => x ≤ y) (fun a b _ _ h1 h2 => by omega) ?_ (hK.imp (fun h => by omega)) (hpm.trans hperm)
  refine List.pairwise_iff_getElem.2 fun i j hi hj hij => ?_
  have hi' : i < d'.size := by simpa using hi
  have hj' : j < d'.size := by simpa using hj
  have := hs i j (Nat.zero_le _) hij (by omega)
  simp only [ltInt, decide_eq_false_iff_not, getElem!_pos d' i hi', getElem!_pos d' j hj'] at this
  simp only [Array.getElem_toList]
  omega
set_option maxHeartbeats 2000000 in
theorem tsort_any {g cap Bs : Nat} {ss K : List Int} {w : World} {cur : Array Value} {tb : TypeId} (hb : w.heap[g]? = some (.cells cur 59 (0, 0))) (ht : cur.toList.take ss.length = ss.map (Value.int .u32)) (hl : ss.length ≤ cur.size)
    (hbox : w.heap[Bs]? = some (.cells #[.slice (some ⟨g, 0, none⟩) ss.length cap] tb (0, 0))) (hne : Bs ≠ g) (hlen : ss.length < 4611686018427387904) (hK : K.Pairwise (· < ·)) (hperm : ss.Perm K) :
    Calls Try.prog 110 #[.iface 146 (.slice (some ⟨g, 0, none⟩) ss.length cap), .func (.func 111) #[] #[.pointer (some ⟨Bs, 0, none⟩)]] w fun e w' => e = .returned (.tuple #[]) ∧
      ∃ cur', w'.heap[g]? = some (.cells cur' 59 (0, 0)) ∧ cur'.toList.take ss.length = K.map (Value.int .u32) ∧ cur'.size = cur.size ∧ Keep [g] w w' := by
  have hblk : g < w.heap.size := (Array.getElem?_eq_some_iff.1 hb).1
  have hbs : Bs < w.heap.size := (Array.getElem?_eq_some_iff.1 hbox).1
  have hKl : K.length = ss.length := hperm.length_eq.symm
  by_cases h2 : 2 ≤ ss.length
  · have hH := holds_nums hb ht
    have cbox : w.cell? ⟨Bs, 0, none⟩ = some (.slice (some ⟨g, 0, none⟩) ss.length cap) := cellOf hbox 0 _ rfl
    have hsa : ss.toArray.size = ss.length := by simp
    have hless : LessReads Try.prog 111 #[.pointer (some ⟨Bs, 0, none⟩)] (Value.int .u32) ltInt g 0 ss.toArray.size w := by
      intro m os dk hs i j hi hj
      have e : sortWorld (Value.int .u32) w g 0 m dk os = putRow (Value.int .u32) (grow (Sort.ahead w m) os) g 0 dk := by
        unfold sortWorld; rw [putRow_grow _ (Sort.ahead w m) _ g 0 _ hblk]
      have hHg : Holds (Value.int .u32) (grow (Sort.ahead w m) os) g 0 ss.toArray := holds_grow _ _ _ g 0 _ hblk (holds_ahead _ _ _ _ _ _ hH)
      refine less_any g 0 cap Bs ss.toArray.size _ (fun t => dk[t]!) ?_ (fun t ht => ?_) i j hi hj
      · rw [e, cell?_putRow_other _ _ g 0 dk _ (Or.inl (by show Bs ≠ g; exact hne)), cell?_grow _ _ _ (by show Bs < w.heap.size; exact hbs), hsa]
        exact cbox
      · rw [e]; exact cell?_putRow _ _ g 0 ss.toArray dk hHg hs t (by omega)
    have hS := Any.sort_Slice_sorted Try.sl6 146 59 siT siE (by kernel_rfl) (by kernel_rfl) (by kernel_rfl) (by kernel_rfl) 10 (fun _ => by kernel_rfl) (by kernel_rfl) (fun _ => by kernel_rfl) (Value.int .u32) (fun _ => rfl) ltInt swo_ltInt 111 _
      (enters_of Try.func111 (by kernel_rfl) rfl) g 0 cap ss.toArray (by rw [hsa]; exact h2) (by rw [hsa]; exact hlen) 122 (by rw [siK _ (by rw [hsa]; exact h2)]; kernel_rfl) true
      (fun args W => run_callFunc_extern Try.func122 (by kernel_rfl) (by kernel_rfl) (by kernel_rfl) (e := Extern.ReflectliteSwapper.swap true) (by kernel_rfl) args W) _ hless hH hblk
    change Calls Try.prog 110 _ _ _ at hS
    rw [hsa] at hS
    refine hS.mono ?_
    rintro e w' ⟨he, d', n, os, hp, hso, rfl⟩
    rw [← hsa] at hp hso
    have hd := nums_sorted hp hso hK hperm
    have hd' : d' = K.toArray := by rw [← hd]
    subst hd'
    refine ⟨he, _, heap_nums _ hb, ?_, by simp [putCells], keep_nums _⟩
    rw [← hKl]
    exact take_nums cur K (by omega)
  · have hKss : ss = K := by
      match ss, K, hperm, hKl with
      | [], [], _, _ => rfl
      | [x], [y], hp, _ => simpa using hp
      | _ :: _ :: _, _, _, _ => simp at h2
      | [], _ :: _, _, h => simp at h
      | [_], [], _, h => simp at h
      | [_], _ :: _ :: _, _, h => simp at h
    have hS := Any.sort_Slice_tiny Try.sl6 146 59 siT siE (by kernel_rfl) (by kernel_rfl) (by kernel_rfl) (by kernel_rfl) 10 (fun _ => by kernel_rfl) (some ⟨g, 0, none⟩) ss.length cap (by omega) (if ss.length = 0 then 117 else 118) (by
      rcases Nat.eq_zero_or_pos ss.length with h | h
      · rw [h]; kernel_rfl
      · rw [show ss.length = 1 by omega]; kernel_rfl) (.func 111) #[] #[.pointer (some ⟨Bs, 0, none⟩)] w
    change Calls Try.prog 110 _ _ _ at hS
    refine hS.mono ?_
    rintro e w' ⟨he, os, rfl⟩
    refine ⟨he, cur, ?_, by rw [← hKss]; exact ht, rfl, rfl, rfl, rfl, by simp, fun k hk _ => heap_grow_old _ _ hk⟩
    rw [heap_grow_old _ _ hblk]
    exact hb
end Go.Proofs.Ytidebamgmbdnaaa
