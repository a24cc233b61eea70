/-
  Tags.Set.
-/
import Derived.Test.YtedconnhligkeaaDoorTagsP
import Derived.Maps.Own
namespace Go.Proofs.YtedconnhligkeaaDoor
open Go.ChangeShapes Go.WideShapes Go.ChangeAt Go.RowKit

theorem set_self {c : Array Value} {i : Nat} {v : Value} (h : c[i]? = some v) : c.setIfInBounds i v = c := by
  obtain ⟨hi, rfl⟩ := Array.getElem?_eq_some_iff.1 h
  simp [Array.setIfInBounds, hi]
theorem map_eq0 (w : World) : (Go.binOp .eql 55 (.map none) (.map none)).run Tryd.prog w = .ok (.bool true) w := by kernel_rfl
theorem map_eq1 (r : Nat) (w : World) : (Go.binOp .eql 55 (.map (some r)) (.map none)).run Tryd.prog w = .ok (.bool false) w := by kernel_rfl
set_option maxHeartbeats 400000 in
set_option maxRecDepth 100000 in
theorem tset_any {tb i n k : Nat} {w : World} {v x : Value} {l : List (Nat × Value)} {c : Array Value} {t : TypeId} (hb : w.heap[tb]? = some (.cells c t (0, 0))) (hc : c[i]? = some v) (hm : MO w v n l) (hk : k < 4294967296) (hn : n ≤ 17179869184) :
    Calls Tryd.prog 46 #[.pointer (some ⟨tb, i, none⟩), .int .u32 (k : Int), x] w fun e w' => e = .returned (.tuple #[]) ∧ ∃ v', MO w' v' (n + 1) (putK l k x) ∧ w'.heap[tb]? = some (.cells (c.setIfInBounds i v') t (0, 0)) ∧ (∀ r ∈ mblk v', r ∈ mblk v ∨ w.heap.size ≤ r) ∧ Keep (tb :: mblk v) w w' := by
  obtain ⟨hr, hlt, ⟨rfl, rfl⟩ | ⟨r, rfl, hown⟩⟩ := hm
  · have c0 : w.cell? ⟨tb, i, none⟩ = some (.map none) := cellOf hb i _ hc
    have f0 := freeOf hb i
    have hmm := @run_makeMap Tryd.prog
    have heq := map_eq0 w
    have htb : tb < w.heap.size := (Array.getElem?_eq_some_iff.1 hb).1
    have hown : ((w.setCell ⟨tb, i, none⟩ (.map (some w.heap.size))).alloc (.map #[] 0)).ownsMap Tryd.prog 48 tR w.heap.size n (tD []) := by
      have h := World.ownsMap_made (w.setCell ⟨tb, i, none⟩ (.map (some w.heap.size))) Tryd.prog 48 tR
      rw [show (w.setCell ⟨tb, i, none⟩ (.map (some w.heap.size))).heap.size = w.heap.size from by simp [World.setCell]] at h
      exact h.mono (Nat.zero_le n)
    have hs1 := heap_set (i := i) hb (.map (some w.heap.size))
    have ks1 : Keep [tb] w (w.setCell ⟨tb, i, none⟩ (.map (some w.heap.size))) := (Keep.refl _ _).setCell (.inl (by simp)) _
    have HS1 : Hid _ := hs1
    clear hs1
    go_enter Tryd.func46, Tryd.ntmps46
    go_wp2_with (at_mapUpdate; go_loud (refine wpList_mapUpdate_own _ rfl _ _ _ 55 rfl 48 22 (Maps.int_keyed Tryd.underlying48) Tryd.underlying55 tR w.heap.size n _ rfl hown (by unfold maxLen; omega) _ _ (.int .u32 (k : Int)) rfl rfl (Maps.keyOf_int_mk Tryd.underlying48 (wf_u32 hk)) (.held x) [] rfl ?_; intro w1 hown1 hgrow1))
    refine bodyPost_end (v := .tuple #[]) (by simp [results, Tryd.results46, go_sem]) rfl ⟨rfl, .map (some w.heap.size), ⟨rising_putK hr k x, ?_, .inr ⟨_, rfl, ?_⟩⟩, ?_, by simp [mblk], ?_⟩
    · intro y hy
      rcases mem_putK hy with rfl | h
      · exact hk
      · simp at h
    · rw [← tD_put]; exact hown1
    · have e := hgrow1.block tb (by simp [World.setCell]; omega) (by simp; omega)
      rw [e]
      exact ((keep_box (A := []) _).block tb (by simp [World.setCell]; omega) (by simp)).trans HS1.out
    · refine ((ks1.alloc _).grown (row := some w.heap.size) hgrow1 (by simp)).weaken (by simp [mblk])
  · have hb0 := hb
    have c0 : w.cell? ⟨tb, i, none⟩ = some (.map (some r)) := cellOf hb i _ hc
    have hcc : Hid _ := hc
    clear hc
    have f0 := freeOf hb i
    have heq := map_eq1 r w
    go_enter Tryd.func46, Tryd.ntmps46
    go_wp2_with (at_mapUpdate; go_loud (refine wpList_mapUpdate_own _ rfl _ _ _ 55 rfl 48 22 (Maps.int_keyed Tryd.underlying48) Tryd.underlying55 tR r n _ rfl hown (by unfold maxLen; omega) _ _ (.int .u32 (k : Int)) rfl rfl (Maps.keyOf_int_mk Tryd.underlying48 (wf_u32 hk)) (.held x) [] rfl ?_; intro w1 hown1 hgrow1))
    have htb : tb < w.heap.size := (Array.getElem?_eq_some_iff.1 hb).1
    have hne : tb ≠ r := fun e => by
      obtain ⟨es, clock, h1, _⟩ := hown
      rw [e, h1] at hb
      cases hb
    refine bodyPost_end (v := .tuple #[]) (by simp [results, Tryd.results46, go_sem]) rfl ⟨rfl, .map (some r), ⟨rising_putK hr k x, ?_, .inr ⟨_, rfl, ?_⟩⟩, ?_, fun _ h => .inl h, ?_⟩
    · intro y hy
      rcases mem_putK hy with rfl | h
      · exact hk
      · exact hlt y h
    · rw [← tD_put]; exact hown1
    · have e := hgrow1.block tb htb (by simpa using hne)
      rw [e, hb, set_self hcc.out]
    · exact (Keep.refl _ _).grown (row := some r) hgrow1 (by simp [mblk])
end Go.Proofs.YtedconnhligkeaaDoor
