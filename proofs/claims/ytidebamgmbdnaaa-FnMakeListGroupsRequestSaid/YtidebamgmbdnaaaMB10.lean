/-
  Reader.UnsafeString, CompactString, NullableString, CompactNullableString, each both ways.
-/
import Derived.Test.YtidebamgmbdnaaaMB6
import Derived.Test.YtidebamgmbdnaaaMB7
import Derived.Maps.Own
namespace Go.Proofs.Ytidebamgmbdnaaa
open Go.ChangeShapes Go.WideShapes Go.ChangeAt Go.RowKit

def rdCStr (s : St) : Bs × St := rdSpan ((rdUv s).1 - 1) (rdUv s).2
def rdNStr (s : St) : Option Bs × St := if (rdI 2 s).1 < 0 then (none, (rdI 2 s).2) else (some (rdStr s).1, (rdStr s).2)
def rdCNStr (s : St) : Option Bs × St := if (rdUv s).1 = 0 then (none, (rdUv s).2) else (some (rdCStr s).1, (rdCStr s).2)
/-- a pointer to a text, or nil -/
def PS (w : World) (G : Nat → Prop) (v : Value) (o : Option Bs) : Prop :=
  (v = .pointer none ∧ o = none) ∨ ∃ k l, v = .pointer (some ⟨k, 0, none⟩) ∧ o = some l ∧ G k ∧ w.heap[k]? = some (.cells #[str l] 9 (0, 0))
theorem PS.keepF {w w' : World} {F G : Nat → Prop} {v : Value} {o : Option Bs} (h : PS w F v o) (hs : SameOn F w w') (hg : ∀ k, F k → G k) : PS w' G v o := by
  rcases h with h | ⟨k, l, h1, h2, h3, h4⟩
  · exact .inl h
  · exact .inr ⟨k, l, h1, h2, hg k h3, (hs k h3).trans h4⟩

end Go.Proofs.Ytidebamgmbdnaaa
/-
  Reader.NullableString, CompactNullableString, each both ways.
-/
namespace Go.Proofs.Ytidebamgmbdnaaa
open Go.ChangeShapes Go.WideShapes Go.ChangeAt Go.RowKit

end Go.Proofs.Ytidebamgmbdnaaa
/-
  Reader.Uuid.
-/
namespace Go.Proofs.Ytidebamgmbdnaaa
open Go.ChangeShapes Go.WideShapes Go.ChangeAt Go.RowKit

def pad16 (x : Bs) : Bs := x.take 16 ++ List.replicate (16 - x.length) 0
def rdUuid (s : St) : Bs × St := (pad16 (rdSpan 16 s).1, (rdSpan 16 s).2)
theorem pad16_length (x : Bs) : (pad16 x).length = 16 := by simp [pad16]; omega
theorem rdSpan_le (s : St) : (rdSpan 16 s).1.length ≤ 16 := by
  unfold rdSpan
  split
  · simp
  · simp; omega
/-- cells set one behind the other -/
def setAll (w : World) (b : Nat) : Nat → List Value → World
  | _, [] => w
  | i, x :: xs => setAll (w.setCell ⟨b, i, none⟩ x) b (i + 1) xs
theorem setAll_heap {b : Nat} {t : TypeId} {z : Nat × Nat} : ∀ {xs old : List Value} {w : World} {pre post : List Value}, xs.length = old.length → w.heap[b]? = some (.cells (pre ++ old ++ post).toArray t z) →
    (setAll w b pre.length xs).heap[b]? = some (.cells (pre ++ xs ++ post).toArray t z) ∧ Keep [b] w (setAll w b pre.length xs)
  | [], [], w, pre, post, _, h => ⟨h, Keep.refl _ _⟩
  | x :: xs, y :: old, w, pre, post, hl, h => by
    have h1 := heap_set (i := pre.length) h x
    have e : ((pre ++ y :: old ++ post).toArray.setIfInBounds pre.length x) = ((pre ++ [x]) ++ old ++ post).toArray := by simp
    rw [e] at h1
    have ih := setAll_heap (xs := xs) (old := old) (pre := pre ++ [x]) (post := post) (by simpa using hl) h1
    simp only [List.length_append, List.length_cons, List.length_nil, Nat.zero_add] at ih
    refine ⟨?_, ?_⟩
    · show (setAll (w.setCell ⟨b, pre.length, none⟩ x) b (pre.length + 1) xs).heap[b]? = _
      rw [ih.1]
      simp
    · exact ((Keep.refl _ _).setCell (.inl (by simp)) _).trans ih.2
end Go.Proofs.Ytidebamgmbdnaaa
/-
  Tags.Set.
-/
namespace Go.Proofs.Ytidebamgmbdnaaa
open Go.ChangeShapes Go.WideShapes Go.ChangeAt Go.RowKit

theorem set_self {c : Array Value} {i : Nat} {v : Value} (h : c[i]? = some v) : c.setIfInBounds i v = c := by
  obtain ⟨hi, rfl⟩ := Array.getElem?_eq_some_iff.1 h
  simp [Array.setIfInBounds, hi]
theorem map_eq0 (w : World) : (Go.binOp .eql 51 (.map none) (.map none)).run Try.prog w = .ok (.bool true) w := by kernel_rfl
theorem map_eq1 (r : Nat) (w : World) : (Go.binOp .eql 51 (.map (some r)) (.map none)).run Try.prog w = .ok (.bool false) w := by kernel_rfl
set_option maxHeartbeats 400000 in
set_option maxRecDepth 100000 in
theorem tset_any {tb i n k : Nat} {w : World} {v x : Value} {l : List (Nat × Value)} {c : Array Value} {t : TypeId} (hb : w.heap[tb]? = some (.cells c t (0, 0))) (hc : c[i]? = some v) (hm : MO w v n l) (hk : k < 4294967296) (hn : n ≤ 17179869184) :
    Calls Try.prog 64 #[.pointer (some ⟨tb, i, none⟩), .int .u32 (k : Int), x] w fun e w' => e = .returned (.tuple #[]) ∧ ∃ v', MO w' v' (n + 1) (putK l k x) ∧ w'.heap[tb]? = some (.cells (c.setIfInBounds i v') t (0, 0)) ∧ (∀ r ∈ mblk v', r ∈ mblk v ∨ w.heap.size ≤ r) ∧ Keep (tb :: mblk v) w w' := by
  obtain ⟨hr, hlt, ⟨rfl, rfl⟩ | ⟨r, rfl, hown⟩⟩ := hm
  · have c0 : w.cell? ⟨tb, i, none⟩ = some (.map none) := cellOf hb i _ hc
    have f0 := freeOf hb i
    have hmm := @run_makeMap Try.prog
    have heq := map_eq0 w
    have htb : tb < w.heap.size := (Array.getElem?_eq_some_iff.1 hb).1
    have hown : ((w.setCell ⟨tb, i, none⟩ (.map (some w.heap.size))).alloc (.map #[] 0)).ownsMap Try.prog 59 tR w.heap.size n (tD []) := by
      have h := World.ownsMap_made (w.setCell ⟨tb, i, none⟩ (.map (some w.heap.size))) Try.prog 59 tR
      rw [show (w.setCell ⟨tb, i, none⟩ (.map (some w.heap.size))).heap.size = w.heap.size from by simp [World.setCell]] at h
      exact h.mono (Nat.zero_le n)
    have hs1 := heap_set (i := i) hb (.map (some w.heap.size))
    have ks1 : Keep [tb] w (w.setCell ⟨tb, i, none⟩ (.map (some w.heap.size))) := (Keep.refl _ _).setCell (.inl (by simp)) _
    have HS1 : Hid _ := hs1
    clear hs1
    go_enter Try.func64, Try.ntmps64
    go_wp2_with (at_mapUpdate; go_loud (refine wpList_mapUpdate_own _ rfl _ _ _ 51 rfl 59 22 (Maps.int_keyed Try.underlying59) Try.underlying51 tR w.heap.size n _ rfl hown (by unfold maxLen; omega) _ _ (.int .u32 (k : Int)) rfl rfl (Maps.keyOf_int_mk Try.underlying59 (wf_u32 hk)) (.held x) [] rfl ?_; intro w1 hown1 hgrow1))
    refine bodyPost_end (v := .tuple #[]) (by simp [results, Try.results64, go_sem]) rfl ⟨rfl, .map (some w.heap.size), ⟨rising_putK hr k x, ?_, .inr ⟨_, rfl, ?_⟩⟩, ?_, by simp [mblk], ?_⟩
    · intro y hy
      rcases mem_putK hy with rfl | h
      · exact hk
      · simp at h
    · rw [← tD_put]; exact hown1
    · have e := hgrow1.block tb (by simp [World.setCell]; omega) (by simp; omega)
      rw [e]
      exact ((keep_box (A := []) _).block tb (by simp [World.setCell]; omega) (by simp)).trans HS1.out
    · refine ((ks1.alloc _).grown (row := some w.heap.size) hgrow1 (by simp)).weaken (by simp [mblk])
  · have hb0 := hb
    have c0 : w.cell? ⟨tb, i, none⟩ = some (.map (some r)) := cellOf hb i _ hc
    have hcc : Hid _ := hc
    clear hc
    have f0 := freeOf hb i
    have heq := map_eq1 r w
    go_enter Try.func64, Try.ntmps64
    go_wp2_with (at_mapUpdate; go_loud (refine wpList_mapUpdate_own _ rfl _ _ _ 51 rfl 59 22 (Maps.int_keyed Try.underlying59) Try.underlying51 tR r n _ rfl hown (by unfold maxLen; omega) _ _ (.int .u32 (k : Int)) rfl rfl (Maps.keyOf_int_mk Try.underlying59 (wf_u32 hk)) (.held x) [] rfl ?_; intro w1 hown1 hgrow1))
    have htb : tb < w.heap.size := (Array.getElem?_eq_some_iff.1 hb).1
    have hne : tb ≠ r := fun e => by
      obtain ⟨es, clock, h1, _⟩ := hown
      rw [e, h1] at hb
      cases hb
    refine bodyPost_end (v := .tuple #[]) (by simp [results, Try.results64, go_sem]) rfl ⟨rfl, .map (some r), ⟨rising_putK hr k x, ?_, .inr ⟨_, rfl, ?_⟩⟩, ?_, fun _ h => .inl h, ?_⟩
    · intro y hy
      rcases mem_putK hy with rfl | h
      · exact hk
      · exact hlt y h
    · rw [← tD_put]; exact hown1
    · have e := hgrow1.block tb htb (by simpa using hne)
      rw [e, hb, set_self hcc.out]
    · exact (Keep.refl _ _).grown (row := some r) hgrow1 (by simp [mblk])
end Go.Proofs.Ytidebamgmbdnaaa
