/-
  Reader.Uuid.
-/
import Derived.Test.YtedconnhligkeaaDoorRdText
namespace Go.Proofs.YtedconnhligkeaaDoor
open Go.ChangeShapes Go.WideShapes Go.ChangeAt Go.RowKit

def pad16 (x : Bs) : Bs := x.take 16 ++ List.replicate (16 - x.length) 0
def rdUuid (s : St) : Bs × St := (pad16 (rdSpan 16 s).1, (rdSpan 16 s).2)
theorem pad16_length (x : Bs) : (pad16 x).length = 16 := by simp [pad16]; omega
theorem span_body : Tryd.f47.body.isNone = false := by kernel_rfl
theorem span_name : (Tryd.f47.name == "runtime.NumGoroutine") = false := by kernel_rfl
theorem rdSpan_le (s : St) : (rdSpan 16 s).1.length ≤ 16 := by
  unfold rdSpan
  split
  · simp
  · simp; omega
/-- cells set one behind the other -/
def setAll (w : World) (b : Nat) : Nat → List Value → World
  | _, [] => w
  | i, x :: xs => setAll (w.setCell ⟨b, i, none⟩ x) b (i + 1) xs
theorem setAll_heap {b : Nat} {t : TypeId} {z : Nat × Nat} : ∀ {xs old : List Value} {w : World} {pre post : List Value}, xs.length = old.length → w.heap[b]? = some (.cells (pre ++ old ++ post).toArray t z) →
    (setAll w b pre.length xs).heap[b]? = some (.cells (pre ++ xs ++ post).toArray t z) ∧ Keep [b] w (setAll w b pre.length xs)
  | [], [], w, pre, post, _, h => ⟨h, Keep.refl _ _⟩
  | x :: xs, y :: old, w, pre, post, hl, h => by
    have h1 := heap_set (i := pre.length) h x
    have e : ((pre ++ y :: old ++ post).toArray.setIfInBounds pre.length x) = ((pre ++ [x]) ++ old ++ post).toArray := by simp
    rw [e] at h1
    have ih := setAll_heap (xs := xs) (old := old) (pre := pre ++ [x]) (post := post) (by simpa using hl) h1
    simp only [List.length_append, List.length_cons, List.length_nil, Nat.zero_add] at ih
    refine ⟨?_, ?_⟩
    · show (setAll (w.setCell ⟨b, pre.length, none⟩ x) b (pre.length + 1) xs).heap[b]? = _
      rw [ih.1]
      simp
    · exact ((Keep.refl _ _).setCell (.inl (by simp)) _).trans ih.2
theorem Rd.keepA {w w' : World} {b : Nat} {G : Nat → Prop} {s : St} (h : Rd w b G s) (hG : There G w) (hb : b < w.heap.size) {A : List Nat} (hk : Keep A w w') (hA : ∀ k ∈ A, ¬ G k) (hbA : b ∉ A) : Rd w' b G s := by
  obtain ⟨v, h1, h2⟩ := h
  exact ⟨v, (hk.block b hb hbA).trans h1, h2.keepF (sameOn_of hk hG (fun k hk' hm => hA k hm hk')) (fun _ h => h)⟩
theorem Rd.keepW {w w' : World} {b : Nat} {G : Nat → Prop} {s : St} (h : Rd w b G s) (hG : There G w) (hb : b < w.heap.size) (hk : Keep [] w w') : Rd w' b G s := by
  obtain ⟨v, h1, h2⟩ := h
  exact ⟨v, (hk.block b hb (by simp)).trans h1, h2.keepF (hG.same hk) (fun _ h => h)⟩
end Go.Proofs.YtedconnhligkeaaDoor
