/-
  Reader.UnsafeString, CompactString, NullableString, CompactNullableString, each both ways.
-/
import Derived.Test.YtdklogmmfnddiaaDoorMB6
import Derived.Test.YtdklogmmfnddiaaDoorMB7
import Derived.Maps.Own
namespace Go.Proofs.YtdklogmmfnddiaaDoor
open Go.ChangeShapes Go.WideShapes Go.ChangeAt Go.RowKit

def rdCStr (s : St) : Bs × St := rdSpan ((rdUv s).1 - 1) (rdUv s).2
def rdNStr (s : St) : Option Bs × St := if (rdI 2 s).1 < 0 then (none, (rdI 2 s).2) else (some (rdStr s).1, (rdStr s).2)
def rdCNStr (s : St) : Option Bs × St := if (rdUv s).1 = 0 then (none, (rdUv s).2) else (some (rdCStr s).1, (rdCStr s).2)
/-- a pointer to a text, or nil -/
def PS (w : World) (G : Nat → Prop) (v : Value) (o : Option Bs) : Prop :=
  (v = .pointer none ∧ o = none) ∨ ∃ k l, v = .pointer (some ⟨k, 0, none⟩) ∧ o = some l ∧ G k ∧ w.heap[k]? = some (.cells #[str l] 9 (0, 0))
theorem Rd.lt' {w : World} {b : Nat} {G : Nat → Prop} {s : St} (h : Rd w b G s) : b < w.heap.size := by
  obtain ⟨v, h1, _⟩ := h
  exact (Array.getElem?_eq_some_iff.1 h1).1
theorem PS.keepF {w w' : World} {F G : Nat → Prop} {v : Value} {o : Option Bs} (h : PS w F v o) (hs : SameOn F w w') (hg : ∀ k, F k → G k) : PS w' G v o := by
  rcases h with h | ⟨k, l, h1, h2, h3, h4⟩
  · exact .inl h
  · exact .inr ⟨k, l, h1, h2, hg k h3, (hs k h3).trans h4⟩

end Go.Proofs.YtdklogmmfnddiaaDoor
/-
  Reader.NullableString, CompactNullableString, each both ways.
-/
namespace Go.Proofs.YtdklogmmfnddiaaDoor
open Go.ChangeShapes Go.WideShapes Go.ChangeAt Go.RowKit

/-- a text in a box of its own -/
theorem ps_box {G : Nat → Prop} {b : Nat} {s : St} {w w2 : World} {l : Bs} (h : Rd w2 b G s) (hb : b < w2.heap.size) (hG : There G w2) (k : Keep [b] w w2) :
    PS (w2.alloc (.cells #[str l] 9)) (fun k => w.heap.size ≤ k ∧ k < (w2.alloc (.cells #[str l] 9)).heap.size) (.pointer (some ⟨w2.heap.size, 0, none⟩)) (some l) ∧ Rd (w2.alloc (.cells #[str l] 9)) b G s ∧ Keep [b] w (w2.alloc (.cells #[str l] 9)) := by
  refine ⟨.inr ⟨_, l, rfl, rfl, ⟨k.size, by simp⟩, heap_alloc_new _ _⟩, ?_, k.alloc _⟩
  obtain ⟨v, h1, h2, h3⟩ := h
  exact ⟨v, ((keep_box (A := []) _).block b hb (by simp)).trans h1, h2.keepF (hG.same (keep_box _)) (fun _ h => h), h3⟩
theorem Rd.lt {w : World} {b : Nat} {G : Nat → Prop} {s : St} (h : Rd w b G s) : b < w.heap.size := by
  obtain ⟨v, h1, _⟩ := h
  exact (Array.getElem?_eq_some_iff.1 h1).1
end Go.Proofs.YtdklogmmfnddiaaDoor
/-
  Reader.Uuid.
-/
namespace Go.Proofs.YtdklogmmfnddiaaDoor
open Go.ChangeShapes Go.WideShapes Go.ChangeAt Go.RowKit

def pad16 (x : Bs) : Bs := x.take 16 ++ List.replicate (16 - x.length) 0
def rdUuid (s : St) : Bs × St := (pad16 (rdSpan 16 s).1, (rdSpan 16 s).2)
theorem pad16_length (x : Bs) : (pad16 x).length = 16 := by simp [pad16]; omega
theorem span_body : Tryd.f74.body.isNone = false := by kernel_rfl
theorem span_name : (Tryd.f74.name == "runtime.NumGoroutine") = false := by kernel_rfl
theorem rdSpan_le (s : St) : (rdSpan 16 s).1.length ≤ 16 := by
  unfold rdSpan
  split
  · simp
  · simp; omega
/-- cells set one behind the other -/
def setAll (w : World) (b : Nat) : Nat → List Value → World
  | _, [] => w
  | i, x :: xs => setAll (w.setCell ⟨b, i, none⟩ x) b (i + 1) xs
theorem setAll_heap {b : Nat} {t : TypeId} {z : Nat × Nat} : ∀ {xs old : List Value} {w : World} {pre post : List Value}, xs.length = old.length → w.heap[b]? = some (.cells (pre ++ old ++ post).toArray t z) →
    (setAll w b pre.length xs).heap[b]? = some (.cells (pre ++ xs ++ post).toArray t z) ∧ Keep [b] w (setAll w b pre.length xs)
  | [], [], w, pre, post, _, h => ⟨h, Keep.refl _ _⟩
  | x :: xs, y :: old, w, pre, post, hl, h => by
    have h1 := heap_set (i := pre.length) h x
    have e : ((pre ++ y :: old ++ post).toArray.setIfInBounds pre.length x) = ((pre ++ [x]) ++ old ++ post).toArray := by simp
    rw [e] at h1
    have ih := setAll_heap (xs := xs) (old := old) (pre := pre ++ [x]) (post := post) (by simpa using hl) h1
    simp only [List.length_append, List.length_cons, List.length_nil, Nat.zero_add] at ih
    refine ⟨?_, ?_⟩
    · show (setAll (w.setCell ⟨b, pre.length, none⟩ x) b (pre.length + 1) xs).heap[b]? = _
      rw [ih.1]
      simp
    · exact ((Keep.refl _ _).setCell (.inl (by simp)) _).trans ih.2
theorem Rd.keepA {w w' : World} {b : Nat} {G : Nat → Prop} {s : St} (h : Rd w b G s) (hG : There G w) (hb : b < w.heap.size) {A : List Nat} (hk : Keep A w w') (hA : ∀ k ∈ A, ¬ G k) (hbA : b ∉ A) : Rd w' b G s := by
  obtain ⟨v, h1, h2, h3⟩ := h
  exact ⟨v, (hk.block b hb hbA).trans h1, h2.keepF (sameOn_of hk hG (fun k hk' hm => hA k hm hk')) (fun _ h => h), h3⟩
theorem Rd.keepW {w w' : World} {b : Nat} {G : Nat → Prop} {s : St} (h : Rd w b G s) (hG : There G w) (hb : b < w.heap.size) (hk : Keep [] w w') : Rd w' b G s := by
  obtain ⟨v, h1, h2, h3⟩ := h
  exact ⟨v, (hk.block b hb (by simp)).trans h1, h2.keepF (hG.same hk) (fun _ h => h), h3⟩
set_option maxHeartbeats 8000000 in
set_option maxRecDepth 100000 in
theorem uuid_any {G : Nat → Prop} {b : Nat} {s : St} {w : World} (h : Rd w b G s) (hG : There G w) (hb : ¬ G b) :
    Calls Tryd.prog 65 #[.pointer (some ⟨b, 0, none⟩)] w fun e w' => e = .returned (.agg ((rdUuid s).1.map bv).toArray) ∧ Rd w' b G (rdUuid s).2 ∧ Keep [b] w w' := by
  have hlt := h.lt'
  go_enter Tryd.func65, Tryd.ntmps65
  go_wp2_with fail
  have kW : Keep [] w ((w.alloc (.cells #[.int .u8 0, .int .u8 0, .int .u8 0, .int .u8 0, .int .u8 0, .int .u8 0, .int .u8 0, .int .u8 0, .int .u8 0, .int .u8 0, .int .u8 0, .int .u8 0, .int .u8 0, .int .u8 0, .int .u8 0, .int .u8 0] 89)).alloc (.cells #[.int .u8 0, .int .u8 0, .int .u8 0, .int .u8 0, .int .u8 0, .int .u8 0, .int .u8 0, .int .u8 0, .int .u8 0, .int .u8 0, .int .u8 0, .int .u8 0, .int .u8 0, .int .u8 0, .int .u8 0, .int .u8 0] 89)) := (keep_box _).alloc _
  have b0 : ((w.alloc (.cells #[.int .u8 0, .int .u8 0, .int .u8 0, .int .u8 0, .int .u8 0, .int .u8 0, .int .u8 0, .int .u8 0, .int .u8 0, .int .u8 0, .int .u8 0, .int .u8 0, .int .u8 0, .int .u8 0, .int .u8 0, .int .u8 0] 89)).alloc (.cells #[.int .u8 0, .int .u8 0, .int .u8 0, .int .u8 0, .int .u8 0, .int .u8 0, .int .u8 0, .int .u8 0, .int .u8 0, .int .u8 0, .int .u8 0, .int .u8 0, .int .u8 0, .int .u8 0, .int .u8 0, .int .u8 0] 89)).heap[w.heap.size]? = some (.cells (List.replicate 16 (.int .u8 0)).toArray 89 (0, 0)) := ((keep_box (A := []) _).block w.heap.size (by simp) (by simp)).trans (heap_alloc_new w (.cells #[.int .u8 0, .int .u8 0, .int .u8 0, .int .u8 0, .int .u8 0, .int .u8 0, .int .u8 0, .int .u8 0, .int .u8 0, .int .u8 0, .int .u8 0, .int .u8 0, .int .u8 0, .int .u8 0, .int .u8 0, .int .u8 0] 89))
  have b1 : ((w.alloc (.cells #[.int .u8 0, .int .u8 0, .int .u8 0, .int .u8 0, .int .u8 0, .int .u8 0, .int .u8 0, .int .u8 0, .int .u8 0, .int .u8 0, .int .u8 0, .int .u8 0, .int .u8 0, .int .u8 0, .int .u8 0, .int .u8 0] 89)).alloc (.cells #[.int .u8 0, .int .u8 0, .int .u8 0, .int .u8 0, .int .u8 0, .int .u8 0, .int .u8 0, .int .u8 0, .int .u8 0, .int .u8 0, .int .u8 0, .int .u8 0, .int .u8 0, .int .u8 0, .int .u8 0, .int .u8 0] 89)).heap[w.heap.size + 1]? = some (.cells (List.replicate 16 (.int .u8 0)).toArray 89 (0, 0)) := by
    have h := heap_alloc_new (w.alloc (.cells #[.int .u8 0, .int .u8 0, .int .u8 0, .int .u8 0, .int .u8 0, .int .u8 0, .int .u8 0, .int .u8 0, .int .u8 0, .int .u8 0, .int .u8 0, .int .u8 0, .int .u8 0, .int .u8 0, .int .u8 0, .int .u8 0] 89)) (.cells #[.int .u8 0, .int .u8 0, .int .u8 0, .int .u8 0, .int .u8 0, .int .u8 0, .int .u8 0, .int .u8 0, .int .u8 0, .int .u8 0, .int .u8 0, .int .u8 0, .int .u8 0, .int .u8 0, .int .u8 0, .int .u8 0] 89)
    simpa using h
  have hsz : ((w.alloc (.cells #[.int .u8 0, .int .u8 0, .int .u8 0, .int .u8 0, .int .u8 0, .int .u8 0, .int .u8 0, .int .u8 0, .int .u8 0, .int .u8 0, .int .u8 0, .int .u8 0, .int .u8 0, .int .u8 0, .int .u8 0, .int .u8 0] 89)).alloc (.cells #[.int .u8 0, .int .u8 0, .int .u8 0, .int .u8 0, .int .u8 0, .int .u8 0, .int .u8 0, .int .u8 0, .int .u8 0, .int .u8 0, .int .u8 0, .int .u8 0, .int .u8 0, .int .u8 0, .int .u8 0, .int .u8 0] 89)).heap.size = w.heap.size + 2 := by simp
  generalize ((w.alloc (.cells #[.int .u8 0, .int .u8 0, .int .u8 0, .int .u8 0, .int .u8 0, .int .u8 0, .int .u8 0, .int .u8 0, .int .u8 0, .int .u8 0, .int .u8 0, .int .u8 0, .int .u8 0, .int .u8 0, .int .u8 0, .int .u8 0] 89)).alloc (.cells #[.int .u8 0, .int .u8 0, .int .u8 0, .int .u8 0, .int .u8 0, .int .u8 0, .int .u8 0, .int .u8 0, .int .u8 0, .int .u8 0, .int .u8 0, .int .u8 0, .int .u8 0, .int .u8 0, .int .u8 0, .int .u8 0] 89)) = W at *
  have hGW := hG.keep kW
  have rd1 : Rd W b G s := h.keepW hG hlt kW
  have SP := fun U (hU : Keep [] W U) => span_any (n := 16) (rd1.keepW hGW rd1.lt' hU) hb
  have HB0 : Hid _ := b0
  have HB1 : Hid _ := b1
  clear b0 b1
  go_region_law (first
    | (refine step_call (by rfl) 74 #[.tmp 5, .const (.int .i64 16)] #[103, 3] (by rfl) #[.pointer (some ⟨b, 0, none⟩), .int .i64 16] (by simp [go_sem]) _ (by rfl) span_body span_name (SP _ (Keep.refl _ _).drew) ?_; rintro e w2 ⟨v, rfl, hv, h2, k2⟩; refine ⟨_, rfl, ?_⟩; obtain ⟨ao, cap, rfl⟩ := RS.shape hv)
    | (go_loud (refine step_copy_splice (by rfl) (.tmp 4) (.tmp 6) 22 22 (by rfl) 5 Tryd.underlying22 (by kernel_rfl) _ _ _ _ _ _ (by rfl) (by rfl) (w.heap.size + 1) 0 (List.replicate 16 (.int .u8 0)) 89 ((k2.block (w.heap.size + 1) (by simp; omega) (by simp; omega)).trans HB1.out) ((rdSpan 16 s).1.map bv) (by rw [List.length_map]; exact (Nat.min_eq_left (rdSpan_le s)).symm) (fun hp => ⟨rfl, RB.src hv (by simpa using hp)⟩) (by have := rdSpan_le s; simp; omega) (oneCell_bv _) (w.heap.size + 1) w2 (Below.refl _ _) (Nat.le_refl _) ?_; intro w3 HC hb3)))
  have e1 : w3.heap[w.heap.size + 1]? = some (.cells ((pad16 (rdSpan 16 s).1).map bv).toArray 89 (0, 0)) := by
    have h := HC.out
    rw [show splice (List.replicate 16 (Value.int .u8 0)) 0 ((rdSpan 16 s).1.map bv) = splice (List.replicate 16 (Value.int .u8 0)) 0 (((rdSpan 16 s).1.map bv).take 16) from by rw [List.take_of_length_le (by have := rdSpan_le s; simpa using this)]] at h
    rw [uuid_splice] at h
    exact h
  have k3 : Keep [b] w w3 := ⟨hb3.os.trans (k2.os.trans kW.os), hb3.tape.trans (k2.tape.trans kW.tape), hb3.output.trans (k2.output.trans kW.output), by have := hb3.size; have := k2.size; simp at *; omega, fun k hk hk' => (hb3.block k (by omega)).trans ((k2.block k (by simp; omega) hk').trans (kW.block k hk (by simp)))⟩
  have e0 : w3.heap[w.heap.size]? = some (.cells (List.replicate 16 (.int .u8 0)).toArray 89 (0, 0)) := (hb3.block _ (by omega)).trans ((k2.block _ (by simp; omega) (by simp; omega)).trans HB0.out)
  have hrd : Rd w3 b G (rdSpan 16 s).2 := by
    obtain ⟨v, q1, q2, q3⟩ := h2
    exact ⟨v, (hb3.block b (by omega)).trans q1, q2.keepF (fun k hk => hb3.block k (by have := hG k hk; omega)) (fun _ h => h), q3⟩
  have hpl := pad16_length (rdSpan 16 s).1
  generalize hx : pad16 (rdSpan 16 s).1 = x at *
  have HX : Hid _ := hx
  clear hx HC SP
  obtain ⟨x0, x1, x2, x3, x4, x5, x6, x7, x8, x9, x10, x11, x12, x13, x14, x15, rfl⟩ : ∃ x0 x1 x2 x3 x4 x5 x6 x7 x8 x9 x10 x11 x12 x13 x14 x15, x = [x0, x1, x2, x3, x4, x5, x6, x7, x8, x9, x10, x11, x12, x13, x14, x15] := by
    match x, hpl with
    | [x0, x1, x2, x3, x4, x5, x6, x7, x8, x9, x10, x11, x12, x13, x14, x15], _ => exact ⟨x0, x1, x2, x3, x4, x5, x6, x7, x8, x9, x10, x11, x12, x13, x14, x15, rfl⟩
  have c0 : w3.cell? ⟨w.heap.size + 1, 0, none⟩ = some (.int .u8 (x0.toNat : Int)) := cellOf e1 0 _ rfl
  have c1 : w3.cell? ⟨w.heap.size + 1, 1, none⟩ = some (.int .u8 (x1.toNat : Int)) := cellOf e1 1 _ rfl
  have c2 : w3.cell? ⟨w.heap.size + 1, 2, none⟩ = some (.int .u8 (x2.toNat : Int)) := cellOf e1 2 _ rfl
  have c3 : w3.cell? ⟨w.heap.size + 1, 3, none⟩ = some (.int .u8 (x3.toNat : Int)) := cellOf e1 3 _ rfl
  have c4 : w3.cell? ⟨w.heap.size + 1, 4, none⟩ = some (.int .u8 (x4.toNat : Int)) := cellOf e1 4 _ rfl
  have c5 : w3.cell? ⟨w.heap.size + 1, 5, none⟩ = some (.int .u8 (x5.toNat : Int)) := cellOf e1 5 _ rfl
  have c6 : w3.cell? ⟨w.heap.size + 1, 6, none⟩ = some (.int .u8 (x6.toNat : Int)) := cellOf e1 6 _ rfl
  have c7 : w3.cell? ⟨w.heap.size + 1, 7, none⟩ = some (.int .u8 (x7.toNat : Int)) := cellOf e1 7 _ rfl
  have c8 : w3.cell? ⟨w.heap.size + 1, 8, none⟩ = some (.int .u8 (x8.toNat : Int)) := cellOf e1 8 _ rfl
  have c9 : w3.cell? ⟨w.heap.size + 1, 9, none⟩ = some (.int .u8 (x9.toNat : Int)) := cellOf e1 9 _ rfl
  have c10 : w3.cell? ⟨w.heap.size + 1, 10, none⟩ = some (.int .u8 (x10.toNat : Int)) := cellOf e1 10 _ rfl
  have c11 : w3.cell? ⟨w.heap.size + 1, 11, none⟩ = some (.int .u8 (x11.toNat : Int)) := cellOf e1 11 _ rfl
  have c12 : w3.cell? ⟨w.heap.size + 1, 12, none⟩ = some (.int .u8 (x12.toNat : Int)) := cellOf e1 12 _ rfl
  have c13 : w3.cell? ⟨w.heap.size + 1, 13, none⟩ = some (.int .u8 (x13.toNat : Int)) := cellOf e1 13 _ rfl
  have c14 : w3.cell? ⟨w.heap.size + 1, 14, none⟩ = some (.int .u8 (x14.toNat : Int)) := cellOf e1 14 _ rfl
  have c15 : w3.cell? ⟨w.heap.size + 1, 15, none⟩ = some (.int .u8 (x15.toNat : Int)) := cellOf e1 15 _ rfl
  have d0 : w3.cell? ⟨w.heap.size, 0, none⟩ = some (.int .u8 0) := cellOf e0 0 _ rfl
  have f0 := freeOf e0 0
  have d1 : w3.cell? ⟨w.heap.size, 1, none⟩ = some (.int .u8 0) := cellOf e0 1 _ rfl
  have f1 := freeOf e0 1
  have d2 : w3.cell? ⟨w.heap.size, 2, none⟩ = some (.int .u8 0) := cellOf e0 2 _ rfl
  have f2 := freeOf e0 2
  have d3 : w3.cell? ⟨w.heap.size, 3, none⟩ = some (.int .u8 0) := cellOf e0 3 _ rfl
  have f3 := freeOf e0 3
  have d4 : w3.cell? ⟨w.heap.size, 4, none⟩ = some (.int .u8 0) := cellOf e0 4 _ rfl
  have f4 := freeOf e0 4
  have d5 : w3.cell? ⟨w.heap.size, 5, none⟩ = some (.int .u8 0) := cellOf e0 5 _ rfl
  have f5 := freeOf e0 5
  have d6 : w3.cell? ⟨w.heap.size, 6, none⟩ = some (.int .u8 0) := cellOf e0 6 _ rfl
  have f6 := freeOf e0 6
  have d7 : w3.cell? ⟨w.heap.size, 7, none⟩ = some (.int .u8 0) := cellOf e0 7 _ rfl
  have f7 := freeOf e0 7
  have d8 : w3.cell? ⟨w.heap.size, 8, none⟩ = some (.int .u8 0) := cellOf e0 8 _ rfl
  have f8 := freeOf e0 8
  have d9 : w3.cell? ⟨w.heap.size, 9, none⟩ = some (.int .u8 0) := cellOf e0 9 _ rfl
  have f9 := freeOf e0 9
  have d10 : w3.cell? ⟨w.heap.size, 10, none⟩ = some (.int .u8 0) := cellOf e0 10 _ rfl
  have f10 := freeOf e0 10
  have d11 : w3.cell? ⟨w.heap.size, 11, none⟩ = some (.int .u8 0) := cellOf e0 11 _ rfl
  have f11 := freeOf e0 11
  have d12 : w3.cell? ⟨w.heap.size, 12, none⟩ = some (.int .u8 0) := cellOf e0 12 _ rfl
  have f12 := freeOf e0 12
  have d13 : w3.cell? ⟨w.heap.size, 13, none⟩ = some (.int .u8 0) := cellOf e0 13 _ rfl
  have f13 := freeOf e0 13
  have d14 : w3.cell? ⟨w.heap.size, 14, none⟩ = some (.int .u8 0) := cellOf e0 14 _ rfl
  have f14 := freeOf e0 14
  have d15 : w3.cell? ⟨w.heap.size, 15, none⟩ = some (.int .u8 0) := cellOf e0 15 _ rfl
  have f15 := freeOf e0 15
  have E0 : Hid _ := e0
  clear e0 e1
  go_wp2_with fail
  have hq : ((((((((((((((((w3.setCell ⟨w.heap.size, 0, none⟩ (.int .u8 (x0.toNat : Int))).setCell ⟨w.heap.size, 1, none⟩ (.int .u8 (x1.toNat : Int))).setCell ⟨w.heap.size, 2, none⟩ (.int .u8 (x2.toNat : Int))).setCell ⟨w.heap.size, 3, none⟩ (.int .u8 (x3.toNat : Int))).setCell ⟨w.heap.size, 4, none⟩ (.int .u8 (x4.toNat : Int))).setCell ⟨w.heap.size, 5, none⟩ (.int .u8 (x5.toNat : Int))).setCell ⟨w.heap.size, 6, none⟩ (.int .u8 (x6.toNat : Int))).setCell ⟨w.heap.size, 7, none⟩ (.int .u8 (x7.toNat : Int))).setCell ⟨w.heap.size, 8, none⟩ (.int .u8 (x8.toNat : Int))).setCell ⟨w.heap.size, 9, none⟩ (.int .u8 (x9.toNat : Int))).setCell ⟨w.heap.size, 10, none⟩ (.int .u8 (x10.toNat : Int))).setCell ⟨w.heap.size, 11, none⟩ (.int .u8 (x11.toNat : Int))).setCell ⟨w.heap.size, 12, none⟩ (.int .u8 (x12.toNat : Int))).setCell ⟨w.heap.size, 13, none⟩ (.int .u8 (x13.toNat : Int))).setCell ⟨w.heap.size, 14, none⟩ (.int .u8 (x14.toNat : Int))).setCell ⟨w.heap.size, 15, none⟩ (.int .u8 (x15.toNat : Int))).heap[w.heap.size]? = some (.cells #[.int .u8 (x0.toNat : Int), .int .u8 (x1.toNat : Int), .int .u8 (x2.toNat : Int), .int .u8 (x3.toNat : Int), .int .u8 (x4.toNat : Int), .int .u8 (x5.toNat : Int), .int .u8 (x6.toNat : Int), .int .u8 (x7.toNat : Int), .int .u8 (x8.toNat : Int), .int .u8 (x9.toNat : Int), .int .u8 (x10.toNat : Int), .int .u8 (x11.toNat : Int), .int .u8 (x12.toNat : Int), .int .u8 (x13.toNat : Int), .int .u8 (x14.toNat : Int), .int .u8 (x15.toNat : Int)] 89 (0, 0)) := (setAll_heap (w := w3) (b := w.heap.size) (pre := []) (post := []) (xs := [.int .u8 (x0.toNat : Int), .int .u8 (x1.toNat : Int), .int .u8 (x2.toNat : Int), .int .u8 (x3.toNat : Int), .int .u8 (x4.toNat : Int), .int .u8 (x5.toNat : Int), .int .u8 (x6.toNat : Int), .int .u8 (x7.toNat : Int), .int .u8 (x8.toNat : Int), .int .u8 (x9.toNat : Int), .int .u8 (x10.toNat : Int), .int .u8 (x11.toNat : Int), .int .u8 (x12.toNat : Int), .int .u8 (x13.toNat : Int), .int .u8 (x14.toNat : Int), .int .u8 (x15.toNat : Int)]) (old := List.replicate 16 (.int .u8 0)) rfl E0.out).1
  have kq : Keep [w.heap.size] w3 ((((((((((((((((w3.setCell ⟨w.heap.size, 0, none⟩ (.int .u8 (x0.toNat : Int))).setCell ⟨w.heap.size, 1, none⟩ (.int .u8 (x1.toNat : Int))).setCell ⟨w.heap.size, 2, none⟩ (.int .u8 (x2.toNat : Int))).setCell ⟨w.heap.size, 3, none⟩ (.int .u8 (x3.toNat : Int))).setCell ⟨w.heap.size, 4, none⟩ (.int .u8 (x4.toNat : Int))).setCell ⟨w.heap.size, 5, none⟩ (.int .u8 (x5.toNat : Int))).setCell ⟨w.heap.size, 6, none⟩ (.int .u8 (x6.toNat : Int))).setCell ⟨w.heap.size, 7, none⟩ (.int .u8 (x7.toNat : Int))).setCell ⟨w.heap.size, 8, none⟩ (.int .u8 (x8.toNat : Int))).setCell ⟨w.heap.size, 9, none⟩ (.int .u8 (x9.toNat : Int))).setCell ⟨w.heap.size, 10, none⟩ (.int .u8 (x10.toNat : Int))).setCell ⟨w.heap.size, 11, none⟩ (.int .u8 (x11.toNat : Int))).setCell ⟨w.heap.size, 12, none⟩ (.int .u8 (x12.toNat : Int))).setCell ⟨w.heap.size, 13, none⟩ (.int .u8 (x13.toNat : Int))).setCell ⟨w.heap.size, 14, none⟩ (.int .u8 (x14.toNat : Int))).setCell ⟨w.heap.size, 15, none⟩ (.int .u8 (x15.toNat : Int))) := (setAll_heap (w := w3) (b := w.heap.size) (pre := []) (post := []) (xs := [.int .u8 (x0.toNat : Int), .int .u8 (x1.toNat : Int), .int .u8 (x2.toNat : Int), .int .u8 (x3.toNat : Int), .int .u8 (x4.toNat : Int), .int .u8 (x5.toNat : Int), .int .u8 (x6.toNat : Int), .int .u8 (x7.toNat : Int), .int .u8 (x8.toNat : Int), .int .u8 (x9.toNat : Int), .int .u8 (x10.toNat : Int), .int .u8 (x11.toNat : Int), .int .u8 (x12.toNat : Int), .int .u8 (x13.toNat : Int), .int .u8 (x14.toNat : Int), .int .u8 (x15.toNat : Int)]) (old := List.replicate 16 (.int .u8 0)) rfl E0.out).2
  clear c0 d0 f0 c1 d1 f1 c2 d2 f2 c3 d3 f3 c4 d4 f4 c5 d5 f5 c6 d6 f6 c7 d7 f7 c8 d8 f8 c9 d9 f9 c10 d10 f10 c11 d11 f11 c12 d12 f12 c13 d13 f13 c14 d14 f14 c15 d15 f15
  have r0 := cellOf hq 0 (.int .u8 (x0.toNat : Int)) rfl
  have r1 := cellOf hq 1 (.int .u8 (x1.toNat : Int)) rfl
  have r2 := cellOf hq 2 (.int .u8 (x2.toNat : Int)) rfl
  have r3 := cellOf hq 3 (.int .u8 (x3.toNat : Int)) rfl
  have r4 := cellOf hq 4 (.int .u8 (x4.toNat : Int)) rfl
  have r5 := cellOf hq 5 (.int .u8 (x5.toNat : Int)) rfl
  have r6 := cellOf hq 6 (.int .u8 (x6.toNat : Int)) rfl
  have r7 := cellOf hq 7 (.int .u8 (x7.toNat : Int)) rfl
  have r8 := cellOf hq 8 (.int .u8 (x8.toNat : Int)) rfl
  have r9 := cellOf hq 9 (.int .u8 (x9.toNat : Int)) rfl
  have r10 := cellOf hq 10 (.int .u8 (x10.toNat : Int)) rfl
  have r11 := cellOf hq 11 (.int .u8 (x11.toNat : Int)) rfl
  have r12 := cellOf hq 12 (.int .u8 (x12.toNat : Int)) rfl
  have r13 := cellOf hq 13 (.int .u8 (x13.toNat : Int)) rfl
  have r14 := cellOf hq 14 (.int .u8 (x14.toNat : Int)) rfl
  have r15 := cellOf hq 15 (.int .u8 (x15.toNat : Int)) rfl
  refine bodyPost_ret (v := .agg #[.int .u8 (x0.toNat : Int), .int .u8 (x1.toNat : Int), .int .u8 (x2.toNat : Int), .int .u8 (x3.toNat : Int), .int .u8 (x4.toNat : Int), .int .u8 (x5.toNat : Int), .int .u8 (x6.toNat : Int), .int .u8 (x7.toNat : Int), .int .u8 (x8.toNat : Int), .int .u8 (x9.toNat : Int), .int .u8 (x10.toNat : Int), .int .u8 (x11.toNat : Int), .int .u8 (x12.toNat : Int), .int .u8 (x13.toNat : Int), .int .u8 (x14.toNat : Int), .int .u8 (x15.toNat : Int)]) (by simp [results, Tryd.results65, go_sem, r0, r1, r2, r3, r4, r5, r6, r7, r8, r9, r10, r11, r12, r13, r14, r15]) rfl ⟨?_, ?_, ?_⟩
  · simp only [rdUuid, HX.out]; rfl
  · exact hrd.keepA (hG.mono k3.size) (Nat.lt_of_lt_of_le hlt k3.size) kq (by intro k hk hg; simp at hk; subst hk; have := hG _ hg; omega) (by simp; omega)
  · exact (((k3.weaken (B := [b, w.heap.size]) (by simp)).trans (kq.weaken (by simp))).fresh (by simp))
end Go.Proofs.YtdklogmmfnddiaaDoor
/-
  Tags.Set.
-/
namespace Go.Proofs.YtdklogmmfnddiaaDoor
open Go.ChangeShapes Go.WideShapes Go.ChangeAt Go.RowKit

theorem set_self {c : Array Value} {i : Nat} {v : Value} (h : c[i]? = some v) : c.setIfInBounds i v = c := by
  obtain ⟨hi, rfl⟩ := Array.getElem?_eq_some_iff.1 h
  simp [Array.setIfInBounds, hi]
theorem map_eq0 (w : World) : (Go.binOp .eql 74 (.map none) (.map none)).run Tryd.prog w = .ok (.bool true) w := by kernel_rfl
theorem map_eq1 (r : Nat) (w : World) : (Go.binOp .eql 74 (.map (some r)) (.map none)).run Tryd.prog w = .ok (.bool false) w := by kernel_rfl
set_option maxHeartbeats 400000 in
set_option maxRecDepth 100000 in
theorem tset_any {tb i n k : Nat} {w : World} {v x : Value} {l : List (Nat × Value)} {c : Array Value} {t : TypeId} (hb : w.heap[tb]? = some (.cells c t (0, 0))) (hc : c[i]? = some v) (hm : MO w v n l) (hk : k < 4294967296) (hn : n ≤ 17179869184) :
    Calls Tryd.prog 73 #[.pointer (some ⟨tb, i, none⟩), .int .u32 (k : Int), x] w fun e w' => e = .returned (.tuple #[]) ∧ ∃ v', MO w' v' (n + 1) (putK l k x) ∧ w'.heap[tb]? = some (.cells (c.setIfInBounds i v') t (0, 0)) ∧ (∀ r ∈ mblk v', r ∈ mblk v ∨ w.heap.size ≤ r) ∧ Keep (tb :: mblk v) w w' := by
  obtain ⟨hr, hlt, ⟨rfl, rfl⟩ | ⟨r, rfl, hown⟩⟩ := hm
  · have c0 : w.cell? ⟨tb, i, none⟩ = some (.map none) := cellOf hb i _ hc
    have f0 := freeOf hb i
    have hmm := @run_makeMap Tryd.prog
    have heq := map_eq0 w
    have htb : tb < w.heap.size := (Array.getElem?_eq_some_iff.1 hb).1
    have hown : ((w.setCell ⟨tb, i, none⟩ (.map (some w.heap.size))).alloc (.map #[] 0)).ownsMap Tryd.prog 61 tR w.heap.size n (tD []) := by
      have h := World.ownsMap_made (w.setCell ⟨tb, i, none⟩ (.map (some w.heap.size))) Tryd.prog 61 tR
      rw [show (w.setCell ⟨tb, i, none⟩ (.map (some w.heap.size))).heap.size = w.heap.size from by simp [World.setCell]] at h
      exact h.mono (Nat.zero_le n)
    have hs1 := heap_set (i := i) hb (.map (some w.heap.size))
    have ks1 : Keep [tb] w (w.setCell ⟨tb, i, none⟩ (.map (some w.heap.size))) := (Keep.refl _ _).setCell (.inl (by simp)) _
    have HS1 : Hid _ := hs1
    clear hs1
    go_enter Tryd.func73, Tryd.ntmps73
    go_wp2_with (at_mapUpdate; go_loud (refine wpList_mapUpdate_own _ rfl _ _ _ 74 rfl 61 22 (Maps.int_keyed Tryd.underlying61) Tryd.underlying74 tR w.heap.size n _ rfl hown (by unfold maxLen; omega) _ _ (.int .u32 (k : Int)) rfl rfl (Maps.keyOf_int_mk Tryd.underlying61 (wf_u32 hk)) (.held x) [] rfl ?_; intro w1 hown1 hgrow1))
    refine bodyPost_end (v := .tuple #[]) (by simp [results, Tryd.results73, go_sem]) rfl ⟨rfl, .map (some w.heap.size), ⟨rising_putK hr k x, ?_, .inr ⟨_, rfl, ?_⟩⟩, ?_, by simp [mblk], ?_⟩
    · intro y hy
      rcases mem_putK hy with rfl | h
      · exact hk
      · simp at h
    · rw [← tD_put]; exact hown1
    · have e := hgrow1.block tb (by simp [World.setCell]; omega) (by simp; omega)
      rw [e]
      exact ((keep_box (A := []) _).block tb (by simp [World.setCell]; omega) (by simp)).trans HS1.out
    · refine ((ks1.alloc _).grown (row := some w.heap.size) hgrow1 (by simp)).weaken (by simp [mblk])
  · have hb0 := hb
    have c0 : w.cell? ⟨tb, i, none⟩ = some (.map (some r)) := cellOf hb i _ hc
    have hcc : Hid _ := hc
    clear hc
    have f0 := freeOf hb i
    have heq := map_eq1 r w
    go_enter Tryd.func73, Tryd.ntmps73
    go_wp2_with (at_mapUpdate; go_loud (refine wpList_mapUpdate_own _ rfl _ _ _ 74 rfl 61 22 (Maps.int_keyed Tryd.underlying61) Tryd.underlying74 tR r n _ rfl hown (by unfold maxLen; omega) _ _ (.int .u32 (k : Int)) rfl rfl (Maps.keyOf_int_mk Tryd.underlying61 (wf_u32 hk)) (.held x) [] rfl ?_; intro w1 hown1 hgrow1))
    have htb : tb < w.heap.size := (Array.getElem?_eq_some_iff.1 hb).1
    have hne : tb ≠ r := fun e => by
      obtain ⟨es, clock, h1, _⟩ := hown
      rw [e, h1] at hb
      cases hb
    refine bodyPost_end (v := .tuple #[]) (by simp [results, Tryd.results73, go_sem]) rfl ⟨rfl, .map (some r), ⟨rising_putK hr k x, ?_, .inr ⟨_, rfl, ?_⟩⟩, ?_, fun _ h => .inl h, ?_⟩
    · intro y hy
      rcases mem_putK hy with rfl | h
      · exact hk
      · exact hlt y h
    · rw [← tD_put]; exact hown1
    · have e := hgrow1.block tb htb (by simpa using hne)
      rw [e, hb, set_self hcc.out]
    · exact (Keep.refl _ _).grown (row := some r) hgrow1 (by simp [mblk])
end Go.Proofs.YtdklogmmfnddiaaDoor
