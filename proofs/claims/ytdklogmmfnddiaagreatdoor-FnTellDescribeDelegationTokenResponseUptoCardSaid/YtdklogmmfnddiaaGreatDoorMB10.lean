/-
  Reader.UnsafeString, CompactString, NullableString, CompactNullableString, each both ways.
-/
import Derived.Test.YtdklogmmfnddiaaGreatDoorMB6
import Derived.Test.YtdklogmmfnddiaaGreatDoorMB7
import Derived.Maps.Own
namespace Go.Proofs.YtdklogmmfnddiaaGreatDoor
open Go.ChangeShapes Go.WideShapes Go.ChangeAt Go.RowKit

def rdCStr (s : St) : Bs × St := rdSpan ((rdUv s).1 - 1) (rdUv s).2
def rdNStr (s : St) : Option Bs × St := if (rdI 2 s).1 < 0 then (none, (rdI 2 s).2) else (some (rdStr s).1, (rdStr s).2)
def rdCNStr (s : St) : Option Bs × St := if (rdUv s).1 = 0 then (none, (rdUv s).2) else (some (rdCStr s).1, (rdCStr s).2)
/-- a pointer to a text, or nil -/
def PS (w : World) (G : Nat → Prop) (v : Value) (o : Option Bs) : Prop :=
  (v = .pointer none ∧ o = none) ∨ ∃ k l, v = .pointer (some ⟨k, 0, none⟩) ∧ o = some l ∧ G k ∧ w.heap[k]? = some (.cells #[str l] 9 (0, 0))
theorem Rd.lt' {w : World} {b : Nat} {G : Nat → Prop} {s : St} (h : Rd w b G s) : b < w.heap.size := by
  obtain ⟨v, h1, _⟩ := h
  exact (Array.getElem?_eq_some_iff.1 h1).1
theorem PS.keepF {w w' : World} {F G : Nat → Prop} {v : Value} {o : Option Bs} (h : PS w F v o) (hs : SameOn F w w') (hg : ∀ k, F k → G k) : PS w' G v o := by
  rcases h with h | ⟨k, l, h1, h2, h3, h4⟩
  · exact .inl h
  · exact .inr ⟨k, l, h1, h2, hg k h3, (hs k h3).trans h4⟩

theorem unsafestr_any {G : Nat → Prop} {ao : Option Addr} {cap : Nat} {l : Bs} {w : World} (h : RB w G (.slice ao l.length cap) l) :
    Calls Tryz.prog 108 #[.slice ao l.length cap] w fun e w' => e = .returned (str l) ∧ w = w' := by
  have hcv := conv_any h
  go_enter Tryz.func108, Tryz.ntmps108
  go_wp2_with fail
  go_ret
  exact ⟨rfl, rfl⟩
set_option maxHeartbeats 400000 in
set_option maxRecDepth 100000 in
theorem ustring_any {G : Nat → Prop} {b : Nat} {s : St} {w : World} (h : Rd w b G s) (hG : There G w) (hb : ¬ G b) :
    Calls Tryz.prog 83 #[.pointer (some ⟨b, 0, none⟩)] w fun e w' => e = .returned (str (rdStr s).1) ∧ Rd w' b G (rdStr s).2 ∧ Keep [b] w w' := by
  have hR1 : -32768 ≤ (rdI 2 s).1 := (rdI_range2 _).1
  have hR2 : (rdI 2 s).1 ≤ 32767 := (rdI_range2 _).2
  go_enter Tryz.func83, Tryz.ntmps83
  go_wp2_with (first
    | (go_at_call 101; go_loud (refine (int16_any h hG hb).mono ?_; rintro e w1 ⟨rfl, h1, k1⟩))
    | (go_at_call 109; go_loud (refine (span_any h1 hb).mono ?_; rintro e w2 ⟨v, rfl, hv, h2, k2⟩; obtain ⟨ao, cap, rfl⟩ := RS.shape hv))
    | (go_at_call 108; go_loud (refine (unsafestr_any hv).mono ?_; rintro e w3 ⟨rfl, rfl⟩)))
  go_ret
  exact ⟨rfl, h2, k1.trans k2⟩
set_option maxHeartbeats 400000 in
set_option maxRecDepth 100000 in
theorem cstring_any {G : Nat → Prop} {b : Nat} {s : St} {w : World} (h : Rd w b G s) (hG : There G w) (hb : ¬ G b) :
    Calls Tryz.prog 84 #[.pointer (some ⟨b, 0, none⟩)] w fun e w' => e = .returned (str (rdCStr s).1) ∧ Rd w' b G (rdCStr s).2 ∧ Keep [b] w w' := by
  have hR2 : (rdUv s).1 < 4294967296 := rdUv_lt s
  go_enter Tryz.func84, Tryz.ntmps84
  go_wp2_with (first
    | (go_at_call 107; go_loud (refine (rduv_any h hG hb).mono ?_; rintro e w1 ⟨rfl, h1, k1⟩))
    | (go_at_call 109; go_loud (refine (span_any h1 hb).mono ?_; rintro e w2 ⟨v, rfl, hv, h2, k2⟩; obtain ⟨ao, cap, rfl⟩ := RS.shape hv; have hcv := conv_any hv)))
  go_ret
  exact ⟨rfl, h2, k1.trans k2⟩
set_option maxHeartbeats 400000 in
set_option maxRecDepth 100000 in
theorem ucstring_any {G : Nat → Prop} {b : Nat} {s : St} {w : World} (h : Rd w b G s) (hG : There G w) (hb : ¬ G b) :
    Calls Tryz.prog 82 #[.pointer (some ⟨b, 0, none⟩)] w fun e w' => e = .returned (str (rdCStr s).1) ∧ Rd w' b G (rdCStr s).2 ∧ Keep [b] w w' := by
  have hR2 : (rdUv s).1 < 4294967296 := rdUv_lt s
  go_enter Tryz.func82, Tryz.ntmps82
  go_wp2_with (first
    | (go_at_call 107; go_loud (refine (rduv_any h hG hb).mono ?_; rintro e w1 ⟨rfl, h1, k1⟩))
    | (go_at_call 109; go_loud (refine (span_any h1 hb).mono ?_; rintro e w2 ⟨v, rfl, hv, h2, k2⟩; obtain ⟨ao, cap, rfl⟩ := RS.shape hv))
    | (go_at_call 108; go_loud (refine (unsafestr_any hv).mono ?_; rintro e w3 ⟨rfl, rfl⟩)))
  go_ret
  exact ⟨rfl, h2, k1.trans k2⟩
end Go.Proofs.YtdklogmmfnddiaaGreatDoor
/-
  Reader.NullableString, CompactNullableString, each both ways.
-/
namespace Go.Proofs.YtdklogmmfnddiaaGreatDoor
open Go.ChangeShapes Go.WideShapes Go.ChangeAt Go.RowKit

/-- a text in a box of its own -/
theorem ps_box {G : Nat → Prop} {b : Nat} {s : St} {w w2 : World} {l : Bs} (h : Rd w2 b G s) (hb : b < w2.heap.size) (hG : There G w2) (k : Keep [b] w w2) :
    PS (w2.alloc (.cells #[str l] 9)) (fun k => w.heap.size ≤ k ∧ k < (w2.alloc (.cells #[str l] 9)).heap.size) (.pointer (some ⟨w2.heap.size, 0, none⟩)) (some l) ∧ Rd (w2.alloc (.cells #[str l] 9)) b G s ∧ Keep [b] w (w2.alloc (.cells #[str l] 9)) := by
  refine ⟨.inr ⟨_, l, rfl, rfl, ⟨k.size, by simp⟩, heap_alloc_new _ _⟩, ?_, k.alloc _⟩
  obtain ⟨v, h1, h2, h3⟩ := h
  exact ⟨v, ((keep_box (A := []) _).block b hb (by simp)).trans h1, h2.keepF (hG.same (keep_box _)) (fun _ h => h), h3⟩
theorem Rd.lt {w : World} {b : Nat} {G : Nat → Prop} {s : St} (h : Rd w b G s) : b < w.heap.size := by
  obtain ⟨v, h1, _⟩ := h
  exact (Array.getElem?_eq_some_iff.1 h1).1
end Go.Proofs.YtdklogmmfnddiaaGreatDoor
/-
  Reader.Uuid.
-/
namespace Go.Proofs.YtdklogmmfnddiaaGreatDoor
open Go.ChangeShapes Go.WideShapes Go.ChangeAt Go.RowKit

def pad16 (x : Bs) : Bs := x.take 16 ++ List.replicate (16 - x.length) 0
def rdUuid (s : St) : Bs × St := (pad16 (rdSpan 16 s).1, (rdSpan 16 s).2)
theorem pad16_length (x : Bs) : (pad16 x).length = 16 := by simp [pad16]; omega
theorem span_body : Tryz.f109.body.isNone = false := by kernel_rfl
theorem span_name : (Tryz.f109.name == "runtime.NumGoroutine") = false := by kernel_rfl
theorem rdSpan_le (s : St) : (rdSpan 16 s).1.length ≤ 16 := by
  unfold rdSpan
  split
  · simp
  · simp; omega
/-- cells set one behind the other -/
def setAll (w : World) (b : Nat) : Nat → List Value → World
  | _, [] => w
  | i, x :: xs => setAll (w.setCell ⟨b, i, none⟩ x) b (i + 1) xs
theorem setAll_heap {b : Nat} {t : TypeId} {z : Nat × Nat} : ∀ {xs old : List Value} {w : World} {pre post : List Value}, xs.length = old.length → w.heap[b]? = some (.cells (pre ++ old ++ post).toArray t z) →
    (setAll w b pre.length xs).heap[b]? = some (.cells (pre ++ xs ++ post).toArray t z) ∧ Keep [b] w (setAll w b pre.length xs)
  | [], [], w, pre, post, _, h => ⟨h, Keep.refl _ _⟩
  | x :: xs, y :: old, w, pre, post, hl, h => by
    have h1 := heap_set (i := pre.length) h x
    have e : ((pre ++ y :: old ++ post).toArray.setIfInBounds pre.length x) = ((pre ++ [x]) ++ old ++ post).toArray := by simp
    rw [e] at h1
    have ih := setAll_heap (xs := xs) (old := old) (pre := pre ++ [x]) (post := post) (by simpa using hl) h1
    simp only [List.length_append, List.length_cons, List.length_nil, Nat.zero_add] at ih
    refine ⟨?_, ?_⟩
    · show (setAll (w.setCell ⟨b, pre.length, none⟩ x) b (pre.length + 1) xs).heap[b]? = _
      rw [ih.1]
      simp
    · exact ((Keep.refl _ _).setCell (.inl (by simp)) _).trans ih.2
theorem Rd.keepA {w w' : World} {b : Nat} {G : Nat → Prop} {s : St} (h : Rd w b G s) (hG : There G w) (hb : b < w.heap.size) {A : List Nat} (hk : Keep A w w') (hA : ∀ k ∈ A, ¬ G k) (hbA : b ∉ A) : Rd w' b G s := by
  obtain ⟨v, h1, h2, h3⟩ := h
  exact ⟨v, (hk.block b hb hbA).trans h1, h2.keepF (sameOn_of hk hG (fun k hk' hm => hA k hm hk')) (fun _ h => h), h3⟩
theorem Rd.keepW {w w' : World} {b : Nat} {G : Nat → Prop} {s : St} (h : Rd w b G s) (hG : There G w) (hb : b < w.heap.size) (hk : Keep [] w w') : Rd w' b G s := by
  obtain ⟨v, h1, h2, h3⟩ := h
  exact ⟨v, (hk.block b hb (by simp)).trans h1, h2.keepF (hG.same hk) (fun _ h => h), h3⟩
end Go.Proofs.YtdklogmmfnddiaaGreatDoor
/-
  Tags.Set.
-/
namespace Go.Proofs.YtdklogmmfnddiaaGreatDoor
open Go.ChangeShapes Go.WideShapes Go.ChangeAt Go.RowKit

theorem set_self {c : Array Value} {i : Nat} {v : Value} (h : c[i]? = some v) : c.setIfInBounds i v = c := by
  obtain ⟨hi, rfl⟩ := Array.getElem?_eq_some_iff.1 h
  simp [Array.setIfInBounds, hi]
theorem map_eq0 (w : World) : (Go.binOp .eql 78 (.map none) (.map none)).run Tryz.prog w = .ok (.bool true) w := by kernel_rfl
theorem map_eq1 (r : Nat) (w : World) : (Go.binOp .eql 78 (.map (some r)) (.map none)).run Tryz.prog w = .ok (.bool false) w := by kernel_rfl
set_option maxHeartbeats 400000 in
set_option maxRecDepth 100000 in
theorem tset_any {tb i n k : Nat} {w : World} {v x : Value} {l : List (Nat × Value)} {c : Array Value} {t : TypeId} (hb : w.heap[tb]? = some (.cells c t (0, 0))) (hc : c[i]? = some v) (hm : MO w v n l) (hk : k < 4294967296) (hn : n ≤ 17179869184) :
    Calls Tryz.prog 110 #[.pointer (some ⟨tb, i, none⟩), .int .u32 (k : Int), x] w fun e w' => e = .returned (.tuple #[]) ∧ ∃ v', MO w' v' (n + 1) (putK l k x) ∧ w'.heap[tb]? = some (.cells (c.setIfInBounds i v') t (0, 0)) ∧ (∀ r ∈ mblk v', r ∈ mblk v ∨ w.heap.size ≤ r) ∧ Keep (tb :: mblk v) w w' := by
  obtain ⟨hr, hlt, ⟨rfl, rfl⟩ | ⟨r, rfl, hown⟩⟩ := hm
  · have c0 : w.cell? ⟨tb, i, none⟩ = some (.map none) := cellOf hb i _ hc
    have f0 := freeOf hb i
    have hmm := @run_makeMap Tryz.prog
    have heq := map_eq0 w
    have htb : tb < w.heap.size := (Array.getElem?_eq_some_iff.1 hb).1
    have hown : ((w.setCell ⟨tb, i, none⟩ (.map (some w.heap.size))).alloc (.map #[] 0)).ownsMap Tryz.prog 64 tR w.heap.size n (tD []) := by
      have h := World.ownsMap_made (w.setCell ⟨tb, i, none⟩ (.map (some w.heap.size))) Tryz.prog 64 tR
      rw [show (w.setCell ⟨tb, i, none⟩ (.map (some w.heap.size))).heap.size = w.heap.size from by simp [World.setCell]] at h
      exact h.mono (Nat.zero_le n)
    have hs1 := heap_set (i := i) hb (.map (some w.heap.size))
    have ks1 : Keep [tb] w (w.setCell ⟨tb, i, none⟩ (.map (some w.heap.size))) := (Keep.refl _ _).setCell (.inl (by simp)) _
    have HS1 : Hid _ := hs1
    clear hs1
    go_enter Tryz.func110, Tryz.ntmps110
    go_wp2_with (at_mapUpdate; go_loud (refine wpList_mapUpdate_own _ rfl _ _ _ 78 rfl 64 22 (Maps.int_keyed Tryz.underlying64) Tryz.underlying78 tR w.heap.size n _ rfl hown (by unfold maxLen; omega) _ _ (.int .u32 (k : Int)) rfl rfl (Maps.keyOf_int_mk Tryz.underlying64 (wf_u32 hk)) (.held x) [] rfl ?_; intro w1 hown1 hgrow1))
    refine bodyPost_end (v := .tuple #[]) (by simp [results, Tryz.results110, go_sem]) rfl ⟨rfl, .map (some w.heap.size), ⟨rising_putK hr k x, ?_, .inr ⟨_, rfl, ?_⟩⟩, ?_, by simp [mblk], ?_⟩
    · intro y hy
      rcases mem_putK hy with rfl | h
      · exact hk
      · simp at h
    · rw [← tD_put]; exact hown1
    · have e := hgrow1.block tb (by simp [World.setCell]; omega) (by simp; omega)
      rw [e]
      exact ((keep_box (A := []) _).block tb (by simp [World.setCell]; omega) (by simp)).trans HS1.out
    · refine ((ks1.alloc _).grown (row := some w.heap.size) hgrow1 (by simp)).weaken (by simp [mblk])
  · have hb0 := hb
    have c0 : w.cell? ⟨tb, i, none⟩ = some (.map (some r)) := cellOf hb i _ hc
    have hcc : Hid _ := hc
    clear hc
    have f0 := freeOf hb i
    have heq := map_eq1 r w
    go_enter Tryz.func110, Tryz.ntmps110
    go_wp2_with (at_mapUpdate; go_loud (refine wpList_mapUpdate_own _ rfl _ _ _ 78 rfl 64 22 (Maps.int_keyed Tryz.underlying64) Tryz.underlying78 tR r n _ rfl hown (by unfold maxLen; omega) _ _ (.int .u32 (k : Int)) rfl rfl (Maps.keyOf_int_mk Tryz.underlying64 (wf_u32 hk)) (.held x) [] rfl ?_; intro w1 hown1 hgrow1))
    have htb : tb < w.heap.size := (Array.getElem?_eq_some_iff.1 hb).1
    have hne : tb ≠ r := fun e => by
      obtain ⟨es, clock, h1, _⟩ := hown
      rw [e, h1] at hb
      cases hb
    refine bodyPost_end (v := .tuple #[]) (by simp [results, Tryz.results110, go_sem]) rfl ⟨rfl, .map (some r), ⟨rising_putK hr k x, ?_, .inr ⟨_, rfl, ?_⟩⟩, ?_, fun _ h => .inl h, ?_⟩
    · intro y hy
      rcases mem_putK hy with rfl | h
      · exact hk
      · exact hlt y h
    · rw [← tD_put]; exact hown1
    · have e := hgrow1.block tb htb (by simpa using hne)
      rw [e, hb, set_self hcc.out]
    · exact (Keep.refl _ _).grown (row := some r) hgrow1 (by simp [mblk])
end Go.Proofs.YtdklogmmfnddiaaGreatDoor
