/-
  MORE SMALL FUNCTIONS OF spec: Uvarint, width, counted, whole, things, at, has, null.
-/
import Derived.Test.YtedconnhligkeaaDoorSpecA
import Derived.Lib.VarintBits
import Derived.Laws.Bits128
namespace Go.Proofs.YtedconnhligkeaaDoor
open Go.ChangeShapes Go.WideShapes Go.ChangeAt Go.RowKit

theorem uvarP_len : ∀ (k n : Nat), 0 < k → n < 128 ^ k → (uvarP n).length ≤ k
  | 0, _, h, _ => by omega
  | k + 1, n, _, h => by
    rw [uvarP]
    split
    · rename_i h1
      cases k with
      | zero => simp at h; omega
      | succ k =>
        have := uvarP_len (k + 1) (n / 128) (by omega) (by rw [Nat.pow_succ] at h; omega)
        simp; omega
    · simp
theorem uvarP_short {n : Nat} (h : n < 18446744073709551616) : (uvarP n).length ≤ 10 := uvarP_len 10 n (by omega) (by omega)
theorem uvarP_big {n : Nat} (h : 127 < n) : uvarP n = UInt8.ofNat (n % 128 + 128) :: uvarP (n / 128) := by rw [uvarP, dif_pos h]
theorem uvarP_small {n : Nat} (h : ¬ 127 < n) : uvarP n = [UInt8.ofNat n] := by rw [uvarP, dif_neg h]

theorem uvar_cell {k n : Nat} (hk : k ≤ n) (hn : (n : Int) ≤ 18446744073709551615) :
    (#[Value.int .u8 (bits .or .u8 (bits .and .u64 (k : Int) 127 % 256) 128)] : Array Value).toList = [UInt8.ofNat (k % 128 + 128)].map bv := by
  have h1 : bits .and .u64 (k : Int) 127 = (k : Int) % 128 := bits_mask .u64 64 (by decide) wraps_u64 7 (by decide) _ (by omega) (by omega)
  rw [h1, u8_or128_right _ (by omega) (by omega)]
  simp only [List.map_cons, List.map_nil, bv, UInt8.toNat_ofNat']
  congr 2
  omega
theorem ob_new {w : World} {B : Nat} {cs : Array Value} {l : Bs} {n : Nat} (hB : B ≤ w.heap.size) (hcs : cs.toList = l.map bv) (hn : n = l.length) (hm : l.length ≤ maxLen) :
    OB (w.alloc (.cells cs 5)) B (.slice (some ⟨w.heap.size, 0, none⟩) n n) l := by
  subst hn
  have h1 : cs.size = l.length := by rw [← Array.length_toList, hcs]; simp
  exact ⟨by simp, .inr ⟨w.heap.size, _, cs, rfl, hB, heap_alloc_new w _, Nat.le_refl _, hm, by omega, by rw [hcs, Nat.mul_one, List.take_of_length_le (by simp)]⟩⟩
theorem RS.shrink {w : World} {G : Nat → Prop} {ao : Option Addr} {n cap k : Nat} {xs : List Value} (h : RS w G (.slice ao n cap) n xs) (hk : k ≤ n) (j : Nat) : RS w G (.slice ao k cap) k (xs.take j) := by
  obtain ⟨ao', cap', e, h1, h2, h3⟩ := h
  cases e
  refine ⟨_, _, rfl, by omega, fun h => ?_, fun a ha => ⟨(h3 a ha).1, fun i hi => ?_⟩⟩
  · obtain ⟨g1, g2, g3⟩ := h2 h
    exact ⟨by omega, g2, by rw [g3]; simp⟩
  · have hi' : i < xs.length := by simp at hi; omega
    have := (h3 a ha).2 i hi'
    simpa using this
theorem RB.take {w : World} {G : Nat → Prop} {ao : Option Addr} {n cap k : Nat} {l : Bs} (h : RS w G (.slice ao n cap) n (l.map bv)) (hn : l.length = n) (hk : k ≤ n) : RB w G (.slice ao k cap) (l.take k) := by
  have h1 := h.shrink hk k
  unfold RB
  rw [List.length_take, List.map_take, show min k l.length = k by omega]
  exact h1
theorem HTs.take {w : World} {G : Nat → Prop} {ao : Option Addr} {n cap k : Nat} {l : List T} (h : HTs w G (.slice ao n cap) l) (hk : k ≤ l.length) : HTs w G (.slice ao k cap) (l.take k) := by
  obtain ⟨cs, h1, h2, h5, h3⟩ := h
  have hm : ∀ c ∈ cs.take k, c.length = 5 := fun c hc => by
    obtain ⟨j, hj, rfl⟩ := List.getElem_of_mem (List.mem_of_mem_take hc)
    exact (h2 j (by omega) hj).five
  refine ⟨cs.take k, by simp; omega, fun i a b => ?_, by simp; omega, ?_⟩
  · simp only [List.getElem_take]
    exact h2 i (by simp at a; omega) (by simp at b; omega)
  · obtain ⟨ao', cap', e, _⟩ := id h3
    cases e
    have h4 := h3.shrink (k := k) (by omega) (5 * k)
    have e1 : (cs.take k).length = k := by simp; omega
    have e2 : cs.flatten.take (5 * k) = (cs.take k).flatten := by
      have e3 : cs.flatten = (cs.take k).flatten ++ (cs.drop k).flatten := by rw [← List.flatten_append, List.take_append_drop]
      have e4 := flatten_len (cs.take k) 5 hm
      rw [e3, List.take_left' (by rw [e4, e1])]
    rw [e1, ← e2]
    exact h4
end Go.Proofs.YtedconnhligkeaaDoor
