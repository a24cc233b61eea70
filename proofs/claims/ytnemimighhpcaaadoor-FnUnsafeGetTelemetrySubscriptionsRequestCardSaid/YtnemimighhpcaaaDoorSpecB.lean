/-
  MORE SMALL FUNCTIONS OF spec: Uvarint, width, counted, whole, things, at, has, null.
-/
import Derived.Test.YtnemimighhpcaaaDoorSpecA
import Derived.Lib.VarintBits
import Derived.Laws.Bits128
namespace Go.Proofs.YtnemimighhpcaaaDoor
open Go.ChangeShapes Go.WideShapes Go.ChangeAt Go.RowKit

theorem uvarP_len : ∀ (k n : Nat), 0 < k → n < 128 ^ k → (uvarP n).length ≤ k
  | 0, _, h, _ => by omega
  | k + 1, n, _, h => by
    rw [uvarP]
    split
    · rename_i h1
      cases k with
      | zero => simp at h; omega
      | succ k =>
        have := uvarP_len (k + 1) (n / 128) (by omega) (by rw [Nat.pow_succ] at h; omega)
        simp; omega
    · simp
theorem uvarP_short {n : Nat} (h : n < 18446744073709551616) : (uvarP n).length ≤ 10 := uvarP_len 10 n (by omega) (by omega)
theorem uvarP_big {n : Nat} (h : 127 < n) : uvarP n = UInt8.ofNat (n % 128 + 128) :: uvarP (n / 128) := by rw [uvarP, dif_pos h]
theorem uvarP_small {n : Nat} (h : ¬ 127 < n) : uvarP n = [UInt8.ofNat n] := by rw [uvarP, dif_neg h]

theorem uvar_cell {k n : Nat} (hk : k ≤ n) (hn : (n : Int) ≤ 18446744073709551615) :
    (#[Value.int .u8 (bits .or .u8 (bits .and .u64 (k : Int) 127 % 256) 128)] : Array Value).toList = [UInt8.ofNat (k % 128 + 128)].map bv := by
  have h1 : bits .and .u64 (k : Int) 127 = (k : Int) % 128 := bits_mask .u64 64 (by decide) wraps_u64 7 (by decide) _ (by omega) (by omega)
  rw [h1, u8_or128_right _ (by omega) (by omega)]
  simp only [List.map_cons, List.map_nil, bv, UInt8.toNat_ofNat']
  congr 2
  omega
set_option maxHeartbeats 400000 in
set_option maxRecDepth 100000 in
theorem uvar_any (n : Nat) (hn : n < 18446744073709551616) (w : World) :
    Calls Tryd.prog 102 #[.int .u64 n] w fun e w' => ∃ d, e = .returned d ∧ OB w' w.heap.size d (uvarP n) ∧ Keep [] w w' := by
  have hshort : (uvarP n).length ≤ 10 := uvarP_short hn
  have hn' : (n : Int) ≤ 18446744073709551615 := by omega
  clear hn
  go_enter Tryd.func102, Tryd.ntmps102
  go_wp2
  go_loopw [0, 3] (fun i v wr => ∃ k : Nat, k ≤ n ∧ i = .int .u64 (k : Int) ∧ ∃ acc : Bs, acc ++ uvarP k = uvarP n ∧ OB wr w.heap.size v acc ∧ Keep [] w wr) (fun i _ _ => (intOf i).toNat)
  case atStart => exact ⟨n, Nat.le_refl _, rfl, [], rfl, OB.nil _ _, Keep.refl _ _⟩
  case round =>
    obtain ⟨k, hk, rfl, acc, hacc, hown, hkeep⟩ := hrel
    have hB := hkeep.size
    have hle : acc.length ≤ 10 := by have := congrArg List.length hacc; simp at this; omega
    have HA : Hid (acc ++ uvarP k = uvarP n) := hacc
    have HS : Hid ((uvarP n).length ≤ 10) := hshort
    clear hacc hshort
    by_cases h0 : 127 < k
    · have hc := uvar_cell hk hn'
      have HC : Hid (_ = _) := hc
      clear hc
      go_wp2_with (at_builtin; refine app_new rfl (.tmp 6) (.tmp 11) rfl w.heap.size _ acc rfl hown _ [UInt8.ofNat (k % 128 + 128)] 1 rfl HC.out rfl (by simp; omega) hB ?_; intro v' w' hown' hgr)
      have hkeep' := grow_keep hkeep hown (Nat.le_refl _) hgr
      go_wp2
      go_roundw
      case rel => exact ⟨k / 128, by omega, by go_num, acc ++ [UInt8.ofNat (k % 128 + 128)], by have := HA.out; rw [uvarP_big h0] at this; simpa using this, hown', hkeep'⟩
      case measure => simp [intOf]; omega
    · go_wp2_with (at_builtin; refine app_new rfl (.tmp 15) (.tmp 18) rfl w.heap.size _ acc rfl hown _ [UInt8.ofNat k] 1 rfl (by simp [bv]; omega) rfl (by simp; omega) hB ?_; intro v' w' hown' hgr)
      have hkeep' := grow_keep hkeep hown (Nat.le_refl _) hgr
      go_wp2
      go_ret
      exact ⟨_, rfl, by have := HA.out; rw [uvarP_small h0] at this; rw [← this]; exact hown', hkeep'⟩

set_option maxHeartbeats 400000 in
theorem width_any (k : Int) (w : World) :
    Calls Tryd.prog 123 #[.int .i64 k] w fun e w' => e = .returned (.int .i64 (widthP k)) ∧ w = w' := by
  go_enter Tryd.func123, Tryd.ntmps123
  go_wp2
  all_goals go_ret
  all_goals refine ⟨?_, rfl⟩
  all_goals (unfold widthP; simp_all)

theorem ob_new {w : World} {B : Nat} {cs : Array Value} {l : Bs} {n : Nat} (hB : B ≤ w.heap.size) (hcs : cs.toList = l.map bv) (hn : n = l.length) (hm : l.length ≤ maxLen) :
    OB (w.alloc (.cells cs 5)) B (.slice (some ⟨w.heap.size, 0, none⟩) n n) l := by
  subst hn
  have h1 : cs.size = l.length := by rw [← Array.length_toList, hcs]; simp
  exact ⟨by simp, .inr ⟨w.heap.size, _, cs, rfl, hB, heap_alloc_new w _, Nat.le_refl _, hm, by omega, by rw [hcs, Nat.mul_one, List.take_of_length_le (by simp)]⟩⟩
set_option maxHeartbeats 400000 in
set_option maxRecDepth 100000 in
theorem counted_any (flex null : Bool) (n size : Nat) (hn : n ≤ 4611686018427387904) (hs : size ≤ 8) (w : World) :
    Calls Tryd.prog 133 #[.bool flex, .bool null, .int .i64 n, .int .i64 size] w fun e w' => ∃ d, e = .returned d ∧ OB w' w.heap.size d (countedP flex null n size) ∧ Keep [] w w' := by
  have e1 : ((n + 1 : Nat) : Int) = (n : Int) + 1 := by omega
  have c1 := uvar_any (n + 1) (by omega)
  rw [e1] at c1
  clear e1
  cases flex <;> cases null
  all_goals
    go_enter Tryd.func133, Tryd.ntmps133
    go_wp2_with (first
      | (go_at_call 102; refine (c1 _).mono ?_; rintro e w' ⟨d, rfl, h1, h2⟩)
      | (go_at_call 97; refine (fixed_any _ _ hs _).mono ?_; rintro e w' ⟨d, rfl, h1, h2⟩))
    go_ret
  · exact ⟨_, rfl, h1, h2⟩
  · exact ⟨_, rfl, h1, h2⟩
  · exact ⟨_, rfl, h1, h2⟩
  · exact ⟨_, rfl, ob_new (l := [0]) (Nat.le_refl _) rfl rfl (by decide), (Keep.refl _ _).alloc _⟩

theorem RS.shrink {w : World} {G : Nat → Prop} {ao : Option Addr} {n cap k : Nat} {xs : List Value} (h : RS w G (.slice ao n cap) n xs) (hk : k ≤ n) (j : Nat) : RS w G (.slice ao k cap) k (xs.take j) := by
  obtain ⟨ao', cap', e, h1, h2, h3⟩ := h
  cases e
  refine ⟨_, _, rfl, by omega, fun h => ?_, fun a ha => ⟨(h3 a ha).1, fun i hi => ?_⟩⟩
  · obtain ⟨g1, g2, g3⟩ := h2 h
    exact ⟨by omega, g2, by rw [g3]; simp⟩
  · have hi' : i < xs.length := by simp at hi; omega
    have := (h3 a ha).2 i hi'
    simpa using this
theorem RB.take {w : World} {G : Nat → Prop} {ao : Option Addr} {n cap k : Nat} {l : Bs} (h : RS w G (.slice ao n cap) n (l.map bv)) (hn : l.length = n) (hk : k ≤ n) : RB w G (.slice ao k cap) (l.take k) := by
  have h1 := h.shrink hk k
  unfold RB
  rw [List.length_take, List.map_take, show min k l.length = k by omega]
  exact h1
theorem HTs.take {w : World} {G : Nat → Prop} {ao : Option Addr} {n cap k : Nat} {l : List T} (h : HTs w G (.slice ao n cap) l) (hk : k ≤ l.length) : HTs w G (.slice ao k cap) (l.take k) := by
  obtain ⟨cs, h1, h2, h5, h3⟩ := h
  have hm : ∀ c ∈ cs.take k, c.length = 5 := fun c hc => by
    obtain ⟨j, hj, rfl⟩ := List.getElem_of_mem (List.mem_of_mem_take hc)
    exact (h2 j (by omega) hj).five
  refine ⟨cs.take k, by simp; omega, fun i a b => ?_, by simp; omega, ?_⟩
  · simp only [List.getElem_take]
    exact h2 i (by simp at a; omega) (by simp at b; omega)
  · obtain ⟨ao', cap', e, _⟩ := id h3
    cases e
    have h4 := h3.shrink (k := k) (by omega) (5 * k)
    have e1 : (cs.take k).length = k := by simp; omega
    have e2 : cs.flatten.take (5 * k) = (cs.take k).flatten := by
      have e3 : cs.flatten = (cs.take k).flatten ++ (cs.drop k).flatten := by rw [← List.flatten_append, List.take_append_drop]
      have e4 := flatten_len (cs.take k) 5 hm
      rw [e3, List.take_left' (by rw [e4, e1])]
    rw [e1, ← e2]
    exact h4
set_option maxHeartbeats 400000 in
theorem whole_any {G : Nat → Prop} {v : Value} {l : Bs} {w : World} (h : RB w G v l) (hl : l.length ≤ 4611686018427387904) :
    Calls Tryd.prog 87 #[v] w fun e w' => ∃ d, e = .returned d ∧ RB w' G d (whole l) ∧ w = w' := by
  obtain ⟨ao, cap, rfl, hcap, h1⟩ := id h
  have H1 : Hid _ := h
  clear h1 h
  by_cases hle : l.length ≤ 32767
  · go_enter Tryd.func87, Tryd.ntmps87
    go_wp2
    go_ret
    refine ⟨_, rfl, ?_, rfl⟩
    unfold whole
    rw [List.take_of_length_le (by omega)]
    exact H1.out
  · go_enter Tryd.func87, Tryd.ntmps87
    go_wp2
    go_ret
    exact ⟨_, rfl, RB.take H1.out rfl (by omega), rfl⟩
set_option maxHeartbeats 400000 in
theorem things_any {G : Nat → Prop} {v : Value} {l : List T} {w : World} (h : HTs w G v l) :
    Calls Tryd.prog 125 #[v] w fun e w' => ∃ d, e = .returned d ∧ HTs w' G d (things l) ∧ w = w' := by
  have hl := h.bd
  obtain ⟨ao, cap, rfl, hcap⟩ := h.shape
  have H1 : Hid (HTs w G (.slice ao l.length cap) l) := h
  clear h
  by_cases hle : l.length ≤ 32767
  · go_enter Tryd.func125, Tryd.ntmps125
    go_wp2
    go_ret
    refine ⟨_, rfl, ?_, rfl⟩
    unfold things
    rw [List.take_of_length_le (by omega)]
    exact H1.out
  · go_enter Tryd.func125, Tryd.ntmps125
    go_wp2
    go_ret
    exact ⟨_, rfl, HTs.take H1.out (by omega), rfl⟩
end Go.Proofs.YtnemimighhpcaaaDoor
