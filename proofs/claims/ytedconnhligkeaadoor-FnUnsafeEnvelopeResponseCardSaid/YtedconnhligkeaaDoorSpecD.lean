/-
  spec.value: what is written of a value of a kind. The part's contract is handed over.
-/
import Derived.Test.YtedconnhligkeaaDoorSpecC
import Derived.Laws.CopyOwn
import Derived.Deep.RegionHeld3
namespace Go.Proofs.YtedconnhligkeaaDoor
open Go.ChangeShapes Go.WideShapes Go.ChangeAt Go.RowKit

theorem keep_box {A : List Nat} {w : World} (o : Obj) : Keep A w (w.alloc o) := (Keep.refl _ _).alloc _
theorem OB.len {w : World} {B : Nat} {v : Value} {l : Bs} (h : OB w B v l) : ∃ ao cap, v = .slice ao l.length cap := by
  obtain ⟨_, ⟨rfl, h2⟩ | ⟨g, cap, cur, rfl, _⟩⟩ := h
  · exact ⟨none, 0, by rw [h2]⟩
  · exact ⟨_, _, rfl⟩
theorem OB.lower {w : World} {B B' : Nat} {v : Value} {l : Bs} (h : OB w B v l) (hB : B' ≤ B) : OB w B' v l := by
  obtain ⟨h1, h2 | ⟨g, cap, cur, e, hb, r⟩⟩ := h
  · exact ⟨h1, .inl h2⟩
  · exact ⟨h1, .inr ⟨g, cap, cur, e, Nat.le_trans hB hb, r⟩⟩
theorem OB.keep {w w' : World} {B : Nat} {v : Value} {l : Bs} (h : OB w B v l) (hk : Keep [] w w') : OB w' B v l := by
  obtain ⟨h1, h2 | ⟨g, cap, cur, e, hb, hg, r⟩⟩ := h
  · exact ⟨h1, .inl h2⟩
  · exact ⟨h1, .inr ⟨g, cap, cur, e, hb, by rw [hk.block g (Array.getElem?_eq_some_iff.1 hg).1 (by simp)]; exact hg, r⟩⟩
theorem own_cell {w w' : World} {B : Nat} {v : Value} {l : Bs} (h : OB w B v l) (hg : w.grownBy w' v.ownBlock) {p : Addr} (hp : p.block < B) (hB : B ≤ w.heap.size) : w'.cell? p = w.cell? p :=
  World.cell?_of_block (hg.block _ (by omega) (fun e => by have := (h.lt _ e.symm).1; omega))
theorem whole_len (l : Bs) : (whole l).length ≤ 32767 := by simp [whole]; omega

theorem and_one (n : Int) : bits .and .i64 n 1 = n % 2 := by
  have h1 : (BitVec.ofInt 64 1).toNat = 2 ^ 1 - 1 := by decide
  have key : (BitVec.ofInt 64 n &&& BitVec.ofInt 64 1).toNat = (n % ((2 ^ 64 : Nat) : Int)).toNat % 2 ^ 1 := by
    rw [BitVec.toNat_and, BitVec.toNat_ofInt, h1, Nat.and_two_pow_sub_one_eq_mod]
  show IntKind.i64.wrap ((BitVec.ofInt 64 n &&& BitVec.ofInt 64 1).toNat : Nat) = n % 2
  rw [key, IntKind.wrap_i64]
  omega
theorem fixedP_len (n : Int) : ∀ k, (fixedP n k).length = k
  | 0 => rfl
  | k + 1 => by simp [fixedP, fixedP_len n k]
theorem countedP_len (flex null : Bool) (n size : Nat) (hs : size ≤ 8) (hn : n ≤ 4611686018427387904) : (countedP flex null n size).length ≤ 10 := by
  have h1 := uvarP_short (n := n + 1) (by omega)
  unfold countedP
  split
  · simp
  · split
    · exact h1
    · split <;> (rw [fixedP_len]; omega)
theorem ob_new' {w : World} {B g : Nat} {cs : Array Value} {l : Bs} {n : Nat} (hg : g = w.heap.size) (hB : B ≤ w.heap.size) (hcs : cs.toList = l.map bv) (hn : n = l.length) (hm : l.length ≤ maxLen) :
    OB (w.alloc (.cells cs 5)) B (.slice (some ⟨g, 0, none⟩) n n) l := by
  subst hg
  exact ob_new hB hcs hn hm
theorem bool_cell (n : Int) : (#[Value.int .u8 (n % 2)] : Array Value).toList = [UInt8.ofNat (n % 2).toNat].map bv := by
  simp only [List.map_cons, List.map_nil, bv, UInt8.toNat_ofNat']
  congr 2
  omega

theorem alloc_at2 (w : World) (o1 o2 : Obj) : ((w.alloc o1).alloc o2).heap[w.heap.size + 1]? = some o2 := by
  have h := heap_alloc_new (w.alloc o1) o2
  simpa using h
theorem addr_add (b o j : Nat) : (⟨b, o, none⟩ : Addr).add j = ⟨b, o + j, none⟩ := by
  unfold Addr.add
  split
  · subst j; rfl
  · rfl
/-- the cells of octets that lie somewhere, as the laws on copies ask for them -/
theorem RB.src {w : World} {G : Nat → Prop} {az : Option Addr} {n p : Nat} {l : Bs} (h : RB w G (.slice az n p) l) (h0 : 0 < l.length) :
    ∃ ad, az = some ad ∧ ∀ (j : Nat) (v : Value), (l.map bv)[j]? = some v → w.cell? (ad.add j) = some v := by
  obtain ⟨ao, cap, e, h1, h2, h3⟩ := h
  cases e
  cases az with
  | none => have := (h2 rfl).1; omega
  | some a =>
    refine ⟨a, rfl, fun j v hj => ?_⟩
    obtain ⟨b, o, sp⟩ := a
    obtain ⟨g1, g2⟩ := h3 _ rfl
    simp only at g1
    subst g1
    have hlt : j < (l.map bv).length := (List.getElem?_eq_some_iff.1 hj).1
    rw [List.getElem?_eq_getElem hlt] at hj
    rw [addr_add, (g2 j hlt).2]
    exact hj
theorem oneCell_bv (l : Bs) : ∀ v ∈ l.map bv, v.oneCell' = true := by
  intro u hu
  obtain ⟨x, _, rfl⟩ := List.mem_map.1 hu
  rfl
theorem keep_of_below {w w' : World} (h : Below w.heap.size w w') : Keep [] w w' := ⟨h.os, h.tape, h.output, h.size, fun k hk _ => h.block k hk⟩
theorem uuid_splice (s : Bs) : splice (List.replicate 16 (Value.int .u8 0)) 0 ((s.map bv).take 16) = (s.take 16 ++ List.replicate (16 - s.length) 0).map bv := by
  have e : (Value.int .u8 0) = bv 0 := rfl
  rw [e]
  simp only [splice, List.map_append, List.map_take, List.map_replicate, List.take_zero, List.nil_append, Nat.zero_add, List.drop_replicate, List.length_take, List.length_map]
  congr 2
  omega
theorem ob_block {w : World} {B g n : Nat} {l : Bs} (hB : B ≤ g) (h : w.heap[g]? = some (.cells (l.map bv).toArray 5)) (hn : n = l.length) (hm : l.length ≤ maxLen) : OB w B (.slice (some ⟨g, 0, none⟩) n n) l := by
  subst hn
  exact ⟨by simp, .inr ⟨g, _, _, rfl, hB, h, Nat.le_refl _, hm, by simp, by simp [List.take_of_length_le]⟩⟩
theorem make16 (u : World) : (Instr.makeSlice 22 (.int .i64 16) (.int .i64 16)).run Tryd.prog u = .ok (.slice (some ⟨u.heap.size, 0, none⟩) 16 16) (u.alloc (.cells (List.replicate 16 (.int .u8 0)).toArray 5)) := by kernel_rfl
theorem zeros16 : (List.replicate 16 (.int .u8 0) : List Value) = (List.replicate 16 (0 : UInt8)).map bv := rfl
end Go.Proofs.YtedconnhligkeaaDoor
