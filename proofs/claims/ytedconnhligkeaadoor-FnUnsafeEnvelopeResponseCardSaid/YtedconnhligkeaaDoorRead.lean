/-
  THE READER OF kbin: each method's contract, over what the reader's octets read as.
-/
import Derived.Test.YtedconnhligkeaaDoorGot
import Derived.Laws.BitsLemmas
namespace Go.Proofs.YtedconnhligkeaaDoor
open Go.ChangeShapes Go.WideShapes Go.ChangeAt Go.RowKit

theorem There.mono {G : Nat → Prop} {w w' : World} (h : There G w) (hk : w.heap.size ≤ w'.heap.size) : There G w' := fun k hg => Nat.lt_of_lt_of_le (h k hg) hk
/-- octets as a number, the highest one first -/
def be (l : Bs) : Nat := l.foldl (fun n b => 256 * n + b.toNat) 0
/-- a number of so many octets with a sign -/
def sgn (k n : Nat) : Int := if n < 2 ^ (8 * k - 1) then (n : Int) else (n : Int) - 2 ^ (8 * k)
/-- what is left, and whether it ran out -/
abbrev St := Bs × Bool
def rdN (k : Nat) (s : St) : Nat × St := if s.1.length < k then (0, ([], true)) else (be (s.1.take k), (s.1.drop k, s.2))
def rdI (k : Nat) (s : St) : Int × St := (sgn k (rdN k s).1, (rdN k s).2)

theorem be_lt : ∀ (l : Bs) (n : Nat), l.foldl (fun n b => 256 * n + b.toNat) n < 256 ^ l.length * (n + 1)
  | [], n => by simp
  | b :: r, n => by
    have h := be_lt r (256 * n + b.toNat)
    have hb : b.toNat < 256 := b.toNat_lt
    simp only [List.foldl_cons, List.length_cons, Nat.pow_succ]
    refine Nat.lt_of_lt_of_le h ?_
    rw [Nat.mul_assoc]
    exact Nat.mul_le_mul_left _ (by omega)
theorem rdN_lt (k : Nat) (s : St) : (rdN k s).1 < 256 ^ k := by
  unfold rdN
  split
  · exact Nat.pow_pos (by decide)
  · have h := be_lt (s.1.take k) 0
    have hl : (s.1.take k).length = k := by simp; omega
    simpa [be, hl] using h
theorem rdI_range1 (s : St) : -128 ≤ (rdI 1 s).1 ∧ (rdI 1 s).1 ≤ 127 := by
  have h := rdN_lt 1 s
  simp only [rdI, sgn]
  split <;> omega
theorem rdI_range2 (s : St) : -32768 ≤ (rdI 2 s).1 ∧ (rdI 2 s).1 ≤ 32767 := by
  have h := rdN_lt 2 s
  simp only [rdI, sgn]
  split <;> omega
theorem rdI_range4 (s : St) : -2147483648 ≤ (rdI 4 s).1 ∧ (rdI 4 s).1 ≤ 2147483647 := by
  have h := rdN_lt 4 s
  simp only [rdI, sgn]
  split <;> omega
theorem rdI_range8 (s : St) : -9223372036854775808 ≤ (rdI 8 s).1 ∧ (rdI 8 s).1 ≤ 9223372036854775807 := by
  have h := rdN_lt 8 s
  simp only [rdI, sgn]
  split <;> omega
theorem wrap_i16' (n : Int) : IntKind.i16.wrap n = if n % 65536 < 32768 then n % 65536 else n % 65536 - 65536 := by
  simp only [IntKind.wrap, IntKind.bits, IntKind.signed]
  first | rfl | (simp; done) | (simp; split <;> omega)
theorem wrap_i8' (n : Int) : IntKind.i8.wrap n = if n % 256 < 128 then n % 256 else n % 256 - 256 := by
  simp only [IntKind.wrap, IntKind.bits, IntKind.signed]
  first | rfl | (simp; done) | (simp; split <;> omega)
/-- the reader's block -/
def Rd (w : World) (b : Nat) (G : Nat → Prop) (s : St) : Prop := ∃ v, w.heap[b]? = some (.cells #[v, .bool s.2] 68 (0, 0)) ∧ RB w G v s.1

theorem RB.spot {w : World} {G : Nat → Prop} {ao : Option Addr} {n cap : Nat} {l : Bs} (h : RB w G (.slice ao n cap) l) (h0 : 0 < l.length) :
    ∃ b o, ao = some ⟨b, o, none⟩ ∧ G b ∧ n = l.length ∧ n ≤ cap ∧ ∀ j (hj : j < l.length), w.cell? ⟨b, o + j, none⟩ = some (.int .u8 (l[j].toNat : Int)) := by
  obtain ⟨ao', cap', e, h1, h2, h3⟩ := h
  cases e
  cases ao with
  | none => have := (h2 rfl).1; omega
  | some a =>
    obtain ⟨b, o, sp⟩ := a
    obtain ⟨g1, g2⟩ := h3 _ rfl
    simp only at g1
    subst g1
    refine ⟨b, o, rfl, (g2 0 (by simpa using h0)).1, rfl, h1, fun j hj => ?_⟩
    have := (g2 j (by simpa using hj)).2
    simpa [bv] using this

theorem or_up (k : IntKind) (j : Nat) (hj : j ≤ k.bits) (hk : ∀ n : Int, 0 ≤ n → n < 2 ^ j → k.wrap n = n) (i : Nat) (x y : Int) (hx₀ : 0 ≤ x) (hx : x % 2 ^ i = 0) (hx₁ : x < 2 ^ j) (hy₀ : 0 ≤ y) (hy : y < 2 ^ i) (hij : i ≤ j) : bits .or k y x = y + x := by
  have hc : bits .or k y x = bits .or k x y := by simp only [bits, BitVec.or_comm]
  have h2 : (2 : Int) ^ i ≤ 2 ^ j := by exact_mod_cast Nat.pow_le_pow_right (by decide) hij
  rw [hc, bits_join k j hj hk i x y hx₀ hx hx₁ hy₀ hy (by omega)]
  omega
theorem wraps_u16 (n : Int) (h₀ : 0 ≤ n) (h₁ : n < 2 ^ 16) : IntKind.u16.wrap n = n := by rw [IntKind.wrap_u16]; omega
theorem wraps_u32 (n : Int) (h₀ : 0 ≤ n) (h₁ : n < 2 ^ 32) : IntKind.u32.wrap n = n := by rw [IntKind.wrap_u32]; omega
theorem wraps_u64 (n : Int) (h₀ : 0 ≤ n) (h₁ : n < 2 ^ 64) : IntKind.u64.wrap n = n := by rw [IntKind.wrap_u64]; omega
theorem RB.none0 (w : World) (G : Nat → Prop) (b o c : Nat) : RB w G (.slice (some ⟨b, o, none⟩) 0 c) [] :=
  ⟨_, c, rfl, Nat.zero_le _, (fun h => by cases h), fun a ha => ⟨by cases ha; rfl, fun i hi => by simp at hi⟩⟩
theorem RB.drop {w : World} {G : Nat → Prop} {b o n cap : Nat} {l : Bs} (h : RB w G (.slice (some ⟨b, o, none⟩) n cap) l) (k m c : Nat) (hk : k ≤ l.length) (hm : m = l.length - k) (hc : c = cap - k) : RB w G (.slice (some ⟨b, o + k, none⟩) m c) (l.drop k) := by
  obtain ⟨ao', cap', e, h1, h2, h3⟩ := h
  cases e
  subst hm hc
  refine ⟨some ⟨b, o + k, none⟩, cap - k, by rw [List.length_drop], by simp; omega, (fun h => by cases h), fun a ha => ?_⟩
  cases ha
  obtain ⟨_, g2⟩ := h3 _ rfl
  refine ⟨rfl, fun i hi => ?_⟩
  have hi' : k + i < (l.map bv).length := by simp at hi ⊢; omega
  obtain ⟨q1, q2⟩ := g2 (k + i) hi'
  refine ⟨q1, ?_⟩
  have e : (⟨b, o + k + i, none⟩ : Addr) = ⟨b, o + (k + i), none⟩ := by rw [Nat.add_assoc]
  simp only at q2
  rw [e, q2]
  simp
/-- the end of a reading of k octets -/
theorem rd_done {k b : Nat} {G : Nat → Prop} {src : Bs} {bad : Bool} {w w2 : World} {bs o cap : Nat} {v : Value} (hG : There G w) (hb : ¬ G b) (hr : RB w G (.slice (some ⟨bs, o, none⟩) src.length cap) src) (hk : ¬ src.length < k) (kx : Keep [] w w2)
    (hh : w2.heap[b]? = some (.cells #[.slice (some ⟨bs, o, none⟩) src.length cap, .bool bad] 68 (0, 0)))
    (hv : (v = .slice (some ⟨bs, o, none⟩) 0 (cap - k) ∧ src.length = k) ∨ v = .slice (some ⟨bs, o + k, none⟩) (src.length - k) (cap - k)) :
    Rd (w2.setCell ⟨b, 0, none⟩ v) b G (rdN k (src, bad)).2 ∧ Keep [b] w (w2.setCell ⟨b, 0, none⟩ v) := by
  have hs : SameOn G w (w2.setCell ⟨b, 0, none⟩ v) := fun j hj => (Below.heap_setCell _ _ _ _ (fun e => hb (by simp only at e; rw [← e]; exact hj))).trans (hG.same kx j hj)
  refine ⟨⟨v, ?_, ?_⟩, (kx.weaken (by simp)).setCell (.inl (by simp)) _⟩
  · simp only [rdN, if_neg hk]
    exact heap_set hh v
  · simp only [rdN, if_neg hk]
    rcases hv with ⟨rfl, e⟩ | rfl
    · rw [show src.drop k = [] from List.drop_eq_nil_of_le (by omega)]
      exact RB.none0 _ _ _ _ _
    · exact RB.keepF (hr.drop k _ _ (by omega) rfl rfl) hs (fun _ h => h)
theorem rdI_short {k : Nat} {s : St} (h : s.1.length < k) : (rdN k s) = (0, ([], true)) := by simp [rdN, h]
end Go.Proofs.YtedconnhligkeaaDoor
