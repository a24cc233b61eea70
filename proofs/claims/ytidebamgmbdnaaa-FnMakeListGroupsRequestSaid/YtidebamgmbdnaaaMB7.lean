/-
  kbin.Uvarint, Reader.Uvarint.
-/
import Derived.Test.YtidebamgmbdnaaaMB5
import Derived.Lib.VarintBits
import Derived.ScopeJumps
import Derived.WalkMore
namespace Go.Proofs.Ytidebamgmbdnaaa
open Go.ChangeShapes Go.WideShapes Go.ChangeAt Go.RowKit

/-- a number in groups, from the group k on: what it is, and how many octets it has (0: there are too few; -5: it has too many bits) -/
def uvAt (k acc : Nat) : Bs → Nat × Int
  | [] => (0, 0)
  | a :: r => if k = 4 then (if a.toNat ≤ 15 then (acc + a.toNat * 2 ^ (7 * k), 5) else (0, -5))
      else if a.toNat < 128 then (acc + a.toNat * 2 ^ (7 * k), (k : Int) + 1) else uvAt (k + 1) (acc + (a.toNat % 128) * 2 ^ (7 * k)) r
def uvP (l : Bs) : Nat × Int := uvAt 0 0 l
def rdUv (s : St) : Nat × St := if (uvP s.1).2 ≤ 0 then (0, ([], true)) else ((uvP s.1).1, (s.1.drop (uvP s.1).2.toNat, s.2))

theorem uvAt_lt : ∀ (l : Bs) (k acc : Nat), k ≤ 4 → acc < 2 ^ (7 * k) → (uvAt k acc l).1 < 4294967296 ∧ (uvAt k acc l).2 ≤ (k + l.length : Nat) ∧ (uvAt k acc l).2 ≤ 5
  | [], k, acc, _, _ => by simp [uvAt]
  | a :: r, k, acc, hk, ha => by
    have h0 : a.toNat < 256 := a.toNat_lt
    have ih := uvAt_lt r (k + 1) (acc + (a.toNat % 128) * 2 ^ (7 * k))
    have hm : a.toNat % 128 < 128 := Nat.mod_lt _ (by decide)
    obtain rfl | rfl | rfl | rfl | rfl : k = 0 ∨ k = 1 ∨ k = 2 ∨ k = 3 ∨ k = 4 := by omega
    · have := ih (by omega) (by simp; omega)
      unfold uvAt
      split
      · omega
      · split
        · simp; omega
        · simp at this ⊢; omega
    · have := ih (by omega) (by simp; omega)
      unfold uvAt
      split
      · omega
      · split
        · simp; omega
        · simp at this ⊢; omega
    · have := ih (by omega) (by simp; omega)
      unfold uvAt
      split
      · omega
      · split
        · simp; omega
        · simp at this ⊢; omega
    · have := ih (by omega) (by simp; omega)
      unfold uvAt
      split
      · omega
      · split
        · simp; omega
        · simp at this ⊢; omega
    · unfold uvAt
      split
      · split
        · simp; omega
        · simp; omega
      · omega
theorem uvP_lt (l : Bs) : (uvP l).1 < 4294967296 ∧ (uvP l).2 ≤ (l.length : Nat) ∧ (uvP l).2 ≤ 5 := by
  have h := uvAt_lt l 0 0 (by omega) (by simp)
  unfold uvP
  refine ⟨h.1, ?_, h.2.2⟩
  have := h.2.1
  omega
theorem rdUv_lt (s : St) : (rdUv s).1 < 4294967296 := by
  unfold rdUv
  split
  · simp
  · exact (uvP_lt s.1).1
theorem and128_lo (x : Int) (h0 : 0 ≤ x) (h1 : x < 128) : bits .and .u8 x 128 = 0 := by
  obtain ⟨n, rfl⟩ := Int.eq_ofNat_of_zero_le h0
  have h : ∀ n : Fin 128, bits .and .u8 (n.val : Int) 128 = 0 := by decide +kernel
  exact h ⟨n, by omega⟩
theorem and128_hi (x : Int) (h0 : 128 ≤ x) (h1 : x < 256) : bits .and .u8 x 128 = 128 := by
  obtain ⟨n, rfl⟩ := Int.eq_ofNat_of_zero_le (show 0 ≤ x by omega)
  have h : ∀ n : Fin 256, 128 ≤ n.val → bits .and .u8 (n.val : Int) 128 = 128 := by decide +kernel
  exact h ⟨n, by omega⟩ (by simp only; omega)
theorem or_dn (j : Nat) (hj : j ≤ 32) (y x : Int) (hx₀ : 0 ≤ x) (hx : x % 2 ^ j = 0) (hx₁ : x < 4294967296) (hy₀ : 0 ≤ y) (hy : y < 2 ^ j) : bits .or .u32 y x = y + x :=
  or_up .u32 32 (by decide) wraps_u32 j x y hx₀ hx (by simpa using hx₁) hy₀ hy hj
/-- a scope that is jumped in once, forward -/
theorem wp_scope_once {P : Program} {a : Act} {w : World} {Q : Exit → Act → World → Prop} {c rest : Code} (l : Nat) (A : Act) (W : World) (hf : findLabel c l = some rest)
    (first : c.wp P (Exit.jump l (fun a1 w1 => a1 = A ∧ w1 = W) Q) a w) (pass : rest.wp P (Exit.jump l (fun _ _ => False) Q) A W) : (Code.scope c).wp P Q a w := by
  refine wp_scope_jumps l (fun a1 w1 => a1 = A ∧ w1 = W) (fun _ _ => 0) hf first ?_
  rintro _ _ ⟨rfl, rfl⟩
  simpa using pass
theorem Exit.jump_ret {l : Nat} {J : Act → World → Prop} {Q : Exit → Act → World → Prop} {a : Act} {w : World} : Exit.jump l J Q .ret a w = Q .ret a w := rfl
end Go.Proofs.Ytidebamgmbdnaaa
