/-
  laws.zzFits1, zzFits2, zzFits3: of trees that hold nothing too long they are true.
-/
import Derived.Test.YtidebamgmbdnaaaMB2
import Derived.Test.YtidebamgmbdnaaaMB3
import Derived.Deep.CutBlock
import Derived.Laws.BitsLemmas
namespace Go.Proofs.Ytidebamgmbdnaaa
open Go.ChangeShapes Go.WideShapes Go.ChangeAt Go.RowKit

theorem fits3_any {k : Int} {av : Option Addr} {n pv : Nat} {w : World} (hn : n ≤ 2147483647) :
    Calls Try.prog 61 #[.agg #[.int .u32 k, .slice av n pv]] w fun e w' => e = .returned (.bool true) ∧ Keep [] w w' := by
  go_enter Try.func61, Try.ntmps61
  go_wp2
  go_ret
  exact ⟨rfl, (Keep.refl _ _).alloc _⟩
set_option maxHeartbeats 400000 in
theorem fits2_any {G : Nat → Prop} {v : Value} {u : List Tg} {w : World} (hu : HGs w G v u) (hG : There G w) (h1 : u.length ≤ 2147483647) (h2 : ∀ x ∈ u, x.2.length ≤ 2147483647) :
    Calls Try.prog 29 #[v] w fun e w' => e = .returned (.bool true) ∧ Keep [] w w' := by
  obtain ⟨au, pu, rfl⟩ := hu.shape
  go_enter Try.func29, Try.ntmps29
  go_wp2_with fail
  go_loopw [10] (fun k wr => ∃ n : Nat, n ≤ u.length ∧ k = .int .i64 n ∧ Keep [] w wr) (fun k _ => u.length - (intOf k).toNat)
  case atStart => exact ⟨0, Nat.zero_le _, rfl, Keep.refl _ _⟩
  case round =>
    obtain ⟨n, hn, rfl, hkeep⟩ := hrel
    by_cases hlt : n < u.length
    · obtain ⟨b, o, av, pv, rfl, hGb, c0, c1, -, -⟩ := (hu.keepF (hG.same hkeep) (fun _ h => h)).elem hlt
      have hx := h2 _ (List.getElem_mem hlt)
      have F3 := fun W k => fits3_any (k := k) (av := av) (pv := pv) (w := W) hx
      have hbw : b < wr.heap.size := hG.keep hkeep b hGb
      go_wp2_with (go_at_call 61; refine (F3 _ _).mono ?_; rintro e w1 ⟨rfl, k1⟩)
      go_roundw
      case rel => exact ⟨n + 1, by omega, by go_num, hkeep.trans ((keep_box _).trans k1)⟩
      case measure => simp [intOf]; omega
    · go_wp2
      go_ret
      exact ⟨rfl, hkeep⟩
/-- nothing in the tree's own row is too long -/
structure T.Fits (t : T) : Prop where
  s : t.s.length ≤ 2147483647
  l : t.l.length ≤ 2147483647
  u : t.u.length ≤ 2147483647
  v : ∀ x ∈ t.u, x.2.length ≤ 2147483647
theorem fits1_any {G : Nat → Prop} {t : T} {c : List Value} {w : World} (ht : HT w G t c) (hG : There G w) (hf : t.Fits) :
    Calls Try.prog 8 #[.agg c.toArray] w fun e w' => e = .returned (.bool true) ∧ Keep [] w w' := by
  obtain ⟨az, ps, al, pl, au, pu, rfl, hs, hl, hu, hn1, hn2, hn3, hn4⟩ := ht.cells
  obtain ⟨f1, f2, f3, f4⟩ := hf
  have F2 := fun W (hW : Keep [] w W) => fits2_any (hu.keepF (hG.same hW) (fun _ h => h)) (hG.keep hW) f3 f4
  clear ht hs hl hu
  go_enter Try.func8, Try.ntmps8
  go_wp2_with (go_at_call 29; refine (F2 _ (keep_box _)).mono ?_; rintro e w1 ⟨rfl, k1⟩)
  go_ret
  exact ⟨rfl, (keep_box _).trans k1⟩
/-! of any value: they answer, and leave all alone -/
theorem fits3_some {k : Int} {av : Option Addr} {n pv : Nat} {w : World} :
    Calls Try.prog 61 #[.agg #[.int .u32 k, .slice av n pv]] w fun e w' => ∃ x, e = .returned (.bool x) ∧ Keep [] w w' := by
  by_cases hn : n ≤ 2147483647
  · exact (fits3_any hn).mono fun e w' h => ⟨true, h⟩
  go_enter Try.func61, Try.ntmps61
  go_wp2
  go_ret
  exact ⟨false, rfl, (Keep.refl _ _).alloc _⟩
set_option maxHeartbeats 400000 in
theorem fits2_some {G : Nat → Prop} {v : Value} {u : List Tg} {w : World} (hu : HGs w G v u) (hG : There G w) :
    Calls Try.prog 29 #[v] w fun e w' => ∃ x, e = .returned (.bool x) ∧ Keep [] w w' := by
  obtain ⟨au, pu, rfl⟩ := hu.shape
  go_enter Try.func29, Try.ntmps29
  by_cases h1 : u.length ≤ 2147483647
  · go_wp2_with fail
    go_loopw [10] (fun k wr => ∃ n : Nat, n ≤ u.length ∧ k = .int .i64 n ∧ Keep [] w wr) (fun k _ => u.length - (intOf k).toNat)
    case atStart => exact ⟨0, Nat.zero_le _, rfl, Keep.refl _ _⟩
    case round =>
      obtain ⟨n, hn, rfl, hkeep⟩ := hrel
      by_cases hlt : n < u.length
      · obtain ⟨b, o, av, pv, rfl, hGb, c0, c1, -, -⟩ := (hu.keepF (hG.same hkeep) (fun _ h => h)).elem hlt
        have F3 := fun W k n => fits3_some (k := k) (av := av) (n := n) (pv := pv) (w := W)
        have hbw : b < wr.heap.size := hG.keep hkeep b hGb
        go_wp2_with (go_at_call 61; refine (F3 _ _ _).mono ?_; rintro e w1 ⟨x, rfl, k1⟩; cases x)
        · go_ret
          exact ⟨false, rfl, hkeep.trans ((keep_box _).trans k1)⟩
        · go_roundw
          case rel => exact ⟨n + 1, by omega, by go_num, hkeep.trans ((keep_box _).trans k1)⟩
          case measure => simp [intOf]; omega
      · go_wp2
        go_ret
        exact ⟨true, rfl, hkeep⟩
  · go_wp2_with fail
    go_ret
    exact ⟨false, rfl, Keep.refl _ _⟩
theorem fits1_some {G : Nat → Prop} {t : T} {c : List Value} {w : World} (ht : HT w G t c) (hG : There G w) :
    Calls Try.prog 8 #[.agg c.toArray] w fun e w' => ∃ x, e = .returned (.bool x) ∧ Keep [] w w' := by
  obtain ⟨az, ps, al, pl, au, pu, rfl, hs, hl, hu, hn1, hn2, hn3, hn4⟩ := ht.cells
  have F2 := fun W (hW : Keep [] w W) => fits2_some (hu.keepF (hG.same hW) (fun _ h => h)) (hG.keep hW)
  clear ht hs hl hu
  go_enter Try.func8, Try.ntmps8
  by_cases f1 : t.s.length ≤ 2147483647
  · by_cases f2 : t.l.length ≤ 2147483647
    · go_wp2_with (go_at_call 29; refine (F2 _ (keep_box _)).mono ?_; rintro e w1 ⟨x, rfl, k1⟩; cases x)
      · go_ret
        exact ⟨false, rfl, (keep_box _).trans k1⟩
      · go_ret
        exact ⟨true, rfl, (keep_box _).trans k1⟩
    · go_wp2_with fail
      go_ret
      exact ⟨false, rfl, keep_box _⟩
  · go_wp2_with fail
    go_ret
    exact ⟨false, rfl, keep_box _⟩
end Go.Proofs.Ytidebamgmbdnaaa
/-
  laws.version.
-/
namespace Go.Proofs.Ytidebamgmbdnaaa
open Go.ChangeShapes Go.WideShapes Go.ChangeAt Go.RowKit

theorem version_any {n m : Int} (hn : 0 ≤ n ∧ n ≤ 255) (hm : 0 ≤ m ∧ m ≤ 1000) (w : World) : Calls Try.prog 11 #[.int .u8 n, .int .i64 m] w fun e w' => e = .returned (.int .i64 (n % (m + 1))) ∧ w = w' := by
  have h1 : n.tmod (m + 1) = n % (m + 1) := Int.tmod_eq_emod_of_nonneg hn.1
  have h2 : 0 ≤ n % (m + 1) := Int.emod_nonneg _ (by omega)
  have h3 : n % (m + 1) < m + 1 := Int.emod_lt_of_pos _ (by omega)
  go_enter Try.func11, Try.ntmps11
  go_wp2
  go_ret
  exact ⟨by first | (rw [← h1]; rfl) | (simp [h1]), rfl⟩
end Go.Proofs.Ytidebamgmbdnaaa
/-
  THE READER OF kbin: each method's contract, over what the reader's octets read as.
-/
namespace Go.Proofs.Ytidebamgmbdnaaa
open Go.ChangeShapes Go.WideShapes Go.ChangeAt Go.RowKit

theorem There.mono {G : Nat → Prop} {w w' : World} (h : There G w) (hk : w.heap.size ≤ w'.heap.size) : There G w' := fun k hg => Nat.lt_of_lt_of_le (h k hg) hk
/-- octets as a number, the highest one first -/
def be (l : Bs) : Nat := l.foldl (fun n b => 256 * n + b.toNat) 0
/-- a number of so many octets with a sign -/
def sgn (k n : Nat) : Int := if n < 2 ^ (8 * k - 1) then (n : Int) else (n : Int) - 2 ^ (8 * k)
/-- what is left, and whether it ran out -/
abbrev St := Bs × Bool
def rdN (k : Nat) (s : St) : Nat × St := if s.1.length < k then (0, ([], true)) else (be (s.1.take k), (s.1.drop k, s.2))
def rdI (k : Nat) (s : St) : Int × St := (sgn k (rdN k s).1, (rdN k s).2)

theorem be_lt : ∀ (l : Bs) (n : Nat), l.foldl (fun n b => 256 * n + b.toNat) n < 256 ^ l.length * (n + 1)
  | [], n => by simp
  | b :: r, n => by
    have h := be_lt r (256 * n + b.toNat)
    have hb : b.toNat < 256 := b.toNat_lt
    simp only [List.foldl_cons, List.length_cons, Nat.pow_succ]
    refine Nat.lt_of_lt_of_le h ?_
    rw [Nat.mul_assoc]
    exact Nat.mul_le_mul_left _ (by omega)
theorem rdN_lt (k : Nat) (s : St) : (rdN k s).1 < 256 ^ k := by
  unfold rdN
  split
  · exact Nat.pow_pos (by decide)
  · have h := be_lt (s.1.take k) 0
    have hl : (s.1.take k).length = k := by simp; omega
    simpa [be, hl] using h
theorem rdI_range1 (s : St) : -128 ≤ (rdI 1 s).1 ∧ (rdI 1 s).1 ≤ 127 := by
  have h := rdN_lt 1 s
  simp only [rdI, sgn]
  split <;> omega
theorem rdI_range2 (s : St) : -32768 ≤ (rdI 2 s).1 ∧ (rdI 2 s).1 ≤ 32767 := by
  have h := rdN_lt 2 s
  simp only [rdI, sgn]
  split <;> omega
theorem rdI_range4 (s : St) : -2147483648 ≤ (rdI 4 s).1 ∧ (rdI 4 s).1 ≤ 2147483647 := by
  have h := rdN_lt 4 s
  simp only [rdI, sgn]
  split <;> omega
theorem rdI_range8 (s : St) : -9223372036854775808 ≤ (rdI 8 s).1 ∧ (rdI 8 s).1 ≤ 9223372036854775807 := by
  have h := rdN_lt 8 s
  simp only [rdI, sgn]
  split <;> omega
theorem wrap_i16' (n : Int) : IntKind.i16.wrap n = if n % 65536 < 32768 then n % 65536 else n % 65536 - 65536 := by
  simp only [IntKind.wrap, IntKind.bits, IntKind.signed]
  first | rfl | (simp; done) | (simp; split <;> omega)
theorem wrap_i8' (n : Int) : IntKind.i8.wrap n = if n % 256 < 128 then n % 256 else n % 256 - 256 := by
  simp only [IntKind.wrap, IntKind.bits, IntKind.signed]
  first | rfl | (simp; done) | (simp; split <;> omega)
theorem RB.spot {w : World} {G : Nat → Prop} {ao : Option Addr} {n cap : Nat} {l : Bs} (h : RB w G (.slice ao n cap) l) (h0 : 0 < l.length) :
    ∃ b o, ao = some ⟨b, o, none⟩ ∧ G b ∧ n = l.length ∧ n ≤ cap ∧ ∀ j (hj : j < l.length), w.cell? ⟨b, o + j, none⟩ = some (.int .u8 (l[j].toNat : Int)) := by
  obtain ⟨ao', cap', e, h1, h2, h3⟩ := h
  cases e
  cases ao with
  | none => have := (h2 rfl).1; omega
  | some a =>
    obtain ⟨b, o, sp⟩ := a
    obtain ⟨g1, g2⟩ := h3 _ rfl
    replace g1 := g1 (by simpa using h0)
    simp only at g1
    subst g1
    refine ⟨b, o, rfl, (g2 0 (by simpa using h0)).1, rfl, h1, fun j hj => ?_⟩
    have := (g2 j (by simpa using hj)).2
    simpa [bv] using this

theorem or_up (k : IntKind) (j : Nat) (hj : j ≤ k.bits) (hk : ∀ n : Int, 0 ≤ n → n < 2 ^ j → k.wrap n = n) (i : Nat) (x y : Int) (hx₀ : 0 ≤ x) (hx : x % 2 ^ i = 0) (hx₁ : x < 2 ^ j) (hy₀ : 0 ≤ y) (hy : y < 2 ^ i) (hij : i ≤ j) : bits .or k y x = y + x := by
  have hc : bits .or k y x = bits .or k x y := by simp only [bits, BitVec.or_comm]
  have h2 : (2 : Int) ^ i ≤ 2 ^ j := by exact_mod_cast Nat.pow_le_pow_right (by decide) hij
  rw [hc, bits_join k j hj hk i x y hx₀ hx hx₁ hy₀ hy (by omega)]
  omega
theorem wraps_u16 (n : Int) (h₀ : 0 ≤ n) (h₁ : n < 2 ^ 16) : IntKind.u16.wrap n = n := by rw [IntKind.wrap_u16]; omega
theorem wraps_u32 (n : Int) (h₀ : 0 ≤ n) (h₁ : n < 2 ^ 32) : IntKind.u32.wrap n = n := by rw [IntKind.wrap_u32]; omega
theorem wraps_u64 (n : Int) (h₀ : 0 ≤ n) (h₁ : n < 2 ^ 64) : IntKind.u64.wrap n = n := by rw [IntKind.wrap_u64]; omega
theorem RB.none0 (w : World) (G : Nat → Prop) (b o c : Nat) : RB w G (.slice (some ⟨b, o, none⟩) 0 c) [] :=
  ⟨_, c, rfl, Nat.zero_le _, (fun h => by cases h), fun a ha => ⟨fun h => by simp at h, fun i hi => by simp at hi⟩⟩
/-- nothing, wherever it lies -/
theorem RB.empty (w : World) (G : Nat → Prop) (a : Addr) (c : Nat) : RB w G (.slice (some a) 0 c) [] :=
  ⟨_, c, rfl, Nat.zero_le _, (fun h => by cases h), fun a ha => ⟨fun h => by simp at h, fun i hi => by simp at hi⟩⟩
theorem RB.drop {w : World} {G : Nat → Prop} {b o n cap : Nat} {l : Bs} (h : RB w G (.slice (some ⟨b, o, none⟩) n cap) l) (k m c : Nat) (hk : k ≤ l.length) (hm : m = l.length - k) (hc : c = cap - k) : RB w G (.slice (some ⟨b, o + k, none⟩) m c) (l.drop k) := by
  obtain ⟨ao', cap', e, h1, h2, h3⟩ := h
  cases e
  subst hm hc
  refine ⟨some ⟨b, o + k, none⟩, cap - k, by rw [List.length_drop], by simp; omega, (fun h => by cases h), fun a ha => ?_⟩
  cases ha
  obtain ⟨_, g2⟩ := h3 _ rfl
  refine ⟨fun _ => rfl, fun i hi => ?_⟩
  have hi' : k + i < (l.map bv).length := by simp at hi ⊢; omega
  obtain ⟨q1, q2⟩ := g2 (k + i) hi'
  refine ⟨q1, ?_⟩
  have e : (⟨b, o + k + i, none⟩ : Addr) = ⟨b, o + (k + i), none⟩ := by rw [Nat.add_assoc]
  simp only at q2
  rw [e, q2]
  simp
theorem rdI_short {k : Nat} {s : St} (h : s.1.length < k) : (rdN k s) = (0, ([], true)) := by simp [rdN, h]
end Go.Proofs.Ytidebamgmbdnaaa
/-
  Reader.Int16.
-/
namespace Go.Proofs.Ytidebamgmbdnaaa
open Go.ChangeShapes Go.WideShapes Go.ChangeAt Go.RowKit

theorem i16_val (b0 b1 : UInt8) (r : Bs) (bad : Bool) : (rdI 2 (b0 :: b1 :: r, bad)).1 = IntKind.i16.wrap (256 * (b0.toNat : Int) + b1.toNat) := by
  have h0 : b0.toNat < 256 := b0.toNat_lt
  have h1 : b1.toNat < 256 := b1.toNat_lt
  simp only [rdI, rdN, List.length_cons, if_neg (show ¬ r.length + 1 + 1 < 2 by omega), List.take_succ_cons, List.take_zero, be, List.foldl_cons, List.foldl_nil, sgn, wrap_i16']
  split <;> split <;> omega
end Go.Proofs.Ytidebamgmbdnaaa
/-
  Reader.Int32.
-/
namespace Go.Proofs.Ytidebamgmbdnaaa
open Go.ChangeShapes Go.WideShapes Go.ChangeAt Go.RowKit

theorem i32_val (b0 b1 b2 b3 : UInt8) (r : Bs) (bad : Bool) : (rdI 4 (b0 :: b1 :: b2 :: b3 :: r, bad)).1 = IntKind.i32.wrap (16777216 * (b0.toNat : Int) + 65536 * b1.toNat + 256 * b2.toNat + b3.toNat) := by
  have h0 : b0.toNat < 256 := b0.toNat_lt
  have h1 : b1.toNat < 256 := b1.toNat_lt
  have h2 : b2.toNat < 256 := b2.toNat_lt
  have h3 : b3.toNat < 256 := b3.toNat_lt
  simp only [rdI, rdN, List.length_cons, if_neg (show ¬ r.length + 1 + 1 + 1 + 1 < 4 by omega), List.take_succ_cons, List.take_zero, be, List.foldl_cons, List.foldl_nil, sgn, IntKind.wrap_i32]
  split <;> omega
end Go.Proofs.Ytidebamgmbdnaaa
/-
  Reader.readUint64, Reader.Int64.
-/
namespace Go.Proofs.Ytidebamgmbdnaaa
open Go.ChangeShapes Go.WideShapes Go.ChangeAt Go.RowKit

theorem i64_val (b0 b1 b2 b3 b4 b5 b6 b7 : UInt8) (r : Bs) (bad : Bool) : (rdI 8 (b0 :: b1 :: b2 :: b3 :: b4 :: b5 :: b6 :: b7 :: r, bad)).1 = IntKind.i64.wrap (72057594037927936 * (b0.toNat : Int) + 281474976710656 * b1.toNat + 1099511627776 * b2.toNat + 4294967296 * b3.toNat + 16777216 * b4.toNat + 65536 * b5.toNat + 256 * b6.toNat + b7.toNat) := by
  have h0 : b0.toNat < 256 := b0.toNat_lt
  have h1 : b1.toNat < 256 := b1.toNat_lt
  have h2 : b2.toNat < 256 := b2.toNat_lt
  have h3 : b3.toNat < 256 := b3.toNat_lt
  have h4 : b4.toNat < 256 := b4.toNat_lt
  have h5 : b5.toNat < 256 := b5.toNat_lt
  have h6 : b6.toNat < 256 := b6.toNat_lt
  have h7 : b7.toNat < 256 := b7.toNat_lt
  simp only [rdI, rdN, List.length_cons, if_neg (show ¬ r.length + 1 + 1 + 1 + 1 + 1 + 1 + 1 + 1 < 8 by omega), List.take_succ_cons, List.take_zero, be, List.foldl_cons, List.foldl_nil, sgn, IntKind.wrap_i64]
  split <;> omega
theorem rdI8_wrap (s : St) : (rdI 8 s).1 = IntKind.i64.wrap ((rdN 8 s).1 : Int) := by
  have h := rdN_lt 8 s
  simp only [rdI, sgn, IntKind.wrap_i64]
  split <;> omega
theorem rdN_val (b0 b1 b2 b3 b4 b5 b6 b7 : UInt8) (r : Bs) (bad : Bool) : ((rdN 8 (b0 :: b1 :: b2 :: b3 :: b4 :: b5 :: b6 :: b7 :: r, bad)).1 : Int) = 72057594037927936 * (b0.toNat : Int) + 281474976710656 * b1.toNat + 1099511627776 * b2.toNat + 4294967296 * b3.toNat + 16777216 * b4.toNat + 65536 * b5.toNat + 256 * b6.toNat + b7.toNat := by
  simp only [rdN, List.length_cons, if_neg (show ¬ r.length + 1 + 1 + 1 + 1 + 1 + 1 + 1 + 1 < 8 by omega), List.take_succ_cons, List.take_zero, be, List.foldl_cons, List.foldl_nil]
  omega
end Go.Proofs.Ytidebamgmbdnaaa
/-
  Reader.Bool, Int8, Ok.
-/
namespace Go.Proofs.Ytidebamgmbdnaaa
open Go.ChangeShapes Go.WideShapes Go.ChangeAt Go.RowKit

def rdBool (s : St) : Bool × St := (((rdN 1 s).1 : Int) != 0, (rdN 1 s).2)
theorem i8_val (b0 : UInt8) (r : Bs) (bad : Bool) : (rdI 1 (b0 :: r, bad)).1 = IntKind.i8.wrap (b0.toNat : Int) := by
  have h0 : b0.toNat < 256 := b0.toNat_lt
  simp only [rdI, rdN, List.length_cons, if_neg (show ¬ r.length + 1 < 1 by omega), List.take_succ_cons, List.take_zero, be, List.foldl_cons, List.foldl_nil, sgn, wrap_i8']
  split <;> split <;> omega
theorem n8_val (b0 : UInt8) (r : Bs) (bad : Bool) : (rdN 1 (b0 :: r, bad)).1 = b0.toNat := by
  simp only [rdN, List.length_cons, if_neg (show ¬ r.length + 1 < 1 by omega), List.take_succ_cons, List.take_zero, be, List.foldl_cons, List.foldl_nil]
  omega
end Go.Proofs.Ytidebamgmbdnaaa
