/-
  SIXTEEN OCTETS read and stored as a whole: the box that they lie in, the struct that they go into.
-/
import Derived.Test.YtidebamgmbdnaaaMB13
import Derived.Test.YtidebamgmbdnaaaMB5
import Derived.Test.YtidebamgmbdnaaaMB2
import Derived.Test.YtidebamgmbdnaaaMB4
import Derived.Deep.MidRow
import Derived.ChangeSlices
import Derived.ChangeArms
import Derived.DataReads
import Derived.Test.YtidebamgmbdnaaaProg
import Derived.Shelf.GgSortFunc.Whole
namespace Go.Proofs.Ytidebamgmbdnaaa
open Go.ChangeShapes Go.WideShapes Go.ChangeAt Go.RowKit

theorem setAll_cells (b : Nat) : ∀ (vs : List Value) (o : Nat) (w : World), setAll w b o vs = w.setCells b o vs
  | [], _, _ => rfl
  | v :: r, o, w => by rw [setAll, World.setCells, setAll_cells b r]
theorem info16 {n : Nat} (h : n = 16) : (Try.prog.info? 119).map (·.size) = some n := by
  subst h
  kernel_rfl
theorem one16 (x : Bs) : (x.map bv).toArray.all (·.oneCell') = true := by
  rw [Array.all_eq_true_iff_forall_mem]
  intro v hv
  simp only [List.mem_toArray, List.mem_map] at hv
  obtain ⟨b, _, rfl⟩ := hv
  rfl
theorem uuid_len (s : St) : ((rdUuid s).1.map bv).length = 16 := by rw [List.length_map]; exact pad16_length _
theorem box_there (w : World) {arr : Array Value} {ty : TypeId} {n : Nat} (h : n = arr.size) : (w.alloc (.cells arr ty)).there w.heap.size 0 n := fun j hj => by
  subst h
  have hb := heap_alloc_new w (.cells arr ty)
  refine ⟨?_, freeOf hb _⟩
  rw [cellOf hb (0 + j) _ (by rw [Nat.zero_add]; exact Array.getElem?_eq_getElem hj)]
  rfl
theorem box_keep (w : World) {arr : Array Value} {ty : TypeId} {cs : List Value} (h : cs.length = arr.size) : Keep [] w ((w.alloc (.cells arr ty)).setCells w.heap.size 0 cs) := by
  have hb : (w.alloc (.cells arr ty)).heap[w.heap.size]? = some (.cells ([] ++ arr.toList ++ []).toArray ty (0, 0)) := by simpa using heap_alloc_new w (.cells arr ty)
  have hk := (setAll_heap (pre := []) (xs := cs) (by simpa using h) hb).2
  rw [List.length_nil, setAll_cells] at hk
  exact Keep.fresh (B := []) (((keep_box (A := []) _).weaken (by simp)).trans hk) (by simp)
theorem box_range (w : World) {arr : Array Value} {ty : TypeId} {cs : List Value} (h : cs.length = arr.size) : ((w.alloc (.cells arr ty)).setCells w.heap.size 0 cs).rangeAt w.heap.size 0 cs :=
  World.rangeAt_setCells_same _ _ _ _ (box_there w h)
/-- a store of many cells, of a list of them -/
theorem wpList_store_list {P : Program} {ops : Array Oper} {rest : List Oper} {op : Oper} {a : Act} {w : World} {Q : Exit → Act → World → Prop} (hgd : op.guard = none) (ty : TypeId) (x y : Operand) (ho : op.op = .store ty x y)
    (b o : Nat) (cs : List Value) (hx : a.eval x = .pointer (some ⟨b, o, none⟩)) (hy : a.eval y = .agg cs.toArray)
    (ht : w.there b o cs.length) (hi : (P.info? ty).map (·.size) = some cs.length) (h1 : cs.toArray.all (·.oneCell') = true)
    (h : wpList P ops Q rest (a.put op.dst undef) (w.setCells b o cs)) : wpList P ops Q (op :: rest) a w :=
  wpList_store_mid hgd ty x y ho b o cs.toArray hx hy (by simpa using ht) (by simpa using hi) h1 (by simpa using h)
namespace ElSt
variable {w U : World} {row rb : Nat} {G : Nat → Prop} {s : St} {pre cd rest post : List Value} {ty : TypeId} {fs : List F} {td : List T}
end ElSt
end Go.Proofs.Ytidebamgmbdnaaa
/-
  Reader.Uint16.
-/
namespace Go.Proofs.Ytidebamgmbdnaaa
open Go.ChangeShapes Go.WideShapes Go.ChangeAt Go.RowKit

theorem u16_val (b0 b1 : UInt8) (r : Bs) (bad : Bool) : ((rdN 2 (b0 :: b1 :: r, bad)).1 : Int) = 256 * (b0.toNat : Int) + b1.toNat := by
  simp only [rdN, List.length_cons, if_neg (show ¬ r.length + 1 + 1 < 2 by omega), List.take_succ_cons, List.take_zero, be, List.foldl_cons, List.foldl_nil]
  omega
theorem rdU_range2 (s : St) : 0 ≤ ((rdN 2 s).1 : Int) ∧ ((rdN 2 s).1 : Int) ≤ 65535 := by
  have h := rdN_lt 2 s
  omega
end Go.Proofs.Ytidebamgmbdnaaa
/-
  THE ROUND TRIP, in plain Lean: what the reference writes of a tree is read back, and what was read is written again.
-/
namespace Go.Proofs.Ytidebamgmbdnaaa

theorem emod_mul' (n a b : Int) (ha : 0 ≤ a) : n % (a * b) = n % a + a * (n / a % b) := by
  rw [Int.emod_def, Int.emod_def n a, Int.emod_def (n / a) b, Int.ediv_ediv_of_nonneg ha, Int.mul_sub, Int.mul_assoc]
  omega
theorem pow2_nn (k : Nat) : (0 : Int) ≤ 2 ^ k := Int.le_of_lt (Int.pow_pos (by decide))
theorem oct_nat (n : Int) (k : Nat) : (oct n k).toNat = (n / 2 ^ (8 * k) % 256).toNat := by
  unfold oct
  have h1 : 0 ≤ (n / 2 ^ (8 * k)) % 256 := Int.emod_nonneg _ (by decide)
  have h2 : (n / 2 ^ (8 * k)) % 256 < 256 := Int.emod_lt_of_pos _ (by decide)
  simp only [UInt8.toNat_ofNat']
  omega
theorem be_app : ∀ (l : Bs) (n : Nat), l.foldl (fun n b => 256 * n + b.toNat) n = 256 ^ l.length * n + be l
  | [], n => by simp [be]
  | b :: r, n => by
    have h1 := be_app r (256 * n + b.toNat)
    have h2 := be_app r (256 * 0 + b.toNat)
    simp only [be, List.foldl_cons, List.length_cons] at *
    rw [h1, h2, Nat.pow_succ]
    rw [Nat.mul_add, Nat.mul_add, Nat.mul_assoc]
    omega
theorem be_fixed (n : Int) : ∀ k, ((be (fixedP n k) : Nat) : Int) = n % 2 ^ (8 * k)
  | 0 => by simp [be, fixedP, Int.emod_one]
  | k + 1 => by
    have ih := be_fixed n k
    have h := be_app (fixedP n k) (256 * 0 + (oct n k).toNat)
    simp only [be, fixedP, List.foldl_cons] at *
    rw [h, fixedP_len, oct_nat]
    have h1 : 0 ≤ (n / 2 ^ (8 * k)) % 256 := Int.emod_nonneg _ (by decide)
    have e : (256 : Int) ^ k = 2 ^ (8 * k) := by rw [Int.pow_mul]; rfl
    rw [Int.natCast_add, Int.natCast_mul, ih, show 256 * 0 + (n / 2 ^ (8 * k) % 256).toNat = (n / 2 ^ (8 * k) % 256).toNat by omega, Int.toNat_of_nonneg h1, show ((256 ^ k : Nat) : Int) = (256 : Int) ^ k by simp, e, Nat.mul_add, Int.pow_add]
    have e3 : n % (2 ^ (8 * k) * 2 ^ (8 * 1)) = n % 2 ^ (8 * k) + 2 ^ (8 * k) * (n / 2 ^ (8 * k) % 256) := by
      rw [emod_mul' _ _ _ (pow2_nn _)]; rfl
    rw [e3]; omega
theorem rdN_fixed (n : Int) (k : Nat) (r : Bs) : rdN k (fixedP n k ++ r, false) = ((n % 2 ^ (8 * k)).toNat, (r, false)) := by
  have h := be_fixed n k
  have hl := fixedP_len n k
  simp only [rdN, List.length_append, hl, if_neg (show ¬ k + r.length < k by omega)]
  rw [List.take_left' hl, List.drop_left' hl]
  congr 1
  omega
/-- a number as so many octets have it, with a sign -/
def wrapN (k : Nat) (n : Int) : Int := sgn k (n % 2 ^ (8 * k)).toNat
theorem rdI_fixed (n : Int) (k : Nat) (r : Bs) : rdI k (fixedP n k ++ r, false) = (wrapN k n, (r, false)) := by
  simp only [rdI, rdN_fixed, wrapN]
theorem fixed_wrap1 (n : Int) (k : Nat) : ∀ j, j ≤ k → fixedP (n % 2 ^ (8 * k)) j = fixedP n j
  | 0, _ => rfl
  | j + 1, h => by
    have ih := fixed_wrap1 n k j (by omega)
    simp only [fixedP, ih]
    congr 1
    have e : (n % 2 ^ (8 * k)) / 2 ^ (8 * j) % 256 = n / 2 ^ (8 * j) % 256 := by
      have e1 : (2 : Int) ^ (8 * k) = 2 ^ (8 * j) * (256 * 2 ^ (8 * (k - j - 1))) := by
        rw [show 8 * k = 8 * j + (8 + 8 * (k - j - 1)) by omega, Int.pow_add, Int.pow_add]; rfl
      have e2 : (0 : Int) < 2 ^ (8 * j) := Int.pow_pos (by decide)
      generalize (2 : Int) ^ (8 * (k - j - 1)) = c at *
      generalize (2 : Int) ^ (8 * j) = d at *
      rw [e1, emod_mul' _ _ _ (by omega), Int.add_mul_ediv_left _ _ (by omega), Int.emod_def n d]
      rw [show (n - d * (n / d)) / d = 0 from ?_]
      · rw [Int.zero_add, emod_mul' _ _ _ (by decide), Int.add_mul_emod_self_left, Int.emod_emod_of_dvd _ (by decide)]
      · rw [← Int.emod_def]
        exact Int.ediv_eq_zero_of_lt (Int.emod_nonneg _ (by omega)) (Int.emod_lt_of_pos _ e2)
    unfold oct
    rw [e]
/-- in at most so many groups -/
theorem uvAt_var : ∀ (j k acc n : Nat) (r : Bs), k + j = 4 → n < 2 ^ (32 - 7 * k) → uvAt k acc (uvarP n ++ r) = (acc + n * 2 ^ (7 * k), (k : Int) + ((uvarP n).length : Nat)) ∧ 0 < (uvarP n).length
  | 0, k, acc, n, r, hk, hn => by
    obtain rfl : k = 4 := by omega
    have hn' : n < 16 := by simpa using hn
    rw [uvarP_small (by omega)]
    have e : (UInt8.ofNat n).toNat = n := by simp only [UInt8.toNat_ofNat']; omega
    simp only [List.cons_append, List.nil_append, uvAt, if_true, e]
    rw [if_pos (by omega)]
    simp
  | j + 1, k, acc, n, r, hk, hn => by
    by_cases h : 127 < n
    · rw [uvarP_big h]
      have e : (UInt8.ofNat (n % 128 + 128)).toNat = n % 128 + 128 := by simp only [UInt8.toNat_ofNat']; omega
      have ih := uvAt_var j (k + 1) (acc + n % 128 * 2 ^ (7 * k)) (n / 128) r (by omega) (by
        have : 2 ^ (32 - 7 * k) = 128 * 2 ^ (32 - 7 * (k + 1)) := by
          rw [show 32 - 7 * k = 7 + (32 - 7 * (k + 1)) by omega, Nat.pow_add]
        omega)
      simp only [List.cons_append, uvAt, e, List.length_cons]
      rw [if_neg (by omega), if_neg (by omega), show (n % 128 + 128) % 128 = n % 128 by omega, ih.1]
      refine ⟨?_, by omega⟩
      congr 1
      · have e2 : 2 ^ (7 * (k + 1)) = 128 * 2 ^ (7 * k) := by
          rw [show 7 * (k + 1) = 7 + 7 * k by omega, Nat.pow_add]
        rw [e2, ← Nat.mul_assoc, Nat.add_assoc, ← Nat.add_mul]
        congr 2
        omega
      · push_cast; omega
    · rw [uvarP_small h]
      have e : (UInt8.ofNat n).toNat = n := by simp only [UInt8.toNat_ofNat']; omega
      simp only [List.cons_append, List.nil_append, uvAt, e]
      rw [if_neg (by omega), if_pos (by omega)]
      simp
theorem rdUv_var {n : Nat} (h : n < 4294967296) (r : Bs) : rdUv (uvarP n ++ r, false) = (n, (r, false)) := by
  have h1 := uvAt_var 4 0 0 n r rfl (by simpa using h)
  have h2 := h1.2
  have h3 := h1.1
  simp only [Nat.zero_add, Nat.mul_zero, Nat.pow_zero, Nat.mul_one] at h3
  have e : uvP (uvarP n ++ r) = (n, ((uvarP n).length : Int)) := by unfold uvP; rw [h3]; simp
  simp only [rdUv, e]
  rw [if_neg (by omega)]
  simp
theorem rdSpan_app (x r : Bs) {n : Int} (hn : n = x.length) : rdSpan n (x ++ r, false) = (x, (r, false)) := by
  subst hn
  simp only [rdSpan, List.length_append]
  rw [if_neg (by omega)]
  simp
/-- what a tag is, written -/
def tagP (u : Tg) : Bs := uvarP u.1 ++ uvarP u.2.length ++ u.2
theorem insK_end {α : Type} (x : Nat × α) : ∀ l : List (Nat × α), (∀ y ∈ l, y.1 < x.1) → insK x l = l ++ [x]
  | [], _ => rfl
  | y :: r, h => by
    have h1 := h y (by simp)
    simp only [insK, if_neg (show ¬ x.1 < y.1 by omega), List.cons_append]
    rw [insK_end x r (fun z hz => h z (by simp [hz]))]
theorem putK_end {α : Type} (k : Nat) (x : α) (l : List (Nat × α)) (h : ∀ y ∈ l, y.1 < k) : putK l k x = l ++ [(k, x)] := by
  unfold putK
  rw [List.filter_eq_self.2 (fun y hy => by have := h y hy; simp; omega)]
  exact insK_end _ _ h
theorem rdTagsN_app : ∀ (us acc : List Tg) (r : Bs), Rising (acc ++ us) → (∀ u ∈ us, u.1 < 4294967296 ∧ u.2.length < 4294967296) → rdTagsN us.length ((us.map tagP).flatten ++ r, false) acc = (acc ++ us, (r, false))
  | [], acc, r, _, _ => by simp [rdTagsN]
  | u :: us, acc, r, h, hb => by
    obtain ⟨b1, b2⟩ := hb u (by simp)
    have hl : ∀ y ∈ acc, y.1 < u.1 := fun y hy => by
      unfold Rising at h
      exact (List.pairwise_append.1 h).2.2 y hy u (by simp)
    have e1 : ((u :: us).map tagP).flatten ++ r = uvarP u.1 ++ (uvarP u.2.length ++ (u.2 ++ ((us.map tagP).flatten ++ r))) := by
      simp [tagP]
    rw [e1]
    simp only [List.length_cons, rdTagsN, rdUv_var b1, rdUv_var b2, rdSpan_app u.2 _ rfl]
    rw [putK_end _ _ _ hl, rdTagsN_app us (acc ++ [(u.1, u.2)]) r (by simpa using h) (fun v hv => hb v (by simp [hv]))]
    simp
theorem rdTags_app (us : List Tg) (r : Bs) (h : Rising us) (hb : ∀ u ∈ us, u.1 < 4294967296 ∧ u.2.length < 4294967296) (hn : us.length < 4294967296) :
    rdTags (uvarP us.length ++ ((us.map tagP).flatten ++ r), false) = (us, (r, false)) := by
  simp only [rdTags, rdUv_var hn]
  exact rdTagsN_app us [] r (by simpa using h) hb
/-! unknown tags -/
theorem spot_le (out : List Tg) (k : Nat) : spot out k ≤ out.length := by
  unfold spot; exact (List.takeWhile_prefix _).length_le
theorem take_spot (out : List Tg) (k : Nat) : out.take (spot out k) = out.takeWhile (fun x => x.1 < k) := by
  induction out with
  | nil => rfl
  | cons y r ih =>
    simp only [spot, List.takeWhile_cons] at *
    split
    · simp [ih]
    · simp
theorem drop_spot (out : List Tg) (k : Nat) : out.drop (spot out k) = out.dropWhile (fun x => x.1 < k) := by
  induction out with
  | nil => rfl
  | cons y r ih =>
    simp only [spot, List.takeWhile_cons, List.dropWhile_cons] at *
    split
    · simp [ih]
    · simp
theorem rising_ins {out : List Tg} (h : Rising out) (t : Tg) : Rising (ins out t) := by
  unfold ins
  split
  · exact h
  · rename_i hn
    have hs : out = out.take (spot out t.1) ++ out.drop (spot out t.1) := (List.take_append_drop _ _).symm
    have e1 := take_spot out t.1
    have e2 := drop_spot out t.1
    have h1 : ∀ y ∈ out.take (spot out t.1), y.1 < t.1 := fun y hy => by
      rw [e1] at hy
      have := List.all_eq_true.1 (List.all_takeWhile (p := fun x : Tg => decide (x.1 < t.1)) (l := out)) y hy
      simpa using this
    have h2 : ∀ y ∈ out.drop (spot out t.1), t.1 < y.1 := by
      cases hd : out.drop (spot out t.1) with
      | nil => simp
      | cons z r =>
        have hz : out[spot out t.1]? = some z := by
          have := List.getElem?_drop (xs := out) (i := spot out t.1) (j := 0)
          rw [hd] at this
          simpa using this.symm
        have hz1 : ¬ z.1 = t.1 := by
          rw [hz] at hn
          simpa using hn
        have hz2 : ¬ z.1 < t.1 := by
          have : out.dropWhile (fun x => x.1 < t.1) = z :: r := by rw [← e2, hd]
          intro hlt
          have h3 := List.head?_dropWhile_not (fun x : Tg => decide (x.1 < t.1)) out
          rw [this] at h3
          simp at h3
          omega
        have hp : Rising (z :: r) := by
          have : (out.drop (spot out t.1)).Pairwise (fun a b => a.1 < b.1) := List.Pairwise.sublist (List.drop_sublist _ _) h
          rwa [hd] at this
        intro y hy
        rcases List.mem_cons.1 hy with rfl | hy
        · omega
        · have := (List.pairwise_cons.1 hp).1 y hy
          omega
    unfold Rising at *
    rw [List.pairwise_append, List.pairwise_cons]
    refine ⟨List.Pairwise.sublist (List.take_sublist _ _) h, ⟨fun y hy => h2 y hy, List.Pairwise.sublist (List.drop_sublist _ _) h⟩, fun a ha b hb => ?_⟩
    rcases List.mem_cons.1 hb with rfl | hb
    · exact h1 a ha
    · have := h1 a ha
      have := h2 b hb
      omega
theorem mem_ins {out : List Tg} {t x : Tg} (h : x ∈ ins out t) : x = t ∨ x ∈ out := by
  unfold ins at h
  split at h
  · exact .inr h
  · rcases List.mem_append.1 h with h | h
    · exact .inr (List.mem_of_mem_take h)
    · rcases List.mem_cons.1 h with h | h
      · exact .inl h
      · exact .inr (List.mem_of_mem_drop h)
theorem len_ins (out : List Tg) (t : Tg) : (ins out t).length ≤ out.length + 1 := by
  unfold ins
  split
  · omega
  · simp; have := spot_le out t.1; omega
theorem unknownFrom_spec (least : Nat) : ∀ (l out : List Tg), Rising out → Rising (l.foldl (fun out t => if t.1 < least then out else ins out t) out) ∧
    (∀ x ∈ l.foldl (fun out t => if t.1 < least then out else ins out t) out, x ∈ l ∨ x ∈ out) ∧ (l.foldl (fun out t => if t.1 < least then out else ins out t) out).length ≤ l.length + out.length
  | [], out, h => ⟨h, fun x hx => .inr hx, by simp⟩
  | t :: r, out, h => by
    simp only [List.foldl_cons]
    by_cases hk : t.1 < least
    · rw [if_pos hk]
      obtain ⟨a, b, c⟩ := unknownFrom_spec least r out h
      exact ⟨a, fun x hx => (b x hx).imp (fun h => by simp [h]) id, by simp; omega⟩
    · rw [if_neg hk]
      obtain ⟨a, b, c⟩ := unknownFrom_spec least r (ins out t) (rising_ins h t)
      refine ⟨a, fun x hx => ?_, by have := len_ins out t; simp; omega⟩
      rcases b x hx with h | h
      · exact .inl (by simp [h])
      · rcases mem_ins h with h | h
        · exact .inl (by simp [h])
        · exact .inr h
theorem unknownP_spec (fs : List F) (l : List Tg) : Rising (unknownP fs l) ∧ (∀ x ∈ unknownP fs l, x ∈ l) ∧ (unknownP fs l).length ≤ 32767 := by
  obtain ⟨a, b, c⟩ := unknownFrom_spec (knownP fs) (l.take 32767) [] List.Pairwise.nil
  refine ⟨a, fun x hx => ?_, ?_⟩
  · rcases b x hx with h | h
    · exact List.mem_of_mem_take h
    · cases h
  · simp at c
    unfold unknownP unknownFrom
    omega
/-- what is told of unknown tags -/
def tdU (fs : List F) (u : List Tg) : List Tg := (unknownP fs u).map fun x => (x.1, whole x.2)
theorem tdU_rising (fs : List F) (u : List Tg) : Rising (tdU fs u) := by
  unfold tdU Rising
  rw [List.pairwise_map]
  exact (unknownP_spec fs u).1
theorem tdU_len (fs : List F) (u : List Tg) : (tdU fs u).length ≤ 32767 := by
  simpa [tdU] using (unknownP_spec fs u).2.2
theorem tdU_mem {fs : List F} {u : List Tg} (hu : ∀ x ∈ u, x.1 < 4294967296) : ∀ x ∈ tdU fs u, x.1 < 4294967296 ∧ x.2.length ≤ 32767 := by
  intro x hx
  unfold tdU at hx
  obtain ⟨y, hy, rfl⟩ := List.mem_map.1 hx
  refine ⟨hu y ((unknownP_spec fs u).2.1 y hy), ?_⟩
  simp [whole]; omega
theorem tdU_tags (fs : List F) (u : List Tg) : (unknownP fs u).map (fun u => uvarP u.1 ++ uvarP (whole u.2).length ++ whole u.2) = (tdU fs u).map tagP := by
  simp [tdU, tagP]
/-! what is told of what was written -/
def tdK (kind : Int) (part : T → T) (null : Bool) (t : T) : T :=
  if kind = 0 then .mk (t.n % 2) [] false [] []
  else if kind = 1 then .mk (wrapN 1 t.n) [] false [] []
  else if kind = 2 then .mk (wrapN 2 t.n) [] false [] []
  else if kind = 3 then .mk (wrapN 4 t.n) [] false [] []
  else if kind = 4 then .mk (wrapN 8 t.n) [] false [] []
  else if kind = 5 then .mk (t.n % 65536) [] false [] []
  else if kind = 6 then .mk (wrapN 8 t.n) [] false [] []
  else if kind = 7 then .mk 0 (pad16 t.s) false [] []
  else if kind = 8 then (if null then nstrT none else .mk 0 (whole t.s) false [] [])
  else if kind = 9 then octT (if null then none else some (whole t.s))
  else if kind = 10 then part t
  else T.zero
mutual
def tdF : F → Int → Bool → T → T
  | .mk k a b nul tag dfl ofk sub, v, flex, t =>
    if k = 11 then .mk 0 [] (if nul < 0 then (things t.l).isEmpty else F.isNull (.mk k a b nul tag dfl ofk sub) v t) ((if F.isNull (.mk k a b nul tag dfl ofk sub) v t then [] else things t.l).map (tdK ofk (fun t => .mk 0 [] false (tdFs sub 0 v flex t) (if flex then tdU sub t.u else [])) false)) []
    else tdK k (fun t => .mk 0 [] false (tdFs sub 0 v flex t) (if flex then tdU sub t.u else [])) (F.isNull (.mk k a b nul tag dfl ofk sub) v t) t
def tdFs : List F → Nat → Int → Bool → T → List T
  | [], _, _, _, _ => []
  | f :: r, i, v, flex, t => (if f.has v then tdF f v flex (atT t i) else dflF f) :: tdFs r (i + 1) v flex t
end
def tdPart (fs : List F) (v : Int) (flex : Bool) (t : T) : T := .mk 0 [] false (tdFs fs 0 v flex t) (if flex then tdU fs t.u else [])

/-- fields' octets, one behind another -/
def plainAt : List F → Nat → Int → Bool → T → Bs
  | [], _, _, _, _ => []
  | f :: r, i, v, flex, t => (if f.has v then fieldP f v flex (atT t i) else []) ++ plainAt r (i + 1) v flex t
def untagged : List F → Bool
  | [] => true
  | f :: r => decide (f.tag < 0) && untagged r
theorem plainAt_eq : ∀ (fs : List F) (i : Nat) (v : Int) (flex : Bool) (t : T), untagged fs = true →
    (((fieldsP fs v flex).zipIdx i).filter fun x => decide (x.1.1.tag < 0) && x.1.1.has v).flatMap (fun x => x.1.2 (atT t x.2)) = plainAt fs i v flex t
  | [], _, _, _, _, _ => by simp [fieldsP, plainAt]
  | f :: r, i, v, flex, t, h => by
    simp only [untagged, Bool.and_eq_true, decide_eq_true_eq] at h
    have ih := plainAt_eq r (i + 1) v flex t h.2
    simp only [fieldsP, List.zipIdx_cons, List.filter_cons, plainAt]
    by_cases hv : f.has v = true
    · simp only [hv, h.1, decide_true, Bool.and_self, if_true, List.flatMap_cons, ih]
    · simp only [hv, Bool.and_false, Bool.false_eq_true, if_false, ih, List.nil_append]
theorem known0 : ∀ (fs : List F) (n : Nat), untagged fs = true → fs.foldl (fun n f => if 0 ≤ f.tag then max n (f.tag.toNat + 1) else n) n = n
  | [], _, _ => rfl
  | f :: r, n, h => by
    simp only [untagged, Bool.and_eq_true, decide_eq_true_eq] at h
    simp only [List.foldl_cons]
    rw [if_neg (by omega)]
    exact known0 r n h.2
theorem partP_untagged {fs : List F} (h : untagged fs = true) (v : Int) (flex : Bool) (t : T) :
    partP fs v flex t = if flex then plainAt fs 0 v flex t ++ (uvarP (tdU fs t.u).length ++ ((tdU fs t.u).map tagP).flatten) else plainAt fs 0 v flex t := by
  have e : (fieldsP fs v flex).map (·.1) = fs := by
    rw [fieldsP_map, List.map_map]
    exact (congrArg (fun g => List.map g fs) (show ((fun x : F × (T → Bs) => x.1) ∘ fun f => (f, fieldP f v flex)) = id from rfl)).trans (List.map_id fs)
  have k : knownP fs = 0 := known0 fs 0 h
  unfold partP partOf
  rw [e, k, tdU_tags]
  simp only [plainAt_eq fs 0 v flex t h]
  cases flex <;> simp
/-- a field that every version has, of at least an octet -/
def sureF : F → Bool
  | .mk k a b _ _ _ _ _ => decide (a ≤ 0) && decide (b < 0) && decide (k ≠ 10)
def kindOk (k : Int) : Bool := decide (0 ≤ k) && decide (k ≤ 9)
mutual
/-- a field as the round trip takes it -/
def wfF (flex : Bool) : F → Bool
  | .mk k _ _ nul tag _ ofk sub => decide (tag < 0) && wfFs flex sub && (if k = 11 then kindOk ofk || (decide (ofk = 10) && (flex || sub.any sureF)) else if k = 10 then decide (nul < 0) else kindOk k)
def wfFs (flex : Bool) : List F → Bool
  | [] => true
  | f :: r => wfF flex f && wfFs flex r
end
theorem wfFs_untagged {flex : Bool} : ∀ {fs : List F}, wfFs flex fs = true → untagged fs = true
  | [], _ => rfl
  | .mk k a b nul tag dfl ofk sub :: r, h => by
    simp only [wfFs, wfF, Bool.and_eq_true] at h
    simp only [untagged, F.tag, Bool.and_eq_true]
    exact ⟨h.1.1.1, wfFs_untagged h.2⟩
theorem rdTimes_front (g : St → T × St) : ∀ (n : Nat) (s : St), rdTimes g (n + 1) s = ((g s).1 :: (rdTimes g n (g s).2).1, (rdTimes g n (g s).2).2)
  | 0, s => rfl
  | n + 1, s => by
    rw [rdTimes, rdTimes_front g n s]
    rfl
theorem rdTimes_app {g : St → T × St} {enc : T → Bs} {td : T → T} : ∀ (l : List T) (r : Bs), (∀ x ∈ l, ∀ r, g (enc x ++ r, false) = (td x, (r, false))) → rdTimes g l.length (l.flatMap enc ++ r, false) = (l.map td, (r, false))
  | [], r, _ => rfl
  | x :: l, r, h => by
    rw [List.length_cons, rdTimes_front, List.flatMap_cons, List.append_assoc, h x (by simp)]
    simp only
    rw [rdTimes_app l r (fun y hy => h y (by simp [hy]))]
    rfl
theorem flatMap_long {enc : T → Bs} : ∀ (l : List T), (∀ x ∈ l, 0 < (enc x).length) → l.length ≤ (l.flatMap enc).length
  | [], _ => by simp
  | x :: l, h => by
    have h1 := h x (by simp)
    have h2 := flatMap_long l (fun y hy => h y (by simp [hy]))
    simp only [List.flatMap_cons, List.length_append, List.length_cons]
    omega
theorem things_len (l : List T) : (things l).length ≤ 32767 := by simp [things]; omega
theorem wrapN_small {k n : Nat} (hk : k = 2 ∨ k = 4) (h : n ≤ 32767) : wrapN k (n : Int) = n := by
  unfold wrapN sgn
  rcases hk with rfl | rfl
  · rw [show (2 : Int) ^ (8 * 2) = 65536 by decide, show (2 : Nat) ^ (8 * 2 - 1) = 32768 by decide, if_pos (by omega)]
    omega
  · rw [show (2 : Int) ^ (8 * 4) = 4294967296 by decide, show (2 : Nat) ^ (8 * 4 - 1) = 2147483648 by decide, if_pos (by omega)]
    omega
theorem wrapN_m1 {k : Nat} (hk : k = 2 ∨ k = 4) : wrapN k (-1) = -1 := by
  rcases hk with rfl | rfl <;> decide
theorem uvarP_pos (n : Nat) : 0 < (uvarP n).length := by
  by_cases h : 127 < n
  · rw [uvarP_big h]; simp
  · rw [uvarP_small h]; simp
/-- a text -/
theorem rdStr_app (x r : Bs) (h : x.length ≤ 32767) : rdStr (fixedP x.length 2 ++ (x ++ r), false) = (x, (r, false)) := by
  simp only [rdStr, rdI_fixed, wrapN_small (.inl rfl) h]
  exact rdSpan_app x r rfl
theorem rdCStr_app (x r : Bs) (h : x.length ≤ 32767) : rdCStr (uvarP (x.length + 1) ++ (x ++ r), false) = (x, (r, false)) := by
  simp only [rdCStr, rdUv_var (show x.length + 1 < 4294967296 by omega)]
  exact rdSpan_app x r (by omega)
theorem rdNStr_some (x r : Bs) (h : x.length ≤ 32767) : rdNStr (fixedP x.length 2 ++ (x ++ r), false) = (some x, (r, false)) := by
  simp only [rdNStr, rdI_fixed, wrapN_small (.inl rfl) h, rdStr_app x r h]
  rw [if_neg (by omega)]
theorem rdNStr_none (r : Bs) : rdNStr (fixedP (-1) 2 ++ r, false) = (none, (r, false)) := by
  simp only [rdNStr, rdI_fixed, wrapN_m1 (.inl rfl)]
  rfl
theorem rdCNStr_some (x r : Bs) (h : x.length ≤ 32767) : rdCNStr (uvarP (x.length + 1) ++ (x ++ r), false) = (some x, (r, false)) := by
  simp only [rdCNStr, rdUv_var (show x.length + 1 < 4294967296 by omega), rdCStr_app x r h]
  rw [if_neg (by omega)]
theorem rdCNStr_none (r : Bs) : rdCNStr (0 :: r, false) = (none, (r, false)) := by
  have e : (0 : UInt8) :: r = uvarP 0 ++ r := by rw [uvarP_small (by omega)]; rfl
  rw [e]
  simp only [rdCNStr, rdUv_var (show (0 : Nat) < 4294967296 by omega)]
  rfl
/-- octets -/
theorem rdSpO_app (x r : Bs) {n : Int} (hn : n = x.length) : rdSpO n (x ++ r, false) = (some x, (r, false)) := by
  unfold rdSpO
  rw [rdSpan_app x r hn]
  rfl
theorem rdBy_app (x r : Bs) (h : x.length ≤ 32767) : rdBy (fixedP x.length 4 ++ (x ++ r), false) = (some x, (r, false)) := by
  simp only [rdBy, rdI_fixed, wrapN_small (.inr rfl) h]
  rw [if_neg (by omega)]
  exact rdSpO_app x r rfl
theorem rdNBy_some (x r : Bs) (h : x.length ≤ 32767) : rdNBy (fixedP x.length 4 ++ (x ++ r), false) = (some x, (r, false)) := by
  simp only [rdNBy, rdI_fixed, wrapN_small (.inr rfl) h]
  rw [if_neg (by omega)]
  exact rdSpO_app x r rfl
theorem rdNBy_none (r : Bs) : rdNBy (fixedP (-1) 4 ++ r, false) = (none, (r, false)) := by
  simp only [rdNBy, rdI_fixed, wrapN_m1 (.inr rfl)]
  rfl
theorem rdCBy_app (x r : Bs) (h : x.length ≤ 32767) : rdCBy (uvarP (x.length + 1) ++ (x ++ r), false) = (some x, (r, false)) := by
  simp only [rdCBy, rdUv_var (show x.length + 1 < 4294967296 by omega)]
  rw [if_neg (by omega)]
  exact rdSpO_app x r (by omega)
theorem rdCNBy_some (x r : Bs) (h : x.length ≤ 32767) : rdCNBy (uvarP (x.length + 1) ++ (x ++ r), false) = (some x, (r, false)) := by
  simp only [rdCNBy, rdUv_var (show x.length + 1 < 4294967296 by omega)]
  rw [if_neg (by omega)]
  exact rdSpO_app x r (by omega)
theorem rdCNBy_none (r : Bs) : rdCNBy (0 :: r, false) = (none, (r, false)) := by
  have e : (0 : UInt8) :: r = uvarP 0 ++ r := by rw [uvarP_small (by omega)]; rfl
  rw [e]
  simp only [rdCNBy, rdUv_var (show (0 : Nat) < 4294967296 by omega)]
  rfl
theorem rdLen_app {n : Nat} {r : Bs} (h : n ≤ 32767) (hr : n ≤ r.length) : rdLen (fixedP n 4 ++ r, false) = ((n : Int), (r, false)) := by
  simp only [rdLen, rdI_fixed, wrapN_small (.inr rfl) h]
  rw [if_neg (by omega)]
theorem rdLen_null (r : Bs) : rdLen (fixedP (-1) 4 ++ r, false) = (-1, (r, false)) := by
  simp only [rdLen, rdI_fixed, wrapN_m1 (.inr rfl)]
  rw [if_neg (by omega)]
theorem i32_small {n : Int} (h0 : -10 ≤ n) (h1 : n ≤ 32768) : IntKind.i32.wrap n = n := by
  rw [IntKind.wrap_i32]
  omega
theorem rdCLen_app {n : Nat} {r : Bs} (h : n ≤ 32767) (hr : n ≤ r.length) : rdCLen (uvarP (n + 1) ++ r, false) = ((n : Int), (r, false)) := by
  simp only [rdCLen, rdUv_var (show n + 1 < 4294967296 by omega)]
  rw [i32_small (n := ((n + 1 : Nat) : Int)) (by omega) (by omega), i32_small (by omega) (by omega), if_neg (by omega)]
  congr 1
  omega
theorem rdCLen_null (r : Bs) : rdCLen (0 :: r, false) = (-1, (r, false)) := by
  have e : (0 : UInt8) :: r = uvarP 0 ++ r := by rw [uvarP_small (by omega)]; rfl
  rw [e]
  simp only [rdCLen, rdUv_var (show (0 : Nat) < 4294967296 by omega)]
  rw [show IntKind.i32.wrap (IntKind.i32.wrap ((0 : Nat) : Int) - 1) = -1 from by decide, if_neg (by omega)]
theorem countedP_pos (flex null : Bool) (n size : Nat) (hs : 0 < size) : 0 < (countedP flex null n size).length := by
  unfold countedP
  split
  · simp
  · split
    · exact uvarP_pos _
    · split <;> simp [fixedP_len, hs]
theorem widthP_pos (k : Int) : 0 < widthP k := by
  unfold widthP
  repeat' split
  all_goals decide
theorem valueP_pos {kind : Int} (hk : kindOk kind = true) (part : T → Bs) (null flex : Bool) (t : T) : 0 < (valueP kind part null flex t).length := by
  simp only [kindOk, Bool.and_eq_true, decide_eq_true_eq] at hk
  have h8 := countedP_pos flex null (if null = true then [] else whole t.s).length 2 (by decide)
  unfold valueP
  split
  · simp
  · split
    · simp; omega
    · split
      · rw [List.length_append]; omega
      · split
        · have h9 := countedP_pos flex null (if null = true then [] else whole t.s).length 4 (by decide)
          rw [List.length_append]; omega
        · rw [if_neg (by omega), fixedP_len]
          exact widthP_pos _
theorem fieldP_pos {flex : Bool} {f : F} (hw : wfF flex f = true) (hs : sureF f = true) (v : Int) (t : T) : 0 < (fieldP f v flex t).length := by
  rw [fieldP_eq]
  obtain ⟨k, a, b, nul, tag, dfl, ofk, sub⟩ := f
  simp only [sureF, Bool.and_eq_true, decide_eq_true_eq] at hs
  simp only [wfF, Bool.and_eq_true, decide_eq_true_eq] at hw
  unfold fieldOf
  by_cases h11 : k = 11
  · rw [if_pos (show F.kind (.mk k a b nul tag dfl ofk sub) = 11 from h11), List.length_append]
    have := countedP_pos flex (F.isNull (.mk k a b nul tag dfl ofk sub) v t) (if F.isNull (.mk k a b nul tag dfl ofk sub) v t = true then [] else things t.l).length 4 (by decide)
    omega
  · rw [if_neg (show ¬ F.kind (.mk k a b nul tag dfl ofk sub) = 11 from h11), if_neg (show ¬ (F.kind (.mk k a b nul tag dfl ofk sub) = 10 ∧ 0 ≤ F.nul (.mk k a b nul tag dfl ofk sub)) from fun h => hs.2 h.1)]
    have h2 := hw.2
    rw [if_neg h11, if_neg hs.2] at h2
    exact valueP_pos h2 _ _ _ _
theorem plainAt_pos {flex : Bool} : ∀ (fs : List F) (i : Nat) (v : Int) (t : T), 0 ≤ v → wfFs flex fs = true → fs.any sureF = true → 0 < (plainAt fs i v flex t).length
  | [], _, _, _, _, _, h => by simp at h
  | f :: r, i, v, t, hv, hw, h => by
    simp only [wfFs, Bool.and_eq_true] at hw
    simp only [plainAt, List.length_append]
    rcases Bool.or_eq_true _ _ ▸ (by simpa using h : (sureF f || r.any sureF) = true) with h | h
    · have hh : f.has v = true := by
        obtain ⟨k, a, b, nul, tag, dfl, ofk, sub⟩ := f
        simp only [sureF, Bool.and_eq_true, decide_eq_true_eq] at h
        show (decide (a ≤ v) && (decide (b < 0) || decide (v ≤ b))) = true
        simp
        omega
      rw [if_pos hh]
      have := fieldP_pos hw.1 h v (atT t i)
      omega
    · have := plainAt_pos r (i + 1) v t hv hw.2 h
      omega
theorem partP_pos {flex : Bool} {fs : List F} (hw : wfFs flex fs = true) (h : (flex || fs.any sureF) = true) {v : Int} (hv : 0 ≤ v) (t : T) : 0 < (partP fs v flex t).length := by
  rw [partP_untagged (wfFs_untagged hw)]
  cases flex with
  | true =>
    have := uvarP_pos (tdU fs t.u).length
    simp only [if_true, List.length_append]
    omega
  | false => exact plainAt_pos fs 0 v t hv hw (by simpa using h)

theorem mod2_bool (n : Int) : (if ((UInt8.ofNat (n % 2).toNat).toNat : Int) != 0 then (1 : Int) else 0) = n % 2 := by
  have h : n % 2 = 0 ∨ n % 2 = 1 := by omega
  rcases h with h | h <;> rw [h] <;> rfl
theorem rdN1_cons (b : UInt8) (r : Bs) : rdN 1 (b :: r, false) = (b.toNat, (r, false)) := by
  simp only [rdN, List.length_cons]
  rw [if_neg (by omega)]
  simp [be]
theorem rdUuid_app (s r : Bs) : rdUuid (pad16 s ++ r, false) = (pad16 s, (r, false)) := by
  have hl : (pad16 s).length = 16 := by simp [pad16]; omega
  simp only [rdUuid, rdSpan_app (pad16 s) r (show (16 : Int) = (pad16 s).length by omega)]
  congr 1
  unfold pad16
  rw [List.take_of_length_le (by simp; omega)]
  simp
  omega
theorem u16_fixed (n : Int) (r : Bs) : rdN 2 (fixedP n 2 ++ r, false) = ((n % 65536).toNat, (r, false)) := rdN_fixed n 2 r
theorem rdK_app {kind : Int} (hk : kindOk kind = true ∨ kind = 10) {pe : T → Bs} {pr : St → T × St} {pt : T → T} {null nul flex : Bool} (hn : null = true → nul = true) (t : T) (r : Bs) (hp : ∀ r, pr (pe t ++ r, false) = (pt t, (r, false))) :
    rdK kind nul flex pr (valueP kind pe null flex t ++ r, false) = (tdK kind pt null t, (r, false)) := by
  simp only [kindOk, Bool.and_eq_true, decide_eq_true_eq] at hk
  by_cases h0 : kind = 0
  · subst h0
    simp only [rdK, tdK, valueP, if_true, List.cons_append, List.nil_append, rdBool, rdN1_cons, mod2_bool]
  by_cases h1 : kind = 1
  · subst h1
    simp only [rdK, tdK, valueP, widthP, rdI_fixed, if_true, reduceIte, Int.reduceEq]
  by_cases h2 : kind = 2
  · subst h2
    simp only [rdK, tdK, valueP, widthP, rdI_fixed, if_true, reduceIte, Int.reduceEq, true_or]
  by_cases h3 : kind = 3
  · subst h3
    simp only [rdK, tdK, valueP, widthP, rdI_fixed, if_true, reduceIte, Int.reduceEq, or_self]
  by_cases h4 : kind = 4
  · subst h4
    simp only [rdK, tdK, valueP, widthP, rdI_fixed, if_true, reduceIte, Int.reduceEq, or_self]
  by_cases h5 : kind = 5
  · subst h5
    simp only [rdK, tdK, valueP, widthP, u16_fixed, if_true, reduceIte, Int.reduceEq, or_true]
    congr 2
    omega
  by_cases h6 : kind = 6
  · subst h6
    simp only [rdK, tdK, valueP, widthP, rdI_fixed, if_true, reduceIte, Int.reduceEq, or_self]
  by_cases h7 : kind = 7
  · subst h7
    have := rdUuid_app t.s r
    unfold pad16 at this
    simp only [rdK, tdK, valueP, if_true, reduceIte, Int.reduceEq, this, pad16]
  by_cases h8 : kind = 8
  · subst h8
    have hl := whole_len t.s
    cases null with
    | true =>
      obtain rfl : nul = true := hn rfl
      cases flex <;> simp [rdK, tdK, valueP, countedP, rdNStr_none, rdCNStr_none]
    | false =>
      cases nul <;> cases flex <;> simp [rdK, tdK, valueP, countedP, rdNStr_some, rdCNStr_some, rdStr_app, rdCStr_app, hl, nstrT]
  by_cases h9 : kind = 9
  · subst h9
    have hl := whole_len t.s
    cases null with
    | true =>
      obtain rfl : nul = true := hn rfl
      cases flex <;> simp [rdK, tdK, valueP, countedP, rdNBy_none, rdCNBy_none]
    | false =>
      cases nul <;> cases flex <;> simp [rdK, tdK, valueP, countedP, rdNBy_some, rdCNBy_some, rdBy_app, rdCBy_app, hl]
  · have h10 : kind = 10 := by omega
    subst h10
    simp only [rdK, tdK, valueP, if_true, reduceIte, Int.reduceEq, hp]
mutual
/-- tags' numbers have 32 bits -/
def keysT : T → Prop
  | .mk _ _ _ l u => (∀ x ∈ u, x.1 < 4294967296) ∧ keysTs l
def keysTs : List T → Prop
  | [] => True
  | t :: r => keysT t ∧ keysTs r
end
theorem keysTs_mem : ∀ {l : List T}, keysTs l → ∀ t ∈ l, keysT t
  | [], _, _, h => by cases h
  | x :: r, h, t, ht => by
    rcases List.mem_cons.1 ht with e | e
    · subst e; exact h.1
    · exact keysTs_mem h.2 t e
theorem keysT.at_ {t : T} (h : keysT t) (i : Nat) : keysT (atT t i) := by
  obtain ⟨n, s, b, l, u⟩ := t
  unfold atT
  rw [List.getD_eq_getElem?_getD]
  cases e : (T.l (.mk n s b l u))[i]? with
  | none => exact ⟨by simp, trivial⟩
  | some x => exact keysTs_mem h.2 x (List.mem_of_getElem? e)
theorem keysT.u {t : T} (h : keysT t) : ∀ x ∈ t.u, x.1 < 4294967296 := by
  obtain ⟨n, s, b, l, u⟩ := t
  exact h.1
theorem keysT.l {t : T} (h : keysT t) : ∀ x ∈ t.l, keysT x := by
  obtain ⟨n, s, b, l, u⟩ := t
  exact keysTs_mem h.2
theorem rdPartOf_app {fs : List F} {v : Int} {flex : Bool} (hw : untagged fs = true) {t : T} (ht : keysT t) (h : ∀ r, rdFs fs v flex (plainAt fs 0 v flex t ++ r, false) = (tdFs fs 0 v flex t, (r, false))) (r : Bs) :
    rdPartOf (rdFs fs v flex) flex (partP fs v flex t ++ r, false) = (.mk 0 [] false (tdFs fs 0 v flex t) (if flex then tdU fs t.u else []), (r, false)) := by
  rw [partP_untagged hw]
  cases flex with
  | false => simp only [rdPartOf, Bool.false_eq_true, if_false, h r]
  | true =>
    have hm := tdU_mem (fs := fs) ht.u
    have hl := tdU_len fs t.u
    simp only [rdPartOf, if_true, List.append_assoc, h]
    rw [rdTags_app (tdU fs t.u) r (tdU_rising fs t.u) (fun u hu => ⟨(hm u hu).1, by have := (hm u hu).2; omega⟩) (by omega)]
mutual
theorem rdF_app {flex : Bool} {v : Int} (hv : 0 ≤ v) : ∀ (f : F), wfF flex f = true → ∀ (t : T) (r : Bs), keysT t → rdF f v flex (fieldP f v flex t ++ r, false) = (tdF f v flex t, (r, false))
  | .mk k a b nul tag dfl ofk sub, hw, t, r, ht => by
    simp only [wfF, Bool.and_eq_true, decide_eq_true_eq] at hw
    obtain ⟨⟨_, hws⟩, hk⟩ := hw
    have hpart : ∀ (t : T), keysT t → ∀ (r : Bs), rdPartOf (rdFs sub v flex) flex (partP sub v flex t ++ r, false) = (.mk 0 [] false (tdFs sub 0 v flex t) (if flex then tdU sub t.u else []), (r, false)) :=
      fun t ht r => rdPartOf_app (wfFs_untagged hws) ht (fun r => rdFs_app hv sub hws 0 t r ht) r
    rw [fieldP_eq]
    unfold fieldOf
    simp only [rdF, tdF, F.sub]
    generalize hnull : F.isNull (.mk k a b nul tag dfl ofk sub) v t = null
    have hn : null = true → (decide (0 ≤ nul) && decide (nul ≤ v)) = true := fun h => by
      have hq : (t.null && decide (0 ≤ nul) && decide (nul ≤ v)) = true := hnull.trans h
      simp only [Bool.and_eq_true] at hq ⊢
      exact ⟨hq.1.2, hq.2⟩
    by_cases h11 : k = 11
    · rw [if_pos (show F.kind (.mk k a b nul tag dfl ofk sub) = 11 from h11)]
      rw [if_pos h11] at hk
      simp only [if_pos h11]
      have hk' : kindOk ofk = true ∨ ofk = 10 := by
        rcases Bool.or_eq_true _ _ ▸ hk with h | h
        · exact .inl h
        · simp only [Bool.and_eq_true, decide_eq_true_eq] at h
          exact .inr h.1
      have hpos : ∀ x, 0 < (valueP ofk (partP sub v flex) false flex x).length := fun x => by
        rcases Bool.or_eq_true _ _ ▸ hk with h | h
        · exact valueP_pos h _ _ _ _
        · simp only [Bool.and_eq_true, decide_eq_true_eq] at h
          obtain ⟨rfl, h⟩ := h
          exact partP_pos hws h hv x
      have hel : ∀ x, keysT x → ∀ (r : Bs), rdK ofk false flex (rdPartOf (rdFs sub v flex) flex) (valueP ofk (partP sub v flex) false flex x ++ r, false) = (tdK ofk (fun t => .mk 0 [] false (tdFs sub 0 v flex t) (if flex then tdU sub t.u else [])) false x, (r, false)) := fun x hx r => rdK_app hk' (fun h => h) x r (hpart x hx)
      show rdListOf nul flex v _ (countedP flex null (if null then [] else things t.l).length 4 ++ ((if null then [] else things t.l).flatMap fun x => valueP ofk (partP sub v flex) false flex x) ++ r, false) = _
      cases null with
      | true =>
        have h0 := hn rfl
        simp only [Bool.and_eq_true, decide_eq_true_eq] at h0
        have hneg : ¬ nul < 0 := by omega
        cases flex <;> simp [rdListOf, countedP, rdLen_null, rdCLen_null, rdTimes, hneg, h0]
      | false =>
        have hl := things_len t.l
        have hlong := flatMap_long (enc := valueP ofk (partP sub v flex) false flex) (things t.l) (fun x _ => hpos x)
        have hT := rdTimes_app (g := rdK ofk false flex (rdPartOf (rdFs sub v flex) flex)) (things t.l) r (fun x hx r => hel x (ht.l x (List.mem_of_mem_take hx)) r)
        have e : (decide (((things t.l).length : Int) ≤ 0)) = (things t.l).isEmpty := by
          cases things t.l with
          | nil => rfl
          | cons a l => simp <;> omega
        have e2 : ¬ (((things t.l).length : Int) < 0) := by omega
        have hr : (things t.l).length ≤ (((things t.l).flatMap (valueP ofk (partP sub v flex) false flex)) ++ r).length := by simp only [List.length_append]; omega
        cases flex <;> simp only [rdListOf, countedP, Bool.false_eq_true, if_false, if_true, List.append_assoc, rdLen_app hl hr, rdCLen_app hl hr, Int.toNat_natCast, hT, e, e2, decide_false, Bool.and_false]
    · rw [if_neg (show ¬ F.kind (.mk k a b nul tag dfl ofk sub) = 11 from h11)]
      rw [if_neg h11] at hk
      have h10 : ¬ (F.kind (.mk k a b nul tag dfl ofk sub) = 10 ∧ 0 ≤ F.nul (.mk k a b nul tag dfl ofk sub)) := fun h => by
        rw [if_pos (show k = 10 from h.1)] at hk
        have h1 : nul < 0 := by simpa using hk
        have h2 : 0 ≤ nul := h.2
        omega
      rw [if_neg h10]
      have hk' : kindOk k = true ∨ k = 10 := by
        by_cases hkk : k = 10
        · exact .inr hkk
        · rw [if_neg hkk] at hk; exact .inl hk
      simp only [if_neg h11]
      exact rdK_app hk' hn t r (hpart t ht)
theorem rdFs_app {flex : Bool} {v : Int} (hv : 0 ≤ v) : ∀ (fs : List F), wfFs flex fs = true → ∀ (i : Nat) (t : T) (r : Bs), keysT t → rdFs fs v flex (plainAt fs i v flex t ++ r, false) = (tdFs fs i v flex t, (r, false))
  | [], _, _, _, _, _ => by simp [rdFs, plainAt, tdFs]
  | f :: fs, hw, i, t, r, ht => by
    simp only [wfFs, Bool.and_eq_true] at hw
    simp only [plainAt, tdFs, rdFs]
    by_cases h : f.has v = true
    · simp only [h, if_true, List.append_assoc, rdF_app hv f hw.1 _ _ (ht.at_ i), rdFs_app hv fs hw.2 _ _ _ ht]
    · simp only [h, Bool.false_eq_true, if_false, List.nil_append, rdFs_app hv fs hw.2 _ _ _ ht]
end
/-- WHAT WAS WRITTEN IS READ -/
theorem rdPart_app {fs : List F} {v : Int} {flex : Bool} (hv : 0 ≤ v) (hw : wfFs flex fs = true) {t : T} (ht : keysT t) (r : Bs) : rdPart fs v flex (partP fs v flex t ++ r, false) = (tdPart fs v flex t, (r, false)) :=
  rdPartOf_app (wfFs_untagged hw) ht (fun r => rdFs_app hv fs hw 0 t r ht) r
/-! WHAT AppendTo WRITES of a struct that reads as a tree: the reference without its cuts -/
def apK (kind : Int) (part : T → Bs) (null flex : Bool) (t : T) : Bs :=
  if kind = 0 then [UInt8.ofNat (t.n % 2).toNat]
  else if kind = 7 then t.s
  else if kind = 8 then countedP flex null t.s.length 2 ++ t.s
  else if kind = 9 then countedP flex null t.s.length 4 ++ t.s
  else if kind = 10 then part t
  else fixedP t.n (widthP kind)
def apU (u : List Tg) : Bs := uvarP u.length ++ (u.map tagP).flatten
mutual
def apF : F → Int → Bool → T → Bs
  | .mk k a b nul tag dfl ofk sub, v, flex, t =>
    if k = 11 then countedP flex (F.isNull (.mk k a b nul tag dfl ofk sub) v t) t.l.length 4 ++ t.l.flatMap (apK ofk (fun t => apFs sub v flex t.l ++ (if flex then apU t.u else [])) false flex)
    else apK k (fun t => apFs sub v flex t.l ++ (if flex then apU t.u else [])) (F.isNull (.mk k a b nul tag dfl ofk sub) v t) flex t
/-- fields' trees, one by one -/
def apFs : List F → Int → Bool → List T → Bs
  | [], _, _, _ => []
  | _ :: _, _, _, [] => []
  | f :: r, v, flex, t :: l => (if f.has v then apF f v flex t else []) ++ apFs r v flex l
end
def apPart (fs : List F) (v : Int) (flex : Bool) (t : T) : Bs := apFs fs v flex t.l ++ (if flex then apU t.u else [])
theorem fixed_wrapN (k : Nat) (n : Int) : fixedP (wrapN k n) k = fixedP n k := by
  have h1 := fixed_wrap1 n k k (Nat.le_refl _)
  have h2 := fixed_wrap1 (wrapN k n) k k (Nat.le_refl _)
  rw [← h1, ← h2]
  congr 1
  have hp : (0 : Int) < 2 ^ (8 * k) := Int.pow_pos (by decide)
  have h0 := Int.emod_nonneg n (show (2 : Int) ^ (8 * k) ≠ 0 by omega)
  unfold wrapN sgn
  have e : (((n % 2 ^ (8 * k)).toNat : Nat) : Int) = n % 2 ^ (8 * k) := Int.toNat_of_nonneg h0
  split
  · rw [e, Int.emod_emod]
  · rw [e, Int.sub_emod, Int.emod_self, Int.sub_zero, Int.emod_emod, Int.emod_emod]
theorem apK_td {kind : Int} (hk : kindOk kind = true ∨ kind = 10) {pe pa : T → Bs} {pt : T → T} {null flex : Bool} (t : T) (hp : pa (pt t) = pe t) :
    apK kind pa null flex (tdK kind pt null t) = valueP kind pe null flex t := by
  simp only [kindOk, Bool.and_eq_true, decide_eq_true_eq] at hk
  by_cases h0 : kind = 0
  · subst h0
    simp only [apK, tdK, valueP, if_true, T.n, Int.emod_emod]
  by_cases h1 : kind = 1
  · subst h1
    simp only [apK, tdK, valueP, widthP, T.n, if_true, reduceIte, Int.reduceEq, fixed_wrapN]
  by_cases h2 : kind = 2
  · subst h2
    simp only [apK, tdK, valueP, widthP, T.n, if_true, reduceIte, Int.reduceEq, fixed_wrapN, true_or]
  by_cases h3 : kind = 3
  · subst h3
    simp only [apK, tdK, valueP, widthP, T.n, if_true, reduceIte, Int.reduceEq, fixed_wrapN, or_self]
  by_cases h4 : kind = 4
  · subst h4
    simp only [apK, tdK, valueP, widthP, T.n, if_true, reduceIte, Int.reduceEq, fixed_wrapN, or_self]
  by_cases h5 : kind = 5
  · subst h5
    simp only [apK, tdK, valueP, widthP, T.n, if_true, reduceIte, Int.reduceEq, or_true]
    exact fixed_wrap1 t.n 2 2 (by decide)
  by_cases h6 : kind = 6
  · subst h6
    simp only [apK, tdK, valueP, widthP, T.n, if_true, reduceIte, Int.reduceEq, fixed_wrapN, or_self]
  by_cases h7 : kind = 7
  · subst h7
    simp only [apK, tdK, valueP, T.s, if_true, reduceIte, Int.reduceEq, pad16]
  by_cases h8 : kind = 8
  · subst h8
    cases null <;> simp [apK, tdK, valueP, nstrT, T.s]
  by_cases h9 : kind = 9
  · subst h9
    cases null <;> simp [apK, tdK, valueP, octT, T.s]
  · have h10 : kind = 10 := by omega
    subst h10
    simp only [apK, tdK, valueP, if_true, reduceIte, Int.reduceEq, hp]
/-- null is told of a text alone, and where it may be -/
theorem tdK_null {kind : Int} {pt : T → T} (hpt : ∀ t, (pt t).null = false) (null : Bool) (t : T) : (tdK kind pt null t).null = ((decide (kind = 8) || decide (kind = 9)) && null) := by
  by_cases h8 : kind = 8
  · subst h8
    cases null <;> rfl
  by_cases h9 : kind = 9
  · subst h9
    cases null <;> rfl
  · rw [show decide (kind = 8) = false by simpa using h8, show decide (kind = 9) = false by simpa using h9, Bool.or_false, Bool.false_and]
    unfold tdK
    repeat' split
    all_goals first
      | rfl
      | exact hpt _
      | contradiction
theorem tdFs_len : ∀ (fs : List F) (i : Nat) (v : Int) (flex : Bool) (t : T), (tdFs fs i v flex t).length = fs.length
  | [], _, _, _, _ => rfl
  | f :: r, i, v, flex, t => by simp [tdFs, tdFs_len r]
mutual
theorem apF_td {flex : Bool} {v : Int} : ∀ (f : F), wfF flex f = true → ∀ (t : T), apF f v flex (tdF f v flex t) = fieldP f v flex t
  | .mk k a b nul tag dfl ofk sub, hw, t => by
    simp only [wfF, Bool.and_eq_true, decide_eq_true_eq] at hw
    obtain ⟨⟨_, hws⟩, hk⟩ := hw
    have hpart : ∀ (t : T), apFs sub v flex (T.mk 0 [] false (tdFs sub 0 v flex t) (if flex then tdU sub t.u else [])).l ++ (if flex then apU (T.mk 0 [] false (tdFs sub 0 v flex t) (if flex then tdU sub t.u else [])).u else []) = partP sub v flex t := fun t => by
      rw [partP_untagged (wfFs_untagged hws)]
      have h := apFs_td (flex := flex) (v := v) sub hws 0 t
      cases flex <;> simp [T.l, T.u, apU, h]
    rw [fieldP_eq]
    unfold fieldOf
    simp only [apF, tdF, F.sub]
    by_cases h11 : k = 11
    · rw [if_pos (show F.kind (.mk k a b nul tag dfl ofk sub) = 11 from h11)]
      rw [if_pos h11] at hk
      simp only [if_pos h11]
      have hk' : kindOk ofk = true ∨ ofk = 10 := by
        rcases Bool.or_eq_true _ _ ▸ hk with h | h
        · exact .inl h
        · simp only [Bool.and_eq_true, decide_eq_true_eq] at h
          exact .inr h.1
      generalize hnull : F.isNull (.mk k a b nul tag dfl ofk sub) v t = null
      have hq : (t.null && decide (0 ≤ nul) && decide (nul ≤ v)) = null := hnull
      have hnn : F.isNull (.mk k a b nul tag dfl ofk sub) v (.mk 0 [] (if nul < 0 then (things t.l).isEmpty else null) ((if null then [] else things t.l).map (tdK ofk (fun t => .mk 0 [] false (tdFs sub 0 v flex t) (if flex then tdU sub t.u else [])) false)) []) = null := by
        show ((if nul < 0 then (things t.l).isEmpty else null) && decide (0 ≤ nul) && decide (nul ≤ v)) = null
        by_cases h : nul < 0
        · rw [if_pos h, show decide (0 ≤ nul) = false by simpa using h]
          rw [show decide (0 ≤ nul) = false by simpa using h] at hq
          simpa using hq
        · rw [if_neg h]
          cases null with
          | false => simp
          | true =>
            simp only [Bool.and_eq_true] at hq
            simp [hq.1.2, hq.2]
      rw [hnn]
      show countedP flex null ((if null then [] else things t.l).map _).length 4 ++ ((if null then [] else things t.l).map _).flatMap _ = countedP flex null (if null then [] else things t.l).length 4 ++ ((if null then [] else things t.l).flatMap fun x => valueP ofk (partP sub v flex) false flex x)
      rw [List.length_map, List.flatMap_map]
      congr 2
      funext x
      exact apK_td hk' x (hpart x)
    · rw [if_neg (show ¬ F.kind (.mk k a b nul tag dfl ofk sub) = 11 from h11)]
      rw [if_neg h11] at hk
      have h10 : ¬ (F.kind (.mk k a b nul tag dfl ofk sub) = 10 ∧ 0 ≤ F.nul (.mk k a b nul tag dfl ofk sub)) := fun h => by
        rw [if_pos (show k = 10 from h.1)] at hk
        have h1 : nul < 0 := by simpa using hk
        have h2 : 0 ≤ nul := h.2
        omega
      rw [if_neg h10]
      have hk' : kindOk k = true ∨ k = 10 := by
        by_cases hkk : k = 10
        · exact .inr hkk
        · rw [if_neg hkk] at hk; exact .inl hk
      simp only [if_neg h11]
      generalize hnull : F.isNull (.mk k a b nul tag dfl ofk sub) v t = null
      have hq : (t.null && decide (0 ≤ nul) && decide (nul ≤ v)) = null := hnull
      have key : apK k (fun t => apFs sub v flex t.l ++ (if flex then apU t.u else [])) (F.isNull (.mk k a b nul tag dfl ofk sub) v (tdK k (fun t => .mk 0 [] false (tdFs sub 0 v flex t) (if flex then tdU sub t.u else [])) null t)) flex (tdK k (fun t => .mk 0 [] false (tdFs sub 0 v flex t) (if flex then tdU sub t.u else [])) null t) = apK k (fun t => apFs sub v flex t.l ++ (if flex then apU t.u else [])) null flex (tdK k (fun t => .mk 0 [] false (tdFs sub 0 v flex t) (if flex then tdU sub t.u else [])) null t) := by
        by_cases h8 : k = 8
        · have e : F.isNull (.mk k a b nul tag dfl ofk sub) v (tdK k (fun t => .mk 0 [] false (tdFs sub 0 v flex t) (if flex then tdU sub t.u else [])) null t) = null := by
            show ((tdK k (fun t => .mk 0 [] false (tdFs sub 0 v flex t) (if flex then tdU sub t.u else [])) null t).null && decide (0 ≤ nul) && decide (nul ≤ v)) = null
            rw [tdK_null (fun _ => rfl), h8]
            cases null with
            | false => simp
            | true =>
              simp only [Bool.and_eq_true] at hq
              simp only [hq.1.2, hq.2]
              rfl
          rw [e]
        by_cases hk9 : k = 9
        · have e : F.isNull (.mk k a b nul tag dfl ofk sub) v (tdK k (fun t => .mk 0 [] false (tdFs sub 0 v flex t) (if flex then tdU sub t.u else [])) null t) = null := by
            show ((tdK k (fun t => .mk 0 [] false (tdFs sub 0 v flex t) (if flex then tdU sub t.u else [])) null t).null && decide (0 ≤ nul) && decide (nul ≤ v)) = null
            rw [tdK_null (fun _ => rfl), hk9]
            cases null with
            | false => simp
            | true =>
              simp only [Bool.and_eq_true] at hq
              simp only [hq.1.2, hq.2]
              rfl
          rw [e]
        · unfold apK
          simp only [if_neg h8, if_neg hk9]
      exact key.trans (apK_td hk' t (hpart t))
theorem apFs_td {flex : Bool} {v : Int} : ∀ (fs : List F), wfFs flex fs = true → ∀ (i : Nat) (t : T), apFs fs v flex (tdFs fs i v flex t) = plainAt fs i v flex t
  | [], _, _, _ => rfl
  | f :: fs, hw, i, t => by
    simp only [wfFs, Bool.and_eq_true] at hw
    simp only [plainAt, tdFs, apFs]
    by_cases h : f.has v = true
    · simp only [h, if_true, apF_td f hw.1, apFs_td fs hw.2]
    · simp only [h, Bool.false_eq_true, if_false, apFs_td fs hw.2]
end
/-- WHAT WAS READ IS WRITTEN AGAIN -/
theorem apPart_td {fs : List F} {v : Int} {flex : Bool} (hw : wfFs flex fs = true) (t : T) : apPart fs v flex (tdPart fs v flex t) = partP fs v flex t := by
  rw [partP_untagged (wfFs_untagged hw)]
  have h := apFs_td (flex := flex) (v := v) fs hw 0 t
  unfold apPart tdPart
  cases flex <;> simp [T.l, T.u, apU, h]
end Go.Proofs.Ytidebamgmbdnaaa
/-
  A tree that is handed in, opened: what its reading says of its cells.
-/
namespace Go.Proofs.Ytidebamgmbdnaaa
open Go.ChangeShapes Go.WideShapes Go.ChangeAt Go.RowKit

theorem pick2 {α β : Type} {n : Nat} {P : Nat → α → β → Prop} (h : ∀ i, i < n → ∃ a b, P i a b) : ∃ (la : List α) (lb : List β), la.length = n ∧ lb.length = n ∧ ∀ i (h1 : i < la.length) (h2 : i < lb.length), P i la[i] lb[i] := by
  refine ⟨List.ofFn (fun i : Fin n => (h i i.2).choose), List.ofFn fun i : Fin n => (h i i.2).choose_spec.choose, by simp, by simp, fun i h1 h2 => ?_⟩
  simp only [List.getElem_ofFn]
  exact (h i (by simpa using h1)).choose_spec.choose_spec
/-- cells that read one by one -/
theorem RS.ofCells {W : World} {a : Addr} {n cap : Nat} {xs : List Value} (hn : n ≤ cap) (h : ∀ i (hi : i < xs.length), W.cell? (a.add i) = some xs[i]) : RS W (fun k => k < W.heap.size) (.slice (some a) n cap) n xs := by
  refine ⟨some a, cap, rfl, hn, (fun h => by cases h), fun a' ha' => ?_⟩
  cases ha'
  obtain ⟨b, o, sp⟩ := a
  have hs : 0 < xs.length → sp = none := fun h0 => by
    have := World.cell?_spot (h 0 h0)
    simpa [Addr.add] using this
  refine ⟨hs, fun i hi => ?_⟩
  obtain rfl := hs (by omega)
  have := h i hi
  rw [addr_add] at this
  exact ⟨World.block_lt_of_cell? W (⟨b, o + i, none⟩ : Addr) this, this⟩
/-- rows of m cells, one behind another -/
theorem RS.ofRows {W : World} {a : Addr} {n cap m : Nat} {css : List (List Value)} (_hn : css.length = n) (hc : n ≤ cap) (hm : ∀ c ∈ css, c.length = m) (h0 : 0 < m)
    (h : ∀ i (hi : i < css.length) j (hj : j < css[i].length), W.cell? ((a.add (i * m)).add j) = some css[i][j]) : RS W (fun k => k < W.heap.size) (.slice (some a) n cap) n css.flatten := by
  have hl := flatten_len css m hm
  obtain ⟨b, o, sp⟩ := a
  have hs : 0 < css.length → sp = none := fun h1 => by
    have hj : 0 < css[0].length := by rw [hm _ (List.getElem_mem h1)]; exact h0
    have := World.cell?_spot (h 0 h1 0 hj)
    simpa [Addr.add] using this
  refine RS.ofCells hc fun k hk => ?_
  have hk' : k < m * css.length := by rw [← hl]; exact hk
  have hi : k / m < css.length := (Nat.div_lt_iff_lt_mul h0).2 (by rw [Nat.mul_comm]; exact hk')
  have hj : k % m < m := Nat.mod_lt _ h0
  have hpos : 0 < css.length := Nat.lt_of_le_of_lt (Nat.zero_le _) hi
  obtain rfl := hs hpos
  have hci : css[k / m].length = m := hm _ (List.getElem_mem hi)
  have e := flatten_get css m hm (k / m) (k % m) hi hj (by omega)
  rw [Nat.div_add_mod] at e
  have := h (k / m) hi (k % m) (by omega)
  rw [addr_add, addr_add, Nat.add_assoc, Nat.mul_comm (k / m) m, Nat.div_add_mod] at this
  rw [addr_add, this, ← e, List.getElem?_eq_getElem hk]
section
variable {H : Type} {enc : TypeId × Value → H} {W : World} {sp : Nat → Bool} {held : Bool}
theorem cells_u8 : Try.prog.cellsOf 5 = 1 := by kernel_rfl
theorem cells_u32 : Try.prog.cellsOf 59 = 1 := by kernel_rfl
theorem cells_i64 : Try.prog.cellsOf 2 = 1 := by kernel_rfl
theorem cells_bool : Try.prog.cellsOf 4 = 1 := by kernel_rfl
theorem cells_sb : Try.prog.cellsOf 22 = 1 := by kernel_rfl
theorem cells_st : Try.prog.cellsOf 23 = 1 := by kernel_rfl
theorem cells_sg : Try.prog.cellsOf 24 = 1 := by kernel_rfl
theorem cells_tree : Try.prog.cellsOf 26 = 5 := by kernel_rfl
theorem cells_tag : Try.prog.cellsOf 61 = 2 := by kernel_rfl
/-- octets that are handed in -/
theorem octs_open {fuel : Nat} {v : Value} {x : DataW H × List MemPlace} (h : DataW.trod enc Try.prog W 0 (fun _ => true) held fuel 22 [v] = some x) :
    ∃ l, RB W (fun k => k < W.heap.size) v l ∧ l.length ≤ maxLen := by
  rcases open_ints Try.underlying22 Try.underlying5 cells_u8 h with ⟨hcs, hx⟩ | ⟨a, len, cap, zs, hcs, _, hl, hm, hz, hx, hcell, hwz⟩
  · simp only [List.cons.injEq, and_true] at hcs
    subst hcs
    exact ⟨[], RB.nil W _, by simp⟩
  · simp only [List.cons.injEq, and_true] at hcs
    subst hcs
    simp only [if_true] at hz
    have e : ((zs.take len).map fun z => UInt8.ofNat z.toNat).length = len := by simp; omega
    refine ⟨(zs.take len).map fun z => UInt8.ofNat z.toNat, ?_, by omega⟩
    unfold RB
    rw [e]
    refine RS.ofCells hl fun i hi => ?_
    have hi' : i < zs.length := by simp at hi; omega
    rw [hcell i hi']
    have hw : 0 ≤ zs[i] ∧ zs[i] ≤ 255 := by simpa [Lit.wf, IntKind.has, IntKind.min, IntKind.max, IntKind.bits, IntKind.signed] using hwz _ (List.getElem_mem hi')
    simp [bv, List.getD, hi']
    omega
set_option maxRecDepth 100000 in
theorem tag_open {fuel : Nat} {cs : List Value} {x : DataW H × List MemPlace} (h : DataW.trod enc Try.prog W 0 (fun _ => true) held fuel 61 cs = some x) :
    ∃ (u : Tg) (v : Value), cs = [.int .u32 (u.1 : Int), v] ∧ RB W (fun k => k < W.heap.size) v u.2 ∧ u.1 < 4294967296 ∧ u.2.length ≤ maxLen := by
  obtain ⟨xs, n, rfl, rfl, hlen, hxl, hf⟩ := DataW.trod_struct Try.underlying61 h
  rw [cells_tag] at hlen
  match cs, hlen with
  | [c0, c1], _ =>
    have f0 : DataW.trod enc Try.prog W 0 (fun _ => true) held n 59 (([c0, c1].drop 0).take (Try.prog.cellsOf 59)) = xs[0]? := hf 0 _ rfl
    have f1 : DataW.trod enc Try.prog W 0 (fun _ => true) held n 22 (([c0, c1].drop 1).take (Try.prog.cellsOf 22)) = xs[1]? := hf 1 _ rfl
    rw [cells_u32] at f0
    rw [cells_sb] at f1
    simp only [List.drop_zero, List.drop_succ_cons, List.take_succ_cons, List.take_zero] at f0 f1
    have hx2 : xs.length = 2 := hxl
    rw [List.getElem?_eq_getElem (by omega)] at f0 f1
    obtain ⟨k, hk, -, hw⟩ := DataW.trod_int Try.underlying59 f0
    obtain ⟨l, hl, hll⟩ := octs_open f1
    have hw' : 0 ≤ k ∧ k ≤ 4294967295 := by simpa [Lit.wf, IntKind.has, IntKind.min, IntKind.max, IntKind.bits, IntKind.signed] using hw
    simp only [List.cons.injEq, and_true] at hk
    subst hk
    exact ⟨(k.toNat, l), c1, by simp; omega, hl, by simp only; omega, hll⟩
theorem elem_of {fuel n : Nat} {t : TypeId} {a : Addr} {m : Nat} {elems : List (DataW H × List MemPlace)} (hlen : elems.length = n) (hel : ∀ i, i < n → (W.cells? 0 (a.add (i * m)) m).bind (DataW.trod enc Try.prog W 0 (fun _ => true) held fuel t) = elems[i]?) (i : Nat) (hi : i < n) :
    ∃ cs x, DataW.trod enc Try.prog W 0 (fun _ => true) held fuel t cs = some x ∧ cs.length = m ∧ ∀ j (hj : j < cs.length), W.cell? ((a.add (i * m)).add j) = some cs[j] := by
  have h := hel i hi
  rw [List.getElem?_eq_getElem (by omega), Option.bind_eq_some_iff] at h
  obtain ⟨cs, h1, h2⟩ := h
  obtain ⟨_, hl, hc⟩ := World.cells?_some h1
  exact ⟨cs, _, h2, hl, fun j hj => by rw [hc j (by omega), List.getElem?_eq_getElem hj]⟩
/-- tags that are handed in -/
theorem tags_open {fuel : Nat} {v : Value} {x : DataW H × List MemPlace} (h : DataW.trod enc Try.prog W 0 (fun _ => true) held fuel 24 [v] = some x) :
    ∃ u, HGs W (fun k => k < W.heap.size) v u := by
  rcases DataW.trod_slice Try.underlying24 h with ⟨hcs, hx⟩ | ⟨a, len, cap, elems, rest, n, rfl, hcs, hx, _, hl, hm, hlen, hel, -, -⟩
  · simp only [List.cons.injEq, and_true] at hcs
    subst hcs
    exact ⟨[], HGs.nil W _⟩
  · simp only [List.cons.injEq, and_true] at hcs
    subst hcs
    rw [cells_tag] at hel
    obtain ⟨us, vs, h1, h2, h3⟩ := pick2 (P := fun i (u : Tg) (v : Value) => (∀ j (hj : j < [Value.int .u32 (u.1 : Int), v].length), W.cell? ((a.add (i * 2)).add j) = some [Value.int .u32 (u.1 : Int), v][j]) ∧ RB W (fun k => k < W.heap.size) v u.2 ∧ u.1 < 4294967296 ∧ u.2.length ≤ maxLen) (n := len) fun i hi => by
      obtain ⟨cs, x, ht, hcl, hc⟩ := elem_of hlen hel i hi
      obtain ⟨u, v, rfl, q1, q2, q3⟩ := tag_open ht
      exact ⟨u, v, hc, q1, q2, q3⟩
    refine ⟨us, vs, by omega, fun i a b => (h3 i a b).2.1, fun x hx => ?_, by unfold maxLen at hm; omega, ?_⟩
    · obtain ⟨i, hi, rfl⟩ := List.getElem_of_mem hx
      have := (h3 i hi (by omega)).2.2
      unfold maxLen at this
      exact ⟨this.1, by omega⟩
    · have hz : (us.zip vs).length = len := by simp; omega
      rw [h1]
      refine RS.ofRows (m := 2) (by simpa using hz) hl (fun c hc => ?_) (by decide) fun i hi j hj => ?_
      · obtain ⟨y, _, rfl⟩ := List.mem_map.1 hc
        rfl
      · simp only [List.getElem_map, List.getElem_zip] at hj ⊢
        exact (h3 i (by simp at hi; omega) (by simp at hi; omega)).1 j hj
theorem keysTs_of : ∀ (l : List T), (∀ i (h : i < l.length), keysT l[i]) → keysTs l
  | [], _ => trivial
  | x :: r, h => ⟨h 0 (by simp), keysTs_of r fun i hi => h (i + 1) (by simpa using hi)⟩
set_option maxRecDepth 100000 in
theorem tree_open : ∀ (fuel : Nat) {cs : List Value} {x : DataW H × List MemPlace}, DataW.trod enc Try.prog W 0 (fun _ => true) held fuel 26 cs = some x →
    ∃ t, HT W (fun k => k < W.heap.size) t cs ∧ keysT t := by
  intro fuel
  induction fuel using Nat.strongRecOn with
  | _ fuel ih =>
    intro cs x h
    obtain ⟨xs, n, rfl, rfl, hlen, hxl, hf⟩ := DataW.trod_struct Try.underlying26 h
    rw [cells_tree] at hlen
    match cs, hlen with
    | [c0, c1, c2, c3, c4], _ =>
      have f0 : DataW.trod enc Try.prog W 0 (fun _ => true) held n 2 (([c0, c1, c2, c3, c4].drop 0).take (Try.prog.cellsOf 2)) = xs[0]? := hf 0 _ rfl
      have f1 : DataW.trod enc Try.prog W 0 (fun _ => true) held n 22 (([c0, c1, c2, c3, c4].drop 1).take (Try.prog.cellsOf 22)) = xs[1]? := hf 1 _ rfl
      have f2 : DataW.trod enc Try.prog W 0 (fun _ => true) held n 4 (([c0, c1, c2, c3, c4].drop 2).take (Try.prog.cellsOf 4)) = xs[2]? := hf 2 _ rfl
      have f3 : DataW.trod enc Try.prog W 0 (fun _ => true) held n 23 (([c0, c1, c2, c3, c4].drop 3).take (Try.prog.cellsOf 23)) = xs[3]? := hf 3 _ rfl
      have f4 : DataW.trod enc Try.prog W 0 (fun _ => true) held n 24 (([c0, c1, c2, c3, c4].drop 4).take (Try.prog.cellsOf 24)) = xs[4]? := hf 4 _ rfl
      rw [cells_i64] at f0
      rw [cells_sb] at f1
      rw [cells_bool] at f2
      rw [cells_st] at f3
      rw [cells_sg] at f4
      simp only [List.drop_zero, List.drop_succ_cons, List.take_succ_cons, List.take_zero] at f0 f1 f2 f3 f4
      have hx5 : xs.length = 5 := hxl
      rw [List.getElem?_eq_getElem (by omega)] at f0 f1 f2 f3 f4
      obtain ⟨k, hk, -, hw⟩ := DataW.trod_int Try.underlying2 f0
      obtain ⟨s, hs, hsl⟩ := octs_open f1
      obtain ⟨nu, hnu, -⟩ := DataW.trod_bool Try.underlying4 f2
      obtain ⟨u, hu⟩ := tags_open f4
      have hw' : -9223372036854775808 ≤ k ∧ k ≤ 9223372036854775807 := by simpa [Lit.wf, IntKind.has, IntKind.min, IntKind.max, IntKind.bits, IntKind.signed] using hw
      simp only [List.cons.injEq, and_true] at hk hnu
      subst hk hnu
      have hku : ∀ x ∈ u, x.1 < 4294967296 := fun x hx => by
        obtain ⟨_, _, _, h3, _⟩ := hu
        exact (h3 x hx).1
      unfold maxLen at hsl
      have hl : ∃ (css : List (List Value)) (l : List T), css.length = l.length ∧ (∀ i (h1 : i < l.length) (h2 : i < css.length), HT W (fun k => k < W.heap.size) l[i] css[i]) ∧ RS W (fun k => k < W.heap.size) c3 css.length css.flatten ∧ l.length ≤ 9223372036854775807 ∧ keysTs l := by
        rcases DataW.trod_slice Try.underlying23 f3 with ⟨hcs, hx⟩ | ⟨a, len, cap, elems, rest, m, rfl, hcs, hx, _, hl, hm, hlen, hel, -, -⟩
        · simp only [List.cons.injEq, and_true] at hcs
          subst hcs
          exact ⟨[], [], rfl, (fun i h => by simp at h), RS.nil W _, by simp, trivial⟩
        · simp only [List.cons.injEq, and_true] at hcs
          subst hcs
          rw [cells_tree] at hel
          obtain ⟨css, ts, h1, h2, h3⟩ := pick2 (P := fun i (c : List Value) (t : T) => (∀ j (hj : j < c.length), W.cell? ((a.add (i * 5)).add j) = some c[j]) ∧ c.length = 5 ∧ HT W (fun k => k < W.heap.size) t c ∧ keysT t) (n := len) fun i hi => by
            obtain ⟨cs, x, ht, hcl, hc⟩ := elem_of hlen hel i hi
            obtain ⟨t, q1, q2⟩ := ih m (by omega) ht
            exact ⟨cs, t, hc, hcl, q1, q2⟩
          unfold maxLen at hm
          refine ⟨css, ts, by omega, fun i a b => (h3 i b a).2.2.1, ?_, by omega, keysTs_of ts fun i hi => (h3 i (by omega) hi).2.2.2⟩
          rw [h1]
          refine RS.ofRows (m := 5) h1 hl (fun c hc => ?_) (by decide) fun i hi j hj => (h3 i hi (by omega)).1 j hj
          obtain ⟨i, hi, rfl⟩ := List.getElem_of_mem hc
          exact (h3 i hi (by omega)).2.1
      obtain ⟨css, l, e1, e2, e3, e4, e5⟩ := hl
      exact ⟨.mk k s nu l u, .mk k s nu l u c1 c3 c4 css hs ⟨hw'.1, hw'.2, by omega, e4⟩ e1 e2 e3 hu, hku, e5⟩
end
end Go.Proofs.Ytidebamgmbdnaaa
/-
  spec.part where the version is flexible, of fields without tags.
-/
namespace Go.Proofs.Ytidebamgmbdnaaa
open Go.ChangeShapes Go.WideShapes Go.ChangeAt Go.RowKit

theorem noTags_un : ∀ {fs : List F}, noTags fs = true → untagged fs = true
  | [], _ => rfl
  | f :: r, h => by
    simp only [noTags, Bool.and_eq_true] at h
    simp only [untagged, Bool.and_eq_true]
    exact ⟨h.1, noTags_un h.2⟩
set_option maxHeartbeats 1000000 in
set_option maxRecDepth 100000 in
theorem part_flex {fs : List F} {v : Int} (hno : noTags fs = true) (hfs : ∀ f ∈ fs, FieldSaid f v true) : PartSaid fs v true := by
  intro G vs t c w hF ht hG hb
  have HB : Hid _ := hb
  have hFb := hF.bd
  obtain ⟨aF, pF, rfl, hpF⟩ := hF.shape
  obtain ⟨az, ps, al, pl, au, pu, rfl, hs, hl, hu, hn1, hn2, hn3, hn4⟩ := ht.cells
  have AT := fun W (hW : Keep [] w W) i => at_any (ht.keepF (hG.same hW) (fun _ h => h)) (hG.keep hW) i
  have KN := fun W (hW : Keep [] w W) => known_any (hF.keepF (hG.same hW) (fun _ h => h)) (hG.keep hW) hno
  have UN := fun W (hW : Keep [] w W) => unknown_any (hF.keepF (hG.same hW) (fun _ h => h)) (hu.keepF (hG.same hW) (fun _ h => h)) (hG.keep hW) hno
  have hkeys : ∀ x ∈ t.u, x.1 < 4294967296 := by obtain ⟨_, _, _, h3, _⟩ := hu; exact fun x hx => (h3 x hx).1
  have HPL : Hid (plainTo fs v true t fs.length ++ (uvarP (tdU fs t.u).length ++ ((tdU fs t.u).map tagP).flatten) = partP fs v true t) := Lib.hid (by rw [partP_untagged (noTags_un hno), plainTo_all, plainAt_eq fs 0 v true t (noTags_un hno)]; rfl)
  have HTU : Hid (tdU fs t.u = (unknownFrom 0 t.u).map fun x => (x.1, whole x.2)) := Lib.hid (by unfold tdU unknownP; rw [show knownP fs = 0 from known0 fs 0 (noTags_un hno)])
  clear hb hs hl hu
  go_enter Try.func39, Try.ntmps39
  go_wp2_with fail
  go_loopw [9, 23] (fun o k wr => ∃ n : Nat, n ≤ fs.length ∧ k = .int .i64 n ∧ OB wr (w.heap.size + 1) o (plainTo fs v true t n) ∧ Keep [] (w.alloc (.cells (tcells t az ps al pl au pu) 26)) wr) (fun _ k _ => fs.length - (intOf k).toNat)
  case atStart => exact ⟨0, Nat.zero_le _, rfl, by simpa [plainTo] using OB.nil _ _, Keep.refl _ _⟩
  case round =>
    obtain ⟨n, hn, rfl, hown, hkeep⟩ := hrel
    have hk := (keep_box _).trans hkeep
    have hbox : wr.heap[w.heap.size]? = some (.cells (tcells t az ps al pl au pu) 26) := by
      rw [hkeep.block _ (by simp) (by simp)]
      exact heap_alloc_new w _
    obtain ⟨r0, r1, r2, r3, r4⟩ := tbox hbox
    have HBX : Hid _ := hbox
    have hBr : w.heap.size + 1 ≤ wr.heap.size := by have := hkeep.size; simp at this; omega
    have hGr := hG.keep hk
    clear hbox
    by_cases hlt : n < fs.length
    · obtain ⟨b, o, cp, cf, e, hcp, hGb, hc, hcell⟩ := (hF.keepF (hG.same hk) (fun _ h => h)).elem hlt
      cases e
      have FS := hfs fs[n] (List.getElem_mem hlt)
      have hsucc := plainTo_succ fs v true t n hlt
      have hle := plainTo_le fs v true t (n + 1)
      obtain ⟨aS, pS, rfl, hsub⟩ := hc.cells
      have hblt : b < wr.heap.size := hGr b hGb
      have hbw : b < w.heap.size := hG b hGb
      have c0 : wr.cell? ⟨b, o + n * 8, none⟩ = some _ := hcell 0 (by simp)
      have c1 : wr.cell? ⟨b, o + n * 8 + 1, none⟩ = some _ := hcell 1 (by simp)
      have c2 : wr.cell? ⟨b, o + n * 8 + 2, none⟩ = some _ := hcell 2 (by simp)
      have c3 : wr.cell? ⟨b, o + n * 8 + 3, none⟩ = some _ := hcell 3 (by simp)
      have c4 : wr.cell? ⟨b, o + n * 8 + 4, none⟩ = some _ := hcell 4 (by simp)
      have c5 : wr.cell? ⟨b, o + n * 8 + 5, none⟩ = some _ := hcell 5 (by simp)
      have c6 : wr.cell? ⟨b, o + n * 8 + 6, none⟩ = some _ := hcell 6 (by simp)
      have c7 : wr.cell? ⟨b, o + n * 8 + 7, none⟩ = some _ := hcell 7 (by simp)
      simp only [List.getElem_cons_zero, List.getElem_cons_succ] at c0 c1 c2 c3 c4 c5 c6 c7
      clear hcell
      generalize hfn : fs[n] = f at *
      have HFN : Hid (fs[n] = f) := hfn
      have HS : Hid _ := hsucc
      have HLE : Hid _ := hle
      clear hfn hsucc hle
      have HAS := fun W (hW : Keep [] wr W) => has_any (hc.keepF (hGr.same hW) (fun _ h => h)) v
      by_cases h1 : f.tag < 0
      · cases hhas : f.has v
        · rw [hhas] at HAS
          have HH : Hid (f.has v = false) := hhas
          clear hhas
          go_wp2_with (go_at_call 74; refine (HAS _ (keep_box _)).mono ?_; rintro e wh ⟨rfl, hkh⟩)
          go_roundw
          case rel =>
            refine ⟨n + 1, by omega, by go_num, ?_, hkeep.trans ((keep_box _).trans hkh)⟩
            have e1 := HS.out
            rw [HH.out] at e1
            simp at e1
            rw [e1]
            exact hown.keep ((keep_box _).trans hkh)
          case measure => simp [intOf]; omega
        · rw [hhas] at HAS
          have HH : Hid (f.has v = true) := hhas
          clear hhas
          have hlen : (plainTo fs v true t n).length + (fieldP f v true (atT t n)).length ≤ 36000000000000 := by
            have e1 := HS.out
            rw [HH.out] at e1
            simp [h1] at e1
            have e2 := HLE.out
            have e3 := HB.out
            rw [e1, List.length_append] at e2
            omega
          have HLN : Hid _ := hlen
          clear hlen
          go_wp2_with (go_at_call 74; refine (HAS _ (keep_box _)).mono ?_; rintro e wh ⟨rfl, hkh⟩; clear c0 c1 c2 c3 c4 c5 c6 c7 r0 r1 r2 r3 r4)
          have kh : Keep [] wr wh := (keep_box _).trans hkh
          have hb1 := oneBox hkh
          have hb2 : wh.heap[w.heap.size]? = some (.cells (tcells t az ps al pl au pu) 26) := (kh.block _ (by omega) (by simp)).trans HBX.out
          have hS := FTS.of hb1 hb2
          have HB1 : Hid _ := hb1
          have HB2 : Hid _ := hb2
          clear hb1 hb2
          have hwh : wr.heap.size + 1 ≤ wh.heap.size := by have := hkh.size; simp at this; omega
          go_region_held3 (fun w' => w'.cell? ⟨wr.heap.size, 0, none⟩ = some (.int .i64 f.kind) ∧ w'.cell? ⟨wr.heap.size, 1, none⟩ = some (.int .i64 f.frm) ∧ w'.cell? ⟨wr.heap.size, 2, none⟩ = some (.int .i64 f.to) ∧ w'.cell? ⟨wr.heap.size, 3, none⟩ = some (.int .i64 f.nul) ∧ w'.cell? ⟨wr.heap.size, 4, none⟩ = some (.int .i64 f.tag) ∧ w'.cell? ⟨wr.heap.size, 5, none⟩ = some (.int .i64 f.dfl) ∧ w'.cell? ⟨wr.heap.size, 6, none⟩ = some (.int .i64 f.ofk) ∧ w'.cell? ⟨wr.heap.size, 7, none⟩ = some (.slice aS f.sub.length pS) ∧ w'.cell? ⟨w.heap.size, 0, none⟩ = some (.int .i64 t.n) ∧ w'.cell? ⟨w.heap.size, 1, none⟩ = some (.slice az t.s.length ps) ∧ w'.cell? ⟨w.heap.size, 2, none⟩ = some (.bool t.null) ∧ w'.cell? ⟨w.heap.size, 3, none⟩ = some (.slice al t.l.length pl) ∧ w'.cell? ⟨w.heap.size, 4, none⟩ = some (.slice au t.u.length pu)) (exact hS) (first
            | (go_at_call 36; refine (AT _ (hk.trans (kh.trans (Keep.refl _ _).drew)) n).mono ?_; rintro e wx ⟨c', rfl, hc', kx⟩; obtain ⟨az', ps', al', pl', au', pu', rfl, _⟩ := hc'.cells; have kX : Keep [] wh wx := (Keep.refl _ _).drew.trans kx; have hS := FTS.of ((kX.block _ (by omega) (by simp)).trans HB1.out) ((kX.block _ (by omega) (by simp)).trans HB2.out))
            | (go_at_call 75; refine (FS G _ _ _ _ (hc.keepF (hGr.same (kh.trans kX)) (fun _ h => h)) hc' (hGr.keep (kh.trans kX)) (by have := HLN.out; omega)).mono ?_; rintro e wy ⟨d, rfl, hd, ky⟩; have kY : Keep [] wh wy := kX.trans ky; have hS := FTS.of ((kY.block _ (by omega) (by simp)).trans HB1.out) ((kY.block _ (by omega) (by simp)).trans HB2.out))
            | (refine app_step (by rfl) (.tmp 36) (.tmp 43) (by rfl) (w.heap.size + 1) _ (plainTo fs v true t n) (by rfl) (hown.keep (kh.trans kY)) _ _ _ (by rfl) hd.rb (by have := HLN.out; omega) (Nat.le_trans hBr (kh.trans kY).size) ?_; intro v' w3 ho hg; have hk3 := (hkeep.trans (kh.trans kY)).grown hg (fun k e => .inr (by have := ((hown.keep (kh.trans kY)).lt k e).1; simp; omega)); have hsy := kY.size; have hS := FTS.of ((hg.block wr.heap.size (by omega) (fun e => by have := (hown.lt _ e.symm).2; omega)).trans ((kY.block _ (by omega) (by simp)).trans HB1.out)) ((hg.block w.heap.size (by omega) (fun e => by have := (hown.lt _ e.symm).1; omega)).trans ((kY.block _ (by omega) (by simp)).trans HB2.out))))
          go_wp2
          go_roundw
          case rel =>
            refine ⟨n + 1, by omega, by go_num, ?_, hk3⟩
            have e1 := HS.out
            rw [HH.out] at e1
            simp [h1] at e1
            rw [e1]
            exact ho
          case measure => simp [intOf]; omega
      · go_wp2_with fail
        go_roundw
        case rel =>
          refine ⟨n + 1, by omega, by go_num, ?_, hkeep.trans (keep_box _)⟩
          have e1 := HS.out
          simp [h1] at e1
          rw [e1]
          exact hown.keep (keep_box _)
        case measure => simp [intOf]; omega
    · obtain rfl : n = fs.length := by omega
      have hK1 := fun W (hW : Keep [] wr W) => KN W (hk.trans hW)
      have hU1 := fun W (hW : Keep [] wr W) => UN W (hk.trans hW)
      obtain ⟨wo, rfl⟩ : ∃ x : World, x = wr := ⟨_, rfl⟩
      clear KN UN hF ht
      go_wp2_with (go_at_call 73; go_loud (refine (hK1 _ (Keep.refl _ _)).mono ?_; rintro e w1 ⟨rfl, k1⟩))
      go_loopw [52, 10, 11] (fun k tv mv wr => k = .int .i64 0 ∧ tv = .slice none 0 0 ∧ mv = .int .i64 0 ∧ w1 = wr) (fun _ _ _ _ => 0)
      case atStart => exact ⟨rfl, rfl, rfl, rfl⟩
      case round =>
        obtain ⟨rfl, rfl, rfl, rfl⟩ := hrel
        have q3 := ((k1.cell (p := ⟨w.heap.size, 4, none⟩) (by simp; omega) (by simp)).trans r4)
        have HU1 : Hid _ := Lib.hid (hU1 w1 k1)
        clear hU1 hK1 r0 r1 r2 r3 r4
        go_wp2_with (go_at_call 37; go_loud (refine Calls.mono HU1.out ?_; rintro e w2 ⟨d2, rfl, hg2, k2⟩; obtain ⟨a2, p2, rfl⟩ := hg2.shape))
        have hus : ∀ x ∈ unknownFrom 0 t.u, x.1 < 4294967296 := fun x hx => hkeys x ((unknownP_spec [] t.u).2.1 x hx)
        have husl : (unknownFrom 0 t.u).length ≤ 32767 := (unknownP_spec [] t.u).2.2
        have HTU2 : Hid _ := Lib.hid HTU.out
        clear HTU hkeys
        generalize unknownFrom 0 t.u = us at *
        have hBt : ∀ n, ((((us.map fun x => (x.1, whole x.2)).take n).map tagP).flatten).length ≤ 36000000000000 := fun n => by
          have e1 := HPL.out
          have e2 := HB.out
          rw [← e1, HTU2.out] at e2
          have e3 : ((us.map fun x => (x.1, whole x.2)).map tagP).flatten = ((((us.map fun x => (x.1, whole x.2)).take n).map tagP).flatten) ++ ((((us.map fun x => (x.1, whole x.2)).drop n).map tagP).flatten) := by
            rw [← List.flatten_append, ← List.map_append, List.take_append_drop]
          rw [e3] at e2
          simp only [List.length_append] at e2
          omega
        have HBT : Hid _ := Lib.hid hBt
        have hG2 : There (fun k => G k ∨ (w1.heap.size ≤ k ∧ k < w2.heap.size)) w2 := fun k hk => by
          rcases hk with h | h
          · have a1 := hGr k h
            have a2 := k1.size
            have a3 := k2.size
            omega
          · exact h.2
        clear hBt
        go_loopw [102, 10, 11] (fun k tv mv wr => ∃ n : Nat, n ≤ us.length ∧ k = .int .i64 (n : Int) ∧ mv = .int .i64 (n : Int) ∧ OB wr w2.heap.size tv ((((us.map fun x => (x.1, whole x.2)).take n).map tagP).flatten) ∧ Keep [] w2 wr) (fun k _ _ _ => us.length - (intOf k).toNat)
        case atStart => exact ⟨0, Nat.zero_le _, rfl, rfl, by simpa using OB.nil _ _, Keep.refl _ _⟩
        case round =>
          obtain ⟨wq, rfl⟩ : ∃ x : World, x = wr := ⟨_, rfl⟩
          obtain ⟨n, hn, rfl, rfl, hot, kq⟩ := hrel
          have hzq := kq.size
          by_cases hlt : n < us.length
          · obtain ⟨tb, tf, av, pv, e, hGb, c0, c1, hrb, hrl⟩ := (hg2.keepF (hG2.same kq) (fun _ h => h)).elem hlt
            cases e
            have hk32 := hus _ (List.getElem_mem hlt)
            have htbl := hG2.keep kq tb hGb
            have WH := fun W (hW : Keep [] wq W) => whole_any (w := W) (hrb.keepF ((hG2.keep kq).same hW) (fun _ h => h)) (by omega)
            have hsuc : (((us.map fun x => (x.1, whole x.2)).take (n + 1)).map tagP).flatten = (((us.map fun x => (x.1, whole x.2)).take n).map tagP).flatten ++ (uvarP us[n].1 ++ uvarP (whole us[n].2).length ++ whole us[n].2) := by
              rw [List.take_succ_eq_append_getElem (by simpa using hlt)]
              simp [tagP]
            have hbn := HBT.out (n + 1)
            rw [hsuc] at hbn
            simp only [List.length_append] at hbn
            have HSUC : Hid _ := Lib.hid hsuc
            have hwl := whole_len us[n].2
            clear hsuc hrb
            generalize hkey : us[n].1 = key at *
            generalize hsl : us[n].2.length = sl at *
            generalize hwo : whole us[n].2 = wo2 at *
            generalize hacc : (((us.map fun x => (x.1, whole x.2)).take n).map tagP).flatten = acc at *
            clear hkey hsl hwo hacc
            have tok1 : Hid True := Lib.hid trivial
            go_wp2_with (first
              | (go_at_call 38; go_loud (refine (WH _ (keep_box _)).mono ?_; rintro e wx ⟨d3, rfl, hd3, rfl⟩; obtain ⟨a3, p3, rfl⟩ := RS.shape hd3; have hB0 := (keep_box (A := []) (w := wq) (.cells #[.int .u32 (key : Int), .slice av sl pv] 61)); clear c0 c1))
              | (go_at_call 77; have _t := tok1; go_loud (refine (uvar_any key (by omega) _).mono ?_; rintro e w3 ⟨d4, rfl, h4, k4⟩; have K4 := hB0.trans k4; have hz4 := K4.size; clear tok1 _t; have tok2 : Hid True := Lib.hid trivial))
              | (at_builtin; have _t := tok2; go_loud (refine app_ob rfl (.tmp 109) (.tmp 113) rfl w2.heap.size _ acc rfl (hot.keep K4) _ (uvarP key) _ rfl h4.rb (by omega) (by omega) ?_; intro v5 w5 h5 g5; have K5 : Keep [] w2 w5 := grow_keep (kq.trans K4) (hot.keep K4) (Nat.le_refl _) g5; have hz5 := K5.size; clear tok2 _t; have tok3 : Hid True := Lib.hid trivial))
              | (go_at_call 77; have _t := tok3; go_loud (refine (uvar_any wo2.length (by omega) _).mono ?_; rintro e w6 ⟨d6, rfl, h6, k6⟩; have K6 := K5.trans k6; have hz6 := K6.size; clear tok3 _t; have tok4 : Hid True := Lib.hid trivial))
              | (at_builtin; have _t := tok4; go_loud (refine app_ob rfl (.tmp 114) (.tmp 118) rfl w2.heap.size _ (acc ++ uvarP key) rfl (h5.keep k6) _ (uvarP wo2.length) _ rfl h6.rb (by simp only [List.length_append]; omega) (by omega) ?_; intro v7 w7 h7 g7; have K7 : Keep [] w2 w7 := grow_keep K6 (h5.keep k6) (Nat.le_refl _) g7; have hz7 := K7.size; have SM : SameOn (fun k => G k ∨ (w1.heap.size ≤ k ∧ k < w2.heap.size)) w2 w7 := hG2.same K7; clear tok4 _t; have tok5 : Hid True := Lib.hid trivial))
              | (at_builtin; have _t := tok5; go_loud (refine app_ob rfl (.tmp 119) (.tmp 120) rfl w2.heap.size _ ((acc ++ uvarP key) ++ uvarP wo2.length) rfl h7 _ wo2 _ rfl (hd3.keepF (fun k hk => (SM k hk).trans (((hG2.same (kq.trans hB0)) k hk).symm)) (fun _ h => h)) (by simp only [List.length_append]; omega) (by omega) ?_; intro v8 w8 h8 g8; have K8 : Keep [] w2 w8 := grow_keep K7 h7 (Nat.le_refl _) g8; clear tok5 _t)))
            go_roundw
            case rel => exact ⟨n + 1, by omega, by go_num, by go_num, by rw [HSUC.out, ← List.append_assoc, ← List.append_assoc]; exact h8, K8⟩
            case measure => simp [intOf]; omega
          · obtain rfl : n = us.length := by omega
            have hall : (((us.map fun x => (x.1, whole x.2)).take us.length).map tagP).flatten = ((us.map fun x => (x.1, whole x.2)).map tagP).flatten := by
              rw [List.take_of_length_le (by simp)]
            rw [hall] at hot
            have HALL : Hid _ := Lib.hid hot
            have hb2 := HBT.out us.length
            rw [hall] at hb2
            have hpl := HPL.out
            rw [HTU2.out, List.length_map] at hpl
            have HPL2 : Hid _ := Lib.hid hpl
            have hbb : (plainTo fs v true t fs.length).length + ((uvarP us.length).length + (((us.map fun x => (x.1, whole x.2)).map tagP).flatten).length) ≤ 36000000000000 := by
              have e := HB.out
              rw [← hpl] at e
              simpa only [List.length_append] using e
            have hoo := hown.keep (k1.trans (k2.trans kq))
            have HGK : Hid _ := Lib.hid (fun k e => hown.lt k e)
            clear hall hot hpl hb2 hown
            generalize ((us.map fun x => (x.1, whole x.2)).map tagP).flatten = tg at *
            generalize plainTo fs v true t fs.length = pl0 at *
            have hz1 := k1.size
            have hz2 := k2.size
            have tok1 : Hid True := Lib.hid trivial
            go_wp2_with (first
              | (go_at_call 77; go_loud (refine (uvar_any us.length (by omega) _).mono ?_; rintro e w3 ⟨d4, rfl, h4, k4⟩; have hz4 := k4.size))
              | (at_builtin; have _t := tok1; go_loud (refine app_ob rfl (.tmp 125) (.tmp 128) rfl (w.heap.size + 1) _ pl0 rfl (hoo.keep k4) _ (uvarP us.length) _ rfl h4.rb (by omega) (by omega) ?_; intro v5 w5 h5 g5; have hgk := HGK.out; clear tok1 _t; have tok2 : Hid True := Lib.hid trivial))
              | (at_builtin; have _t := tok2; go_loud (refine app_ob rfl (.tmp 129) (.tmp 130) rfl (w.heap.size + 1) _ (pl0 ++ uvarP us.length) rfl h5 _ tg (fun k => w2.heap.size ≤ k ∧ k < wq.heap.size) rfl (HALL.out.rb.keepF (fun k hk => (g5.block k (by omega) (fun e => by have := hgk k e.symm; omega)).trans (k4.block k hk.2 (by simp))) (fun _ h => h)) (by simp only [List.length_append]; omega) (by have := g5.size; omega) ?_; intro v8 w8 h8 g8; clear tok2 _t)))
            go_ret
            have KZ : Keep [] w w8 := (((hk.trans (k1.trans (k2.trans (kq.trans k4)))).grown g5 (fun k e => .inr (by have := hgk k e; omega))).grown g8 (fun k e => .inr (by have := (h5.lt k e).1; omega)))
            refine ⟨_, rfl, ?_, KZ⟩
            rw [← HPL2.out, ← List.append_assoc]
            exact h8.lower (by omega)
theorem un_noTags : ∀ {fs : List F}, untagged fs = true → noTags fs = true
  | [], _ => rfl
  | f :: r, h => by
    simp only [untagged, Bool.and_eq_true] at h
    simp only [noTags, Bool.and_eq_true]
    exact ⟨h.1, un_noTags h.2⟩
mutual
theorem fieldSaid_flex (v : Int) : ∀ f, wfF true f = true → FieldSaid f v true
  | .mk k a b c d e o sub, h => by
    have hs : wfFs true sub = true := by
      simp only [wfF, Bool.and_eq_true] at h
      exact h.1.2
    exact field_any (f := .mk k a b c d e o sub) (part_flex (fs := sub) (un_noTags (wfFs_untagged hs)) (fieldsSaid_flex v sub hs))
theorem fieldsSaid_flex (v : Int) : ∀ (fs : List F), wfFs true fs = true → ∀ f ∈ fs, FieldSaid f v true
  | [], _, _, h => absurd h (by simp)
  | g :: r, hw, f, h => by
    simp only [wfFs, Bool.and_eq_true] at hw
    rcases List.mem_cons.1 h with e | h'
    · rw [e]; exact fieldSaid_flex v g hw.1
    · exact fieldsSaid_flex v r hw.2 f h'
end
/-- spec.part at the fields of every message without tagged fields -/
theorem partSaid_wf (fs : List F) (v : Int) (flex : Bool) (h : flex = true → wfFs true fs = true) : PartSaid fs v flex := by
  cases flex with
  | false => exact partSaid_plain fs v
  | true => exact part_flex (un_noTags (wfFs_untagged (h rfl))) (fieldsSaid_flex v fs (h rfl))
end Go.Proofs.Ytidebamgmbdnaaa
/-
  The numbers at which this program lays what sort.Slice comes to: the laying that the kit's contract asks for, in plain words (written by a program of ours off the kit's own command).
-/
namespace Go.Proofs
open Go.Shelf
def Try.sl6_ren : Go.Shelf.Ren := ⟨fun | 6 => 110 | 10 => 112 | 11 => 113 | 12 => 114 | 13 => 115 | 14 => 116 | 24 => 109 | 25 => 126 | 26 => 127 | 27 => 128 | 28 => 129 | 29 => 130 | 30 => 131 | 31 => 132 | 32 => 133 | 33 => 134 | 34 => 135 | 35 => 136 | 36 => 137 | 37 => 138 | 38 => 139 | 39 => 140 | n => n, fun | 20 => 20 | 26 => 148 | 35 => 152 | 0 => 0 | 37 => 154 | 3 => 3 | 41 => 139 | 44 => 159 | 49 => 59 | 51 => 107 | 4 => 4 | 54 => 166 | 53 => 165 | 58 => 170 | 5 => 5 | 9 => 9 | 60 => 172 | 64 => 176 | 66 => 178 | 67 => 179 | 17 => 17 | 32 => 149 | 33 => 150 | 82 => 194 | 12 => 12 | 75 => 187 | 76 => 188 | 77 => 189 | 78 => 190 | 79 => 191 | 80 => 192 | n => n, fun | n => n⟩
theorem Try.sl6 : LaysGg.n6 Try.prog Try.sl6_ren := {
  mixed := by kernel_rfl
  f6 := Try.func110.trans (congrArg some (by kernel_rfl))
  f10 := Try.func112.trans (congrArg some (by kernel_rfl))
  f11 := Try.func113.trans (congrArg some (by kernel_rfl))
  f12 := Try.func114.trans (congrArg some (by kernel_rfl))
  f13 := Try.func115.trans (congrArg some (by kernel_rfl))
  f14 := Try.func116.trans (congrArg some (by kernel_rfl))
  f24 := Try.func109.trans (congrArg some (by kernel_rfl))
  f25 := Try.func126.trans (congrArg some (by kernel_rfl))
  f26 := Try.func127.trans (congrArg some (by kernel_rfl))
  f27 := Try.func128.trans (congrArg some (by kernel_rfl))
  f28 := Try.func129.trans (congrArg some (by kernel_rfl))
  f29 := Try.func130.trans (congrArg some (by kernel_rfl))
  f30 := Try.func131.trans (congrArg some (by kernel_rfl))
  f31 := Try.func132.trans (congrArg some (by kernel_rfl))
  f32 := Try.func133.trans (congrArg some (by kernel_rfl))
  f33 := Try.func134.trans (congrArg some (by kernel_rfl))
  f34 := Try.func135.trans (congrArg some (by kernel_rfl))
  f35 := Try.func136.trans (congrArg some (by kernel_rfl))
  f36 := Try.func137.trans (congrArg some (by kernel_rfl))
  f37 := Try.func138.trans (congrArg some (by kernel_rfl))
  f38 := Try.func139.trans (congrArg some (by kernel_rfl))
  f39 := Try.func140.trans (congrArg some (by kernel_rfl))
  t0 := Try.underlying0
  a0 := Try.isAgg0
  z0 := Try.sizeOf0
  v0 := Try.zeroValue0
  i0 := by kernel_rfl
  t3 := Try.underlying3
  a3 := Try.isAgg3
  z3 := Try.sizeOf3
  v3 := Try.zeroValue3
  i3 := by kernel_rfl
  t4 := Try.underlying4
  a4 := Try.isAgg4
  z4 := Try.sizeOf4
  v4 := Try.zeroValue4
  i4 := by kernel_rfl
  t5 := Try.underlying5
  a5 := Try.isAgg5
  z5 := Try.sizeOf5
  v5 := Try.zeroValue5
  i5 := by kernel_rfl
  t9 := Try.underlying9
  a9 := Try.isAgg9
  z9 := Try.sizeOf9
  v9 := Try.zeroValue9
  i9 := by kernel_rfl
  t12 := Try.underlying12
  a12 := Try.isAgg12
  z12 := Try.sizeOf12
  v12 := Try.zeroValue12
  i12 := by kernel_rfl
  t17 := Try.underlying17
  a17 := Try.isAgg17
  z17 := Try.sizeOf17
  v17 := Try.zeroValue17
  i17 := by kernel_rfl
  t20 := Try.underlying20
  a20 := Try.isAgg20
  z20 := Try.sizeOf20
  v20 := Try.zeroValue20
  i20 := by kernel_rfl
  t26 := Try.underlying148
  a26 := Try.isAgg148
  z26 := Try.sizeOf148
  v26 := Try.zeroValue148
  i26 := by kernel_rfl
  t32 := Try.underlying149
  a32 := Try.isAgg149
  z32 := Try.sizeOf149
  v32 := Try.zeroValue149
  i32 := by kernel_rfl
  t33 := Try.underlying150
  a33 := Try.isAgg150
  z33 := Try.sizeOf150
  v33 := Try.zeroValue150
  i33 := by kernel_rfl
  t35 := Try.underlying152
  a35 := Try.isAgg152
  z35 := Try.sizeOf152
  v35 := Try.zeroValue152
  i35 := by kernel_rfl
  t37 := Try.underlying154
  a37 := Try.isAgg154
  z37 := Try.sizeOf154
  v37 := Try.zeroValue154
  i37 := by kernel_rfl
  t41 := Try.underlying139
  a41 := Try.isAgg139
  z41 := Try.sizeOf139
  v41 := Try.zeroValue139
  i41 := by kernel_rfl
  t44 := Try.underlying159
  a44 := Try.isAgg159
  z44 := Try.sizeOf159
  v44 := Try.zeroValue159
  i44 := by kernel_rfl
  t49 := Try.underlying59
  a49 := Try.isAgg59
  z49 := Try.sizeOf59
  v49 := Try.zeroValue59
  i49 := by kernel_rfl
  t51 := Try.underlying107
  a51 := Try.isAgg107
  z51 := Try.sizeOf107
  v51 := Try.zeroValue107
  i51 := by kernel_rfl
  t53 := Try.underlying165
  a53 := Try.isAgg165
  z53 := Try.sizeOf165
  v53 := Try.zeroValue165
  i53 := by kernel_rfl
  t54 := Try.underlying166
  a54 := Try.isAgg166
  z54 := Try.sizeOf166
  v54 := Try.zeroValue166
  i54 := by kernel_rfl
  t58 := Try.underlying170
  a58 := Try.isAgg170
  z58 := Try.sizeOf170
  v58 := Try.zeroValue170
  i58 := by kernel_rfl
  t60 := Try.underlying172
  a60 := Try.isAgg172
  z60 := Try.sizeOf172
  v60 := Try.zeroValue172
  i60 := by kernel_rfl
  t64 := Try.underlying176
  a64 := Try.isAgg176
  z64 := Try.sizeOf176
  v64 := Try.zeroValue176
  i64 := by kernel_rfl
  t66 := Try.underlying178
  a66 := Try.isAgg178
  z66 := Try.sizeOf178
  v66 := Try.zeroValue178
  i66 := by kernel_rfl
  t67 := Try.underlying179
  a67 := Try.isAgg179
  z67 := Try.sizeOf179
  v67 := Try.zeroValue179
  i67 := by kernel_rfl
  t75 := Try.underlying187
  a75 := Try.isAgg187
  z75 := Try.sizeOf187
  v75 := Try.zeroValue187
  i75 := by kernel_rfl
  t76 := Try.underlying188
  a76 := Try.isAgg188
  z76 := Try.sizeOf188
  v76 := Try.zeroValue188
  i76 := by kernel_rfl
  t77 := Try.underlying189
  a77 := Try.isAgg189
  z77 := Try.sizeOf189
  v77 := Try.zeroValue189
  i77 := by kernel_rfl
  t78 := Try.underlying190
  a78 := Try.isAgg190
  z78 := Try.sizeOf190
  v78 := Try.zeroValue190
  i78 := by kernel_rfl
  t79 := Try.underlying191
  a79 := Try.isAgg191
  z79 := Try.sizeOf191
  v79 := Try.zeroValue191
  i79 := by kernel_rfl
  t80 := Try.underlying192
  a80 := Try.isAgg192
  z80 := Try.sizeOf192
  v80 := Try.zeroValue192
  i80 := by kernel_rfl
  t82 := Try.underlying194
  a82 := Try.isAgg194
  z82 := Try.sizeOf194
  v82 := Try.zeroValue194
  i82 := by kernel_rfl
  }
end Go.Proofs
