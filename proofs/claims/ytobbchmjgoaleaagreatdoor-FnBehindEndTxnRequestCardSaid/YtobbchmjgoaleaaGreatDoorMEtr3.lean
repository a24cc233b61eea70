/-
  THE READER OF kbin: each method's contract, over what the reader's octets read as.
-/
import Derived.Test.YtobbchmjgoaleaaGreatDoorMEtr2
import Derived.Laws.BitsLemmas
import Derived.Maps.RangeWalk
import Derived.Maps.Own
namespace Go.Proofs.YtobbchmjgoaleaaGreatDoor
open Go.ChangeShapes Go.WideShapes Go.ChangeAt Go.RowKit

theorem There.mono {G : Nat → Prop} {w w' : World} (h : There G w) (hk : w.heap.size ≤ w'.heap.size) : There G w' := fun k hg => Nat.lt_of_lt_of_le (h k hg) hk
/-- octets as a number, the highest one first -/
def be (l : Bs) : Nat := l.foldl (fun n b => 256 * n + b.toNat) 0
/-- a number of so many octets with a sign -/
def sgn (k n : Nat) : Int := if n < 2 ^ (8 * k - 1) then (n : Int) else (n : Int) - 2 ^ (8 * k)
/-- what is left, and whether it ran out -/
abbrev St := Bs × Bool
def rdN (k : Nat) (s : St) : Nat × St := if s.1.length < k then (0, ([], true)) else (be (s.1.take k), (s.1.drop k, s.2))
def rdI (k : Nat) (s : St) : Int × St := (sgn k (rdN k s).1, (rdN k s).2)

theorem be_lt : ∀ (l : Bs) (n : Nat), l.foldl (fun n b => 256 * n + b.toNat) n < 256 ^ l.length * (n + 1)
  | [], n => by simp
  | b :: r, n => by
    have h := be_lt r (256 * n + b.toNat)
    have hb : b.toNat < 256 := b.toNat_lt
    simp only [List.foldl_cons, List.length_cons, Nat.pow_succ]
    refine Nat.lt_of_lt_of_le h ?_
    rw [Nat.mul_assoc]
    exact Nat.mul_le_mul_left _ (by omega)
theorem rdN_lt (k : Nat) (s : St) : (rdN k s).1 < 256 ^ k := by
  unfold rdN
  split
  · exact Nat.pow_pos (by decide)
  · have h := be_lt (s.1.take k) 0
    have hl : (s.1.take k).length = k := by simp; omega
    simpa [be, hl] using h
theorem rdI_range1 (s : St) : -128 ≤ (rdI 1 s).1 ∧ (rdI 1 s).1 ≤ 127 := by
  have h := rdN_lt 1 s
  simp only [rdI, sgn]
  split <;> omega
theorem rdI_range2 (s : St) : -32768 ≤ (rdI 2 s).1 ∧ (rdI 2 s).1 ≤ 32767 := by
  have h := rdN_lt 2 s
  simp only [rdI, sgn]
  split <;> omega
theorem rdI_range4 (s : St) : -2147483648 ≤ (rdI 4 s).1 ∧ (rdI 4 s).1 ≤ 2147483647 := by
  have h := rdN_lt 4 s
  simp only [rdI, sgn]
  split <;> omega
theorem rdI_range8 (s : St) : -9223372036854775808 ≤ (rdI 8 s).1 ∧ (rdI 8 s).1 ≤ 9223372036854775807 := by
  have h := rdN_lt 8 s
  simp only [rdI, sgn]
  split <;> omega
theorem wrap_i16' (n : Int) : IntKind.i16.wrap n = if n % 65536 < 32768 then n % 65536 else n % 65536 - 65536 := by
  simp only [IntKind.wrap, IntKind.bits, IntKind.signed]
  first | rfl | (simp; done) | (simp; split <;> omega)
theorem wrap_i8' (n : Int) : IntKind.i8.wrap n = if n % 256 < 128 then n % 256 else n % 256 - 256 := by
  simp only [IntKind.wrap, IntKind.bits, IntKind.signed]
  first | rfl | (simp; done) | (simp; split <;> omega)
/-- the reader's block -/
def Rd (w : World) (b : Nat) (G : Nat → Prop) (s : St) : Prop := ∃ v, w.heap[b]? = some (.cells #[v, .bool s.2] 175 (0, 0)) ∧ RB w G v s.1

theorem RB.spot {w : World} {G : Nat → Prop} {ao : Option Addr} {n cap : Nat} {l : Bs} (h : RB w G (.slice ao n cap) l) (h0 : 0 < l.length) :
    ∃ b o, ao = some ⟨b, o, none⟩ ∧ G b ∧ n = l.length ∧ n ≤ cap ∧ ∀ j (hj : j < l.length), w.cell? ⟨b, o + j, none⟩ = some (.int .u8 (l[j].toNat : Int)) := by
  obtain ⟨ao', cap', e, h1, h2, h3⟩ := h
  cases e
  cases ao with
  | none => have := (h2 rfl).1; omega
  | some a =>
    obtain ⟨b, o, sp⟩ := a
    obtain ⟨g1, g2⟩ := h3 _ rfl
    replace g1 := g1 (by simpa using h0)
    simp only at g1
    subst g1
    refine ⟨b, o, rfl, (g2 0 (by simpa using h0)).1, rfl, h1, fun j hj => ?_⟩
    have := (g2 j (by simpa using hj)).2
    simpa [bv] using this

theorem or_up (k : IntKind) (j : Nat) (hj : j ≤ k.bits) (hk : ∀ n : Int, 0 ≤ n → n < 2 ^ j → k.wrap n = n) (i : Nat) (x y : Int) (hx₀ : 0 ≤ x) (hx : x % 2 ^ i = 0) (hx₁ : x < 2 ^ j) (hy₀ : 0 ≤ y) (hy : y < 2 ^ i) (hij : i ≤ j) : bits .or k y x = y + x := by
  have hc : bits .or k y x = bits .or k x y := by simp only [bits, BitVec.or_comm]
  have h2 : (2 : Int) ^ i ≤ 2 ^ j := by exact_mod_cast Nat.pow_le_pow_right (by decide) hij
  rw [hc, bits_join k j hj hk i x y hx₀ hx hx₁ hy₀ hy (by omega)]
  omega
theorem wraps_u16 (n : Int) (h₀ : 0 ≤ n) (h₁ : n < 2 ^ 16) : IntKind.u16.wrap n = n := by rw [IntKind.wrap_u16]; omega
theorem wraps_u32 (n : Int) (h₀ : 0 ≤ n) (h₁ : n < 2 ^ 32) : IntKind.u32.wrap n = n := by rw [IntKind.wrap_u32]; omega
theorem wraps_u64 (n : Int) (h₀ : 0 ≤ n) (h₁ : n < 2 ^ 64) : IntKind.u64.wrap n = n := by rw [IntKind.wrap_u64]; omega
theorem RB.none0 (w : World) (G : Nat → Prop) (b o c : Nat) : RB w G (.slice (some ⟨b, o, none⟩) 0 c) [] :=
  ⟨_, c, rfl, Nat.zero_le _, (fun h => by cases h), fun a ha => ⟨fun h => by simp at h, fun i hi => by simp at hi⟩⟩
/-- nothing, wherever it lies -/
theorem RB.empty (w : World) (G : Nat → Prop) (a : Addr) (c : Nat) : RB w G (.slice (some a) 0 c) [] :=
  ⟨_, c, rfl, Nat.zero_le _, (fun h => by cases h), fun a ha => ⟨fun h => by simp at h, fun i hi => by simp at hi⟩⟩
theorem RB.drop {w : World} {G : Nat → Prop} {b o n cap : Nat} {l : Bs} (h : RB w G (.slice (some ⟨b, o, none⟩) n cap) l) (k m c : Nat) (hk : k ≤ l.length) (hm : m = l.length - k) (hc : c = cap - k) : RB w G (.slice (some ⟨b, o + k, none⟩) m c) (l.drop k) := by
  obtain ⟨ao', cap', e, h1, h2, h3⟩ := h
  cases e
  subst hm hc
  refine ⟨some ⟨b, o + k, none⟩, cap - k, by rw [List.length_drop], by simp; omega, (fun h => by cases h), fun a ha => ?_⟩
  cases ha
  obtain ⟨_, g2⟩ := h3 _ rfl
  refine ⟨fun _ => rfl, fun i hi => ?_⟩
  have hi' : k + i < (l.map bv).length := by simp at hi ⊢; omega
  obtain ⟨q1, q2⟩ := g2 (k + i) hi'
  refine ⟨q1, ?_⟩
  have e : (⟨b, o + k + i, none⟩ : Addr) = ⟨b, o + (k + i), none⟩ := by rw [Nat.add_assoc]
  simp only at q2
  rw [e, q2]
  simp
/-- the end of a reading of k octets -/
theorem rd_done {k b : Nat} {G : Nat → Prop} {src : Bs} {bad : Bool} {w w2 : World} {bs o cap : Nat} {v : Value} (hG : There G w) (hb : ¬ G b) (hr : RB w G (.slice (some ⟨bs, o, none⟩) src.length cap) src) (hk : ¬ src.length < k) (kx : Keep [] w w2)
    (hh : w2.heap[b]? = some (.cells #[.slice (some ⟨bs, o, none⟩) src.length cap, .bool bad] 175 (0, 0)))
    (hv : (v = .slice (some ⟨bs, o, none⟩) 0 (cap - k) ∧ src.length = k) ∨ v = .slice (some ⟨bs, o + k, none⟩) (src.length - k) (cap - k)) :
    Rd (w2.setCell ⟨b, 0, none⟩ v) b G (rdN k (src, bad)).2 ∧ Keep [b] w (w2.setCell ⟨b, 0, none⟩ v) := by
  have hs : SameOn G w (w2.setCell ⟨b, 0, none⟩ v) := fun j hj => (Below.heap_setCell _ _ _ _ (fun e => hb (by simp only at e; rw [← e]; exact hj))).trans (hG.same kx j hj)
  refine ⟨⟨v, ?_, ?_⟩, (kx.weaken (by simp)).setCell (.inl (by simp)) _⟩
  · simp only [rdN, if_neg hk]
    exact heap_set hh v
  · simp only [rdN, if_neg hk]
    rcases hv with ⟨rfl, e⟩ | rfl
    · rw [show src.drop k = [] from List.drop_eq_nil_of_le (by omega)]
      exact RB.none0 _ _ _ _ _
    · exact RB.keepF (hr.drop k _ _ (by omega) rfl rfl) hs (fun _ h => h)
theorem rdI_short {k : Nat} {s : St} (h : s.1.length < k) : (rdN k s) = (0, ([], true)) := by simp [rdN, h]
end Go.Proofs.YtobbchmjgoaleaaGreatDoor
/-
  UNKNOWN TAGS AS LISTS BY RISING NUMBERS, and as what a map of the call's own reads as. No program's text is walked here.
-/
namespace Go.Proofs.YtobbchmjgoaleaaGreatDoor
open Go.RowKit
open Go.Maps (Keyed)

section
variable {α β : Type}
def insK (x : Nat × α) : List (Nat × α) → List (Nat × α)
  | [] => [x]
  | y :: r => if x.1 < y.1 then x :: y :: r else y :: insK x r
/-- set a tag -/
def putK (l : List (Nat × α)) (k : Nat) (x : α) : List (Nat × α) := insK (k, x) (l.filter fun y => decide (y.1 ≠ k))
def Rising (l : List (Nat × α)) : Prop := l.Pairwise fun a b => a.1 < b.1
theorem mem_insK {x y : Nat × α} : ∀ {l : List (Nat × α)}, y ∈ insK x l ↔ y = x ∨ y ∈ l
  | [] => by simp [insK]
  | z :: r => by
    unfold insK
    split
    · simp
    · simp only [List.mem_cons, mem_insK (l := r)]
      constructor
      · rintro (h | h | h)
        · exact .inr (.inl h)
        · exact .inl h
        · exact .inr (.inr h)
      · rintro (h | h | h)
        · exact .inr (.inl h)
        · exact .inl h
        · exact .inr (.inr h)
theorem length_insK (x : Nat × α) : ∀ l : List (Nat × α), (insK x l).length = l.length + 1
  | [] => rfl
  | z :: r => by
    unfold insK
    split
    · rfl
    · simp [length_insK x r]
theorem insK_map (f : α → β) (x : Nat × α) : ∀ l : List (Nat × α), (insK x l).map (fun y => (y.1, f y.2)) = insK (x.1, f x.2) (l.map fun y => (y.1, f y.2))
  | [] => rfl
  | z :: r => by
    unfold insK
    simp only [List.map_cons]
    split
    · simp
    · simp [insK_map f x r]
theorem putK_map (f : α → β) (l : List (Nat × α)) (k : Nat) (x : α) : (putK l k x).map (fun y => (y.1, f y.2)) = putK (l.map fun y => (y.1, f y.2)) k (f x) := by
  unfold putK
  rw [insK_map]
  congr 1
  induction l with
  | nil => rfl
  | cons z r ih =>
    simp only [List.filter_cons, List.map_cons]
    by_cases h : z.1 = k
    · simp [h]
      simpa using ih
    · simp [h]
      simpa using ih
theorem mem_putK {l : List (Nat × α)} {k : Nat} {x : α} {y : Nat × α} (h : y ∈ putK l k x) : y = (k, x) ∨ y ∈ l := by
  rcases mem_insK.1 h with h | h
  · exact .inl h
  · exact .inr (List.mem_filter.1 h).1
theorem length_putK (l : List (Nat × α)) (k : Nat) (x : α) : (putK l k x).length ≤ l.length + 1 := by
  unfold putK
  rw [length_insK]
  have := List.length_filter_le (fun y => decide (y.1 ≠ k)) l
  omega
theorem rising_insK {x : Nat × α} : ∀ {l : List (Nat × α)}, Rising l → (∀ y ∈ l, y.1 ≠ x.1) → Rising (insK x l)
  | [], _, _ => by simp [insK, Rising]
  | z :: r, h, hn => by
    obtain ⟨h1, h2⟩ := List.pairwise_cons.1 h
    unfold insK
    split
    · rename_i hlt
      exact List.pairwise_cons.2 ⟨fun y hy => by
        rcases List.mem_cons.1 hy with e | hy
        · rw [e]; exact hlt
        · exact Nat.lt_trans hlt (h1 y hy), h⟩
    · rename_i hlt
      refine List.pairwise_cons.2 ⟨fun y hy => ?_, rising_insK h2 fun y hy => hn y (List.mem_cons_of_mem _ hy)⟩
      rcases mem_insK.1 hy with e | hy
      · rw [e]; have := hn z (by simp); omega
      · exact h1 y hy
theorem rising_putK {l : List (Nat × α)} (h : Rising l) (k : Nat) (x : α) : Rising (putK l k x) :=
  rising_insK (h.filter _) fun y hy => by simpa using (List.mem_filter.1 hy).2
theorem rising_nil : Rising ([] : List (Nat × α)) := List.Pairwise.nil
end

/-- an element reads as itself -/
def tR (v : Value) : Option (DataW Value × List MemPlace) := some (.held v, [])
def tE (x : Nat × Value) : Lit × DataW Value := (.int .u32 (x.1 : Int), .held x.2)
def tD (l : List (Nat × Value)) : DataW Value := .map (l.map tE)
theorem tE_insert (x : Nat × Value) : ∀ l : List (Nat × Value), DataW.insert (tE x) (l.map tE) = (insK x l).map tE
  | [] => rfl
  | y :: r => by
    simp only [List.map_cons, DataW.insert, insK]
    have e : (tE x).1.before (tE y).1 = decide (x.1 < y.1) := by simp [tE, Lit.before]
    rw [e]
    by_cases h : x.1 < y.1
    · simp [h]
    · simp [h, tE_insert x r]
theorem tD_put (l : List (Nat × Value)) (k : Nat) (v : Value) : (tD l).put (.int .u32 (k : Int)) (.held v) = tD (putK l k v) := by
  unfold tD DataW.put putK
  simp only
  have e : ((l.map tE).filter fun p => !p.1.sameKey (.int .u32 (k : Int))) = (l.filter fun y => decide (y.1 ≠ k)).map tE := by
    induction l with
    | nil => rfl
    | cons z r ih =>
      simp only [List.map_cons, List.filter_cons]
      have e1 : (!(tE z).1.sameKey (.int .u32 (k : Int))) = decide (z.1 ≠ k) := by
        by_cases h : z.1 = k
        · simp [tE, Lit.sameKey, h]
        · simp [tE, Lit.sameKey, h]; omega
      rw [e1]
      by_cases h : z.1 = k
      · simp [h, ih]
      · simp [h, ih]
  rw [e]
  exact congrArg DataW.map (tE_insert (k, v) _)
theorem tD_size (l : List (Nat × Value)) : Maps.size (tD l) = l.length := by simp [tD, Maps.size]
theorem tD_has {l : List (Nat × Value)} {k : Int} (h : Maps.has (tD l) (.int .u32 k) = true) : ∃ x ∈ l, (x.1 : Int) = k := by
  simp only [tD, Maps.has, List.any_map] at h
  obtain ⟨x, hx, e⟩ := List.any_eq_true.1 h
  exact ⟨x, hx, by simpa [tE, Lit.sameKey] using e⟩
theorem tD_has_mem {l : List (Nat × Value)} {x : Nat × Value} (h : x ∈ l) : Maps.has (tD l) (.int .u32 (x.1 : Int)) = true := by
  simp only [tD, Maps.has, List.any_map]
  exact List.any_eq_true.2 ⟨x, h, by simp [tE, Lit.sameKey]⟩
theorem tD_at : ∀ {l : List (Nat × Value)} (_ : Rising l) {x : Nat × Value} (_ : x ∈ l) (z : DataW Value), (tD l).atKey (.int .u32 (x.1 : Int)) z = .held x.2
  | [], _, _, h, _ => by simp at h
  | y :: r, hr, x, h, z => by
    obtain ⟨h1, h2⟩ := List.pairwise_cons.1 hr
    simp only [tD, DataW.atKey, List.map_cons, List.find?_cons]
    rcases List.mem_cons.1 h with rfl | h'
    · simp [tE, Lit.sameKey]
    · have hne := h1 x h'
      have e : (tE y).1.sameKey (.int .u32 (x.1 : Int)) = false := by simp [tE, Lit.sameKey]; omega
      rw [e]
      have := tD_at h2 h' z
      simpa only [tD, DataW.atKey] using this
theorem wf_u32 {k : Nat} (h : k < 4294967296) : (Lit.int .u32 (k : Int)).wf = true := by
  simp [Lit.wf, IntKind.min, IntKind.max, IntKind.bits, IntKind.signed]; omega

/-- a map of tags of the call's own: at most n entries, by rising numbers -/
def MO (w : World) (v : Value) (n : Nat) (l : List (Nat × Value)) : Prop :=
  Rising l ∧ (∀ x ∈ l, x.1 < 4294967296) ∧ ((v = .map none ∧ l = []) ∨ ∃ r, v = .map (some r) ∧ w.ownsMap Tryz.prog 75 tR r n (tD l))
/-- its block -/
def mblk : Value → List Nat
  | .map (some r) => [r]
  | _ => []
theorem MO.nil (w : World) (n : Nat) : MO w (.map none) n [] := ⟨rising_nil, by simp, .inl ⟨rfl, rfl⟩⟩
theorem MO.lt {w : World} {v : Value} {n : Nat} {l : List (Nat × Value)} (h : MO w v n l) : ∀ k ∈ mblk v, k < w.heap.size := by
  obtain ⟨_, _, ⟨rfl, _⟩ | ⟨r, rfl, h⟩⟩ := h
  · simp [mblk]
  · simpa [mblk] using h.lt
theorem MO.kept {w w' : World} {v : Value} {n : Nat} {l : List (Nat × Value)} (h : MO w v n l) (hs : ∀ k ∈ mblk v, w'.heap[k]? = w.heap[k]?) : MO w' v n l := by
  obtain ⟨h1, h2, ⟨rfl, h3⟩ | ⟨r, rfl, es, clock, hb, h4⟩⟩ := h
  · exact ⟨h1, h2, .inl ⟨rfl, h3⟩⟩
  · exact ⟨h1, h2, .inr ⟨r, rfl, es, clock, (hs r (by simp [mblk])).trans hb, h4⟩⟩
theorem MO.shape {w : World} {v : Value} {n : Nat} {l : List (Nat × Value)} (h : MO w v n l) : ∃ r, v = .map r := by
  obtain ⟨_, _, ⟨rfl, _⟩ | ⟨r, rfl, _⟩⟩ := h
  · exact ⟨_, rfl⟩
  · exact ⟨_, rfl⟩
/-- a map of tags that reads: its octets, its block -/
def MP (w : World) (G : Nat → Prop) (v : Value) (l : List Tg) : Prop :=
  ∃ (n : Nat) (m : List (Nat × (Value × Bs))), n ≤ 8589934592 ∧ MO w v n (m.map fun x => (x.1, x.2.1)) ∧ (∀ k ∈ mblk v, G k) ∧ l = m.map (fun x => (x.1, x.2.2)) ∧ ∀ x ∈ m, RB w G x.2.1 x.2.2
theorem MP.nil (w : World) (G : Nat → Prop) : MP w G (.map none) [] := ⟨0, [], by omega, MO.nil _ _, by simp [mblk], rfl, by simp⟩
theorem MP.keepF {w w' : World} {F G : Nat → Prop} {v : Value} {l : List Tg} (h : MP w F v l) (hs : SameOn F w w') (hg : ∀ k, F k → G k) : MP w' G v l := by
  obtain ⟨n, m, h1, h2, h3, h4, h5⟩ := h
  exact ⟨n, m, h1, h2.kept fun k hk => hs k (h3 k hk), fun k hk => hg k (h3 k hk), h4, fun x hx => (h5 x hx).keepF hs hg⟩
theorem MP.shape {w : World} {G : Nat → Prop} {v : Value} {l : List Tg} (h : MP w G v l) : ∃ r, v = .map r := by
  obtain ⟨n, m, h1, h2, _⟩ := h
  exact h2.shape
end Go.Proofs.YtobbchmjgoaleaaGreatDoor
/-
  Tags.Set.
-/
namespace Go.Proofs.YtobbchmjgoaleaaGreatDoor
open Go.ChangeShapes Go.WideShapes Go.ChangeAt Go.RowKit

theorem set_self {c : Array Value} {i : Nat} {v : Value} (h : c[i]? = some v) : c.setIfInBounds i v = c := by
  obtain ⟨hi, rfl⟩ := Array.getElem?_eq_some_iff.1 h
  simp [Array.setIfInBounds, hi]
theorem map_eq0 (w : World) : (Go.binOp .eql 80 (.map none) (.map none)).run Tryz.prog w = .ok (.bool true) w := by kernel_rfl
theorem map_eq1 (r : Nat) (w : World) : (Go.binOp .eql 80 (.map (some r)) (.map none)).run Tryz.prog w = .ok (.bool false) w := by kernel_rfl
set_option maxHeartbeats 400000 in
set_option maxRecDepth 100000 in
theorem tset_any {tb i n k : Nat} {w : World} {v x : Value} {l : List (Nat × Value)} {c : Array Value} {t : TypeId} (hb : w.heap[tb]? = some (.cells c t (0, 0))) (hc : c[i]? = some v) (hm : MO w v n l) (hk : k < 4294967296) (hn : n ≤ 17179869184) :
    Calls Tryz.prog 219 #[.pointer (some ⟨tb, i, none⟩), .int .u32 (k : Int), x] w fun e w' => e = .returned (.tuple #[]) ∧ ∃ v', MO w' v' (n + 1) (putK l k x) ∧ w'.heap[tb]? = some (.cells (c.setIfInBounds i v') t (0, 0)) ∧ (∀ r ∈ mblk v', r ∈ mblk v ∨ w.heap.size ≤ r) ∧ Keep (tb :: mblk v) w w' := by
  obtain ⟨hr, hlt, ⟨rfl, rfl⟩ | ⟨r, rfl, hown⟩⟩ := hm
  · have c0 : w.cell? ⟨tb, i, none⟩ = some (.map none) := cellOf hb i _ hc
    have f0 := freeOf hb i
    have hmm := @run_makeMap Tryz.prog
    have heq := map_eq0 w
    have htb : tb < w.heap.size := (Array.getElem?_eq_some_iff.1 hb).1
    have hown : ((w.setCell ⟨tb, i, none⟩ (.map (some w.heap.size))).alloc (.map #[] 0)).ownsMap Tryz.prog 75 tR w.heap.size n (tD []) := by
      have h := World.ownsMap_made (w.setCell ⟨tb, i, none⟩ (.map (some w.heap.size))) Tryz.prog 75 tR
      rw [show (w.setCell ⟨tb, i, none⟩ (.map (some w.heap.size))).heap.size = w.heap.size from by simp [World.setCell]] at h
      exact h.mono (Nat.zero_le n)
    have hs1 := heap_set (i := i) hb (.map (some w.heap.size))
    have ks1 : Keep [tb] w (w.setCell ⟨tb, i, none⟩ (.map (some w.heap.size))) := (Keep.refl _ _).setCell (.inl (by simp)) _
    have HS1 : Hid _ := hs1
    clear hs1
    go_enter Tryz.func219, Tryz.ntmps219
    go_wp2_with (at_mapUpdate; go_loud (refine wpList_mapUpdate_own _ rfl _ _ _ 80 rfl 75 22 (Maps.int_keyed Tryz.underlying75) Tryz.underlying80 tR w.heap.size n _ rfl hown (by unfold maxLen; omega) _ _ (.int .u32 (k : Int)) rfl rfl (Maps.keyOf_int_mk Tryz.underlying75 (wf_u32 hk)) (.held x) [] rfl ?_; intro w1 hown1 hgrow1))
    refine bodyPost_end (v := .tuple #[]) (by simp [results, Tryz.results219, go_sem]) rfl ⟨rfl, .map (some w.heap.size), ⟨rising_putK hr k x, ?_, .inr ⟨_, rfl, ?_⟩⟩, ?_, by simp [mblk], ?_⟩
    · intro y hy
      rcases mem_putK hy with rfl | h
      · exact hk
      · simp at h
    · rw [← tD_put]; exact hown1
    · have e := hgrow1.block tb (by simp [World.setCell]; omega) (by simp; omega)
      rw [e]
      exact ((keep_box (A := []) _).block tb (by simp [World.setCell]; omega) (by simp)).trans HS1.out
    · refine ((ks1.alloc _).grown (row := some w.heap.size) hgrow1 (by simp)).weaken (by simp [mblk])
  · have hb0 := hb
    have c0 : w.cell? ⟨tb, i, none⟩ = some (.map (some r)) := cellOf hb i _ hc
    have hcc : Hid _ := hc
    clear hc
    have f0 := freeOf hb i
    have heq := map_eq1 r w
    go_enter Tryz.func219, Tryz.ntmps219
    go_wp2_with (at_mapUpdate; go_loud (refine wpList_mapUpdate_own _ rfl _ _ _ 80 rfl 75 22 (Maps.int_keyed Tryz.underlying75) Tryz.underlying80 tR r n _ rfl hown (by unfold maxLen; omega) _ _ (.int .u32 (k : Int)) rfl rfl (Maps.keyOf_int_mk Tryz.underlying75 (wf_u32 hk)) (.held x) [] rfl ?_; intro w1 hown1 hgrow1))
    have htb : tb < w.heap.size := (Array.getElem?_eq_some_iff.1 hb).1
    have hne : tb ≠ r := fun e => by
      obtain ⟨es, clock, h1, _⟩ := hown
      rw [e, h1] at hb
      cases hb
    refine bodyPost_end (v := .tuple #[]) (by simp [results, Tryz.results219, go_sem]) rfl ⟨rfl, .map (some r), ⟨rising_putK hr k x, ?_, .inr ⟨_, rfl, ?_⟩⟩, ?_, fun _ h => .inl h, ?_⟩
    · intro y hy
      rcases mem_putK hy with rfl | h
      · exact hk
      · exact hlt y h
    · rw [← tD_put]; exact hown1
    · have e := hgrow1.block tb htb (by simpa using hne)
      rw [e, hb, set_self hcc.out]
    · exact (Keep.refl _ _).grown (row := some r) hgrow1 (by simp [mblk])
end Go.Proofs.YtobbchmjgoaleaaGreatDoor
/-
  Reader.Int32.
-/
namespace Go.Proofs.YtobbchmjgoaleaaGreatDoor
open Go.ChangeShapes Go.WideShapes Go.ChangeAt Go.RowKit

set_option maxHeartbeats 400000 in
theorem u32_any (G : Nat → Prop) (w : World) (ao : Option Addr) (n cap : Nat) (b0 b1 b2 b3 : UInt8) (r : Bs) (h : RB w G (.slice ao n cap) (b0 :: b1 :: b2 :: b3 :: r)) :
    Calls Tryz.prog 214 #[.agg #[], .slice ao n cap] w fun e w' => e = .returned (.int .u32 (16777216 * (b0.toNat : Int) + 65536 * b1.toNat + 256 * b2.toNat + b3.toNat)) ∧ Keep [] w w' := by
  obtain ⟨b, o, rfl, _, hn, _, hc⟩ := h.spot (by simp)
  have h0 : w.cell? ⟨b, o, none⟩ = some (.int .u8 b0.toNat) := hc 0 (by simp)
  have h1 : w.cell? ⟨b, o + 1, none⟩ = some (.int .u8 b1.toNat) := hc 1 (by simp)
  have h2 : w.cell? ⟨b, o + 2, none⟩ = some (.int .u8 b2.toNat) := hc 2 (by simp)
  have h3 : w.cell? ⟨b, o + 3, none⟩ = some (.int .u8 b3.toNat) := hc 3 (by simp)
  have h4 : 4 ≤ n := by simp at hn; omega
  have hlt := World.block_lt_of_cell? w _ h0
  have g0 : (w.alloc (Obj.cells #[] 194)).cell? ⟨b, o, none⟩ = some (.int .u8 b0.toNat) := by rw [World.cell?_alloc_lt _ _ _ hlt]; exact h0
  have g1 : (w.alloc (Obj.cells #[] 194)).cell? ⟨b, o + 1, none⟩ = some (.int .u8 b1.toNat) := by rw [World.cell?_alloc_lt _ _ _ (World.block_lt_of_cell? w _ h1)]; exact h1
  have g2 : (w.alloc (Obj.cells #[] 194)).cell? ⟨b, o + 2, none⟩ = some (.int .u8 b2.toNat) := by rw [World.cell?_alloc_lt _ _ _ (World.block_lt_of_cell? w _ h2)]; exact h2
  have g3 : (w.alloc (Obj.cells #[] 194)).cell? ⟨b, o + 3, none⟩ = some (.int .u8 b3.toNat) := by rw [World.cell?_alloc_lt _ _ _ (World.block_lt_of_cell? w _ h3)]; exact h3
  have hb2 : b2.toNat < 256 := b2.toNat_lt
  have hb3 : b3.toNat < 256 := b3.toNat_lt
  have hb0 : b0.toNat < 256 := b0.toNat_lt
  have hb1 : b1.toNat < 256 := b1.toNat_lt
  clear hc hn h h0 h1 h2 h3
  generalize b0.toNat = x0 at *
  generalize b1.toNat = x1 at *
  generalize b2.toNat = x2 at *
  generalize b3.toNat = x3 at *
  go_enter Tryz.func214, Tryz.ntmps214
  go_wp2
  go_quiet (fail)
  go_wp2
  refine bodyPost_ret (v := .int .u32 (16777216 * (x0 : Int) + 65536 * x1 + 256 * x2 + x3)) ?_ rfl ⟨rfl, ((keep_box _).drewN _)⟩
  simp [results, Tryz.results214, go_sem]
  rw [or_up .u32 32 (by decide) wraps_u32 8 ((x2 : Int) * 256) (x3 : Int) (by omega) (by omega) (by omega) (by omega) (by omega) (by omega), or_up .u32 32 (by decide) wraps_u32 16 ((x1 : Int) * 65536) _ (by omega) (by omega) (by omega) (by omega) (by omega) (by omega), or_up .u32 32 (by decide) wraps_u32 24 ((x0 : Int) * 16777216) _ (by omega) (by omega) (by omega) (by omega) (by omega) (by omega)]
  omega
theorem i32_val (b0 b1 b2 b3 : UInt8) (r : Bs) (bad : Bool) : (rdI 4 (b0 :: b1 :: b2 :: b3 :: r, bad)).1 = IntKind.i32.wrap (16777216 * (b0.toNat : Int) + 65536 * b1.toNat + 256 * b2.toNat + b3.toNat) := by
  have h0 : b0.toNat < 256 := b0.toNat_lt
  have h1 : b1.toNat < 256 := b1.toNat_lt
  have h2 : b2.toNat < 256 := b2.toNat_lt
  have h3 : b3.toNat < 256 := b3.toNat_lt
  simp only [rdI, rdN, List.length_cons, if_neg (show ¬ r.length + 1 + 1 + 1 + 1 < 4 by omega), List.take_succ_cons, List.take_zero, be, List.foldl_cons, List.foldl_nil, sgn, IntKind.wrap_i32]
  split <;> omega
theorem i32_body : Tryz.f181.body.isNone = false := by kernel_rfl
set_option maxHeartbeats 400000 in
set_option maxRecDepth 100000 in
theorem int32_any {G : Nat → Prop} {b : Nat} {s : St} {w : World} (h : Rd w b G s) (hG : There G w) (hb : ¬ G b) :
    Calls Tryz.prog 181 #[.pointer (some ⟨b, 0, none⟩)] w fun e w' => e = .returned (.int .i32 (rdI 4 s).1) ∧ Rd w' b G (rdI 4 s).2 ∧ Keep [b] w w' := by
  obtain ⟨src, bad⟩ := s
  obtain ⟨v, hh, hr⟩ := h
  obtain ⟨ao, cap, rfl⟩ := RS.shape hr
  have c0 : w.cell? ⟨b, 0, none⟩ = some (.slice ao src.length cap) := cellOf hh 0 _ rfl
  have c1 : w.cell? ⟨b, 1, none⟩ = some (.bool bad) := cellOf hh 1 _ rfl
  have f0 := freeOf hh 0
  have f1 := freeOf hh 1
  go_enter Tryz.func181, Tryz.ntmps181
  by_cases hl : src.length < 4
  · go_wp2_with fail
    go_ret
    exact ⟨by simp [rdI, rdN, hl, sgn], ⟨.slice none 0 0, by simp only [rdI, rdN, hl, if_true]; exact heap_set (heap_set hh _) _, by simp only [rdI, rdN, hl, if_true]; exact RB.nil _ _⟩, ((Keep.refl _ _).setCell (.inl (by simp)) _).setCell (.inl (by simp)) _⟩
  · obtain ⟨b0, b1, b2, b3, r, rfl⟩ : ∃ b0 b1 b2 b3 r, src = b0 :: b1 :: b2 :: b3 :: r := by
      match src, hl with
      | b0 :: b1 :: b2 :: b3 :: r, _ => exact ⟨b0, b1, b2, b3, r, rfl⟩
      | [_, _, _], h => simp at h
      | [_, _], h => simp at h
      | [_], h => simp at h
      | [], h => simp at h
    have HH : Hid _ := hh
    clear hh
    have hS := c0
    go_wp2_with fail
    go_region_held3 (fun w' => w'.cell? ⟨b, 0, none⟩ = some (.slice ao (b0 :: b1 :: b2 :: b3 :: r).length cap)) (exact hS) (first
      | (go_at_call 214; refine (u32_any G _ ao _ cap b0 b1 b2 b3 r (hr.keepF (hG.same (Keep.refl _ _).drew) (fun _ h => h))).mono ?_; rintro e w2 ⟨rfl, hk2⟩; have kx : Keep [] w w2 := (Keep.refl _ _).drew.trans hk2; have hS := kx.cs c0))
    obtain ⟨bs, o, rfl, hGb, -, hcap, -⟩ := hr.spot (by simp)
    have hbw : b < w.heap.size := World.block_lt_of_cell? w _ c0
    have hh2 := (kx.block b hbw (by simp)).trans HH.out
    have d0 : w2.cell? ⟨b, 0, none⟩ = some (.slice (some ⟨bs, o, none⟩) (b0 :: b1 :: b2 :: b3 :: r).length cap) := cellOf hh2 0 _ rfl
    have e0 := freeOf hh2 0
    have HH2 : Hid _ := hh2
    clear hh2
    by_cases hcap : cap = 4
    · subst hcap
      go_wp2
      go_ret
      obtain ⟨q1, q2⟩ := rd_done (k := 4) (b := b) (v := .slice (some ⟨bs, o, none⟩) r.length 0) hG hb hr hl kx HH2.out (.inl ⟨by simp at hcap ⊢; omega, by simp at hcap ⊢; omega⟩)
      exact ⟨by simp [i32_val], q1, q2⟩
    · go_wp2
      go_ret
      obtain ⟨q1, q2⟩ := rd_done (k := 4) (b := b) (v := .slice (some ⟨bs, o + 4, none⟩) r.length (cap - 4)) hG hb hr hl kx HH2.out (.inr (by simp))
      exact ⟨by simp [i32_val], q1, q2⟩
end Go.Proofs.YtobbchmjgoaleaaGreatDoor
