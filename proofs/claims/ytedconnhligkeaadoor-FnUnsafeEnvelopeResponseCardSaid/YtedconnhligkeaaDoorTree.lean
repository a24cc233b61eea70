/-
  HOW spec's TREES AND FIELDS LIE IN MEMORY: readings, and that they stay where the memory that they reach stays.
-/
import Derived.Test.YtedconnhligkeaaDoorBase
import Derived.Test.YtedconnhligkeaaDoorPure
namespace Go.Proofs.YtedconnhligkeaaDoor
open Go.RowKit

theorem flatten_get {α : Type} : ∀ (cs : List (List α)) (m : Nat) (_ : ∀ c ∈ cs, c.length = m) (i j : Nat) (hi : i < cs.length) (_ : j < m) (hc : j < cs[i].length), cs.flatten[m * i + j]? = some (cs[i][j])
  | [], _, _, i, _, hi, _, _ => by simp at hi
  | c :: cs, m, hm, 0, j, _, hj, hc => by
    have : c.length = m := hm c (by simp)
    simp only [List.flatten_cons, Nat.mul_zero, Nat.zero_add, List.getElem_cons_zero]
    rw [List.getElem?_append_left (by omega)]
    simp
  | c :: cs, m, hm, i + 1, j, hi, hj, hc => by
    have hcl : c.length = m := hm c (by simp)
    have := flatten_get cs m (fun x hx => hm x (by simp [hx])) i j (by simpa using hi) hj (by simpa using hc)
    simp only [List.flatten_cons, List.getElem_cons_succ]
    rw [List.getElem?_append_right (by rw [hcl, Nat.mul_add]; omega), hcl, show m * (i + 1) + j - m = m * i + j by rw [Nat.mul_add]; omega]
    exact this
theorem flatten_len {α : Type} : ∀ (cs : List (List α)) (m : Nat) (_ : ∀ c ∈ cs, c.length = m), cs.flatten.length = m * cs.length
  | [], m, _ => by simp
  | c :: cs, m, hm => by
    have h1 : c.length = m := hm c (by simp)
    have h2 := flatten_len cs m (fun x hx => hm x (by simp [hx]))
    simp only [List.flatten_cons, List.length_append, List.length_cons, h1, h2, Nat.mul_add]
    omega

/-- an element of a row of n things of m cells each -/
theorem RS.elem {w : World} {G : Nat → Prop} {v : Value} {cs : List (List Value)} {m : Nat} (h : RS w G v cs.length cs.flatten) (hm : ∀ c ∈ cs, c.length = m) {i : Nat} (hi : i < cs.length) (h0 : 0 < m) :
    ∃ b o cap, v = .slice (some ⟨b, o, none⟩) cs.length cap ∧ cs.length ≤ cap ∧ G b ∧ ∀ j (hj : j < cs[i].length), w.cell? ⟨b, o + i * m + j, none⟩ = some (cs[i][j]) := by
  obtain ⟨ao, cap, rfl, h1, h2, h3⟩ := h
  cases ao with
  | none => have := (h2 rfl).1; omega
  | some a =>
    obtain ⟨b, o, sp⟩ := a
    obtain ⟨g1, g2⟩ := h3 _ rfl
    simp only at g1
    subst g1
    have hlen := flatten_len cs m hm
    have hci : cs[i].length = m := hm _ (List.getElem_mem hi)
    have key : ∀ j, j < m → m * i + j < cs.flatten.length := fun j hj => by
      rw [hlen]
      have : m * (i + 1) ≤ m * cs.length := Nat.mul_le_mul_left m hi
      rw [Nat.mul_add] at this
      omega
    refine ⟨b, o, cap, rfl, h1, (g2 (m * i + 0) (key 0 h0)).1, fun j hj => ?_⟩
    have hj' : j < m := by omega
    have e := flatten_get cs m hm i j hi hj' hj
    rw [show o + i * m + j = o + (m * i + j) by rw [Nat.mul_comm]; omega, (g2 (m * i + j) (key j hj')).2]
    rw [List.getElem?_eq_getElem (key j hj')] at e
    exact e

/-- tags: each its number and its octets -/
def HGs (w : World) (G : Nat → Prop) (v : Value) (u : List Tg) : Prop :=
  ∃ vs : List Value, vs.length = u.length ∧ (∀ i (h1 : i < u.length) (h2 : i < vs.length), RB w G vs[i] u[i].2) ∧ (∀ x ∈ u, x.1 < 4294967296 ∧ x.2.length ≤ 1099511627776) ∧ u.length ≤ 1099511627776 ∧
    RS w G v u.length ((u.zip vs).map fun x => [Value.int .u32 (x.1.1 : Int), x.2]).flatten

/-- a tree's five cells -/
inductive HT (w : World) (G : Nat → Prop) : T → List Value → Prop
  | mk (n : Int) (s : Bs) (null : Bool) (l : List T) (u : List Tg) (vs vl vu : Value) (cs : List (List Value)) (hs : RB w G vs s) (hn : -9223372036854775808 ≤ n ∧ n ≤ 9223372036854775807 ∧ s.length ≤ 1099511627776 ∧ l.length ≤ 1099511627776)
      (hlen : cs.length = l.length) (hl : ∀ i (h1 : i < l.length) (h2 : i < cs.length), HT w G l[i] cs[i]) (hr : RS w G vl cs.length cs.flatten) (hu : HGs w G vu u) :
      HT w G (.mk n s null l u) [.int .i64 n, vs, .bool null, vl, vu]
def HTs (w : World) (G : Nat → Prop) (v : Value) (l : List T) : Prop :=
  ∃ cs : List (List Value), cs.length = l.length ∧ (∀ i (h1 : i < l.length) (h2 : i < cs.length), HT w G l[i] cs[i]) ∧ l.length ≤ 1099511627776 ∧ RS w G v cs.length cs.flatten

/-- a field's eight cells -/
inductive HF (w : World) (G : Nat → Prop) : F → List Value → Prop
  | mk (k a b c d e o : Int) (sub : List F) (v : Value) (cs : List (List Value)) (hb : sub.length ≤ 1048576) (hlen : cs.length = sub.length)
      (hl : ∀ i (h1 : i < sub.length) (h2 : i < cs.length), HF w G sub[i] cs[i]) (hr : RS w G v cs.length cs.flatten) :
      HF w G (.mk k a b c d e o sub) [.int .i64 k, .int .i64 a, .int .i64 b, .int .i64 c, .int .i64 d, .int .i64 e, .int .i64 o, v]
def HFs (w : World) (G : Nat → Prop) (v : Value) (l : List F) : Prop :=
  ∃ cs : List (List Value), cs.length = l.length ∧ (∀ i (h1 : i < l.length) (h2 : i < cs.length), HF w G l[i] cs[i]) ∧ l.length ≤ 1048576 ∧ RS w G v cs.length cs.flatten

theorem RB.keepF {w w' : World} {F G : Nat → Prop} {v : Value} {l : Bs} (h : RB w F v l) (hs : SameOn F w w') (hg : ∀ k, F k → G k) : RB w' G v l := (RS.same h hs).mono hg
theorem RS.keepF {w w' : World} {F G : Nat → Prop} {v : Value} {n : Nat} {xs : List Value} (h : RS w F v n xs) (hs : SameOn F w w') (hg : ∀ k, F k → G k) : RS w' G v n xs := (RS.same h hs).mono hg
theorem HGs.keepF {w w' : World} {F G : Nat → Prop} {v : Value} {u : List Tg} (h : HGs w F v u) (hs : SameOn F w w') (hg : ∀ k, F k → G k) : HGs w' G v u := by
  obtain ⟨vs, h1, h2, h3, h5, h4⟩ := h
  exact ⟨vs, h1, fun i a b => (h2 i a b).keepF hs hg, h3, h5, h4.keepF hs hg⟩
theorem HT.keepF {w w' : World} {F G : Nat → Prop} {t : T} {c : List Value} (h : HT w F t c) (hs : SameOn F w w') (hg : ∀ k, F k → G k) : HT w' G t c := by
  induction h with
  | mk n s null l u vs vl vu cs hb hn hlen _ hr hu ih => exact .mk n s null l u vs vl vu cs (hb.keepF hs hg) hn hlen ih (hr.keepF hs hg) (hu.keepF hs hg)
theorem HTs.keepF {w w' : World} {F G : Nat → Prop} {v : Value} {l : List T} (h : HTs w F v l) (hs : SameOn F w w') (hg : ∀ k, F k → G k) : HTs w' G v l := by
  obtain ⟨cs, h1, h2, h4, h3⟩ := h
  exact ⟨cs, h1, fun i a b => (h2 i a b).keepF hs hg, h4, h3.keepF hs hg⟩
theorem HF.keepF {w w' : World} {F' G : Nat → Prop} {f : F} {c : List Value} (h : HF w F' f c) (hs : SameOn F' w w') (hg : ∀ k, F' k → G k) : HF w' G f c := by
  induction h with
  | mk k a b c d e o sub v cs hb hlen _ hr ih => exact .mk k a b c d e o sub v cs hb hlen ih (hr.keepF hs hg)
theorem HFs.keepF {w w' : World} {F' G : Nat → Prop} {v : Value} {l : List F} (h : HFs w F' v l) (hs : SameOn F' w w') (hg : ∀ k, F' k → G k) : HFs w' G v l := by
  obtain ⟨cs, h1, h2, h4, h3⟩ := h
  exact ⟨cs, h1, fun i a b => (h2 i a b).keepF hs hg, h4, h3.keepF hs hg⟩
section
variable {A : List Nat} {w w' : World}
theorem RB.keep {v : Value} {l : Bs} (h : RB w (Out A w) v l) (hk : Keep A w w') : RB w' (Out A w') v l := h.keepF hk.sameOn fun _ => Out.grow hk
theorem HT.keep {t : T} {c : List Value} (h : HT w (Out A w) t c) (hk : Keep A w w') : HT w' (Out A w') t c := h.keepF hk.sameOn fun _ => Out.grow hk
theorem HTs.keep {v : Value} {l : List T} (h : HTs w (Out A w) v l) (hk : Keep A w w') : HTs w' (Out A w') v l := h.keepF hk.sameOn fun _ => Out.grow hk
theorem HGs.keep {v : Value} {l : List Tg} (h : HGs w (Out A w) v l) (hk : Keep A w w') : HGs w' (Out A w') v l := h.keepF hk.sameOn fun _ => Out.grow hk
theorem HF.keep {f : F} {c : List Value} (h : HF w (Out A w) f c) (hk : Keep A w w') : HF w' (Out A w') f c := h.keepF hk.sameOn fun _ => Out.grow hk
theorem HFs.keep {v : Value} {l : List F} (h : HFs w (Out A w) v l) (hk : Keep A w w') : HFs w' (Out A w') v l := h.keepF hk.sameOn fun _ => Out.grow hk
end

theorem HT.five {w : World} {G : Nat → Prop} {t : T} {c : List Value} (h : HT w G t c) : c.length = 5 := by cases h; rfl
theorem HF.eight {w : World} {G : Nat → Prop} {f : F} {c : List Value} (h : HF w G f c) : c.length = 8 := by cases h; rfl
theorem HT.parts {w : World} {G : Nat → Prop} {t : T} {c : List Value} (h : HT w G t c) :
    ∃ vs vl vu, c = [.int .i64 t.n, vs, .bool t.null, vl, vu] ∧ RB w G vs t.s ∧ HTs w G vl t.l ∧ HGs w G vu t.u ∧ -9223372036854775808 ≤ t.n ∧ t.n ≤ 9223372036854775807 ∧ t.s.length ≤ 1099511627776 ∧ t.l.length ≤ 1099511627776 := by
  cases h with
  | mk n s null l u vs vl vu cs hb hn hlen hl hr hu => exact ⟨vs, vl, vu, rfl, hb, ⟨cs, hlen, hl, hn.2.2.2, hr⟩, hu, hn⟩
theorem HF.parts {w : World} {G : Nat → Prop} {f : F} {c : List Value} (h : HF w G f c) :
    ∃ v, c = [.int .i64 f.kind, .int .i64 f.frm, .int .i64 f.to, .int .i64 f.nul, .int .i64 f.tag, .int .i64 f.dfl, .int .i64 f.ofk, v] ∧ HFs w G v f.sub := by
  cases h with
  | mk k a b c d e o sub v cs hb hlen hl hr => exact ⟨v, rfl, cs, hlen, hl, hb, hr⟩
theorem HTs.elem {w : World} {G : Nat → Prop} {v : Value} {l : List T} (h : HTs w G v l) {i : Nat} (hi : i < l.length) :
    ∃ b o cap c, v = .slice (some ⟨b, o, none⟩) l.length cap ∧ l.length ≤ cap ∧ G b ∧ HT w G l[i] c ∧ ∀ j (hj : j < c.length), w.cell? ⟨b, o + i * 5 + j, none⟩ = some c[j] := by
  obtain ⟨cs, h1, h2, h5, h3⟩ := h
  have hm : ∀ c ∈ cs, c.length = 5 := fun c hc => by
    obtain ⟨j, hj, rfl⟩ := List.getElem_of_mem hc
    exact (h2 j (by omega) hj).five
  obtain ⟨b, o, cap, e, hc, hG, hcell⟩ := h3.elem hm (i := i) (by omega) (by omega)
  exact ⟨b, o, cap, cs[i], by rw [e, h1], by omega, hG, h2 i hi (by omega), hcell⟩
theorem HFs.elem {w : World} {G : Nat → Prop} {v : Value} {l : List F} (h : HFs w G v l) {i : Nat} (hi : i < l.length) :
    ∃ b o cap c, v = .slice (some ⟨b, o, none⟩) l.length cap ∧ l.length ≤ cap ∧ G b ∧ HF w G l[i] c ∧ ∀ j (hj : j < c.length), w.cell? ⟨b, o + i * 8 + j, none⟩ = some c[j] := by
  obtain ⟨cs, h1, h2, h5, h3⟩ := h
  have hm : ∀ c ∈ cs, c.length = 8 := fun c hc => by
    obtain ⟨j, hj, rfl⟩ := List.getElem_of_mem hc
    exact (h2 j (by omega) hj).eight
  obtain ⟨b, o, cap, e, hc, hG, hcell⟩ := h3.elem hm (i := i) (by omega) (by omega)
  exact ⟨b, o, cap, cs[i], by rw [e, h1], by omega, hG, h2 i hi (by omega), hcell⟩
theorem HTs.bd {w : World} {G : Nat → Prop} {v : Value} {l : List T} (h : HTs w G v l) : l.length ≤ 1099511627776 := by
  obtain ⟨cs, h1, h2, h5, h3⟩ := h
  exact h5
theorem HFs.bd {w : World} {G : Nat → Prop} {v : Value} {l : List F} (h : HFs w G v l) : l.length ≤ 1048576 := by
  obtain ⟨cs, h1, h2, h5, h3⟩ := h
  exact h5
theorem HGs.bd {w : World} {G : Nat → Prop} {v : Value} {l : List Tg} (h : HGs w G v l) : l.length ≤ 1099511627776 := by
  obtain ⟨cs, h1, h2, h5, h4, h3⟩ := h
  exact h4
/-- a slice's length is what it reads as -/
theorem HTs.shape {w : World} {G : Nat → Prop} {v : Value} {l : List T} (h : HTs w G v l) : ∃ ao cap, v = .slice ao l.length cap ∧ l.length ≤ cap := by
  obtain ⟨cs, h1, _, _, ao, cap, e, h4, _⟩ := h
  exact ⟨ao, cap, by rw [e, h1], by omega⟩
theorem HFs.shape {w : World} {G : Nat → Prop} {v : Value} {l : List F} (h : HFs w G v l) : ∃ ao cap, v = .slice ao l.length cap ∧ l.length ≤ cap := by
  obtain ⟨cs, h1, _, _, ao, cap, e, h4, _⟩ := h
  exact ⟨ao, cap, by rw [e, h1], by omega⟩
end Go.Proofs.YtedconnhligkeaaDoor
