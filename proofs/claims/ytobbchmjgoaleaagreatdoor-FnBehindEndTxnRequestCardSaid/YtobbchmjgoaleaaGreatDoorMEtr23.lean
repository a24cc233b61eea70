/-
  laws.zzFits1, zzFits2, zzFits3: of trees that hold nothing too long they are true.
-/
import Derived.Test.YtobbchmjgoaleaaGreatDoorMEtr2
import Derived.Deep.CutBlock
import Derived.Deep.DeepCutAuto
namespace Go.Proofs.YtobbchmjgoaleaaGreatDoor
open Go.ChangeShapes Go.WideShapes Go.ChangeAt Go.RowKit

theorem fits3_any {k : Int} {av : Option Addr} {n pv : Nat} {w : World} (hn : n ≤ 2147483647) :
    Calls Tryz.prog 123 #[.agg #[.int .u32 k, .slice av n pv]] w fun e w' => e = .returned (.bool true) ∧ Keep [] w w' := by
  go_enter Tryz.func123, Tryz.ntmps123
  go_wp2
  go_ret
  exact ⟨rfl, (Keep.refl _ _).alloc _⟩
set_option maxHeartbeats 400000 in
theorem fits2_any {G : Nat → Prop} {v : Value} {u : List Tg} {w : World} (hu : HGs w G v u) (hG : There G w) (h1 : u.length ≤ 2147483647) (h2 : ∀ x ∈ u, x.2.length ≤ 2147483647) :
    Calls Tryz.prog 55 #[v] w fun e w' => e = .returned (.bool true) ∧ Keep [] w w' := by
  obtain ⟨au, pu, rfl⟩ := hu.shape
  go_enter Tryz.func55, Tryz.ntmps55
  go_wp2_with fail
  go_loopw [10] (fun k wr => ∃ n : Nat, n ≤ u.length ∧ k = .int .i64 n ∧ Keep [] w wr) (fun k _ => u.length - (intOf k).toNat)
  case atStart => exact ⟨0, Nat.zero_le _, rfl, Keep.refl _ _⟩
  case round =>
    obtain ⟨n, hn, rfl, hkeep⟩ := hrel
    by_cases hlt : n < u.length
    · obtain ⟨b, o, av, pv, rfl, hGb, c0, c1, -, -⟩ := (hu.keepF (hG.same hkeep) (fun _ h => h)).elem hlt
      have hx := h2 _ (List.getElem_mem hlt)
      have F3 := fun W k => fits3_any (k := k) (av := av) (pv := pv) (w := W) hx
      have hbw : b < wr.heap.size := hG.keep hkeep b hGb
      go_wp2_with (go_at_call 123; refine (F3 _ _).mono ?_; rintro e w1 ⟨rfl, k1⟩)
      go_roundw
      case rel => exact ⟨n + 1, by omega, by go_num, hkeep.trans ((keep_box _).trans k1)⟩
      case measure => simp [intOf]; omega
    · go_wp2
      go_ret
      exact ⟨rfl, hkeep⟩
/-- nothing in the tree's own row is too long -/
structure T.Fits (t : T) : Prop where
  s : t.s.length ≤ 2147483647
  l : t.l.length ≤ 2147483647
  u : t.u.length ≤ 2147483647
  v : ∀ x ∈ t.u, x.2.length ≤ 2147483647
theorem fits1_any {G : Nat → Prop} {t : T} {c : List Value} {w : World} (ht : HT w G t c) (hG : There G w) (hf : t.Fits) :
    Calls Tryz.prog 15 #[.agg c.toArray] w fun e w' => e = .returned (.bool true) ∧ Keep [] w w' := by
  obtain ⟨az, ps, al, pl, au, pu, rfl, hs, hl, hu, hn1, hn2, hn3, hn4⟩ := ht.cells
  obtain ⟨f1, f2, f3, f4⟩ := hf
  have F2 := fun W (hW : Keep [] w W) => fits2_any (hu.keepF (hG.same hW) (fun _ h => h)) (hG.keep hW) f3 f4
  clear ht hs hl hu
  go_enter Tryz.func15, Tryz.ntmps15
  go_wp2_with (go_at_call 55; refine (F2 _ (keep_box _)).mono ?_; rintro e w1 ⟨rfl, k1⟩)
  go_ret
  exact ⟨rfl, (keep_box _).trans k1⟩
/-! of any value: they answer, and leave all alone -/
theorem fits3_some {k : Int} {av : Option Addr} {n pv : Nat} {w : World} :
    Calls Tryz.prog 123 #[.agg #[.int .u32 k, .slice av n pv]] w fun e w' => ∃ x, e = .returned (.bool x) ∧ Keep [] w w' := by
  by_cases hn : n ≤ 2147483647
  · exact (fits3_any hn).mono fun e w' h => ⟨true, h⟩
  go_enter Tryz.func123, Tryz.ntmps123
  go_wp2
  go_ret
  exact ⟨false, rfl, (Keep.refl _ _).alloc _⟩
set_option maxHeartbeats 400000 in
theorem fits2_some {G : Nat → Prop} {v : Value} {u : List Tg} {w : World} (hu : HGs w G v u) (hG : There G w) :
    Calls Tryz.prog 55 #[v] w fun e w' => ∃ x, e = .returned (.bool x) ∧ Keep [] w w' := by
  obtain ⟨au, pu, rfl⟩ := hu.shape
  go_enter Tryz.func55, Tryz.ntmps55
  by_cases h1 : u.length ≤ 2147483647
  · go_wp2_with fail
    go_loopw [10] (fun k wr => ∃ n : Nat, n ≤ u.length ∧ k = .int .i64 n ∧ Keep [] w wr) (fun k _ => u.length - (intOf k).toNat)
    case atStart => exact ⟨0, Nat.zero_le _, rfl, Keep.refl _ _⟩
    case round =>
      obtain ⟨n, hn, rfl, hkeep⟩ := hrel
      by_cases hlt : n < u.length
      · obtain ⟨b, o, av, pv, rfl, hGb, c0, c1, -, -⟩ := (hu.keepF (hG.same hkeep) (fun _ h => h)).elem hlt
        have F3 := fun W k n => fits3_some (k := k) (av := av) (n := n) (pv := pv) (w := W)
        have hbw : b < wr.heap.size := hG.keep hkeep b hGb
        go_wp2_with (go_at_call 123; refine (F3 _ _ _).mono ?_; rintro e w1 ⟨x, rfl, k1⟩; cases x)
        · go_ret
          exact ⟨false, rfl, hkeep.trans ((keep_box _).trans k1)⟩
        · go_roundw
          case rel => exact ⟨n + 1, by omega, by go_num, hkeep.trans ((keep_box _).trans k1)⟩
          case measure => simp [intOf]; omega
      · go_wp2
        go_ret
        exact ⟨true, rfl, hkeep⟩
  · go_wp2_with fail
    go_ret
    exact ⟨false, rfl, Keep.refl _ _⟩
theorem fits1_some {G : Nat → Prop} {t : T} {c : List Value} {w : World} (ht : HT w G t c) (hG : There G w) :
    Calls Tryz.prog 15 #[.agg c.toArray] w fun e w' => ∃ x, e = .returned (.bool x) ∧ Keep [] w w' := by
  obtain ⟨az, ps, al, pl, au, pu, rfl, hs, hl, hu, hn1, hn2, hn3, hn4⟩ := ht.cells
  have F2 := fun W (hW : Keep [] w W) => fits2_some (hu.keepF (hG.same hW) (fun _ h => h)) (hG.keep hW)
  clear ht hs hl hu
  go_enter Tryz.func15, Tryz.ntmps15
  by_cases f1 : t.s.length ≤ 2147483647
  · by_cases f2 : t.l.length ≤ 2147483647
    · go_wp2_with (go_at_call 55; refine (F2 _ (keep_box _)).mono ?_; rintro e w1 ⟨x, rfl, k1⟩; cases x)
      · go_ret
        exact ⟨false, rfl, (keep_box _).trans k1⟩
      · go_ret
        exact ⟨true, rfl, (keep_box _).trans k1⟩
    · go_wp2_with fail
      go_ret
      exact ⟨false, rfl, keep_box _⟩
  · go_wp2_with fail
    go_ret
    exact ⟨false, rfl, keep_box _⟩
end Go.Proofs.YtobbchmjgoaleaaGreatDoor
/-
  laws.version.
-/
namespace Go.Proofs.YtobbchmjgoaleaaGreatDoor
open Go.ChangeShapes Go.WideShapes Go.ChangeAt Go.RowKit

theorem version_any {n m : Int} (hn : 0 ≤ n ∧ n ≤ 255) (hm : 0 ≤ m ∧ m ≤ 1000) (w : World) : Calls Tryz.prog 18 #[.int .u8 n, .int .i64 m] w fun e w' => e = .returned (.int .i64 (n % (m + 1))) ∧ w = w' := by
  have h1 : n.tmod (m + 1) = n % (m + 1) := Int.tmod_eq_emod_of_nonneg hn.1
  have h2 : 0 ≤ n % (m + 1) := Int.emod_nonneg _ (by omega)
  have h3 : n % (m + 1) < m + 1 := Int.emod_lt_of_pos _ (by omega)
  go_enter Tryz.func18, Tryz.ntmps18
  go_wp2
  go_ret
  exact ⟨by first | (rw [← h1]; rfl) | (simp [h1]), rfl⟩
end Go.Proofs.YtobbchmjgoaleaaGreatDoor
/-
  Inserting by rising numbers, in plain Lean; a row of tags of the call's own.
-/
namespace Go.Proofs.YtobbchmjgoaleaaGreatDoor
open Go.RowKit

section
variable {α β : Type}
def spotG (out : List (Nat × α)) (k : Nat) : Nat := (out.takeWhile fun x => x.1 < k).length
def insG (out : List (Nat × α)) (t : Nat × α) : List (Nat × α) := if out[spotG out t.1]?.any (·.1 == t.1) then out else out.take (spotG out t.1) ++ t :: out.drop (spotG out t.1)
theorem spotG_map (f : Nat × α → Tg) (hf : ∀ x, (f x).1 = x.1) (out : List (Nat × α)) (k : Nat) : spot (out.map f) k = spotG out k := by
  unfold spot spotG
  rw [List.takeWhile_map, List.length_map]
  congr 1
  congr 1
  funext x
  simp [hf]
theorem insG_map (f : Nat × α → Tg) (hf : ∀ x, (f x).1 = x.1) (out : List (Nat × α)) (t : Nat × α) : (insG out t).map f = ins (out.map f) (f t) := by
  unfold insG ins
  rw [hf, spotG_map f hf]
  have e : ((out.map f)[spotG out t.1]?.any fun x => x.1 == t.1) = (out[spotG out t.1]?.any fun x => x.1 == t.1) := by
    rw [List.getElem?_map]
    cases out[spotG out t.1]? with
    | none => rfl
    | some x => simp [hf]
  rw [e]
  split
  · rfl
  · simp
theorem spotG_le (out : List (Nat × α)) (k : Nat) : spotG out k ≤ out.length := (List.takeWhile_prefix _).length_le
theorem spotG_lt : ∀ (out : List (Nat × α)) (k j : Nat) (_ : j < spotG out k) (h : j < out.length), out[j].1 < k
  | [], _, _, _, h => by simp at h
  | x :: r, k, j, hj, h => by
    unfold spotG at hj
    rw [List.takeWhile_cons] at hj
    split at hj
    · rename_i hx
      cases j with
      | zero => simpa using hx
      | succ j => exact spotG_lt r k j (by simpa [spotG] using hj) (by simpa using h)
    · simp at hj
theorem spotG_ge : ∀ (out : List (Nat × α)) (k : Nat) (h : spotG out k < out.length), ¬ out[spotG out k].1 < k
  | [], _, h => by simp at h
  | x :: r, k, h => by
    by_cases hx : x.1 < k
    · have e : spotG (x :: r) k = spotG r k + 1 := by simp [spotG, hx]
      have h2 := spotG_ge r k (by simp [e] at h; exact h)
      simp only [e, List.getElem_cons_succ]
      exact h2
    · have e : spotG (x :: r) k = 0 := by simp [spotG, hx]
      simp only [e, List.getElem_cons_zero]
      exact hx
end
/-- the cells of tags -/
def cellsL (L : List (Nat × (Value × Bs))) : List Value := L.flatMap fun x => [.int .u32 (x.1 : Int), x.2.1]
theorem cellsL_len (L : List (Nat × (Value × Bs))) : (cellsL L).length = L.length * 2 := by
  induction L with
  | nil => rfl
  | cons x r ih => simp [cellsL] at ih ⊢; omega
theorem cellsL_app (A B : List (Nat × (Value × Bs))) : cellsL (A ++ B) = cellsL A ++ cellsL B := by simp [cellsL]
theorem cellsL_mid (A B : List (Nat × (Value × Bs))) (y : Nat × (Value × Bs)) (j : Nat) (hj : j = A.length) : (cellsL (A ++ y :: B))[j * 2]? = some (.int .u32 (y.1 : Int)) ∧ (cellsL (A ++ y :: B))[j * 2 + 1]? = some y.2.1 := by
  have hl := cellsL_len A
  subst hj
  rw [cellsL_app]
  constructor
  · rw [List.getElem?_append_right (by omega), hl]
    simp [cellsL]
  · rw [List.getElem?_append_right (by omega), hl]
    simp [cellsL]
theorem cellsL_get (L : List (Nat × (Value × Bs))) (j : Nat) (h : j < L.length) : (cellsL L)[j * 2]? = some (.int .u32 (L[j].1 : Int)) ∧ (cellsL L)[j * 2 + 1]? = some L[j].2.1 := by
  have e : L.take j ++ L[j] :: L.drop (j + 1) = L := by rw [← List.drop_eq_getElem_cons h, List.take_append_drop]
  have q := cellsL_mid (L.take j) (L.drop (j + 1)) L[j] j (by simp; omega)
  rw [e] at q
  exact q
/-- what a slice of the call's own reads at a cell -/
theorem own_at {w : World} {B E g m cap : Nat} {xs : List Value} (h : w.ownsRow B E 2 (.slice (some ⟨g, 0, none⟩) m cap) m xs) {i : Nat} {v : Value} (hv : xs[i]? = some v) : w.cell? ⟨g, i, none⟩ = some v ∧ w.frozen? ⟨g, i, none⟩ = false ∧ g < w.heap.size := by
  obtain ⟨h0, ⟨e, _⟩ | ⟨g', cap', cur, e, hb, hg, hn, hm, hz, ht⟩⟩ := h
  · cases e
  · cases e
    have hi := (List.getElem?_eq_some_iff.1 hv).1
    refine ⟨cellOf hg i _ ?_, freeOf hg i, (Array.getElem?_eq_some_iff.1 hg).1⟩
    rw [← Array.getElem?_toList, ← hv, ← ht, List.getElem?_take, if_pos (by omega)]
/-- a store of a tag -/
theorem own_put {w : World} {B E g m cap j : Nat} {xs : List Value} (h : w.ownsRow B E 2 (.slice (some ⟨g, 0, none⟩) m cap) m xs) (a b : Value) :
    ((w.setCell ⟨g, j * 2, none⟩ a).setCell ⟨g, j * 2 + 1, none⟩ b).ownsRow B E 2 (.slice (some ⟨g, 0, none⟩) m cap) m ((xs.set (j * 2) a).set (j * 2 + 1) b) := by
  obtain ⟨h0, ⟨e, _⟩ | ⟨g', cap', cur, e, hb, hg, hn, hm, hz, ht⟩⟩ := h
  · cases e
  · cases e
    refine ⟨by simp [h0], .inr ⟨g, cap, _, rfl, hb, heap_set (heap_set hg a) b, hn, hm, by simpa using hz, ?_⟩⟩
    simp only [Array.toList_setIfInBounds, List.take_set, ht]
theorem cellsL_put (A B : List (Nat × (Value × Bs))) (y x : Nat × (Value × Bs)) (j : Nat) (hj : j = A.length) : ((cellsL (A ++ y :: B)).set (j * 2) (.int .u32 (x.1 : Int))).set (j * 2 + 1) x.2.1 = cellsL (A ++ x :: B) := by
  have hl := cellsL_len A
  subst hj
  rw [cellsL_app, cellsL_app, List.set_append_right _ _ (by omega), List.set_append_right _ _ (by omega), hl]
  simp [cellsL]
theorem shift_put {L : List (Nat × (Value × Bs))} {k : Nat} (hk : 0 < k) (hkl : k ≤ L.length) (y : Nat × (Value × Bs)) :
    ((cellsL (L.take k ++ y :: L.drop k)).set (k * 2) (.int .u32 ((L[k - 1]'(by omega)).1 : Int))).set (k * 2 + 1) (L[k - 1]'(by omega)).2.1 = cellsL (L.take (k - 1) ++ (L[k - 1]'(by omega)) :: L.drop (k - 1)) := by
  rw [cellsL_put _ _ _ _ k (by simp; omega)]
  have e1 : L.take k = L.take (k - 1) ++ [L[k - 1]'(by omega)] := by
    have := List.take_succ_eq_append_getElem (l := L) (i := k - 1) (by omega)
    rwa [show k - 1 + 1 = k by omega] at this
  have e2 : L.drop (k - 1) = (L[k - 1]'(by omega)) :: L.drop k := by
    have := List.drop_eq_getElem_cons (l := L) (i := k - 1) (by omega)
    rwa [show k - 1 + 1 = k by omega] at this
  generalize L[k - 1]'(by omega) = z at *
  rw [e2, e1]
  simp
end Go.Proofs.YtobbchmjgoaleaaGreatDoor
/-
  spec.known and spec.unknown, of fields without tags.
-/
namespace Go.Proofs.YtobbchmjgoaleaaGreatDoor
open Go.ChangeShapes Go.WideShapes Go.ChangeAt Go.RowKit

def noTags : List F → Bool
  | [] => true
  | f :: r => decide (f.tag < 0) && noTags r
theorem noTags_at : ∀ {fs : List F}, noTags fs = true → ∀ n (h : n < fs.length), fs[n].tag < 0
  | [], _, n, h => by simp at h
  | f :: r, h, 0, _ => by
    simp only [noTags, Bool.and_eq_true, decide_eq_true_eq] at h
    exact h.1
  | f :: r, h, n + 1, hn => by
    simp only [noTags, Bool.and_eq_true] at h
    exact noTags_at h.2 n (by simpa using hn)
set_option maxHeartbeats 400000 in
set_option maxRecDepth 100000 in
theorem known_any {G : Nat → Prop} {fs : List F} {vs : Value} {w : World} (hF : HFs w G vs fs) (hG : There G w) (hn : noTags fs = true) :
    Calls Tryz.prog 128 #[vs] w fun e w' => e = .returned (.int .u32 0) ∧ Keep [] w w' := by
  have hFb := hF.bd
  obtain ⟨aF, pF, rfl, hpF⟩ := hF.shape
  have HN : Hid _ := hn
  clear hn
  go_enter Tryz.func128, Tryz.ntmps128
  go_wp2_with fail
  go_loopw [8, 3] (fun k z wr => ∃ n : Nat, n ≤ fs.length ∧ k = .int .i64 n ∧ z = .int .u32 0 ∧ Keep [] w wr) (fun k _ _ => fs.length - (intOf k).toNat)
  case atStart => exact ⟨0, Nat.zero_le _, rfl, rfl, Keep.refl _ _⟩
  case round =>
    obtain ⟨n, hn, rfl, rfl, hk⟩ := hrel
    by_cases hlt : n < fs.length
    · obtain ⟨b, o, cp, cf, e, hcp, hGb, hc, hcell⟩ := (hF.keepF (hG.same hk) (fun _ h => h)).elem hlt
      cases e
      obtain ⟨aS, pS, rfl, hsub⟩ := hc.cells
      have c0 : wr.cell? ⟨b, o + n * 8, none⟩ = some _ := hcell 0 (by simp)
      have c1 : wr.cell? ⟨b, o + n * 8 + 1, none⟩ = some _ := hcell 1 (by simp)
      have c2 : wr.cell? ⟨b, o + n * 8 + 2, none⟩ = some _ := hcell 2 (by simp)
      have c3 : wr.cell? ⟨b, o + n * 8 + 3, none⟩ = some _ := hcell 3 (by simp)
      have c4 : wr.cell? ⟨b, o + n * 8 + 4, none⟩ = some _ := hcell 4 (by simp)
      have c5 : wr.cell? ⟨b, o + n * 8 + 5, none⟩ = some _ := hcell 5 (by simp)
      have c6 : wr.cell? ⟨b, o + n * 8 + 6, none⟩ = some _ := hcell 6 (by simp)
      have c7 : wr.cell? ⟨b, o + n * 8 + 7, none⟩ = some _ := hcell 7 (by simp)
      simp only [List.getElem_cons_zero, List.getElem_cons_succ] at c0 c1 c2 c3 c4 c5 c6 c7
      have ht := noTags_at HN.out n hlt
      clear hcell
      generalize fs[n] = f at *
      go_wp2_with fail
      go_roundw
      case rel => exact ⟨n + 1, by omega, by go_num, rfl, hk.trans (keep_box _)⟩
      case measure => simp [intOf]; omega
    · go_wp2
      go_ret
      exact ⟨rfl, hk⟩
theorem unknown_succ (l : List Tg) (n : Nat) (h : n < l.length) (h2 : n < 32767) : unknownFrom 0 (l.take (n + 1)) = ins (unknownFrom 0 (l.take n)) l[n] := by
  unfold unknownFrom
  rw [List.take_take, List.take_take, Nat.min_eq_right (by omega), Nat.min_eq_right (by omega), List.take_succ_eq_append_getElem h, List.foldl_append]
  simp
theorem unknown_all (l : List Tg) : unknownFrom 0 (l.take (min l.length 32767)) = unknownFrom 0 l := by
  unfold unknownFrom
  congr 1
  rw [List.take_take]
  rcases Nat.le_total l.length 32767 with h | h
  · rw [Nat.min_eq_left h, Nat.min_eq_right h, List.take_of_length_le (Nat.le_refl _), List.take_of_length_le h]
  · rw [Nat.min_eq_right h, Nat.min_self]
/-- how far the unknown tags have been gathered -/
structure UnkSt (w wr : World) (G : Nat → Prop) (u : List Tg) (n : Nat) (o : Value) (L : List (Nat × (Value × Bs))) : Prop where
  row : wr.ownsRow w.heap.size 77 2 o L.length (cellsL L)
  eq : L.map (fun x => (x.1, x.2.2)) = unknownFrom 0 (u.take n)
  oct : ∀ x ∈ L, RB w G x.2.1 x.2.2 ∧ x.1 < 4294967296 ∧ x.2.2.length ≤ 9223372036854775807
  keep : Keep [] w wr
  len : L.length ≤ n
theorem UnkSt.len' {w wr : World} {G : Nat → Prop} {u : List Tg} {n : Nat} {o : Value} {L : List (Nat × (Value × Bs))} (h : UnkSt w wr G u n o L) : ∃ ao cap, o = .slice ao L.length cap := by
  obtain ⟨_, ⟨rfl, h2⟩ | ⟨g, cap, cur, rfl, _⟩⟩ := h.row
  · exact ⟨none, 0, by rw [h2]⟩
  · exact ⟨_, _, rfl⟩
theorem UnkSt.calm {w wr wx : World} {G : Nat → Prop} {u : List Tg} {n : Nat} {o : Value} {L : List (Nat × (Value × Bs))} (h : UnkSt w wr G u n o L) (k : Keep [] wr wx) : UnkSt w wx G u n o L := by
  refine ⟨?_, h.eq, h.oct, h.keep.trans k, h.len⟩
  obtain ⟨h1, h2 | ⟨g, cap, cur, e, hb, hg, r⟩⟩ := h.row
  · exact ⟨h1, .inl h2⟩
  · exact ⟨h1, .inr ⟨g, cap, cur, e, hb, by rw [k.block g (Array.getElem?_eq_some_iff.1 hg).1 (by simp)]; exact hg, r⟩⟩
theorem UnkSt.at_ {w wr : World} {G : Nat → Prop} {u : List Tg} {n : Nat} {ao : Option Addr} {m cap : Nat} {L : List (Nat × (Value × Bs))} (h : UnkSt w wr G u n (.slice ao m cap) L) {j : Nat} (hj : j < L.length) :
    ∃ g, ao = some ⟨g, 0, none⟩ ∧ wr.cell? ⟨g, j * 2, none⟩ = some (.int .u32 (L[j].1 : Int)) ∧ wr.cell? ⟨g, j * 2 + 1, none⟩ = some L[j].2.1 := by
  have hr := h.row
  obtain ⟨h0, ⟨e, h2⟩ | ⟨g, cap', cur, e, hb, hg, hn, hm, hz, ht⟩⟩ := h.row
  · omega
  · cases e
    obtain ⟨c1, c2⟩ := cellsL_get L j hj
    exact ⟨g, rfl, (own_at hr c1).1, (own_at hr c2).1⟩
theorem UnkSt.skip {w wr : World} {G : Nat → Prop} {u : List Tg} {n : Nat} {o : Value} {L : List (Nat × (Value × Bs))} (h : UnkSt w wr G u n o L) (hn : n < u.length) (hn2 : n < 32767) (hs : L[spotG L u[n].1]?.any (·.1 == u[n].1) = true) : UnkSt w wr G u (n + 1) o L := by
  refine ⟨h.row, ?_, h.oct, h.keep, by have := h.len; omega⟩
  rw [unknown_succ u n hn hn2, ← h.eq]
  unfold ins
  rw [spotG_map (fun x : Nat × (Value × Bs) => (x.1, x.2.2)) (fun _ => rfl)]
  rw [if_pos]
  rw [List.getElem?_map]
  cases e : L[spotG L u[n].1]? with
  | none => rw [e] at hs; simp at hs
  | some x => rw [e] at hs; simpa using hs
theorem UnkSt.took {w wr : World} {G : Nat → Prop} {u : List Tg} {n : Nat} {g m cap : Nat} {L : List (Nat × (Value × Bs))} {x : Value} (hn : n < u.length) (hn2 : n < 32767) (heq : L.map (fun x => (x.1, x.2.2)) = unknownFrom 0 (u.take n)) (hoct : ∀ x ∈ L, RB w G x.2.1 x.2.2 ∧ x.1 < 4294967296 ∧ x.2.2.length ≤ 9223372036854775807) (hl : L.length ≤ n) (hm : m = L.length + 1)
    (hs : ¬ L[spotG L u[n].1]?.any (·.1 == u[n].1) = true) (hx : RB w G x u[n].2) (hx1 : u[n].1 < 4294967296 ∧ u[n].2.length ≤ 9223372036854775807) (hk : Keep [] w wr)
    (hrow : wr.ownsRow w.heap.size 77 2 (.slice (some ⟨g, 0, none⟩) m cap) m (cellsL (L.take (spotG L u[n].1) ++ (u[n].1, (x, u[n].2)) :: L.drop (spotG L u[n].1)))) :
    UnkSt w wr G u (n + 1) (.slice (some ⟨g, 0, none⟩) m cap) (L.take (spotG L u[n].1) ++ (u[n].1, (x, u[n].2)) :: L.drop (spotG L u[n].1)) := by
  have hle := spotG_le L u[n].1
  have e1 : (L.take (spotG L u[n].1) ++ (u[n].1, (x, u[n].2)) :: L.drop (spotG L u[n].1)).length = m := by simp; omega
  refine ⟨by rw [e1]; exact hrow, ?_, fun y hy => ?_, hk, by omega⟩
  · rw [unknown_succ u n hn hn2, ← heq, show u[n] = (u[n].1, u[n].2) from rfl]
    have := insG_map (fun x : Nat × (Value × Bs) => (x.1, x.2.2)) (fun _ => rfl) L (u[n].1, (x, u[n].2))
    rw [← this]
    unfold insG
    rw [if_neg hs]
  · rcases List.mem_append.1 hy with h | h
    · exact hoct y (List.mem_of_mem_take h)
    · rcases List.mem_cons.1 h with rfl | h
      · exact ⟨hx, hx1⟩
      · exact hoct y (List.mem_of_mem_drop h)
theorem UnkSt.done {w wr : World} {G : Nat → Prop} {u : List Tg} {n : Nat} {o : Value} {L : List (Nat × (Value × Bs))} (h : UnkSt w wr G u n o L) (hG : There G w) (hn : n = min u.length 32767) : HGs wr (fun k => G k ∨ (w.heap.size ≤ k ∧ k < wr.heap.size)) o (unknownFrom 0 u) := by
  have e : unknownFrom 0 u = L.map (fun x => (x.1, x.2.2)) := by rw [h.eq, hn, unknown_all]
  rw [e]
  refine ⟨L.map (·.2.1), by simp, fun i h1 h2 => ?_, fun x hx => ?_, by have := h.len; simp; omega, ?_⟩
  · simp only [List.getElem_map]
    have hi : i < L.length := by simpa using h1
    exact (h.oct L[i] (List.getElem_mem hi)).1.keepF (hG.same h.keep) (fun _ hk => .inl hk)
  · obtain ⟨y, hy, rfl⟩ := List.mem_map.1 hx
    exact (h.oct y hy).2
  · have hr := (ownsRow_rs h.row).mono (G := fun k => G k ∨ (w.heap.size ≤ k ∧ k < wr.heap.size)) (fun k hk => .inr hk)
    rw [List.length_map]
    have e2 : ((L.map fun x => (x.1, x.2.2)).zip (L.map (·.2.1))).map (fun x => [Value.int .u32 (x.1.1 : Int), x.2]) = L.map fun x => [.int .u32 (x.1 : Int), x.2.1] := by
      rw [List.zip_map', List.map_map]
      rfl
    rw [e2]
    rw [← List.flatMap_def]
    exact hr
end Go.Proofs.YtobbchmjgoaleaaGreatDoor
