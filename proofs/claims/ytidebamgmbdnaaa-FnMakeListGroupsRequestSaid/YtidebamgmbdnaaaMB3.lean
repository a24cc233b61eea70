/-
  spec.known and spec.unknown, of fields without tags.
-/
import Derived.Test.YtidebamgmbdnaaaMB2
import Derived.Deep.CutBlock
import Derived.Deep.DeepCutAuto
import Derived.Deep.RegionHeld3
namespace Go.Proofs.Ytidebamgmbdnaaa
open Go.ChangeShapes Go.WideShapes Go.ChangeAt Go.RowKit

def noTags : List F → Bool
  | [] => true
  | f :: r => decide (f.tag < 0) && noTags r
theorem noTags_at : ∀ {fs : List F}, noTags fs = true → ∀ n (h : n < fs.length), fs[n].tag < 0
  | [], _, n, h => by simp at h
  | f :: r, h, 0, _ => by
    simp only [noTags, Bool.and_eq_true, decide_eq_true_eq] at h
    exact h.1
  | f :: r, h, n + 1, hn => by
    simp only [noTags, Bool.and_eq_true] at h
    exact noTags_at h.2 n (by simpa using hn)
set_option maxHeartbeats 400000 in
set_option maxRecDepth 100000 in
theorem known_any {G : Nat → Prop} {fs : List F} {vs : Value} {w : World} (hF : HFs w G vs fs) (hG : There G w) (hn : noTags fs = true) :
    Calls Try.prog 73 #[vs] w fun e w' => e = .returned (.int .u32 0) ∧ Keep [] w w' := by
  have hFb := hF.bd
  obtain ⟨aF, pF, rfl, hpF⟩ := hF.shape
  have HN : Hid _ := hn
  clear hn
  go_enter Try.func73, Try.ntmps73
  go_wp2_with fail
  go_loopw [8, 3] (fun k z wr => ∃ n : Nat, n ≤ fs.length ∧ k = .int .i64 n ∧ z = .int .u32 0 ∧ Keep [] w wr) (fun k _ _ => fs.length - (intOf k).toNat)
  case atStart => exact ⟨0, Nat.zero_le _, rfl, rfl, Keep.refl _ _⟩
  case round =>
    obtain ⟨n, hn, rfl, rfl, hk⟩ := hrel
    by_cases hlt : n < fs.length
    · obtain ⟨b, o, cp, cf, e, hcp, hGb, hc, hcell⟩ := (hF.keepF (hG.same hk) (fun _ h => h)).elem hlt
      cases e
      obtain ⟨aS, pS, rfl, hsub⟩ := hc.cells
      have c0 : wr.cell? ⟨b, o + n * 8, none⟩ = some _ := hcell 0 (by simp)
      have c1 : wr.cell? ⟨b, o + n * 8 + 1, none⟩ = some _ := hcell 1 (by simp)
      have c2 : wr.cell? ⟨b, o + n * 8 + 2, none⟩ = some _ := hcell 2 (by simp)
      have c3 : wr.cell? ⟨b, o + n * 8 + 3, none⟩ = some _ := hcell 3 (by simp)
      have c4 : wr.cell? ⟨b, o + n * 8 + 4, none⟩ = some _ := hcell 4 (by simp)
      have c5 : wr.cell? ⟨b, o + n * 8 + 5, none⟩ = some _ := hcell 5 (by simp)
      have c6 : wr.cell? ⟨b, o + n * 8 + 6, none⟩ = some _ := hcell 6 (by simp)
      have c7 : wr.cell? ⟨b, o + n * 8 + 7, none⟩ = some _ := hcell 7 (by simp)
      simp only [List.getElem_cons_zero, List.getElem_cons_succ] at c0 c1 c2 c3 c4 c5 c6 c7
      have ht := noTags_at HN.out n hlt
      clear hcell
      generalize fs[n] = f at *
      go_wp2_with fail
      go_roundw
      case rel => exact ⟨n + 1, by omega, by go_num, rfl, hk.trans (keep_box _)⟩
      case measure => simp [intOf]; omega
    · go_wp2
      go_ret
      exact ⟨rfl, hk⟩
theorem unknown_succ (l : List Tg) (n : Nat) (h : n < l.length) (h2 : n < 32767) : unknownFrom 0 (l.take (n + 1)) = ins (unknownFrom 0 (l.take n)) l[n] := by
  unfold unknownFrom
  rw [List.take_take, List.take_take, Nat.min_eq_right (by omega), Nat.min_eq_right (by omega), List.take_succ_eq_append_getElem h, List.foldl_append]
  simp
theorem unknown_all (l : List Tg) : unknownFrom 0 (l.take (min l.length 32767)) = unknownFrom 0 l := by
  unfold unknownFrom
  congr 1
  rw [List.take_take]
  rcases Nat.le_total l.length 32767 with h | h
  · rw [Nat.min_eq_left h, Nat.min_eq_right h, List.take_of_length_le (Nat.le_refl _), List.take_of_length_le h]
  · rw [Nat.min_eq_right h, Nat.min_self]
/-- how far the unknown tags have been gathered -/
structure UnkSt (w wr : World) (G : Nat → Prop) (u : List Tg) (n : Nat) (o : Value) (L : List (Nat × (Value × Bs))) : Prop where
  row : wr.ownsRow w.heap.size 61 2 o L.length (cellsL L)
  eq : L.map (fun x => (x.1, x.2.2)) = unknownFrom 0 (u.take n)
  oct : ∀ x ∈ L, RB w G x.2.1 x.2.2 ∧ x.1 < 4294967296 ∧ x.2.2.length ≤ 9223372036854775807
  keep : Keep [] w wr
  len : L.length ≤ n
theorem UnkSt.len' {w wr : World} {G : Nat → Prop} {u : List Tg} {n : Nat} {o : Value} {L : List (Nat × (Value × Bs))} (h : UnkSt w wr G u n o L) : ∃ ao cap, o = .slice ao L.length cap := by
  obtain ⟨_, ⟨rfl, h2⟩ | ⟨g, cap, cur, rfl, _⟩⟩ := h.row
  · exact ⟨none, 0, by rw [h2]⟩
  · exact ⟨_, _, rfl⟩
theorem UnkSt.calm {w wr wx : World} {G : Nat → Prop} {u : List Tg} {n : Nat} {o : Value} {L : List (Nat × (Value × Bs))} (h : UnkSt w wr G u n o L) (k : Keep [] wr wx) : UnkSt w wx G u n o L := by
  refine ⟨?_, h.eq, h.oct, h.keep.trans k, h.len⟩
  obtain ⟨h1, h2 | ⟨g, cap, cur, e, hb, hg, r⟩⟩ := h.row
  · exact ⟨h1, .inl h2⟩
  · exact ⟨h1, .inr ⟨g, cap, cur, e, hb, by rw [k.block g (Array.getElem?_eq_some_iff.1 hg).1 (by simp)]; exact hg, r⟩⟩
theorem UnkSt.at_ {w wr : World} {G : Nat → Prop} {u : List Tg} {n : Nat} {ao : Option Addr} {m cap : Nat} {L : List (Nat × (Value × Bs))} (h : UnkSt w wr G u n (.slice ao m cap) L) {j : Nat} (hj : j < L.length) :
    ∃ g, ao = some ⟨g, 0, none⟩ ∧ wr.cell? ⟨g, j * 2, none⟩ = some (.int .u32 (L[j].1 : Int)) ∧ wr.cell? ⟨g, j * 2 + 1, none⟩ = some L[j].2.1 := by
  have hr := h.row
  obtain ⟨h0, ⟨e, h2⟩ | ⟨g, cap', cur, e, hb, hg, hn, hm, hz, ht⟩⟩ := h.row
  · omega
  · cases e
    obtain ⟨c1, c2⟩ := cellsL_get L j hj
    exact ⟨g, rfl, (own_at hr c1).1, (own_at hr c2).1⟩
theorem UnkSt.skip {w wr : World} {G : Nat → Prop} {u : List Tg} {n : Nat} {o : Value} {L : List (Nat × (Value × Bs))} (h : UnkSt w wr G u n o L) (hn : n < u.length) (hn2 : n < 32767) (hs : L[spotG L u[n].1]?.any (·.1 == u[n].1) = true) : UnkSt w wr G u (n + 1) o L := by
  refine ⟨h.row, ?_, h.oct, h.keep, by have := h.len; omega⟩
  rw [unknown_succ u n hn hn2, ← h.eq]
  unfold ins
  rw [spotG_map (fun x : Nat × (Value × Bs) => (x.1, x.2.2)) (fun _ => rfl)]
  rw [if_pos]
  rw [List.getElem?_map]
  cases e : L[spotG L u[n].1]? with
  | none => rw [e] at hs; simp at hs
  | some x => rw [e] at hs; simpa using hs
theorem UnkSt.took {w wr : World} {G : Nat → Prop} {u : List Tg} {n : Nat} {g m cap : Nat} {L : List (Nat × (Value × Bs))} {x : Value} (hn : n < u.length) (hn2 : n < 32767) (heq : L.map (fun x => (x.1, x.2.2)) = unknownFrom 0 (u.take n)) (hoct : ∀ x ∈ L, RB w G x.2.1 x.2.2 ∧ x.1 < 4294967296 ∧ x.2.2.length ≤ 9223372036854775807) (hl : L.length ≤ n) (hm : m = L.length + 1)
    (hs : ¬ L[spotG L u[n].1]?.any (·.1 == u[n].1) = true) (hx : RB w G x u[n].2) (hx1 : u[n].1 < 4294967296 ∧ u[n].2.length ≤ 9223372036854775807) (hk : Keep [] w wr)
    (hrow : wr.ownsRow w.heap.size 61 2 (.slice (some ⟨g, 0, none⟩) m cap) m (cellsL (L.take (spotG L u[n].1) ++ (u[n].1, (x, u[n].2)) :: L.drop (spotG L u[n].1)))) :
    UnkSt w wr G u (n + 1) (.slice (some ⟨g, 0, none⟩) m cap) (L.take (spotG L u[n].1) ++ (u[n].1, (x, u[n].2)) :: L.drop (spotG L u[n].1)) := by
  have hle := spotG_le L u[n].1
  have e1 : (L.take (spotG L u[n].1) ++ (u[n].1, (x, u[n].2)) :: L.drop (spotG L u[n].1)).length = m := by simp; omega
  refine ⟨by rw [e1]; exact hrow, ?_, fun y hy => ?_, hk, by omega⟩
  · rw [unknown_succ u n hn hn2, ← heq, show u[n] = (u[n].1, u[n].2) from rfl]
    have := insG_map (fun x : Nat × (Value × Bs) => (x.1, x.2.2)) (fun _ => rfl) L (u[n].1, (x, u[n].2))
    rw [← this]
    unfold insG
    rw [if_neg hs]
  · rcases List.mem_append.1 hy with h | h
    · exact hoct y (List.mem_of_mem_take h)
    · rcases List.mem_cons.1 h with rfl | h
      · exact ⟨hx, hx1⟩
      · exact hoct y (List.mem_of_mem_drop h)
theorem UnkSt.done {w wr : World} {G : Nat → Prop} {u : List Tg} {n : Nat} {o : Value} {L : List (Nat × (Value × Bs))} (h : UnkSt w wr G u n o L) (hG : There G w) (hn : n = min u.length 32767) : HGs wr (fun k => G k ∨ (w.heap.size ≤ k ∧ k < wr.heap.size)) o (unknownFrom 0 u) := by
  have e : unknownFrom 0 u = L.map (fun x => (x.1, x.2.2)) := by rw [h.eq, hn, unknown_all]
  rw [e]
  refine ⟨L.map (·.2.1), by simp, fun i h1 h2 => ?_, fun x hx => ?_, by have := h.len; simp; omega, ?_⟩
  · simp only [List.getElem_map]
    have hi : i < L.length := by simpa using h1
    exact (h.oct L[i] (List.getElem_mem hi)).1.keepF (hG.same h.keep) (fun _ hk => .inl hk)
  · obtain ⟨y, hy, rfl⟩ := List.mem_map.1 hx
    exact (h.oct y hy).2
  · have hr := (ownsRow_rs h.row).mono (G := fun k => G k ∨ (w.heap.size ≤ k ∧ k < wr.heap.size)) (fun k hk => .inr hk)
    rw [List.length_map]
    have e2 : ((L.map fun x => (x.1, x.2.2)).zip (L.map (·.2.1))).map (fun x => [Value.int .u32 (x.1.1 : Int), x.2]) = L.map fun x => [.int .u32 (x.1 : Int), x.2.1] := by
      rw [List.zip_map', List.map_map]
      rfl
    rw [e2]
    rw [← List.flatMap_def]
    exact hr
end Go.Proofs.Ytidebamgmbdnaaa
/-
  A LOAD MAY BE TAKEN FIRST although its cell is written within the region, if whoever writes it waits for the load: orders of a region, with one condition on the world that is asked only behind some of its operations.
-/
namespace Go.Proofs.Ytidebamgmbdnaaa
open Go.ChangeShapes Go.WideShapes Go.ChangeAt Go.RowKit

section
variable {P : Program} {ops : Array Oper} {Q : Exit → Act → World → Prop} {md : Region.Mode} {S : World → Prop} {dm : Nat → Bool}
/-- whatever order is picked, and S holds behind each operation that dm names -/
def anyD (P : Program) (md : Region.Mode) (ops : Array Oper) (Q : Exit → Act → World → Prop) (S : World → Prop) (dm : Nat → Bool) : Nat → Array Bool → Act → World → Prop
  | 0, listed, a, w => Region.ready md ops listed = [] ∧ Q .normal a w
  | fuel + 1, listed, a, w =>
    (Region.ready md ops listed = [] → Q .normal a w) ∧
    ∀ i ∈ Region.ready md ops listed, wpOp P ops Q i (fun a' w' => (dm i = true → S w') ∧ anyD P md ops Q S dm fuel (listed.setIfInBounds i true) a' w') a w
theorem any_of_D : ∀ (fuel : Nat) (listed : Array Bool) (a : Act) (w : World), anyD P md ops Q S dm fuel listed a w → wpAny P md ops Q fuel listed a w
  | 0, _, _, _, h => h
  | fuel + 1, _, _, _, h => ⟨h.1, fun i hi => wpOp_mono (fun a' w' h' => any_of_D fuel _ a' w' h'.2) (h.2 i hi)⟩
/-- does j wait for i, if only through others -/
def depB (md : Region.Mode) (ops : Array Oper) : Nat → Nat → Nat → Bool
  | 0, _, _ => false
  | n + 1, j, i => match ops[j]? with
    | some o => o.after.any fun e => Region.binds md e && (e.on == i || depB md ops n e.on i)
    | none => false
def Closed (md : Region.Mode) (ops : Array Oper) (listed : Array Bool) : Prop := ∀ j oj, ops[j]? = some oj → listed.getD j false = true → ∀ e ∈ oj.after, Region.binds md e = true → listed.getD e.on false = true
def closedB (md : Region.Mode) (ops : Array Oper) (listed : Array Bool) : Bool := (List.range ops.size).all fun j => !(listed.getD j false) || (match ops[j]? with | some o => o.after.all fun e => !Region.binds md e || listed.getD e.on false | none => true)
theorem closedB_spec {listed : Array Bool} (h : closedB md ops listed = true) : Closed md ops listed := fun j oj hj hl e he hb => by
  have hlt := (Array.getElem?_eq_some_iff.1 hj).1
  have h1 := List.all_eq_true.1 h j (List.mem_range.2 hlt)
  rw [hl, hj] at h1
  simp only [Bool.not_true, Bool.false_or] at h1
  have h2 := Array.all_eq_true'.1 h1 e he
  rw [hb] at h2
  simpa using h2
theorem dep_listed {listed : Array Bool} (hc : Closed md ops listed) : ∀ (n j i : Nat), depB md ops n j i = true → (∀ oj, ops[j]? = some oj → ∀ e ∈ oj.after, Region.binds md e = true → listed.getD e.on false = true) → listed.getD i false = true
  | 0, _, _, h, _ => by simp [depB] at h
  | n + 1, j, i, h, ha => by
    simp only [depB] at h
    cases ho : ops[j]? with
    | none => rw [ho] at h; simp at h
    | some o =>
      rw [ho] at h
      obtain ⟨e, he, h2⟩ := Array.any_eq_true'.1 h
      simp only [Bool.and_eq_true, Bool.or_eq_true, beq_iff_eq] at h2
      have hl := ha o ho e he h2.1
      rcases h2.2 with h3 | h3
      · rw [← h3]; exact hl
      · exact dep_listed hc n e.on i h3 (fun o' ho' => hc e.on o' ho' hl)
theorem getD_set_mono {l : Array Bool} {j k : Nat} (h : l.getD k false = true) : (l.setIfInBounds j true).getD k false = true := by
  by_cases hjk : j = k
  · subst hjk
    simp only [Array.getD_eq_getD_getElem?] at h ⊢
    rw [Array.getElem?_setIfInBounds_self]
    split
    · rfl
    · rename_i hn
      rw [Array.getElem?_eq_none (by omega)] at h
      exact h
  · simp only [Array.getD_eq_getD_getElem?] at h ⊢
    rw [Array.getElem?_setIfInBounds_ne hjk]
    exact h
theorem Closed.set {listed : Array Bool} (hc : Closed md ops listed) {j : Nat} (hj : ∀ oj, ops[j]? = some oj → ∀ e ∈ oj.after, Region.binds md e = true → listed.getD e.on false = true) : Closed md ops (listed.setIfInBounds j true) := fun k ok hk hl e he hb => by
  refine getD_set_mono ?_
  by_cases hjk : j = k
  · subst hjk; exact hj ok hk e he hb
  · refine hc k ok hk ?_ e he hb
    simp only [Array.getD_eq_getD_getElem?] at hl ⊢
    rw [Array.getElem?_setIfInBounds_ne hjk] at hl
    exact hl
/-- everyone whom dm does not name waits for number i -/
def waits (md : Region.Mode) (ops : Array Oper) (dm : Nat → Bool) (i : Nat) : Bool := (List.range ops.size).all fun j => dm j || depB md ops ops.size j i
theorem waits_spec {i : Nat} (h : waits md ops dm i = true) {j : Nat} {oj : Oper} (hj : ops[j]? = some oj) (hd : dm j = false) : depB md ops ops.size j i = true := by
  have hlt := (Array.getElem?_eq_some_iff.1 hj).1
  have h1 := List.all_eq_true.1 h j (List.mem_range.2 hlt)
  rw [hd] at h1
  simpa using h1
theorem anyD_first {i : Nat} {oi : Oper} {v : Value} (hi : ops[i]? = some oi) (hsel : ∀ (j : Nat) (o : Oper) cs b, ops[j]? = some o → o.op ≠ .select cs b)
    (hQ : ∀ c a w, Q (.panic c) (a.put oi.dst v) w → Q (.panic c) a w) (hd : ∀ j oj, ops[j]? = some oj → dm j = false → depB md ops ops.size j i = true) :
    ∀ (fuel : Nat) (listed : Array Bool) (a : Act) (w : World),
      (∀ j oj, ops[j]? = some oj → j ≠ i → listed.getD j true = false → (∀ e ∈ oj.after, Region.binds md e = true → e.on ≠ i) → oi.apart ops oj = true) →
      Closed md ops listed → i ∈ Region.ready md ops listed → YieldsIf P ops S oi v a → S w →
      anyD P md ops Q S dm fuel (listed.setIfInBounds i true) (a.put oi.dst v) w → anyD P md ops Q S dm (fuel + 1) listed a w := by
  intro fuel
  induction fuel with
  | zero =>
    intro listed a w _ _ hr hy hS H
    refine ⟨fun h => (by rw [h] at hr; cases hr), fun j hj => ?_⟩
    by_cases hji : j = i
    · subst hji; exact hy.wpOp hi hS ⟨fun _ => hS, H⟩
    · have := ready_mono hj hji
      rw [H.1] at this
      cases this
  | succ fuel ih =>
    intro listed a w hfree hcl hr hy hS H
    refine ⟨fun h => (by rw [h] at hr; cases hr), fun j hj => ?_⟩
    by_cases hji : j = i
    · subst hji; exact hy.wpOp hi hS ⟨fun _ => hS, H⟩
    · have h1 := H.2 j (ready_mono hj hji)
      obtain ⟨hjun, oj, hoj, hall⟩ := mem_ready.1 hj
      have hnot : ∀ e ∈ oj.after, Region.binds md e = true → e.on ≠ i := fun e he hb heq => by
        have h1 := hall e he hb
        have h0 := (mem_ready.1 hr).1
        rw [heq] at h1
        rcases Nat.lt_or_ge i listed.size with h' | h'
        · simp [h'] at h0 h1; rw [h0] at h1; cases h1
        · simp [Array.getElem?_eq_none h'] at h1
      have hdj : dm j = true := by
        cases hc : dm j with
        | true => rfl
        | false =>
          have hall' : ∀ o, ops[j]? = some o → ∀ e ∈ o.after, Region.binds md e = true → listed.getD e.on false = true := fun o ho e he hb => by
            rw [hoj] at ho
            cases ho
            exact hall e he hb
          have hi1 := dep_listed hcl _ _ _ (hd j oj hoj hc) hall'
          have hi0 := (mem_ready.1 hr).1
          simp only [Array.getD_eq_getD_getElem?] at hi0 hi1
          cases hl : listed[i]? with
          | none => rw [hl] at hi1; simp at hi1
          | some b => rw [hl] at hi0 hi1; simp at hi0 hi1; rw [hi0] at hi1; cases hi1
      have h2 := wpOp_putIf hoj (hfree j oj hoj hji hjun hnot) (fun cs b => hsel i oi cs b hi) (fun cs b => hsel j oj cs b hoj) hQ hy h1
      have hfree' : ∀ k ok, ops[k]? = some ok → k ≠ i → (listed.setIfInBounds j true).getD k true = false →
          (∀ e ∈ ok.after, Region.binds md e = true → e.on ≠ i) → oi.apart ops ok = true := fun k ok hk hki hun hno => by
        refine hfree k ok hk hki ?_ hno
        by_cases hjk : j = k
        · subst hjk; exact hjun
        · rw [getD_set_ne true hjk] at hun; exact hun
      refine wpOp_mono (fun a' w' h3 => ⟨h3.2.1, ih (listed.setIfInBounds j true) a' w' hfree' (hcl.set (fun o ho e he hb => by rw [hoj] at ho; cases ho; exact hall e he hb)) (ready_mono hr (Ne.symm hji)) h3.1 (h3.2.1 hdj) ?_⟩) h2
      rw [Array.setIfInBounds_comm _ _ hji]
      exact h3.2.2
theorem anyD_take {i : Nat} {oi : Oper} {v : Value} {fuel : Nat} {listed : Array Bool} {a : Act} {w : World} (hi : ops[i]? = some oi)
    (hs : Region.noSelect ops = true) (hf : Region.free md ops listed i = true) (hr : (Region.ready md ops listed).contains i = true) (hd : waits md ops dm i = true) (hc : closedB md ops listed = true)
    (hQ : ∀ c a w, Q (.panic c) (a.put oi.dst v) w → Q (.panic c) a w) (hy : YieldsIf P ops S oi v a) (hS : S w)
    (h : anyD P md ops Q S dm fuel (listed.setIfInBounds i true) (a.put oi.dst v) w) : anyD P md ops Q S dm (fuel + 1) listed a w :=
  anyD_first hi (Region.noSelect_spec hs) hQ (fun _ _ hj hc => waits_spec hd hj hc) fuel listed a w (Region.free_spec hi hf) (closedB_spec hc) (by simpa using hr) hy hS h
def AllD (P : Program) (md : Region.Mode) (ops : Array Oper) (Q : Exit → Act → World → Prop) (S : World → Prop) (dm : Nat → Bool) (fuel : Nat) (listed : Array Bool) (a : Act) (w : World) (rs : List Nat) : Prop :=
  ∀ i ∈ rs, wpOp P ops Q i (fun a' w' => (dm i = true → S w') ∧ anyD P md ops Q S dm fuel (listed.setIfInBounds i true) a' w') a w
theorem AllD.nil {fuel : Nat} {listed : Array Bool} {a : Act} {w : World} : AllD P md ops Q S dm fuel listed a w [] := fun _ h => by cases h
theorem AllD.cons {fuel : Nat} {listed : Array Bool} {a : Act} {w : World} {i : Nat} {o : Oper} {rs : List Nat} (ho : ops[i]? = some o)
    (h : ∀ K' : Act → World → Prop, Shut (∀ a w, (dm i = true → S w) → ((dm i = true → S w) → anyD P md ops Q S dm fuel (listed.setIfInBounds i true) a w) → K' a w) → if Region.wanted o (yielded ops a.tmps) = true then Oper.wp P o a w K' Q else K' (a.put o.dst undef) w)
    (hs : AllD P md ops Q S dm fuel listed a w rs) : AllD P md ops Q S dm fuel listed a w (i :: rs) := fun j hj => by
  rcases List.mem_cons.1 hj with rfl | hj
  · exact wpOp_step ho (fun K' hK => h K' (fun a w hS hW => hK a w ⟨hS, hW hS⟩))
  · exact hs j hj
theorem anyD_ready {rs : List Nat} {fuel : Nat} {listed : Array Bool} {a : Act} {w : World} (hr : Region.ready md ops listed = rs) (hne : rs ≠ [])
    (h : AllD P md ops Q S dm fuel listed a w rs) : anyD P md ops Q S dm (fuel + 1) listed a w :=
  ⟨fun h0 => absurd (hr ▸ h0) hne, hr ▸ h⟩
theorem anyD_done {listed : Array Bool} {a : Act} {w : World} (hr : Region.ready md ops listed = []) (h : Q .normal a w) : ∀ fuel, anyD P md ops Q S dm fuel listed a w
  | 0 => ⟨hr, h⟩
  | _ + 1 => ⟨fun _ => h, by rw [hr]; simp⟩
theorem region_D (S : World → Prop) (dm : Nat → Bool) {id : Nat} {a : Act} {w : World} (hm : P.follows .mixedOrders = true)
    (h : anyD P .any ops Q S dm ops.size (Array.replicate ops.size false) a w.drew) : (Code.region id ops true).wp P Q a w :=
  wp_region_any hm (any_of_D _ _ _ _ h)
end
end Go.Proofs.Ytidebamgmbdnaaa
/-
  laws.got: a tree of the program as a tree of the reference.
-/
namespace Go.Proofs.Ytidebamgmbdnaaa
open Go.ChangeShapes Go.WideShapes Go.ChangeAt Go.RowKit

/-- what a fresh tree reaches -/
def New (G : Nat → Prop) (w w' : World) (k : Nat) : Prop := (G k ∨ w.heap.size ≤ k) ∧ k < w'.heap.size
theorem info_st : (Try.prog.info? 26).map (fun i => (i.size, i.bytes)) = some (5, 88) := by kernel_rfl
theorem zero_st : (Try.prog.info? 26).bind (fun i => i.zero) = some (.agg #[.int .i64 0, .slice none 0 0, .bool false, .slice none 0 0, .slice none 0 0]) := by kernel_rfl
theorem info_sg : (Try.prog.info? 61).map (fun i => (i.size, i.bytes)) = some (2, 32) := by kernel_rfl
theorem zero_sg : (Try.prog.info? 61).bind (fun i => i.zero) = some (.agg #[.int .u32 0, .slice none 0 0]) := by kernel_rfl
theorem info_agg {P : Program} {e : TypeId} {s b : Nat} {z : Value} (h1 : (P.info? e).map (fun i => (i.size, i.bytes)) = some (s, b)) (h2 : (P.info? e).bind (fun i => i.zero) = some z) :
    ∃ i, P.info? e = some i ∧ i.zero = some z ∧ i.size = s ∧ i.bytes = b := by
  cases hi : P.info? e with
  | none => rw [hi] at h1; simp at h1
  | some i =>
    rw [hi] at h1 h2
    simp at h1 h2
    exact ⟨i, rfl, h2, h1.1, h1.2⟩

theorem Keep.frozen {A : List Nat} {w w' : World} (h : Keep A w w') {p : Addr} (hp : p.block < w.heap.size) (ha : p.block ∉ A := by simp) : w'.frozen? p = w.frozen? p := World.frozen?_of_block (h.block _ hp ha)
theorem New.off {A : List Nat} {B E size n : Nat} {G : Nat → Prop} {w W3 wr w2 : World} {v : Value} {xs : List Value} {o : Obj} {k : Nat} (hG : There G w) (hB : w.heap.size ≤ B) (hrow : wr.ownsRow B E size v n xs) (hk3 : Keep A W3 wr)
    (h : New G (wr.alloc o).drew w2 k) : Off (New G W3 w2) v k := by
  have hs := hk3.size
  refine ⟨⟨?_, h.2⟩, fun e => ?_⟩
  · rcases h.1 with h1 | h1
    · exact .inl h1
    · right; simp at h1; omega
  · have hl := hrow.lt k e.symm
    rcases h.1 with h1 | h1
    · have := hG k h1; omega
    · simp at h1; omega
theorem Off.mono {G G' : Nat → Prop} {v : Value} {k : Nat} (h : Off G v k) (hg : ∀ k, G k → G' k) : Off G' v k := ⟨hg k h.1, h.2⟩
/-- a round of the first loop -/
theorem got_round {b B E g cap i : Nat} {G : Nat → Prop} {w W3 wr w2 w3 : World} {v u : Value} {l : List T} {x : T} {c' : List Value} {o o' : Obj} {cs : List (List Value)} {xs0 : List Value} (hG : There G w) (hb1 : w.heap.size ≤ b) (hb2 : b < W3.heap.size) (hB : W3.heap.size ≤ B)
    (hkeep : Keep [b] W3 wr) (kx : Keep [] wr w2) (hrow0 : wr.ownsRow B E 5 v l.length xs0) (hc' : HT w2 (New G (wr.alloc o').drew w2) x c') (e1 : cs.length = l.length)
    (e2 : ∀ i (a : i < l.length) (b : i < cs.length), HT (w2.alloc o) (Off (New G W3 (w2.alloc o)) v) l[i] cs[i]) (hl : l.length + 1 ≤ 1099511627776)
    (hown : w3.ownsRow B E 5 (.slice (some ⟨g, 0, none⟩) (l.length + 1) cap) (l.length + 1) (cs.flatten ++ c')) (hgr : (w2.alloc o).grownBy w3 v.ownBlock) (hat : v.ownBlock = some g ∨ g = w2.heap.size + 1) :
    OT (w3.setCell ⟨b, i, none⟩ u) B E (New G W3 (w3.setCell ⟨b, i, none⟩ u)) (.slice (some ⟨g, 0, none⟩) (l.length + 1) cap) (l ++ [x]) ∧ Keep [b] W3 (w3.setCell ⟨b, i, none⟩ u) := by
  have hs := hkeep.size
  have hs2 := kx.size
  have kx' : Keep [] wr (w2.alloc o) := kx.alloc _
  have P := OT.push (w := w2.alloc o) (w' := w3) (B := B) (E := E) (G := New G W3 (w2.alloc o)) (v := v) (x := x) (c := c') (g := g) (cap := cap) e1 e2
    ((hc'.keepF (w' := w2.alloc o) (fun k hk => Below.heap_alloc _ _ _ hk.2) (fun k hk => (New.off (w := w) (A := [b]) hG (by omega) hrow0 hkeep hk))).keepF (fun _ _ => rfl) (fun k hk => hk.mono fun k hk => ⟨hk.1, by simp; have := hk.2; omega⟩))
    (fun k hk => hk.2) hl hown hgr (hat.imp id (fun h => by simp; omega))
  have hsg := hgr.size
  refine ⟨P.keepF (fun k hk => ?_) (fun k hk => ⟨hk.1, ?_⟩) (fun k e => ?_), ?_⟩
  · refine Below.heap_setCell _ _ _ _ fun e => ?_
    simp only at e
    subst e
    rcases hk.1 with h1 | h1
    · have := hG _ h1; omega
    · omega
  · have := hk.2; simp at this; simp [World.setCell]; simp at hsg; omega
  · refine Below.heap_setCell _ _ _ _ fun e' => ?_
    simp only at e'
    subst e'
    have := (hown.lt _ e).1
    omega
  · exact ((hkeep.trans (kx'.weaken (by simp))).grown hgr fun k e => .inr (by have := (hrow0.lt k e).1; omega)).setCell (.inl (by simp)) _
theorem HT.of (n : Int) (s : Bs) (b : Bool) (l : List T) (u : List Tg) {w : World} {G : Nat → Prop} {vs vl vu : Value} (hs : RB w G vs s) (hl : HTs w G vl l) (hu : HGs w G vu u) (h1 : -9223372036854775808 ≤ n) (h2 : n ≤ 9223372036854775807) (h3 : s.length ≤ 1099511627776) (h4 : l.length ≤ 1099511627776) :
    HT w G (.mk n s b l u) [.int .i64 n, vs, .bool b, vl, vu] := by
  obtain ⟨cs, e1, e2, e3, e4⟩ := hl
  exact .mk n s b l u vs vl vu cs hs ⟨h1, h2, Nat.le_trans h3 (by decide), Nat.le_trans h4 (by decide)⟩ e1 e2 e4 hu
theorem got_end {b B B' E E' : Nat} {G : Nat → Prop} {w W3 WL wr ws : World} {a : T} {vs vl vu : Value} (hG : There G w) (hs : RB w G vs a.s) (hb : w.heap.size ≤ b) (hbW : b < W3.heap.size) (hWB : W3.heap.size ≤ B) (hBB : B ≤ B') (hBL : W3.heap.size ≤ WL.heap.size) (K3 : Keep [] w W3) (kL : Keep [b] W3 WL) (kr : Keep [b] WL wr)
    (hOT : OT WL B E (New G W3 WL) vl a.l) (hOG : OG wr B' E' (New G WL wr) vu a.u) (h1 : -9223372036854775808 ≤ a.n) (h2 : a.n ≤ 9223372036854775807) (h3 : a.s.length ≤ 1099511627776) (h4 : a.l.length ≤ 1099511627776)
    (hws : SameOn (fun k => (G k ∨ W3.heap.size ≤ k) ∧ k < wr.heap.size) wr ws) (hsz : wr.heap.size ≤ ws.heap.size) : HT ws (New G w ws) a [.int .i64 a.n, vs, .bool a.null, vl, vu] := by
  have z1 := K3.size
  have z2 := kL.size
  have z3 := kr.size
  have hs' : RB ws (New G w ws) vs a.s := hs.keepF (fun k hk => (hws k ⟨.inl hk, by have := hG k hk; omega⟩).trans (((K3.weaken (by simp)).trans (kL.trans kr)).block k (hG k hk) (by have := hG k hk; simp; omega))) fun k hk => ⟨.inl hk, by have := hG k hk; omega⟩
  have hl' : HTs ws (New G w ws) vl a.l := (hOT.hts (G' := New G W3 WL) (fun _ h => h) (fun k h1 h2 => ⟨.inr (by omega), h2⟩)).keepF (fun k hk => (hws k ⟨hk.1, by have := hk.2; omega⟩).trans (kr.block k hk.2 (by
      rcases hk.1 with h | h
      · have := hG k h; simp; omega
      · simp; omega))) fun k hk => ⟨hk.1.imp id (fun h => by omega), by have := hk.2; omega⟩
  have hu' : HGs ws (New G w ws) vu a.u := (hOG.hgs (G' := New G W3 wr) (fun k h => ⟨h.1.imp id (fun h => by omega), h.2⟩) (fun k h1 h2 => ⟨.inr (by omega), h2⟩)).keepF (fun k hk => hws k hk) fun k hk => ⟨hk.1.imp id (fun h => by omega), by have := hk.2; omega⟩
  obtain ⟨n, s, b, l, u⟩ := a
  exact HT.of n s b l u hs' hl' hu' h1 h2 h3 h4
theorem OG.row {w : World} {B E : Nat} {G : Nat → Prop} {v : Value} {l : List Tg} (h : OG w B E G v l) : ∃ xs, w.ownsRow B E 2 v l.length xs := let ⟨_, _, _, _, _, h4⟩ := h; ⟨_, h4⟩
theorem OG.off {w : World} {B E : Nat} {G : Nat → Prop} {v : Value} {l : List Tg} (h : OG w B E G v l) {k : Nat} (hk : k < B) : some k ≠ v.ownBlock := by
  obtain ⟨xs, hr⟩ := h.row
  intro e
  have := (hr.lt k e.symm).1
  omega
theorem owns_shape {w : World} {B E size : Nat} {v : Value} {n : Nat} {xs : List Value} (h : w.ownsRow B E size v n xs) : ∃ ao cap, v = .slice ao n cap := by
  obtain ⟨ao, cap, e, _⟩ := ownsRow_rs h
  exact ⟨ao, cap, e⟩
theorem HGs.num {w : World} {G : Nat → Prop} {v : Value} {u : List Tg} (h : HGs w G v u) {x : Tg} (hx : x ∈ u) : x.1 < 4294967296 ∧ x.2.length ≤ 9223372036854775807 := by
  obtain ⟨_, _, _, h3, _⟩ := h
  exact h3 x hx
/-- a round of the second loop -/
theorem got_round2 {b B E g cap i : Nat} {G : Nat → Prop} {w WL wr w2 w3 : World} {v u vx : Value} {l : List Tg} {x : Tg} {cs : List Value} (hG : There G w) (hb1 : w.heap.size ≤ b) (hb2 : b < WL.heap.size) (hB : WL.heap.size ≤ B)
    (hkeep : Keep [b] WL wr) (kx : Keep [] wr w2) (hx : RB wr G vx x.2) (hx1 : x.1 < 4294967296 ∧ x.2.length ≤ 9223372036854775807) (hv : ∀ k, some k = v.ownBlock → B ≤ k) (e1 : cs.length = l.length)
    (e2 : ∀ i (a : i < l.length) (b : i < cs.length), RB w2 (Off (New G WL w2) v) cs[i] l[i].2) (e3 : ∀ x ∈ l, x.1 < 4294967296 ∧ x.2.length ≤ 9223372036854775807) (hl : l.length + 1 ≤ 1099511627776)
    (hown : w3.ownsRow B E 2 (.slice (some ⟨g, 0, none⟩) (l.length + 1) cap) (l.length + 1) (((l.zip cs).map fun x => [Value.int .u32 (x.1.1 : Int), x.2]).flatten ++ [.int .u32 (x.1 : Int), vx])) (hgr : w2.grownBy w3 v.ownBlock) (hat : v.ownBlock = some g ∨ g = w2.heap.size) :
    OG (w3.setCell ⟨b, i, none⟩ u) B E (New G WL (w3.setCell ⟨b, i, none⟩ u)) (.slice (some ⟨g, 0, none⟩) (l.length + 1) cap) (l ++ [x]) ∧ Keep [b] WL (w3.setCell ⟨b, i, none⟩ u) := by
  have hs := hkeep.size
  have hs2 := kx.size
  have hGL : ∀ k, G k → k < wr.heap.size ∧ k < b := fun k hk => by have := hG k hk; omega
  have P := OG.push (w := w2) (w' := w3) (B := B) (E := E) (G := New G WL w2) (v := v) (x := x) (vx := vx) (g := g) (cap := cap) e1 e2 e3
    (hx.keepF (w' := w2) (fun k hk => kx.block k (hGL k hk).1 (by simp)) (fun k hk => ⟨⟨.inl hk, by have := hGL k hk; omega⟩, fun e => by have := hv k e; have := hGL k hk; omega⟩))
    hx1 (fun k hk => hk.2) hl hown hgr (hat.imp id (fun h => by omega))
  have hsg := hgr.size
  refine ⟨P.keepF (fun k hk => ?_) (fun k hk => ⟨hk.1, ?_⟩) (fun k e => ?_), ?_⟩
  · refine Below.heap_setCell _ _ _ _ fun e => ?_
    simp only at e
    subst e
    rcases hk.1 with h1 | h1
    · have := hGL _ h1; omega
    · omega
  · have := hk.2; simp [World.setCell]; omega
  · refine Below.heap_setCell _ _ _ _ fun e' => ?_
    simp only at e'
    subst e'
    have := (hown.lt _ e).1
    omega
  · exact ((hkeep.trans (kx.weaken (by simp))).grown hgr fun k e => .inr (by have := hv k e.symm; omega)).setCell (.inl (by simp)) _
theorem OT.off {w : World} {B E : Nat} {G : Nat → Prop} {v : Value} {l : List T} (h : OT w B E G v l) {k : Nat} (hk : k < B) : some k ≠ v.ownBlock := by
  obtain ⟨xs, hr⟩ := h.row
  intro e
  have := (hr.lt k e.symm).1
  omega
theorem cells_one {l : List Value} (h : ∀ v ∈ l, v.oneCell' = true) : ∀ u ∈ l, u.oneCell' = true := h
theorem HT.one {w : World} {G : Nat → Prop} {t : T} {c : List Value} (h : HT w G t c) : ∀ v ∈ c, v.oneCell' = true := by
  obtain ⟨az, ps, al, pl, au, pu, rfl, _⟩ := h.cells
  intro v hv
  simp at hv
  rcases hv with rfl | rfl | rfl | rfl | rfl <;> rfl

end Go.Proofs.Ytidebamgmbdnaaa
