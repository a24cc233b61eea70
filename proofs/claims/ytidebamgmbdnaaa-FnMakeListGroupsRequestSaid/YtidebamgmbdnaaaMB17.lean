/-
  HOW LONG WHAT IS WRITTEN IS, by how much the tree holds. Plain Lean.
-/
import Derived.Test.YtidebamgmbdnaaaMB16
import Derived.Test.YtidebamgmbdnaaaMB14
import Derived.Test.YtidebamgmbdnaaaMB13
import Derived.Test.YtidebamgmbdnaaaRows
namespace Go.Proofs.Ytidebamgmbdnaaa

def wtg : List Tg → Nat
  | [] => 0
  | x :: r => x.2.length + 1 + wtg r
mutual
/-- how much a tree holds -/
def wt : T → Nat
  | .mk _ s _ l u => s.length + wts l + wtg u
def wts : List T → Nat
  | [] => 0
  | t :: r => wt t + 1 + wts r
end
theorem wt_eq (t : T) : wt t = t.s.length + wts t.l + wtg t.u := by cases t; simp [wt, T.s, T.l, T.u]
theorem wts_mem : ∀ {l : List T} {x : T}, x ∈ l → wt x + 1 ≤ wts l
  | [], _, h => by cases h
  | y :: r, x, h => by
    simp only [wts]
    rcases List.mem_cons.1 h with e | e
    · subst e; omega
    · have := wts_mem e; omega
theorem wt_at (t : T) (i : Nat) : wt (atT t i) ≤ wt t := by
  unfold atT
  by_cases h : i < t.l.length
  · rw [List.getD_eq_getElem?_getD, List.getElem?_eq_getElem h]
    have := wts_mem (List.getElem_mem h)
    have := wt_eq t
    simp only [Option.getD_some]
    omega
  · rw [List.getD_eq_getElem?_getD, List.getElem?_eq_none (by omega)]
    simp [T.zero, wt, wts, wtg]
theorem wts_take : ∀ (n : Nat) (l : List T), wts (l.take n) ≤ wts l
  | 0, l => by simp [wts]
  | n + 1, [] => by simp
  | n + 1, x :: r => by simp only [List.take_succ_cons, wts]; have := wts_take n r; omega
theorem wtg_app : ∀ (a b : List Tg), wtg (a ++ b) = wtg a + wtg b
  | [], b => by simp [wtg]
  | x :: r, b => by simp only [List.cons_append, wtg, wtg_app r b]; omega
theorem wtg_ins (out : List Tg) (t : Tg) : wtg (ins out t) ≤ wtg out + (t.2.length + 1) := by
  unfold ins
  split
  · omega
  · have e : wtg out = wtg (out.take (spot out t.1)) + wtg (out.drop (spot out t.1)) := by rw [← wtg_app, List.take_append_drop]
    rw [wtg_app, e]
    simp only [wtg]
    omega
theorem wtg_from (least : Nat) : ∀ (l out : List Tg), wtg (l.foldl (fun out t => if t.1 < least then out else ins out t) out) ≤ wtg l + wtg out
  | [], out => by simp [wtg]
  | t :: r, out => by
    simp only [List.foldl_cons, wtg]
    split
    · have := wtg_from least r out; omega
    · have h1 := wtg_from least r (ins out t)
      have h2 := wtg_ins out t
      omega
theorem wtg_take : ∀ (n : Nat) (l : List Tg), wtg (l.take n) ≤ wtg l
  | 0, l => by simp [wtg]
  | n + 1, [] => by simp
  | n + 1, x :: r => by simp only [List.take_succ_cons, wtg]; have := wtg_take n r; omega
theorem wtg_unk (fs : List F) (u : List Tg) : wtg (unknownP fs u) ≤ wtg u := by
  have h1 := wtg_from (knownP fs) (u.take 32767) []
  have h2 := wtg_take 32767 u
  unfold unknownP unknownFrom
  simp only [wtg] at h1
  omega
theorem wtg_whole : ∀ (l : List Tg), wtg (l.map fun x => (x.1, whole x.2)) ≤ wtg l
  | [] => by simp [wtg]
  | x :: r => by
    have h := wtg_whole r
    have h2 : (whole x.2).length ≤ x.2.length := by simp [whole]; omega
    simp only [List.map_cons, wtg]
    omega
theorem wtg_td (fs : List F) (u : List Tg) : wtg (tdU fs u) ≤ wtg u := Nat.le_trans (wtg_whole _) (wtg_unk fs u)
theorem tags_wt : ∀ (us : List Tg), (∀ x ∈ us, x.1 < 4294967296 ∧ x.2.length ≤ 32767) → ((us.map tagP).flatten).length ≤ 20 * wtg us
  | [], _ => by simp
  | x :: r, h => by
    have ih := tags_wt r (fun y hy => h y (List.mem_cons_of_mem _ hy))
    have hx := h x (List.mem_cons_self ..)
    have h1 := uvarP_short (n := x.1) (by omega)
    have h2 := uvarP_short (n := x.2.length) (by omega)
    simp only [List.map_cons, List.flatten_cons, List.length_append, wtg, tagP]
    omega
mutual
/-- a field's cost: octets a unit of what the tree holds -/
def ccF : F → Nat
  | .mk _ _ _ _ _ _ _ sub => 40 + ccFs sub
def ccFs : List F → Nat
  | [] => 40
  | f :: r => ccF f + ccFs r
end
theorem flatMap_wt {c : Nat} {g : T → Bs} : ∀ (l : List T), (∀ x ∈ l, (g x).length ≤ c * (wt x + 1)) → (l.flatMap g).length ≤ c * wts l
  | [], _ => by simp
  | x :: r, h => by
    have ih := flatMap_wt r fun y hy => h y (List.mem_cons_of_mem _ hy)
    have hx := h x (List.mem_cons_self ..)
    simp only [List.flatMap_cons, List.length_append, wts, Nat.mul_add] at *
    omega
theorem valueP_wt {kind : Int} {part : T → Bs} {null flex : Bool} {t : T} {c : Nat} (hp : kind = 10 → (part t).length ≤ c * (wt t + 1)) : (valueP kind part null flex t).length ≤ (30 + c) * (wt t + 1) := by
  have hw : (if null = true then [] else whole t.s).length ≤ t.s.length := by
    split
    · simp
    · simp [whole]; omega
  have hw2 : (if null = true then [] else whole t.s).length ≤ 32767 := by
    split
    · simp
    · simp [whole]; omega
  have hs : t.s.length ≤ wt t := by have := wt_eq t; omega
  have h2 := countedP_short flex null hw2 (size := 2) (by omega)
  have h4 := countedP_short flex null hw2 (size := 4) (by omega)
  have hwd : widthP kind ≤ 8 := by unfold widthP; repeat' split
                                   all_goals omega
  have e : (30 + c) * (wt t + 1) = 30 * wt t + 30 + c * (wt t + 1) := by rw [Nat.add_mul]; omega
  rw [e]
  generalize c * (wt t + 1) = cw at *
  unfold valueP
  split
  · simp; omega
  · split
    · simp; omega
    · split
      · rw [List.length_append]; omega
      · split
        · rw [List.length_append]; omega
        · split
          · rename_i h; have := hp h; omega
          · rw [fixedP_len]; omega
theorem fieldOf_wt {f : F} {part : T → Bs} {v : Int} {flex : Bool} {t : T} {c : Nat} (hp : ∀ x : T, keysT x → (part x).length ≤ c * (wt x + 1)) (ht : keysT t) : (fieldOf f part v flex t).length ≤ (40 + c) * (wt t + 1) := by
  unfold fieldOf
  dsimp only
  split
  · have hl : (if f.isNull v t = true then [] else things t.l).length ≤ 32767 := by
      split
      · simp
      · exact things_len t.l
    have hc := countedP_short flex (f.isNull v t) hl (size := 4) (by omega)
    have hm : ∀ x ∈ (if f.isNull v t = true then [] else things t.l), keysT x := by
      intro x hx
      split at hx
      · cases hx
      · exact ht.l x (List.mem_of_mem_take hx)
    have hfm := flatMap_wt (c := 30 + c) (g := fun x => valueP f.ofk part false flex x) (if f.isNull v t = true then [] else things t.l) fun x hx => valueP_wt fun _ => hp x (hm x hx)
    have hws : wts (if f.isNull v t = true then [] else things t.l) ≤ wt t := by
      have h1 := wts_take 32767 t.l
      have h2 := wt_eq t
      split
      · simp [wts]
      · unfold things; omega
    have hmul := Nat.mul_le_mul_left (30 + c) hws
    have e : (40 + c) * (wt t + 1) = 10 * (wt t + 1) + (30 + c) * (wt t + 1) := by rw [← Nat.add_mul]; congr 1; omega
    have e2 : (30 + c) * (wt t + 1) = (30 + c) * wt t + (30 + c) := by rw [Nat.mul_add, Nat.mul_one]
    simp only [List.length_append]
    omega
  · split
    · have h1 := hp t ht
      have e : (40 + c) * (wt t + 1) = 40 * (wt t + 1) + c * (wt t + 1) := by rw [← Nat.add_mul]
      rw [e]
      cases f.isNull v t with
      | true => simp only [if_true, fixedP_len]; omega
      | false => simp only [Bool.false_eq_true, if_false, List.length_append, fixedP_len]; omega
    · have h1 := valueP_wt (kind := f.kind) (null := f.isNull v t) (flex := flex) (t := t) (part := part) (c := c) fun _ => hp t ht
      have e : (40 + c) * (wt t + 1) = 10 * (wt t + 1) + (30 + c) * (wt t + 1) := by rw [← Nat.add_mul]; congr 1; omega
      omega
theorem plainAt_wt {v : Int} {flex : Bool} {t : T} (ht : keysT t) : ∀ (fs : List F) (i : Nat), (∀ f ∈ fs, ∀ x, keysT x → (fieldP f v flex x).length ≤ ccF f * (wt x + 1)) → (plainAt fs i v flex t).length + 40 * (wt t + 1) ≤ ccFs fs * (wt t + 1)
  | [], _, _ => by simp [plainAt, ccFs]
  | f :: r, i, h => by
    have ih := plainAt_wt ht r (i + 1) fun g hg => h g (List.mem_cons_of_mem _ hg)
    have h1 := h f (List.mem_cons_self ..) (atT t i) (ht.at_ i)
    have h2 := Nat.mul_le_mul_left (ccF f) (Nat.succ_le_succ (wt_at t i))
    simp only [plainAt, List.length_append, ccFs, Nat.add_mul]
    simp only [Nat.succ_eq_add_one] at h2
    split
    · omega
    · simp only [List.length_nil]; omega
mutual
theorem fieldP_wt (v : Int) (flex : Bool) : ∀ (f : F), wfF flex f = true → ∀ t, keysT t → (fieldP f v flex t).length ≤ ccF f * (wt t + 1)
  | .mk k a b nul tag dfl ofk sub, hw, t, ht => by
    have hws : wfFs flex sub = true := by
      simp only [wfF, Bool.and_eq_true] at hw
      exact hw.1.2
    rw [fieldP_eq]
    exact fieldOf_wt (fun x hx => partP_wt' v flex sub hws x hx) ht
theorem fieldsP_wt (v : Int) (flex : Bool) : ∀ (fs : List F), wfFs flex fs = true → ∀ f ∈ fs, ∀ t, keysT t → (fieldP f v flex t).length ≤ ccF f * (wt t + 1)
  | [], _, _, h => absurd h (by simp)
  | g :: r, hw, f, h => by
    simp only [wfFs, Bool.and_eq_true] at hw
    rcases List.mem_cons.1 h with e | h'
    · rw [e]; exact fieldP_wt v flex g hw.1
    · exact fieldsP_wt v flex r hw.2 f h'
theorem partP_wt' (v : Int) (flex : Bool) (fs : List F) (hw : wfFs flex fs = true) (t : T) (ht : keysT t) : (partP fs v flex t).length ≤ ccFs fs * (wt t + 1) := by
  have h1 := plainAt_wt ht fs 0 (fieldsP_wt v flex fs hw)
  have h2 := tags_wt (tdU fs t.u) (tdU_mem ht.u)
  have h3 := wtg_td fs t.u
  have h4 := uvarP_short (n := (tdU fs t.u).length) (by have := tdU_len fs t.u; omega)
  have h5 := wt_eq t
  rw [partP_untagged (wfFs_untagged hw)]
  split
  · simp only [List.length_append]; omega
  · omega
end
/-- what is written of a tree of bulk at most 2^20 -/
theorem partP_bulk {fs : List F} (v : Int) (flex : Bool) (hw : wfFs flex fs = true) (hc : ccFs fs ≤ 30000000) {t : T} (ht : keysT t) (hb : wt t ≤ 1048576) : (partP fs v flex t).length ≤ 35990000000000 := by
  have h1 := partP_wt' v flex fs hw t ht
  have h2 := Nat.mul_le_mul hc (Nat.succ_le_succ hb)
  simp only [Nat.succ_eq_add_one] at h2
  omega
end Go.Proofs.Ytidebamgmbdnaaa
/-
  HOW LONG A MESSAGE IS that has structs of plain fields beside its lists.
-/
namespace Go.Proofs.Ytidebamgmbdnaaa
open Go.ChangeShapes Go.WideShapes Go.ChangeAt Go.RowKit

/-- a field that is a struct of plain fields -/
def deepF (f : F) : Bool := decide (f.kind = 10) && decide (f.nul < 0) && flatFs f.sub && untagged f.sub
def costF2 (f : F) : Nat := if deepF f then 40000 * f.sub.length + 1082000000 else costF f
def costFs2 : List F → Nat
  | [] => 0
  | f :: r => costF2 f + costFs2 r
def listFs2 : List F → Bool
  | [] => true
  | f :: r => (deepF f || (kindOk f.kind || (decide (f.kind = 11) && (kindOk f.ofk || (decide (f.ofk = 10) && flatFs f.sub && untagged f.sub))))) && listFs2 r
theorem fieldP_cost2 {f : F} (hk : (deepF f || (kindOk f.kind || (decide (f.kind = 11) && (kindOk f.ofk || (decide (f.ofk = 10) && flatFs f.sub && untagged f.sub))))) = true) (v : Int) (flex : Bool) {t : T} (ht : keysT t) : (fieldP f v flex t).length ≤ costF2 f := by
  unfold costF2
  by_cases hd : deepF f = true
  · rw [if_pos hd]
    simp only [deepF, Bool.and_eq_true, decide_eq_true_eq] at hd
    obtain ⟨⟨⟨h10, hn⟩, hf⟩, hu⟩ := hd
    have h := partP_row hu hf v flex ht
    rw [fieldP_eq]
    unfold fieldOf
    simp only [h10]
    rw [if_neg (by decide), if_neg (by omega)]
    simpa [valueP] using h
  · rw [if_neg hd]
    simp only [Bool.or_eq_true] at hk
    rcases hk with hk | hk
    · exact absurd hk hd
    · exact fieldP_cost (by simpa only [Bool.or_eq_true] using hk) v flex ht
theorem plainAt_cost2 : ∀ (fs : List F) (i : Nat) (v : Int) (flex : Bool) {t : T}, keysT t → listFs2 fs = true → (plainAt fs i v flex t).length ≤ costFs2 fs
  | [], _, _, _, _, _, _ => by simp [plainAt]
  | f :: r, i, v, flex, t, ht, h => by
    have h' := h
    simp only [listFs2] at h'
    rw [Bool.and_eq_true] at h'
    have ih := plainAt_cost2 r (i + 1) v flex ht h'.2
    have h1 := fieldP_cost2 h'.1 v flex (ht.at_ i)
    simp only [plainAt, List.length_append, costFs2]
    split
    · omega
    · simp only [List.length_nil]; omega
theorem partP_listed2 {fs : List F} (hu : untagged fs = true) (hf : listFs2 fs = true) (hl : costFs2 fs ≤ 35900000000000) (v : Int) (flex : Bool) {t : T} (ht : keysT t) : (partP fs v flex t).length ≤ 35990000000000 := by
  have h1 := plainAt_cost2 fs 0 v flex ht hf
  have h2 := tags_all fs ht
  rw [partP_untagged hu]
  split
  · rw [List.length_append]; omega
  · omega
end Go.Proofs.Ytidebamgmbdnaaa
/-
  A tree that is handed in, opened: it holds no more than its reading's bulk.
-/
namespace Go.Proofs.Ytidebamgmbdnaaa
open Go.ChangeShapes Go.WideShapes Go.ChangeAt Go.RowKit

section
variable {H : Type} {enc : TypeId × Value → H} {W : World} {sp : Nat → Bool} {held : Bool}
theorem bulk_one (d : DataW H) : 1 ≤ Rows.uptoBulk d := by
  cases d with
  | lit l => cases l <;> simp [Rows.uptoBulk]
  | nil => simp [Rows.uptoBulk]
  | ptr d => simp [Rows.uptoBulk]
  | slice elems spare => simp [Rows.uptoBulk]
  | agg parts => simp [Rows.uptoBulk]
  | iface t d => simp [Rows.uptoBulk]
  | map entries => simp [Rows.uptoBulk]
  | held h => simp [Rows.uptoBulk]
theorem bulk_part {d : DataW H} {l : List (DataW H)} (h : d ∈ l) : Rows.uptoBulk d ≤ Rows.uptoBulkAll l := by
  induction l with
  | nil => cases h
  | cons x r ih =>
    simp only [Rows.uptoBulkAll]
    cases List.mem_cons.1 h with
    | inl e => subst e; omega
    | inr e => have := ih e; omega
theorem bulk_len (l : List (DataW H)) : l.length ≤ Rows.uptoBulkAll l := by
  induction l with
  | nil => simp [Rows.uptoBulkAll]
  | cons x r ih => have := bulk_one x; simp only [Rows.uptoBulkAll, List.length_cons]; omega
theorem octs_openB {fuel : Nat} {v : Value} {x : DataW H × List MemPlace} (h : DataW.trod enc Try.prog W 0 (fun _ => true) held fuel 22 [v] = some x) :
    ∃ l, RB W (fun k => k < W.heap.size) v l ∧ l.length ≤ maxLen ∧ l.length + 1 ≤ Rows.uptoBulk x.1 := by
  rcases open_ints Try.underlying22 Try.underlying5 cells_u8 h with ⟨hcs, rfl⟩ | ⟨a, len, cap, zs, hcs, _, hl, hm, hz, rfl, hcell, hwz⟩
  · simp only [List.cons.injEq, and_true] at hcs
    subst hcs
    exact ⟨[], RB.nil W _, by simp, by simp [Rows.uptoBulk]⟩
  · simp only [List.cons.injEq, and_true] at hcs
    subst hcs
    simp only [if_true] at hz
    have e : ((zs.take len).map fun z => UInt8.ofNat z.toNat).length = len := by simp; omega
    refine ⟨(zs.take len).map fun z => UInt8.ofNat z.toNat, ?_, by omega, ?_⟩
    · unfold RB
      rw [e]
      refine RS.ofCells hl fun i hi => ?_
      have hi' : i < zs.length := by simp at hi; omega
      rw [hcell i hi']
      have hw : 0 ≤ zs[i] ∧ zs[i] ≤ 255 := by simpa [Lit.wf, IntKind.has, IntKind.min, IntKind.max, IntKind.bits, IntKind.signed] using hwz _ (List.getElem_mem hi')
      simp [bv, List.getD, hi']
      omega
    · have h1 := bulk_len (H := H) (lits .u8 (zs.take len))
      have h2 : (lits (H := H) .u8 (zs.take len)).length = (zs.take len).length := by simp [lits]
      simp only [Rows.uptoBulk, List.length_map]
      omega
set_option maxRecDepth 100000 in
theorem tag_openB {fuel : Nat} {cs : List Value} {x : DataW H × List MemPlace} (h : DataW.trod enc Try.prog W 0 (fun _ => true) held fuel 61 cs = some x) :
    ∃ (u : Tg) (v : Value), cs = [.int .u32 (u.1 : Int), v] ∧ RB W (fun k => k < W.heap.size) v u.2 ∧ u.1 < 4294967296 ∧ u.2.length ≤ maxLen ∧ u.2.length + 1 ≤ Rows.uptoBulk x.1 := by
  obtain ⟨xs, n, rfl, rfl, hlen, hxl, hf⟩ := DataW.trod_struct Try.underlying61 h
  rw [cells_tag] at hlen
  match cs, hlen with
  | [c0, c1], _ =>
    have f0 : DataW.trod enc Try.prog W 0 (fun _ => true) held n 59 (([c0, c1].drop 0).take (Try.prog.cellsOf 59)) = xs[0]? := hf 0 _ rfl
    have f1 : DataW.trod enc Try.prog W 0 (fun _ => true) held n 22 (([c0, c1].drop 1).take (Try.prog.cellsOf 22)) = xs[1]? := hf 1 _ rfl
    rw [cells_u32] at f0
    rw [cells_sb] at f1
    simp only [List.drop_zero, List.drop_succ_cons, List.take_succ_cons, List.take_zero] at f0 f1
    have hx2 : xs.length = 2 := hxl
    match xs, hx2 with
    | [x0, x1], _ =>
      simp only [List.getElem?_cons_zero, List.getElem?_cons_succ] at f0 f1
      obtain ⟨k, hk, -, hw⟩ := DataW.trod_int Try.underlying59 f0
      obtain ⟨l, hl, hll, hb⟩ := octs_openB f1
      have hw' : 0 ≤ k ∧ k ≤ 4294967295 := by simpa [Lit.wf, IntKind.has, IntKind.min, IntKind.max, IntKind.bits, IntKind.signed] using hw
      simp only [List.cons.injEq, and_true] at hk
      subst hk
      refine ⟨(k.toNat, l), c1, by simp; omega, hl, by simp only; omega, hll, ?_⟩
      simp only [List.map_cons, List.map_nil, Rows.uptoBulk, Rows.uptoBulkAll]
      omega
theorem elem_ofB {fuel n : Nat} {t : TypeId} {a : Addr} {m : Nat} {elems : List (DataW H × List MemPlace)} (hlen : elems.length = n) (hel : ∀ i, i < n → (W.cells? 0 (a.add (i * m)) m).bind (DataW.trod enc Try.prog W 0 (fun _ => true) held fuel t) = elems[i]?) (i : Nat) (hi : i < n) :
    ∃ cs x, elems[i]? = some x ∧ DataW.trod enc Try.prog W 0 (fun _ => true) held fuel t cs = some x ∧ cs.length = m ∧ ∀ j (hj : j < cs.length), W.cell? ((a.add (i * m)).add j) = some cs[j] := by
  have h := hel i hi
  rw [List.getElem?_eq_getElem (by omega), Option.bind_eq_some_iff] at h
  obtain ⟨cs, h1, h2⟩ := h
  obtain ⟨_, hl, hc⟩ := World.cells?_some h1
  exact ⟨cs, _, List.getElem?_eq_getElem (by omega), h2, hl, fun j hj => by rw [hc j (by omega), List.getElem?_eq_getElem hj]⟩
theorem sum_tags : ∀ (us : List Tg) (es : List (DataW H × List MemPlace)), us.length = es.length → (∀ i (h : i < us.length), ∃ y, es[i]? = some y ∧ us[i].2.length + 1 ≤ Rows.uptoBulk y.1) → wtg us ≤ Rows.uptoBulkAll (es.map (·.1))
  | [], _, _, _ => by simp [wtg]
  | u :: r, [], h, _ => by simp at h
  | u :: r, e :: es, h, k => by
    have ih := sum_tags r es (by simpa using h) fun i hi => k (i + 1) (by simpa using hi)
    obtain ⟨y, h1, h2⟩ := k 0 (by simp)
    simp only [List.getElem?_cons_zero, Option.some.injEq, List.getElem_cons_zero] at h1 h2
    subst h1
    simp only [wtg, List.map_cons, Rows.uptoBulkAll]
    omega
theorem sum_trees : ∀ (us : List T) (es : List (DataW H × List MemPlace)), us.length = es.length → (∀ i (h : i < us.length), ∃ y, es[i]? = some y ∧ wt us[i] + 1 ≤ Rows.uptoBulk y.1) → wts us ≤ Rows.uptoBulkAll (es.map (·.1))
  | [], _, _, _ => by simp [wts]
  | u :: r, [], h, _ => by simp at h
  | u :: r, e :: es, h, k => by
    have ih := sum_trees r es (by simpa using h) fun i hi => k (i + 1) (by simpa using hi)
    obtain ⟨y, h1, h2⟩ := k 0 (by simp)
    simp only [List.getElem?_cons_zero, Option.some.injEq, List.getElem_cons_zero] at h1 h2
    subst h1
    simp only [wts, List.map_cons, Rows.uptoBulkAll]
    omega
theorem tags_openB {fuel : Nat} {v : Value} {x : DataW H × List MemPlace} (h : DataW.trod enc Try.prog W 0 (fun _ => true) held fuel 24 [v] = some x) :
    ∃ u, HGs W (fun k => k < W.heap.size) v u ∧ wtg u + 1 ≤ Rows.uptoBulk x.1 := by
  rcases DataW.trod_slice Try.underlying24 h with ⟨hcs, rfl⟩ | ⟨a, len, cap, elems, rest, n, rfl, hcs, rfl, _, hl, hm, hlen, hel, -, -⟩
  · simp only [List.cons.injEq, and_true] at hcs
    subst hcs
    exact ⟨[], HGs.nil W _, by simp [wtg, Rows.uptoBulk]⟩
  · simp only [List.cons.injEq, and_true] at hcs
    subst hcs
    rw [cells_tag] at hel
    obtain ⟨us, vs, h1, h2, h3⟩ := pick2 (P := fun i (u : Tg) (v : Value) => ((∀ j (hj : j < [Value.int .u32 (u.1 : Int), v].length), W.cell? ((a.add (i * 2)).add j) = some [Value.int .u32 (u.1 : Int), v][j]) ∧ RB W (fun k => k < W.heap.size) v u.2 ∧ u.1 < 4294967296 ∧ u.2.length ≤ maxLen) ∧ ∃ y, elems[i]? = some y ∧ u.2.length + 1 ≤ Rows.uptoBulk y.1) (n := len) fun i hi => by
      obtain ⟨cs, x, hx, ht, hcl, hc⟩ := elem_ofB hlen hel i hi
      obtain ⟨u, v, rfl, q1, q2, q3, q4⟩ := tag_openB ht
      exact ⟨u, v, ⟨hc, q1, q2, q3⟩, x, hx, q4⟩
    refine ⟨us, ⟨vs, by omega, fun i a b => (h3 i a b).1.2.1, fun x hx => ?_, by unfold maxLen at hm; omega, ?_⟩, ?_⟩
    · obtain ⟨i, hi, rfl⟩ := List.getElem_of_mem hx
      have := (h3 i hi (by omega)).1.2.2
      unfold maxLen at this
      exact ⟨this.1, by omega⟩
    · have hz : (us.zip vs).length = len := by simp; omega
      rw [h1]
      refine RS.ofRows (m := 2) (by simpa using hz) hl (fun c hc => ?_) (by decide) fun i hi j hj => ?_
      · obtain ⟨y, _, rfl⟩ := List.mem_map.1 hc
        rfl
      · simp only [List.getElem_map, List.getElem_zip] at hj ⊢
        exact (h3 i (by simp at hi; omega) (by simp at hi; omega)).1.1 j hj
    · have := sum_tags us elems (by omega) fun i hi => (h3 i hi (by omega)).2
      simp only [Rows.uptoBulk]
      omega
set_option maxRecDepth 100000 in
theorem tree_openB : ∀ (fuel : Nat) {cs : List Value} {x : DataW H × List MemPlace}, DataW.trod enc Try.prog W 0 (fun _ => true) held fuel 26 cs = some x →
    ∃ t, HT W (fun k => k < W.heap.size) t cs ∧ keysT t ∧ wt t + 1 ≤ Rows.uptoBulk x.1 := by
  intro fuel
  induction fuel using Nat.strongRecOn with
  | _ fuel ih =>
    intro cs x h
    obtain ⟨xs, n, rfl, rfl, hlen, hxl, hf⟩ := DataW.trod_struct Try.underlying26 h
    rw [cells_tree] at hlen
    match cs, hlen with
    | [c0, c1, c2, c3, c4], _ =>
      have f0 : DataW.trod enc Try.prog W 0 (fun _ => true) held n 2 (([c0, c1, c2, c3, c4].drop 0).take (Try.prog.cellsOf 2)) = xs[0]? := hf 0 _ rfl
      have f1 : DataW.trod enc Try.prog W 0 (fun _ => true) held n 22 (([c0, c1, c2, c3, c4].drop 1).take (Try.prog.cellsOf 22)) = xs[1]? := hf 1 _ rfl
      have f2 : DataW.trod enc Try.prog W 0 (fun _ => true) held n 4 (([c0, c1, c2, c3, c4].drop 2).take (Try.prog.cellsOf 4)) = xs[2]? := hf 2 _ rfl
      have f3 : DataW.trod enc Try.prog W 0 (fun _ => true) held n 23 (([c0, c1, c2, c3, c4].drop 3).take (Try.prog.cellsOf 23)) = xs[3]? := hf 3 _ rfl
      have f4 : DataW.trod enc Try.prog W 0 (fun _ => true) held n 24 (([c0, c1, c2, c3, c4].drop 4).take (Try.prog.cellsOf 24)) = xs[4]? := hf 4 _ rfl
      rw [cells_i64] at f0
      rw [cells_sb] at f1
      rw [cells_bool] at f2
      rw [cells_st] at f3
      rw [cells_sg] at f4
      simp only [List.drop_zero, List.drop_succ_cons, List.take_succ_cons, List.take_zero] at f0 f1 f2 f3 f4
      have hx5 : xs.length = 5 := hxl
      match xs, hx5 with
      | [x0, x1, x2, x3, x4], _ =>
        simp only [List.getElem?_cons_zero, List.getElem?_cons_succ] at f0 f1 f2 f3 f4
        obtain ⟨k, hk, -, hw⟩ := DataW.trod_int Try.underlying2 f0
        obtain ⟨s, hs, hsl, hsb⟩ := octs_openB f1
        obtain ⟨nu, hnu, -⟩ := DataW.trod_bool Try.underlying4 f2
        obtain ⟨u, hu, hub⟩ := tags_openB f4
        have hw' : -9223372036854775808 ≤ k ∧ k ≤ 9223372036854775807 := by simpa [Lit.wf, IntKind.has, IntKind.min, IntKind.max, IntKind.bits, IntKind.signed] using hw
        simp only [List.cons.injEq, and_true] at hk hnu
        subst hk hnu
        have hku : ∀ x ∈ u, x.1 < 4294967296 := fun x hx => by
          obtain ⟨_, _, _, h3, _⟩ := hu
          exact (h3 x hx).1
        unfold maxLen at hsl
        have hl : ∃ (css : List (List Value)) (l : List T), css.length = l.length ∧ (∀ i (h1 : i < l.length) (h2 : i < css.length), HT W (fun k => k < W.heap.size) l[i] css[i]) ∧ RS W (fun k => k < W.heap.size) c3 css.length css.flatten ∧ l.length ≤ 9223372036854775807 ∧ keysTs l ∧ wts l + 1 ≤ Rows.uptoBulk x3.1 := by
          rcases DataW.trod_slice Try.underlying23 f3 with ⟨hcs, rfl⟩ | ⟨a, len, cap, elems, rest, m, rfl, hcs, rfl, _, hl, hm, hlen, hel, -, -⟩
          · simp only [List.cons.injEq, and_true] at hcs
            subst hcs
            exact ⟨[], [], rfl, (fun i h => by simp at h), RS.nil W _, by simp, trivial, by simp [wts, Rows.uptoBulk]⟩
          · simp only [List.cons.injEq, and_true] at hcs
            subst hcs
            rw [cells_tree] at hel
            obtain ⟨css, ts, h1, h2, h3⟩ := pick2 (P := fun i (c : List Value) (t : T) => ((∀ j (hj : j < c.length), W.cell? ((a.add (i * 5)).add j) = some c[j]) ∧ c.length = 5 ∧ HT W (fun k => k < W.heap.size) t c ∧ keysT t) ∧ ∃ y, elems[i]? = some y ∧ wt t + 1 ≤ Rows.uptoBulk y.1) (n := len) fun i hi => by
              obtain ⟨cs, x, hx, ht, hcl, hc⟩ := elem_ofB hlen hel i hi
              obtain ⟨t, q1, q2, q3⟩ := ih m (by omega) ht
              exact ⟨cs, t, ⟨hc, hcl, q1, q2⟩, x, hx, q3⟩
            unfold maxLen at hm
            refine ⟨css, ts, by omega, fun i a b => (h3 i b a).1.2.2.1, ?_, by omega, keysTs_of ts fun i hi => (h3 i (by omega) hi).1.2.2.2, ?_⟩
            · rw [h1]
              refine RS.ofRows (m := 5) h1 hl (fun c hc => ?_) (by decide) fun i hi j hj => (h3 i hi (by omega)).1.1 j hj
              obtain ⟨i, hi, rfl⟩ := List.getElem_of_mem hc
              exact (h3 i hi (by omega)).1.2.1
            · have := sum_trees ts elems (by omega) fun i hi => (h3 i (by omega) hi).2
              simp only [Rows.uptoBulk]
              omega
        obtain ⟨css, l, e1, e2, e3, e4, e5, e6⟩ := hl
        refine ⟨.mk k s nu l u, .mk k s nu l u c1 c3 c4 css hs ⟨hw'.1, hw'.2, by omega, e4⟩ e1 e2 e3 hu, ⟨hku, e5⟩, ?_⟩
        simp only [List.map_cons, List.map_nil, Rows.uptoBulk, Rows.uptoBulkAll, wt]
        omega
end
end Go.Proofs.Ytidebamgmbdnaaa
/-
  WHAT IS MADE OF A TREE, in plain Lean: spec.Fit, and what the struct says that it fills; it is written as the reference writes the tree.
-/
namespace Go.Proofs.Ytidebamgmbdnaaa

/-- spec.fitted's answer at what is no list; what its part says is handed over -/
def fitK (kind : Int) (null : Bool) (part : T → T) (t : T) : T :=
  if kind = 8 ∨ kind = 9 then .mk 0 (whole t.s) null [] []
  else if kind = 10 then .mk (part t).n (part t).s null (part t).l (part t).u
  else .mk t.n t.s false [] []
mutual
/-- spec.fitted -/
def fitF : F → Int → T → T
  | .mk k a b nul tag dfl ofk sub, v, t =>
    if k = 11 then .mk 0 [] (F.isNull (.mk k a b nul tag dfl ofk sub) v t || (decide (0 ≤ tag) && t.l.isEmpty)) ((things t.l).map (fitK ofk false (fun t => .mk 0 [] false (fitFs sub 0 v t) (tdU sub t.u)))) []
    else fitK k (F.isNull (.mk k a b nul tag dfl ofk sub) v t) (fun t => .mk 0 [] false (fitFs sub 0 v t) (tdU sub t.u)) t
def fitFs : List F → Nat → Int → T → List T
  | [], _, _, _ => []
  | f :: r, i, v, t => fitF f v (atT t i) :: fitFs r (i + 1) v t
end
/-- spec.Fit -/
def fitPart (fs : List F) (v : Int) (t : T) : T := .mk 0 [] false (fitFs fs 0 v t) (tdU fs t.u)

/-- what a field of the struct says that is filled with x -/
def flK (kind : Int) (part : T → T) (x : T) : T :=
  if kind = 0 then .mk (x.n % 2) [] false [] []
  else if kind = 1 then .mk (wrapN 1 x.n) [] false [] []
  else if kind = 2 then .mk (wrapN 2 x.n) [] false [] []
  else if kind = 3 then .mk (wrapN 4 x.n) [] false [] []
  else if kind = 4 then .mk (wrapN 8 x.n) [] false [] []
  else if kind = 5 then .mk (x.n % 65536) [] false [] []
  else if kind = 6 then .mk (wrapN 8 x.n) [] false [] []
  else if kind = 7 then .mk 0 (pad16 x.s) false [] []
  else if kind = 8 then nstrT (if x.null then none else some x.s)
  else if kind = 9 then octT (if x.null then none else some x.s)
  else if kind = 10 then part x
  else T.zero
mutual
def flF : F → T → T
  | .mk k _ _ _ _ _ ofk sub, x =>
    if k = 11 then .mk 0 [] x.null (if x.null then [] else x.l.map (flK ofk (fun x => .mk 0 [] false (flFs sub 0 x) x.u))) []
    else flK k (fun x => .mk 0 [] false (flFs sub 0 x) x.u) x
def flFs : List F → Nat → T → List T
  | [], _, _ => []
  | f :: r, i, x => flF f (atT x i) :: flFs r (i + 1) x
end
/-- what the struct says that is filled with x -/
def flPart (fs : List F) (x : T) : T := .mk 0 [] false (flFs fs 0 x) x.u

mutual
/-- both at once -/
def mkF : F → Int → T → T
  | .mk k a b nul tag dfl ofk sub, v, t =>
    if k = 11 then .mk 0 [] (F.isNull (.mk k a b nul tag dfl ofk sub) v t) ((if F.isNull (.mk k a b nul tag dfl ofk sub) v t then [] else things t.l).map (tdK ofk (fun t => .mk 0 [] false (mkFs sub 0 v t) (tdU sub t.u)) false)) []
    else tdK k (fun t => .mk 0 [] false (mkFs sub 0 v t) (tdU sub t.u)) (F.isNull (.mk k a b nul tag dfl ofk sub) v t) t
def mkFs : List F → Nat → Int → T → List T
  | [], _, _, _ => []
  | f :: r, i, v, t => mkF f v (atT t i) :: mkFs r (i + 1) v t
end
def mkPart (fs : List F) (v : Int) (t : T) : T := .mk 0 [] false (mkFs fs 0 v t) (tdU fs t.u)

theorem atT_cons (n : Int) (s : Bs) (b : Bool) (x : T) (l : List T) (u : List Tg) (i : Nat) : atT (.mk n s b (x :: l) u) (i + 1) = atT (.mk n s b l u) i := by
  simp [atT, T.l]
theorem fl_fitK {kind : Int} {null : Bool} {p q pq : T → T} (hpq : ∀ t, q (p t) = pq t) (hq : ∀ x y : T, x.l = y.l → x.u = y.u → q x = q y) (hn : kind = 10 → null = false) (t : T) : flK kind q (fitK kind null p t) = tdK kind pq null t := by
  by_cases h8 : kind = 8
  · subst h8
    unfold flK fitK tdK
    cases null <;> simp [T.null, T.s, nstrT]
  by_cases h9 : kind = 9
  · subst h9
    unfold flK fitK tdK
    cases null <;> simp [T.null, T.s]
  by_cases h10 : kind = 10
  · subst h10
    obtain rfl := hn rfl
    unfold flK fitK tdK
    simp
    rw [← hpq t]
    exact hq _ _ rfl rfl
  have e : fitK kind null p t = .mk t.n t.s false [] [] := by
    unfold fitK
    rw [if_neg (by omega), if_neg h10]
  rw [e]
  unfold flK tdK
  simp only [T.n, T.s, if_neg h8, if_neg h9, if_neg h10]
theorem flFs_eq (fs : List F) : ∀ (i : Nat) (x y : T), x.l = y.l → flFs fs i x = flFs fs i y := by
  induction fs with
  | nil => intro _ _ _ _; rfl
  | cons f r ih =>
    intro i x y h
    simp only [flFs]
    rw [ih (i + 1) x y h, show atT x i = atT y i by simp only [atT, h]]
mutual
/-- no tags, no struct that may be null -/
def plainF : F → Bool
  | .mk k _ _ nul tag _ ofk sub => decide (tag < 0) && (decide (k ≠ 10) || decide (nul < 0)) && decide (ofk ≠ 11) && plainFs sub
def plainFs : List F → Bool
  | [] => true
  | f :: r => plainF f && plainFs r
end
mutual
theorem fl_fitF (v : Int) : ∀ (f : F), plainF f = true → ∀ t : T, flF f (fitF f v t) = mkF f v t
  | .mk k a b nul tag dfl ofk sub, h, t => by
    simp only [plainF, Bool.and_eq_true, Bool.or_eq_true, decide_eq_true_eq] at h
    obtain ⟨⟨⟨ht, hn⟩, _⟩, hs⟩ := h
    have hp : ∀ t : T, (fun x : T => T.mk 0 [] false (flFs sub 0 x) x.u) ((fun t : T => T.mk 0 [] false (fitFs sub 0 v t) (tdU sub t.u)) t) = (fun t : T => T.mk 0 [] false (mkFs sub 0 v t) (tdU sub t.u)) t := fun t => by
      show T.mk 0 [] false (flFs sub 0 (.mk 0 [] false (fitFs sub 0 v t) (tdU sub t.u))) (tdU sub t.u) = _
      have h0 := fl_fitFs v sub hs 0 t 0 [] false [] (tdU sub t.u) rfl
      rw [List.nil_append] at h0
      rw [h0]
    have hq : ∀ x y : T, x.l = y.l → x.u = y.u → (fun x : T => T.mk 0 [] false (flFs sub 0 x) x.u) x = (fun x : T => T.mk 0 [] false (flFs sub 0 x) x.u) y := fun x y h1 h2 => by
      show T.mk 0 [] false (flFs sub 0 x) x.u = T.mk 0 [] false (flFs sub 0 y) y.u
      rw [flFs_eq sub 0 x y h1, h2]
    simp only [flF, fitF, mkF]
    by_cases h11 : k = 11
    · simp only [if_pos h11]
      rw [show (decide (0 ≤ tag) && t.l.isEmpty) = false by rw [show decide (0 ≤ tag) = false by simpa using ht]; rfl, Bool.or_false]
      simp only [T.null, T.l]
      cases F.isNull (.mk k a b nul tag dfl ofk sub) v t
      · simp only [Bool.false_eq_true, if_false, List.map_map]
        congr 1
        refine List.map_congr_left fun x _ => ?_
        exact fl_fitK hp hq (fun _ => rfl) x
      · rfl
    · simp only [if_neg h11]
      refine fl_fitK hp hq (fun h10 => ?_) t
      have hn' : nul < 0 := hn.resolve_left (by omega)
      show (t.null && decide (0 ≤ nul) && decide (nul ≤ v)) = false
      rw [show decide (0 ≤ nul) = false by simpa using hn']
      simp
/-- the fields that follow 'pre' in a tree's list -/
theorem fl_fitFs (v : Int) : ∀ (fs : List F), plainFs fs = true → ∀ (i : Nat) (t : T) (n : Int) (s : Bs) (b : Bool) (pre : List T) (u : List Tg), pre.length = i → flFs fs i (.mk n s b (pre ++ fitFs fs i v t) u) = mkFs fs i v t
  | [], _, _, _, _, _, _, _, _, _ => rfl
  | f :: r, h, i, t, n, s, b, pre, u, hi => by
    simp only [plainFs, Bool.and_eq_true] at h
    simp only [flFs, fitFs, mkFs]
    have e : atT (.mk n s b (pre ++ fitF f v (atT t i) :: fitFs r (i + 1) v t) u) i = fitF f v (atT t i) := by
      subst hi
      simp [atT, T.l]
    rw [e, fl_fitF v f h.1]
    have h2 := fl_fitFs v r h.2 (i + 1) t n s b (pre ++ [fitF f v (atT t i)]) u (by simp [hi])
    rw [List.append_assoc] at h2
    rw [show pre ++ fitF f v (atT t i) :: fitFs r (i + 1) v t = pre ++ ([fitF f v (atT t i)] ++ fitFs r (i + 1) v t) from rfl, h2]
end
theorem fl_fit {fs : List F} (h : plainFs fs = true) (v : Int) (t : T) : flPart fs (fitPart fs v t) = mkPart fs v t := by
  unfold flPart fitPart mkPart
  have h0 := fl_fitFs v fs h 0 t 0 [] false [] (tdU fs t.u) rfl
  rw [List.nil_append] at h0
  rw [h0]
  rfl
end Go.Proofs.Ytidebamgmbdnaaa
/-
  laws.given: a tree of the reference as a tree of the program.
-/
namespace Go.Proofs.Ytidebamgmbdnaaa
open Go.ChangeShapes Go.WideShapes Go.ChangeAt Go.RowKit

theorem info_vt : (Try.prog.info? 39).map (fun i => (i.size, i.bytes)) = some (5, 88) := by kernel_rfl
theorem zero_vt : (Try.prog.info? 39).bind (fun i => i.zero) = some (.agg #[.int .i64 0, .slice none 0 0, .bool false, .slice none 0 0, .slice none 0 0]) := by kernel_rfl
theorem info_vg : (Try.prog.info? 62).map (fun i => (i.size, i.bytes)) = some (2, 32) := by kernel_rfl
theorem zero_vg : (Try.prog.info? 62).bind (fun i => i.zero) = some (.agg #[.int .u32 0, .slice none 0 0]) := by kernel_rfl
theorem giv_body : Try.f14.body.isNone = false := by kernel_rfl
theorem giv_name : (Try.f14.name == "runtime.NumGoroutine") = false := by kernel_rfl
def GivSaid (a : T) : Prop :=
  ∀ (G : Nat → Prop) (c : List Value) (w : World), HT w G a c → There G w →
    Calls Try.prog 14 #[.agg c.toArray] w fun e w' => ∃ c', e = .returned (.agg c'.toArray) ∧ HT w' (New G w w') a c' ∧ Keep [] w w'
theorem HT.ofL (n : Int) (s : Bs) (b : Bool) (l : List T) (u : List Tg) {w : World} {G : Nat → Prop} {vs vl vu : Value} (hs : RB w G vs s) (hl : HTs w G vl l) (hu : HGs w G vu u) (h1 : -9223372036854775808 ≤ n) (h2 : n ≤ 9223372036854775807) (h3 : s.length ≤ 9223372036854775807) (h4 : l.length ≤ 1099511627776) :
    HT w G (.mk n s b l u) [.int .i64 n, vs, .bool b, vl, vu] := by
  obtain ⟨cs, e1, e2, e3, e4⟩ := hl
  exact .mk n s b l u vs vl vu cs hs ⟨h1, h2, h3, Nat.le_trans h4 (by decide)⟩ e1 e2 e4 hu
theorem giv_end {b B B' E E' : Nat} {G : Nat → Prop} {w W3 WL wr ws : World} {a : T} {vs vl vu : Value} (hG : There G w) (hs : RB w G vs a.s) (hb : w.heap.size ≤ b) (hbW : b < W3.heap.size) (hWB : W3.heap.size ≤ B) (hBB : B ≤ B') (hBL : W3.heap.size ≤ WL.heap.size) (K3 : Keep [] w W3) (kL : Keep [b] W3 WL) (kr : Keep [b] WL wr)
    (hOT : OT WL B E (New G W3 WL) vl a.l) (hOG : OG wr B' E' (New G WL wr) vu a.u) (h1 : -9223372036854775808 ≤ a.n) (h2 : a.n ≤ 9223372036854775807) (h3 : a.s.length ≤ 9223372036854775807) (h4 : a.l.length ≤ 1099511627776)
    (hws : SameOn (fun k => (G k ∨ W3.heap.size ≤ k) ∧ k < wr.heap.size) wr ws) (hsz : wr.heap.size ≤ ws.heap.size) : HT ws (New G w ws) a [.int .i64 a.n, vs, .bool a.null, vl, vu] := by
  have z1 := K3.size
  have z2 := kL.size
  have z3 := kr.size
  have hs' : RB ws (New G w ws) vs a.s := hs.keepF (fun k hk => (hws k ⟨.inl hk, by have := hG k hk; omega⟩).trans (((K3.weaken (by simp)).trans (kL.trans kr)).block k (hG k hk) (by have := hG k hk; simp; omega))) fun k hk => ⟨.inl hk, by have := hG k hk; omega⟩
  have hl' : HTs ws (New G w ws) vl a.l := (hOT.hts (G' := New G W3 WL) (fun _ h => h) (fun k h1 h2 => ⟨.inr (by omega), h2⟩)).keepF (fun k hk => (hws k ⟨hk.1, by have := hk.2; omega⟩).trans (kr.block k hk.2 (by
      rcases hk.1 with h | h
      · have := hG k h; simp; omega
      · simp; omega))) fun k hk => ⟨hk.1.imp id (fun h => by omega), by have := hk.2; omega⟩
  have hu' : HGs ws (New G w ws) vu a.u := (hOG.hgs (G' := New G W3 wr) (fun k h => ⟨h.1.imp id (fun h => by omega), h.2⟩) (fun k h1 h2 => ⟨.inr (by omega), h2⟩)).keepF (fun k hk => hws k hk) fun k hk => ⟨hk.1.imp id (fun h => by omega), by have := hk.2; omega⟩
  obtain ⟨n, s, b, l, u⟩ := a
  exact HT.ofL n s b l u hs' hl' hu' h1 h2 h3 h4
mutual
/-- a tree's lists are short -/
def slim : T → Prop
  | .mk _ _ _ l u => l.length ≤ 1000000 ∧ u.length ≤ 1000000 ∧ slims l
def slims : List T → Prop
  | [] => True
  | t :: r => slim t ∧ slims r
end
theorem slim_parts {a : T} (h : slim a) : a.l.length ≤ 1000000 ∧ a.u.length ≤ 1000000 ∧ slims a.l := by
  cases a
  exact h
set_option maxHeartbeats 1000000 in
set_option maxRecDepth 100000 in
theorem giv_step {a : T} (hsm : slim a) (hx : ∀ x ∈ a.l, GivSaid x) : GivSaid a := by
  intro G c w ha hG
  obtain ⟨hn4, hub, -⟩ := slim_parts hsm
  clear hsm
  obtain ⟨az, ps, al, pl, au, pu, rfl, hs, hl, hu, hn1, hn2, hn3, -⟩ := ha.cells
  obtain ⟨i0, hi, hz0, hz1, hz2⟩ := info_agg info_vt zero_vt
  obtain ⟨j0, hj, hy0, hy1, hy2⟩ := info_agg info_vg zero_vg
  go_enter Try.func14, Try.ntmps14
  go_wp2_with fail
  have K3 : Keep [] w (((w.alloc (.cells #[.int .i64 a.n, .slice az a.s.length ps, .bool a.null, .slice al a.l.length pl, .slice au a.u.length pu] 26)).alloc (.cells #[.int .i64 0, .slice none 0 0, .bool false, .slice none 0 0, .slice none 0 0] 39)).alloc (.cells #[.int .i64 a.n, .slice az a.s.length ps, .bool a.null, .slice none 0 0, .slice none 0 0] 39)) := ((keep_box _).alloc _).alloc _
  have s3 : (((w.alloc (.cells #[.int .i64 a.n, .slice az a.s.length ps, .bool a.null, .slice al a.l.length pl, .slice au a.u.length pu] 26)).alloc (.cells #[.int .i64 0, .slice none 0 0, .bool false, .slice none 0 0, .slice none 0 0] 39)).alloc (.cells #[.int .i64 a.n, .slice az a.s.length ps, .bool a.null, .slice none 0 0, .slice none 0 0] 39)).heap.size = w.heap.size + 1 + 1 + 1 := by simp
  have hb0 : (((w.alloc (.cells #[.int .i64 a.n, .slice az a.s.length ps, .bool a.null, .slice al a.l.length pl, .slice au a.u.length pu] 26)).alloc (.cells #[.int .i64 0, .slice none 0 0, .bool false, .slice none 0 0, .slice none 0 0] 39)).alloc (.cells #[.int .i64 a.n, .slice az a.s.length ps, .bool a.null, .slice none 0 0, .slice none 0 0] 39)).heap[w.heap.size + 1 + 1]? = some (.cells #[.int .i64 a.n, .slice az a.s.length ps, .bool a.null, .slice none 0 0, .slice none 0 0] 39 (0, 0)) := by
    have h := heap_alloc_new ((w.alloc (.cells #[.int .i64 a.n, .slice az a.s.length ps, .bool a.null, .slice al a.l.length pl, .slice au a.u.length pu] 26)).alloc (.cells #[.int .i64 0, .slice none 0 0, .bool false, .slice none 0 0, .slice none 0 0] 39)) (.cells #[.int .i64 a.n, .slice az a.s.length ps, .bool a.null, .slice none 0 0, .slice none 0 0] 39)
    simpa using h
  have hb1 : (((w.alloc (.cells #[.int .i64 a.n, .slice az a.s.length ps, .bool a.null, .slice al a.l.length pl, .slice au a.u.length pu] 26)).alloc (.cells #[.int .i64 0, .slice none 0 0, .bool false, .slice none 0 0, .slice none 0 0] 39)).alloc (.cells #[.int .i64 a.n, .slice az a.s.length ps, .bool a.null, .slice none 0 0, .slice none 0 0] 39)).heap[w.heap.size]? = some (.cells #[.int .i64 a.n, .slice az a.s.length ps, .bool a.null, .slice al a.l.length pl, .slice au a.u.length pu] 26) := (twoBoxes (keep_box (A := []) (.cells #[.int .i64 a.n, .slice az a.s.length ps, .bool a.null, .slice none 0 0, .slice none 0 0] 39))).1
  have hb2 : (((w.alloc (.cells #[.int .i64 a.n, .slice az a.s.length ps, .bool a.null, .slice al a.l.length pl, .slice au a.u.length pu] 26)).alloc (.cells #[.int .i64 0, .slice none 0 0, .bool false, .slice none 0 0, .slice none 0 0] 39)).alloc (.cells #[.int .i64 a.n, .slice az a.s.length ps, .bool a.null, .slice none 0 0, .slice none 0 0] 39)).heap[w.heap.size + 1]? = some (.cells #[.int .i64 0, .slice none 0 0, .bool false, .slice none 0 0, .slice none 0 0] 39) := (twoBoxes (keep_box (A := []) (.cells #[.int .i64 a.n, .slice az a.s.length ps, .bool a.null, .slice none 0 0, .slice none 0 0] 39))).2
  generalize hW3 : (((w.alloc (.cells #[.int .i64 a.n, .slice az a.s.length ps, .bool a.null, .slice al a.l.length pl, .slice au a.u.length pu] 26)).alloc (.cells #[.int .i64 0, .slice none 0 0, .bool false, .slice none 0 0, .slice none 0 0] 39)).alloc (.cells #[.int .i64 a.n, .slice az a.s.length ps, .bool a.null, .slice none 0 0, .slice none 0 0] 39)) = W3 at *
  clear hW3
  have HB1 : Hid _ := hb1
  have HB2 : Hid _ := hb2
  have HS3 : Hid _ := s3
  have hs3 : w.heap.size + 3 ≤ W3.heap.size := by omega
  have hs3' : W3.heap.size ≤ w.heap.size + 3 := by omega
  clear hb1 hb2 s3
  go_loopw [18] (fun k wr => ∃ n : Nat, n ≤ a.l.length ∧ k = .int .i64 n ∧ ∃ v, wr.heap[w.heap.size + 1 + 1]? = some (.cells #[.int .i64 a.n, .slice az a.s.length ps, .bool a.null, v, .slice none 0 0] 39 (0, 0)) ∧ OT wr (w.heap.size + 3) 39 (New G W3 wr) v (a.l.take n) ∧ Keep [w.heap.size + 1 + 1] W3 wr) (fun k _ => a.l.length - (intOf k).toNat)
  case atStart => exact ⟨0, Nat.zero_le _, rfl, _, hb0, by simpa using OT.nil _ _ _ _, Keep.refl _ _⟩
  case round =>
    obtain ⟨n, hn, rfl, v, hout, hOT, hkeep⟩ := hrel
    have hk : Keep [w.heap.size + 1 + 1] w wr := (K3.weaken (by simp)).trans hkeep
    have hsame : SameOn G w wr := sameOn_of hk hG (fun k hk' => by have := hG k hk'; simp; omega)
    have hGr : There G wr := fun k hk' => Nat.lt_of_lt_of_le (hG k hk') hk.size
    have hsz := hk.size
    have hsz3 := hkeep.size
    have z3 : wr.cell? ⟨w.heap.size + 1 + 1, 3, none⟩ = some v := cellOf hout 3 _ rfl
    have f3 : wr.frozen? ⟨w.heap.size + 1 + 1, 3, none⟩ = false := freeOf hout 3
    have hbt : w.heap.size + 1 + 1 < wr.heap.size := by omega
    have HOUT : Hid _ := hout
    clear hout hb0
    by_cases hlt : n < a.l.length
    · obtain ⟨bx, ox, cx, rfl, hGx, hcx, hcell⟩ := (hl.keepF hsame (fun _ h => h)).cells hlt
      have GS := fun W (hW : Keep [] wr W) => hx _ (List.getElem_mem hlt) G _ W (hcx.keepF (hGr.same hW) (fun _ h => h)) (hGr.keep hW)
      obtain ⟨az3, ps3, al3, pl3, au3, pu3, rfl, _⟩ := hcx.cells
      have hbl := hGr bx hGx
      have c0 : wr.cell? ⟨bx, ox + n * 5, none⟩ = some _ := hcell 0 (by simp)
      have c1 : wr.cell? ⟨bx, ox + n * 5 + 1, none⟩ = some _ := hcell 1 (by simp)
      have c2 : wr.cell? ⟨bx, ox + n * 5 + 2, none⟩ = some _ := hcell 2 (by simp)
      have c3 : wr.cell? ⟨bx, ox + n * 5 + 3, none⟩ = some _ := hcell 3 (by simp)
      have c4 : wr.cell? ⟨bx, ox + n * 5 + 4, none⟩ = some _ := hcell 4 (by simp)
      simp only [List.getElem_cons_zero, List.getElem_cons_succ] at c0 c1 c2 c3 c4
      clear hcell hcx
      generalize hxn : a.l[n] = x at *
      have HXN : Hid (a.l[n] = x) := hxn
      clear hxn
      go_wp2_with fail
      clear c0 c1 c2 c3 c4
      have hlen : (a.l.take n).length = n := by simp; omega
      have HLEN : Hid _ := hlen
      clear hlen
      go_region_law (first
        | (refine step_call (by rfl) 14 #[.tmp 24] #[26] (by rfl) #[.agg #[.int .i64 x.n, .slice az3 x.s.length ps3, .bool x.null, .slice al3 x.l.length pl3, .slice au3 x.u.length pu3]] (by simp [go_sem]) _ (by rfl) giv_body giv_name (GS _ ((keep_box _).drew)) ?_; rintro e w2 ⟨c', rfl, hc', k2⟩; refine ⟨_, rfl, ?_⟩; obtain ⟨az5, ps5, al5, pl5, au5, pu5, rfl, _⟩ := id hc'.cells; have kx : Keep [] wr w2 := (keep_box _).drew.trans k2; have y3 := kx.cs z3; have hs2 := kx.size; have hs2' := k2.size; have hlt2 : w.heap.size + 1 + 1 < w2.heap.size := (by omega); have y4 := (kx.frozen (p := ⟨w.heap.size + 1 + 1, 3, none⟩) hbt).trans f3)
        | (obtain ⟨cs, e1, e2, e3, e4⟩ := hOT.keepF (w' := w2.alloc (.cells #[.int .i64 x.n, .slice az5 x.s.length ps5, .bool x.null, .slice al5 x.l.length pl5, .slice au5 x.u.length pu5] 39)) (G' := New G W3 (w2.alloc (.cells #[.int .i64 x.n, .slice az5 x.s.length ps5, .bool x.null, .slice al5 x.l.length pl5, .slice au5 x.u.length pu5] 39))) (fun k hk' => (kx.alloc _).block k hk'.2 (by simp)) (fun k hk' => ⟨hk'.1, by simp; have := hk'.2; omega⟩) (fun k e => by obtain ⟨xs, hr⟩ := hOT.row; have := hr.lt k e; exact (kx.alloc _).block k this.2 (by simp)); refine step_append_lies _ (by rfl) (.tmp 23) (.tmp 26) _ (by rfl) (w.heap.size + 3) 39 i0 _ 5 88 Try.underlying36 hi hz0 hz1 hz2 rfl (by omega) v _ cs.flatten (by rfl) e4 ⟨w2.heap.size, 0, none⟩ 1 1 [.int .i64 x.n, .slice az5 x.s.length ps5, .bool x.null, .slice al5 x.l.length pl5, .slice au5 x.u.length pu5] (by rfl) (by rfl) (World.news_of_block (cs := #[.int .i64 x.n, .slice az5 x.s.length ps5, .bool x.null, .slice al5 x.l.length pl5, .slice au5 x.u.length pu5]) (heap_alloc_new w2 _)) hc'.one (by omega) (by unfold maxLen; rw [HLEN.out]; omega) (by rw [HLEN.out]; omega) (by simp; omega) (w2.heap.size + 1) (by simp) ?_; intro g cap w3 hown1 hgr hat hlt3; have nb := hOT.off (k := w.heap.size + 1 + 1) (by omega); have x1 := hgr.block (w.heap.size + 1 + 1) (by simp; omega) nb; have x2 := (kx.alloc (.cells #[.int .i64 x.n, .slice az5 x.s.length ps5, .bool x.null, .slice al5 x.l.length pl5, .slice au5 x.u.length pu5] 39)).block _ hbt List.not_mem_nil; have x3 := (x1.trans x2).trans HOUT.out; have z5 := cellOf x3 3 _ rfl; have f5 := freeOf x3 3; clear x1 x2))
      all_goals (go_wp2; go_roundw; (case rel => (refine ⟨n + 1, by omega, by go_num, _, heap_set x3 _, ?_⟩; obtain ⟨xs0, hrow0⟩ := hOT.row; have hG3 := got_round (i := 3) (u := .slice (some ⟨g, 0, none⟩) (n + 1) cap) hG (by omega) (by omega) (by omega) hkeep kx hrow0 hc' e1 e2 (by rw [HLEN.out]; omega) hown1 hgr hat; rw [HLEN.out] at hG3; rw [List.take_succ_eq_append_getElem hlt, HXN.out]; exact hG3)); (case measure => (simp [intOf]; omega)))
    · have hnl : a.l.take n = a.l := List.take_of_length_le (by omega)
      rw [hnl] at hOT
      have HOT : Hid _ := hOT
      have h4u : wr.cell? ⟨w.heap.size, 4, none⟩ = some (.slice au a.u.length pu) := cellOf ((hkeep.block w.heap.size (by omega) (by simp; omega)).trans HB1.out) 4 _ rfl
      clear z3 f3 hOT
      go_wp2_with fail
      clear h4u hlt hnl
      have HK : Hid _ := hkeep
      clear hkeep hk hsame
      generalize hWL : wr = WL at *
      clear hWL
      go_loopw [33] (fun k wr => ∃ n : Nat, n ≤ a.u.length ∧ k = .int .i64 n ∧ ∃ u, wr.heap[w.heap.size + 1 + 1]? = some (.cells #[.int .i64 a.n, .slice az a.s.length ps, .bool a.null, v, u] 39 (0, 0)) ∧ OG wr WL.heap.size 62 (New G WL wr) u (a.u.take n) ∧ Keep [w.heap.size + 1 + 1] WL wr) (fun k _ => a.u.length - (intOf k).toNat)
      case atStart => exact ⟨0, Nat.zero_le _, rfl, _, HOUT.out, by simpa using OG.nil _ _ _ _, Keep.refl _ _⟩
      case round =>
        obtain ⟨m, hm, rfl, u, hout, hOG, hkeep⟩ := hrel
        have hkL : Keep [w.heap.size + 1 + 1] w WL := (K3.weaken (by simp)).trans HK.out
        have hk := hkL.trans hkeep
        have hsame : SameOn G w wr := sameOn_of hk hG (fun k hk' => by have := hG k hk'; simp; omega)
        have hsz' := hkeep.size
        have z3 : wr.cell? ⟨w.heap.size + 1 + 1, 4, none⟩ = some u := cellOf hout 4 _ rfl
        have f3 : wr.frozen? ⟨w.heap.size + 1 + 1, 4, none⟩ = false := freeOf hout 4
        have hbt' : w.heap.size + 1 + 1 < wr.heap.size := by omega
        by_cases hlt : m < a.u.length
        · have HOUT2 : Hid _ := hout
          obtain ⟨bx, ox, av, pv, rfl, hGx, c0, c1, hb1, hbl⟩ := (hu.keepF hsame (fun _ h => h)).elem hlt
          have hx1 := hu.num (List.getElem_mem hlt)
          have hbl3 : bx < wr.heap.size := by have := hG bx hGx; omega
          clear hout
          generalize hxn : a.u[m] = x at *
          have HXN : Hid (a.u[m] = x) := hxn
          clear hxn
          have hlen : (a.u.take m).length = m := by simp; omega
          have HLEN : Hid _ := hlen
          clear hlen
          have kx : Keep [] wr ((wr.alloc (.cells #[.int .u32 (x.1 : Int), .slice av x.2.length pv] 61)).alloc (.cells #[.int .u32 (x.1 : Int), .slice av x.2.length pv] 62)) := ((Keep.refl _ _).alloc _).alloc _
          have hnb : ((wr.alloc (.cells #[.int .u32 (x.1 : Int), .slice av x.2.length pv] 61)).alloc (.cells #[.int .u32 (x.1 : Int), .slice av x.2.length pv] 62)).heap[wr.heap.size + 1]? = some (.cells #[.int .u32 (x.1 : Int), .slice av x.2.length pv] 62 (0, 0)) := by
            have h := heap_alloc_new (wr.alloc (.cells #[.int .u32 (x.1 : Int), .slice av x.2.length pv] 61)) (.cells #[.int .u32 (x.1 : Int), .slice av x.2.length pv] 62)
            simpa using h
          have HNB : Hid _ := hnb
          clear hnb
          obtain ⟨cs, e1, e2, e3, e6, e4⟩ := hOG.keepF (w' := ((wr.alloc (.cells #[.int .u32 (x.1 : Int), .slice av x.2.length pv] 61)).alloc (.cells #[.int .u32 (x.1 : Int), .slice av x.2.length pv] 62))) (G' := New G WL ((wr.alloc (.cells #[.int .u32 (x.1 : Int), .slice av x.2.length pv] 61)).alloc (.cells #[.int .u32 (x.1 : Int), .slice av x.2.length pv] 62))) (fun k hk' => kx.block k hk'.2 (by simp)) (fun k hk' => ⟨hk'.1, by simp; have := hk'.2; omega⟩) (fun k e => by obtain ⟨xs, hr⟩ := hOG.row; have := hr.lt k e; exact kx.block k this.2 (by simp))
          have E1 : Hid _ := e1
          clear e1
          go_wp2_with (at_builtin; go_loud (refine wpList_append_lies _ rfl (.tmp 38) (.tmp 44) _ (by rfl) WL.heap.size 62 j0 _ 2 32 Try.underlying37 hj hy0 hy1 hy2 rfl (by omega) u _ _ (by rfl) e4 ⟨wr.heap.size + 1, 0, none⟩ 1 1 [.int .u32 (x.1 : Int), .slice av x.2.length pv] (by rfl) (by rfl) (World.news_of_block (cs := #[.int .u32 (x.1 : Int), .slice av x.2.length pv]) HNB.out) (by intro y hy; simp at hy; rcases hy with rfl | rfl <;> rfl) (by omega) (by unfold maxLen; rw [HLEN.out]; omega) (by rw [HLEN.out]; omega) (by simp; omega) (wr.heap.size + 1 + 1) (by simp) ?_); intro g cap w3 hown1 hgr hat hlt3; have nb := hOG.off (k := w.heap.size + 1 + 1) (by omega); have x1 := hgr.block (w.heap.size + 1 + 1) (by simp; omega) nb; have x2 := kx.block _ hbt' List.not_mem_nil; have x3 := (x1.trans x2).trans HOUT2.out; have z5 := cellOf x3 4 _ rfl; have f5 := freeOf x3 4; clear x1 x2)
          go_roundw
          case rel =>
            refine ⟨m + 1, by omega, by go_num, _, heap_set x3 _, ?_⟩
            obtain ⟨xs0, hrow0⟩ := hOG.row
            have hG3 := got_round2 (i := 4) (u := .slice (some ⟨g, 0, none⟩) (m + 1) cap) (x := x) (vx := .slice av x.2.length pv) (l := a.u.take m) (g := g) (cap := cap) hG (by omega) (by omega) (Nat.le_refl _) hkeep kx hb1 hx1 (fun k e => (hrow0.lt k e.symm).1) E1.out e2 e3 (by rw [HLEN.out]; omega) (by rw [HLEN.out] at hown1 ⊢; exact hown1) hgr (by simpa using hat)
            rw [HLEN.out] at hG3
            rw [List.take_succ_eq_append_getElem hlt, HXN.out]
            exact hG3
          case measure => simp [intOf]; omega
        · have hnl : a.u.take m = a.u := List.take_of_length_le (by omega)
          rw [hnl] at hOG
          have h0 : wr.cell? ⟨w.heap.size + 1 + 1, 0, none⟩ = some (.int .i64 a.n) := cellOf hout 0 _ rfl
          have h1 : wr.cell? ⟨w.heap.size + 1 + 1, 1, none⟩ = some (.slice az a.s.length ps) := cellOf hout 1 _ rfl
          have h2 : wr.cell? ⟨w.heap.size + 1 + 1, 2, none⟩ = some (.bool a.null) := cellOf hout 2 _ rfl
          have h3 : wr.cell? ⟨w.heap.size + 1 + 1, 3, none⟩ = some v := cellOf hout 3 _ rfl
          have hq := (hkeep.block (w.heap.size + 1) (by omega) (by simp)).trans ((HK.out.block (w.heap.size + 1) (by omega) (by simp)).trans HB2.out)
          have q0 : wr.cell? ⟨w.heap.size + 1, 0, none⟩ = some (.int .i64 0) := cellOf hq 0 _ rfl
          have q1 : wr.cell? ⟨w.heap.size + 1, 1, none⟩ = some (.slice none 0 0) := cellOf hq 1 _ rfl
          have q2 : wr.cell? ⟨w.heap.size + 1, 2, none⟩ = some (.bool false) := cellOf hq 2 _ rfl
          have q3 : wr.cell? ⟨w.heap.size + 1, 3, none⟩ = some (.slice none 0 0) := cellOf hq 3 _ rfl
          have q4 : wr.cell? ⟨w.heap.size + 1, 4, none⟩ = some (.slice none 0 0) := cellOf hq 4 _ rfl
          have p0 := freeOf hq 0
          have p1 := freeOf hq 1
          have p2 := freeOf hq 2
          have p3 := freeOf hq 3
          have p4 := freeOf hq 4
          have HQ : Hid _ := hq
          clear hnl hout hq
          obtain ⟨xs2, hr2⟩ := OT.row HOT.out
          obtain ⟨ao1, cp1, rfl⟩ := owns_shape hr2
          obtain ⟨xs3, hr3⟩ := hOG.row
          obtain ⟨ao2, cp2, rfl⟩ := owns_shape hr3
          clear hr2 hr3
          go_wp2_with fail
          have kq : Keep [w.heap.size + 1] wr (((((wr.setCell ⟨w.heap.size + 1, 0, none⟩ (.int .i64 a.n)).setCell ⟨w.heap.size + 1, 1, none⟩ (.slice az a.s.length ps)).setCell ⟨w.heap.size + 1, 2, none⟩ (.bool a.null)).setCell ⟨w.heap.size + 1, 3, none⟩ (.slice ao1 a.l.length cp1)).setCell ⟨w.heap.size + 1, 4, none⟩ (.slice ao2 a.u.length cp2)) := (((((Keep.refl _ _).setCell (.inl (by simp)) _).setCell (.inl (by simp)) _).setCell (.inl (by simp)) _).setCell (.inl (by simp)) _).setCell (.inl (by simp)) _
          have hq5 := heap_set (i := 4) (heap_set (i := 3) (heap_set (i := 2) (heap_set (i := 1) (heap_set (i := 0) HQ.out (.int .i64 a.n)) (.slice az a.s.length ps)) (.bool a.null)) (.slice ao1 a.l.length cp1)) (.slice ao2 a.u.length cp2)
          clear q0 q1 q2 q3 q4 p0 p1 p2 p3 p4 h0 h1 h2 h3
          generalize (((((wr.setCell ⟨w.heap.size + 1, 0, none⟩ (.int .i64 a.n)).setCell ⟨w.heap.size + 1, 1, none⟩ (.slice az a.s.length ps)).setCell ⟨w.heap.size + 1, 2, none⟩ (.bool a.null)).setCell ⟨w.heap.size + 1, 3, none⟩ (.slice ao1 a.l.length cp1)).setCell ⟨w.heap.size + 1, 4, none⟩ (.slice ao2 a.u.length cp2)) = ws at *
          have r0 : ws.cell? ⟨w.heap.size + 1, 0, none⟩ = some (.int .i64 a.n) := cellOf hq5 0 _ rfl
          have r1 : ws.cell? ⟨w.heap.size + 1, 1, none⟩ = some (.slice az a.s.length ps) := cellOf hq5 1 _ rfl
          have r2 : ws.cell? ⟨w.heap.size + 1, 2, none⟩ = some (.bool a.null) := cellOf hq5 2 _ rfl
          have r3 : ws.cell? ⟨w.heap.size + 1, 3, none⟩ = some (.slice ao1 a.l.length cp1) := cellOf hq5 3 _ rfl
          have r4 : ws.cell? ⟨w.heap.size + 1, 4, none⟩ = some (.slice ao2 a.u.length cp2) := cellOf hq5 4 _ rfl
          clear hq5
          have hL := HK.out.size
          refine bodyPost_ret (v := .agg #[.int .i64 a.n, .slice az a.s.length ps, .bool a.null, .slice ao1 a.l.length cp1, .slice ao2 a.u.length cp2]) (by simp [results, Try.results14, go_sem, r0, r1, r2, r3, r4]) rfl ⟨[.int .i64 a.n, .slice az a.s.length ps, .bool a.null, .slice ao1 a.l.length cp1, .slice ao2 a.u.length cp2], rfl, giv_end hG hs (by omega) (by omega) (by omega) (by omega) (by omega) K3 HK.out hkeep HOT.out hOG hn1 hn2 hn3 (by omega) (fun k hk' => ?_) kq.size, ?_⟩
          · refine kq.block k hk'.2 ?_
            rcases hk'.1 with h | h
            · have := hG k h; simp; omega
            · simp; omega
          · exact ((hk.weaken (B := [w.heap.size + 1 + 1, w.heap.size + 1]) (by simp)).trans (kq.weaken (by simp))).fresh (by simp; omega)

mutual
theorem givSaid : ∀ a, slim a → GivSaid a
  | .mk n s b l u, h => giv_step (a := .mk n s b l u) h (givSaids l h.2.2)
theorem givSaids : ∀ (l : List T), slims l → ∀ x ∈ l, GivSaid x
  | [], _, _, h => absurd h (by simp)
  | y :: r, hs, x, h => by
    rcases List.mem_cons.1 h with e | h'
    · rw [e]; exact givSaid y hs.1
    · exact givSaids r hs.2 x h'
end
end Go.Proofs.Ytidebamgmbdnaaa
