/-
  laws.zzFits1, zzFits2, zzFits3: of trees that hold nothing too long they are true.
-/
import Derived.Test.YtdklogmmfnddiaaDoorMB2
import Derived.Test.YtdklogmmfnddiaaDoorMB14
import Derived.Test.YtdklogmmfnddiaaDoorMB17
import Derived.Test.YtdklogmmfnddiaaDoorMB1
import Derived.Test.YtdklogmmfnddiaaDoorMB13
import Derived.Test.YtdklogmmfnddiaaDoorMB3
import Derived.Deep.CutBlock
import Derived.ChangeSlices
import Derived.ChangeArms
import Derived.DataReads
import Derived.Test.YtdklogmmfnddiaaDoorRows
namespace Go.Proofs.YtdklogmmfnddiaaDoor
open Go.ChangeShapes Go.WideShapes Go.ChangeAt Go.RowKit

theorem fits3_any {k : Int} {av : Option Addr} {n pv : Nat} {w : World} (hn : n ≤ 2147483647) :
    Calls Tryd.prog 40 #[.agg #[.int .u32 k, .slice av n pv]] w fun e w' => e = .returned (.bool true) ∧ Keep [] w w' := by
  go_enter Tryd.func40, Tryd.ntmps40
  go_wp2
  go_ret
  exact ⟨rfl, (Keep.refl _ _).alloc _⟩
set_option maxHeartbeats 400000 in
theorem fits2_any {G : Nat → Prop} {v : Value} {u : List Tg} {w : World} (hu : HGs w G v u) (hG : There G w) (h1 : u.length ≤ 2147483647) (h2 : ∀ x ∈ u, x.2.length ≤ 2147483647) :
    Calls Tryd.prog 18 #[v] w fun e w' => e = .returned (.bool true) ∧ Keep [] w w' := by
  obtain ⟨au, pu, rfl⟩ := hu.shape
  go_enter Tryd.func18, Tryd.ntmps18
  go_wp2_with fail
  go_loopw [10] (fun k wr => ∃ n : Nat, n ≤ u.length ∧ k = .int .i64 n ∧ Keep [] w wr) (fun k _ => u.length - (intOf k).toNat)
  case atStart => exact ⟨0, Nat.zero_le _, rfl, Keep.refl _ _⟩
  case round =>
    obtain ⟨n, hn, rfl, hkeep⟩ := hrel
    by_cases hlt : n < u.length
    · obtain ⟨b, o, av, pv, rfl, hGb, c0, c1, -, -⟩ := (hu.keepF (hG.same hkeep) (fun _ h => h)).elem hlt
      have hx := h2 _ (List.getElem_mem hlt)
      have F3 := fun W k => fits3_any (k := k) (av := av) (pv := pv) (w := W) hx
      have hbw : b < wr.heap.size := hG.keep hkeep b hGb
      go_wp2_with (go_at_call 40; refine (F3 _ _).mono ?_; rintro e w1 ⟨rfl, k1⟩)
      go_roundw
      case rel => exact ⟨n + 1, by omega, by go_num, hkeep.trans ((keep_box _).trans k1)⟩
      case measure => simp [intOf]; omega
    · go_wp2
      go_ret
      exact ⟨rfl, hkeep⟩
/-- nothing in the tree's own row is too long -/
structure T.Fits (t : T) : Prop where
  s : t.s.length ≤ 2147483647
  l : t.l.length ≤ 2147483647
  u : t.u.length ≤ 2147483647
  v : ∀ x ∈ t.u, x.2.length ≤ 2147483647
theorem fits1_any {G : Nat → Prop} {t : T} {c : List Value} {w : World} (ht : HT w G t c) (hG : There G w) (hf : t.Fits) :
    Calls Tryd.prog 5 #[.agg c.toArray] w fun e w' => e = .returned (.bool true) ∧ Keep [] w w' := by
  obtain ⟨az, ps, al, pl, au, pu, rfl, hs, hl, hu, hn1, hn2, hn3, hn4⟩ := ht.cells
  obtain ⟨f1, f2, f3, f4⟩ := hf
  have F2 := fun W (hW : Keep [] w W) => fits2_any (hu.keepF (hG.same hW) (fun _ h => h)) (hG.keep hW) f3 f4
  clear ht hs hl hu
  go_enter Tryd.func5, Tryd.ntmps5
  go_wp2_with (go_at_call 18; refine (F2 _ (keep_box _)).mono ?_; rintro e w1 ⟨rfl, k1⟩)
  go_ret
  exact ⟨rfl, (keep_box _).trans k1⟩
/-! of any value: they answer, and leave all alone -/
theorem fits3_some {k : Int} {av : Option Addr} {n pv : Nat} {w : World} :
    Calls Tryd.prog 40 #[.agg #[.int .u32 k, .slice av n pv]] w fun e w' => ∃ x, e = .returned (.bool x) ∧ Keep [] w w' := by
  by_cases hn : n ≤ 2147483647
  · exact (fits3_any hn).mono fun e w' h => ⟨true, h⟩
  go_enter Tryd.func40, Tryd.ntmps40
  go_wp2
  go_ret
  exact ⟨false, rfl, (Keep.refl _ _).alloc _⟩
set_option maxHeartbeats 400000 in
theorem fits2_some {G : Nat → Prop} {v : Value} {u : List Tg} {w : World} (hu : HGs w G v u) (hG : There G w) :
    Calls Tryd.prog 18 #[v] w fun e w' => ∃ x, e = .returned (.bool x) ∧ Keep [] w w' := by
  obtain ⟨au, pu, rfl⟩ := hu.shape
  go_enter Tryd.func18, Tryd.ntmps18
  by_cases h1 : u.length ≤ 2147483647
  · go_wp2_with fail
    go_loopw [10] (fun k wr => ∃ n : Nat, n ≤ u.length ∧ k = .int .i64 n ∧ Keep [] w wr) (fun k _ => u.length - (intOf k).toNat)
    case atStart => exact ⟨0, Nat.zero_le _, rfl, Keep.refl _ _⟩
    case round =>
      obtain ⟨n, hn, rfl, hkeep⟩ := hrel
      by_cases hlt : n < u.length
      · obtain ⟨b, o, av, pv, rfl, hGb, c0, c1, -, -⟩ := (hu.keepF (hG.same hkeep) (fun _ h => h)).elem hlt
        have F3 := fun W k n => fits3_some (k := k) (av := av) (n := n) (pv := pv) (w := W)
        have hbw : b < wr.heap.size := hG.keep hkeep b hGb
        go_wp2_with (go_at_call 40; refine (F3 _ _ _).mono ?_; rintro e w1 ⟨x, rfl, k1⟩; cases x)
        · go_ret
          exact ⟨false, rfl, hkeep.trans ((keep_box _).trans k1)⟩
        · go_roundw
          case rel => exact ⟨n + 1, by omega, by go_num, hkeep.trans ((keep_box _).trans k1)⟩
          case measure => simp [intOf]; omega
      · go_wp2
        go_ret
        exact ⟨true, rfl, hkeep⟩
  · go_wp2_with fail
    go_ret
    exact ⟨false, rfl, Keep.refl _ _⟩
theorem fits1_some {G : Nat → Prop} {t : T} {c : List Value} {w : World} (ht : HT w G t c) (hG : There G w) :
    Calls Tryd.prog 5 #[.agg c.toArray] w fun e w' => ∃ x, e = .returned (.bool x) ∧ Keep [] w w' := by
  obtain ⟨az, ps, al, pl, au, pu, rfl, hs, hl, hu, hn1, hn2, hn3, hn4⟩ := ht.cells
  have F2 := fun W (hW : Keep [] w W) => fits2_some (hu.keepF (hG.same hW) (fun _ h => h)) (hG.keep hW)
  clear ht hs hl hu
  go_enter Tryd.func5, Tryd.ntmps5
  by_cases f1 : t.s.length ≤ 2147483647
  · by_cases f2 : t.l.length ≤ 2147483647
    · go_wp2_with (go_at_call 18; refine (F2 _ (keep_box _)).mono ?_; rintro e w1 ⟨x, rfl, k1⟩; cases x)
      · go_ret
        exact ⟨false, rfl, (keep_box _).trans k1⟩
      · go_ret
        exact ⟨true, rfl, (keep_box _).trans k1⟩
    · go_wp2_with fail
      go_ret
      exact ⟨false, rfl, keep_box _⟩
  · go_wp2_with fail
    go_ret
    exact ⟨false, rfl, keep_box _⟩
end Go.Proofs.YtdklogmmfnddiaaDoor
/-
  What the Behind laws share: a message that was read, seen from behind another call; how small what is told is; how long what is written is.
-/
namespace Go.Proofs.YtdklogmmfnddiaaDoor
open Go.ChangeShapes Go.WideShapes Go.ChangeAt Go.RowKit

theorem Keep.andBelow {a b c : World} (h : Keep [] a b) (k : Below a.heap.size b c) : Keep [] a c :=
  ⟨k.os.trans h.os, k.tape.trans h.tape, k.output.trans h.output, Nat.le_trans h.size k.size, fun i hi _ => (k.block i hi).trans (h.block i hi (by simp))⟩
theorem VM.seen {W W4 : World} {G : Nat → Prop} {b : Nat} {fs : List F} {ty : TypeId} {ver : Int} {t : T} (h : VM W G b fs ty ver t) (hG : ∀ k, G k → k < W.heap.size) (k : Keep [] W W4) :
    ∃ c, Pt W4 b 1 c ∧ W4.cell? ⟨b, 0, none⟩ = some (.int .i16 ver) ∧ VK W4 G 10 (-1) (VFs W4 G fs) c t := by
  obtain ⟨cs, v, l, u, h1, h2, h3, rfl⟩ := h
  have hb : W4.heap[b]? = _ := (k.block b (World.heap_lt h1) List.not_mem_nil).trans h1
  have hs : SameOn G W W4 := fun i hi => k.block i (hG i hi) List.not_mem_nil
  exact ⟨cs ++ [v], ⟨[.int .i16 ver], [], ty, by simpa using hb, rfl⟩, cellOf hb 0 _ (by simp), cs, v, l, u, rfl, VFs.keepF hs (fun _ h => h) fs h2, h3.keepF hs (fun _ h => h), rfl⟩
theorem smalls_map {N : Nat} {g : T → T} (h : ∀ x, small N (g x)) : ∀ l : List T, smalls N (l.map g)
  | [] => trivial
  | x :: r => ⟨h x, smalls_map h r⟩
theorem tdU_small (fs : List F) (u : List Tg) : ∀ x ∈ tdU fs u, x.2.length ≤ 32767 := by
  intro x hx
  unfold tdU at hx
  obtain ⟨y, hy, rfl⟩ := List.mem_map.1 hx
  simp [whole]; omega
theorem tdK_small {N : Nat} (hN : 32767 ≤ N) {kind : Int} {pt : T → T} (hp : ∀ t, small N (pt t)) (null : Bool) (t : T) : small N (tdK kind pt null t) := by
  have hw : (whole t.s).length ≤ 32767 := by simp [whole]; omega
  have h8 : small N (if null then nstrT none else .mk 0 (whole t.s) false [] []) := by
    cases null
    · exact small_plain (by omega)
    · exact small_nstr (o := none) (fun x h => by cases h)
  have h9 : small N (octT (if null then none else some (whole t.s))) := by
    cases null
    · exact small_octO (o := some _) (fun x h => by cases h; omega)
    · exact small_octO (o := none) (fun x h => by cases h)
  have hpl : ∀ n : Int, small N (.mk n [] false [] []) := fun n => small_plain (by simp)
  unfold tdK
  exact ite_p (small N) (hpl _) (ite_p (small N) (hpl _) (ite_p (small N) (hpl _) (ite_p (small N) (hpl _) (ite_p (small N) (hpl _) (ite_p (small N) (hpl _) (ite_p (small N) (hpl _) (ite_p (small N) (small_plain (by rw [pad16_length]; omega)) (ite_p (small N) h8 (ite_p (small N) h9 (ite_p (small N) (hp t) (hpl _)))))))))))
mutual
theorem tdF_small {N : Nat} (hN : 32767 ≤ N) : ∀ (f : F) (v : Int) (flex : Bool) (t : T), narrow N f → small N (tdF f v flex t)
  | .mk k a b nul tag dfl ofk sub, v, flex, t, hn => by
    have hp : ∀ t : T, small N (.mk 0 [] false (tdFs sub 0 v flex t) (if flex then tdU sub t.u else [])) := fun t => by
      refine ⟨by simp, by rw [tdFs_len]; exact hn.1, ?_, ?_, tdFs_small hN sub 0 v flex t hn.2⟩
      · cases flex
        · simp
        · have := tdU_len sub t.u; simp only [if_true]; omega
      · cases flex
        · simp
        · intro x hx
          have := tdU_small sub t.u x hx
          omega
    unfold tdF
    split
    · refine ⟨by simp, ?_, by simp, (fun x hx => by cases hx), smalls_map (tdK_small hN hp false) _⟩
      rw [List.length_map]
      split
      · simp
      · have := things_len t.l; omega
    · exact tdK_small hN hp _ t
theorem tdFs_small {N : Nat} (hN : 32767 ≤ N) : ∀ (fs : List F) (i : Nat) (v : Int) (flex : Bool) (t : T), narrows N fs → smalls N (tdFs fs i v flex t)
  | [], _, _, _, _, _ => trivial
  | f :: r, i, v, flex, t, hn => by
    refine ⟨?_, tdFs_small hN r (i + 1) v flex t hn.2⟩
    split
    · exact tdF_small hN f v flex _ hn.1
    · exact dflF_small (by omega) f hn.1
end
theorem tdPart_small {N : Nat} (hN : 32767 ≤ N) {fs : List F} (hn : narrows N fs) (hl : fs.length ≤ N) (v : Int) (flex : Bool) (t : T) : small N (tdPart fs v flex t) := by
  refine ⟨by simp, by rw [tdFs_len]; exact hl, ?_, ?_, tdFs_small hN fs 0 v flex t hn⟩
  · cases flex
    · simp
    · have := tdU_len fs t.u; simp only [if_true]; omega
  · cases flex
    · simp
    · intro x hx
      have := tdU_small fs t.u x hx
      omega
/-- fields that are neither lists nor structs -/
def flatFs : List F → Bool
  | [] => true
  | f :: r => kindOk f.kind && flatFs r
theorem countedP_short (flex null : Bool) {n size : Nat} (hn : n ≤ 32767) (hs : size ≤ 4) : (countedP flex null n size).length ≤ 10 := by
  unfold countedP
  have := uvarP_short (n := n + 1) (by omega)
  split
  · simp
  · split
    · exact this
    · split <;> rw [fixedP_len] <;> omega
theorem valueP_short {kind : Int} (hk : kindOk kind = true) (part : T → Bs) (null flex : Bool) (t : T) : (valueP kind part null flex t).length ≤ 40000 := by
  have hw : (if null = true then [] else whole t.s).length ≤ 32767 := by
    split
    · simp
    · simp [whole]; omega
  have h2 := countedP_short flex null hw (size := 2) (by omega)
  have h4 := countedP_short flex null hw (size := 4) (by omega)
  have hwd : widthP kind ≤ 8 := by unfold widthP; repeat' split
                                   all_goals omega
  simp only [kindOk, Bool.and_eq_true, decide_eq_true_eq] at hk
  unfold valueP
  split
  · simp
  · split
    · simp; omega
    · split
      · rw [List.length_append]; omega
      · split
        · rw [List.length_append]; omega
        · rw [if_neg (by omega), fixedP_len]
          omega
theorem fieldP_short {f : F} (hk : kindOk f.kind = true) (v : Int) (flex : Bool) (t : T) : (fieldP f v flex t).length ≤ 40000 := by
  have hk' := hk
  simp only [kindOk, Bool.and_eq_true, decide_eq_true_eq] at hk'
  rw [fieldP_eq]
  unfold fieldOf
  rw [if_neg (by omega), if_neg (by omega)]
  exact valueP_short hk _ _ _ _
theorem plainAt_short : ∀ (fs : List F) (i : Nat) (v : Int) (flex : Bool) (t : T), flatFs fs = true → (plainAt fs i v flex t).length ≤ 40000 * fs.length
  | [], _, _, _, _, _ => by simp [plainAt]
  | f :: r, i, v, flex, t, h => by
    simp only [flatFs, Bool.and_eq_true] at h
    have ih := plainAt_short r (i + 1) v flex t h.2
    have h1 := fieldP_short h.1 v flex (atT t i)
    simp only [plainAt, List.length_append, List.length_cons]
    split
    · omega
    · simp only [List.length_nil]; omega
theorem tags_short : ∀ (us : List Tg), (∀ x ∈ us, x.1 < 4294967296 ∧ x.2.length ≤ 32767) → ((us.map tagP).flatten).length ≤ 33000 * us.length
  | [], _ => by simp
  | x :: r, h => by
    have ih := tags_short r (fun y hy => h y (List.mem_cons_of_mem _ hy))
    have hx := h x (List.mem_cons_self ..)
    have h1 := uvarP_short (n := x.1) (by omega)
    have h2 := uvarP_short (n := x.2.length) (by omega)
    simp only [List.map_cons, List.flatten_cons, List.length_append, List.length_cons, tagP]
    omega
/-- a message without lists and structs is short, whatever the tree -/
theorem partP_flat {fs : List F} (hu : untagged fs = true) (hf : flatFs fs = true) (hl : fs.length ≤ 1000) (v : Int) (flex : Bool) {t : T} (ht : keysT t) : (partP fs v flex t).length ≤ 35990000000000 := by
  have h1 := plainAt_short fs 0 v flex t hf
  have h2 := tdU_len fs t.u
  have h3 := tags_short (tdU fs t.u) (tdU_mem ht.u)
  have h4 := uvarP_short (n := (tdU fs t.u).length) (by omega)
  rw [partP_untagged hu]
  split
  · simp only [List.length_append]; omega
  · omega
/-- the cost of a field: no tree makes it longer -/
def costF (f : F) : Nat := if f.kind = 11 then 10 + 32767 * (if f.ofk = 10 then 40000 * f.sub.length + 1082000000 else 40000) else 40000
def costFs : List F → Nat
  | [] => 0
  | f :: r => costF f + costFs r
/-- fields that are no structs; lists of what is no list and no struct, or of flat structs -/
def listFs : List F → Bool
  | [] => true
  | f :: r => (kindOk f.kind || (decide (f.kind = 11) && (kindOk f.ofk || (decide (f.ofk = 10) && flatFs f.sub && untagged f.sub)))) && listFs r
theorem flatMap_le {α : Type} {M : Nat} {g : α → Bs} : ∀ (l : List α), (∀ x ∈ l, (g x).length ≤ M) → (l.flatMap g).length ≤ M * l.length
  | [], _ => by simp
  | x :: r, h => by
    have ih := flatMap_le r fun y hy => h y (List.mem_cons_of_mem _ hy)
    have hx := h x (List.mem_cons_self ..)
    simp only [List.flatMap_cons, List.length_append, List.length_cons, Nat.mul_add]
    omega
theorem tags_all (fs : List F) {t : T} (ht : keysT t) : (uvarP (tdU fs t.u).length ++ ((tdU fs t.u).map tagP).flatten).length ≤ 1082000000 := by
  have h2 := tdU_len fs t.u
  have h3 := tags_short (tdU fs t.u) (tdU_mem ht.u)
  have h4 := uvarP_short (n := (tdU fs t.u).length) (by omega)
  rw [List.length_append]
  omega
theorem partP_row {fs : List F} (hu : untagged fs = true) (hf : flatFs fs = true) (v : Int) (flex : Bool) {t : T} (ht : keysT t) : (partP fs v flex t).length ≤ 40000 * fs.length + 1082000000 := by
  have h1 := plainAt_short fs 0 v flex t hf
  have h2 := tags_all fs ht
  rw [partP_untagged hu]
  split
  · rw [List.length_append]; omega
  · omega
theorem fieldP_cost {f : F} (hk : (kindOk f.kind || (decide (f.kind = 11) && (kindOk f.ofk || (decide (f.ofk = 10) && flatFs f.sub && untagged f.sub)))) = true) (v : Int) (flex : Bool) {t : T} (ht : keysT t) : (fieldP f v flex t).length ≤ costF f := by
  by_cases h11 : f.kind = 11
  · have hk' : kindOk f.kind = false := by rw [h11]; decide
    rw [hk'] at hk
    simp only [h11, decide_true, Bool.true_and, Bool.false_or, Bool.or_eq_true, Bool.and_eq_true, decide_eq_true_eq] at hk
    rw [fieldP_eq]
    unfold fieldOf costF
    rw [if_pos h11, if_pos h11]
    have hl : (if f.isNull v t = true then [] else things t.l).length ≤ 32767 := by
      split
      · simp
      · exact things_len t.l
    have hc := countedP_short flex (f.isNull v t) hl (size := 4) (by omega)
    have hm : ∀ x ∈ (if f.isNull v t = true then [] else things t.l), keysT x := by
      intro x hx
      split at hx
      · cases hx
      · exact ht.l x (List.mem_of_mem_take hx)
    have hfm := flatMap_le (M := if f.ofk = 10 then 40000 * f.sub.length + 1082000000 else 40000) (g := fun x => valueP f.ofk (partP f.sub v flex) false flex x) (if f.isNull v t = true then [] else things t.l) fun x hx => by
      by_cases h10 : f.ofk = 10
      · rcases hk with hk | hk
        · rw [h10] at hk; cases hk
        · have := partP_row hk.2 hk.1.2 v flex (hm x hx)
          rw [if_pos h10]
          simpa [valueP, h10] using this
      · rcases hk with hk | hk
        · rw [if_neg h10]; exact valueP_short hk _ _ _ _
        · exact absurd hk.1.1 h10
    simp only [List.length_append]
    have hmul := Nat.mul_le_mul_left (if f.ofk = 10 then 40000 * f.sub.length + 1082000000 else 40000) hl
    have hcom := Nat.mul_comm 32767 (if f.ofk = 10 then 40000 * f.sub.length + 1082000000 else 40000)
    rw [hcom]
    exact Nat.add_le_add hc (Nat.le_trans hfm hmul)
  · have hk' : kindOk f.kind = true := by simpa [h11] using hk
    have := fieldP_short hk' v flex t
    unfold costF
    rw [if_neg h11]
    exact this
theorem plainAt_cost : ∀ (fs : List F) (i : Nat) (v : Int) (flex : Bool) {t : T}, keysT t → listFs fs = true → (plainAt fs i v flex t).length ≤ costFs fs
  | [], _, _, _, _, _, _ => by simp [plainAt]
  | f :: r, i, v, flex, t, ht, h => by
    simp only [listFs, Bool.and_eq_true] at h
    have ih := plainAt_cost r (i + 1) v flex ht h.2
    have h1 := fieldP_cost h.1 v flex (ht.at_ i)
    simp only [plainAt, List.length_append, costFs]
    split
    · omega
    · simp only [List.length_nil]; omega
/-- a message with a list of flat structs is short enough, whatever the tree -/
theorem partP_listed {fs : List F} (hu : untagged fs = true) (hf : listFs fs = true) (hl : costFs fs ≤ 35900000000000) (v : Int) (flex : Bool) {t : T} (ht : keysT t) : (partP fs v flex t).length ≤ 35990000000000 := by
  have h1 := plainAt_cost fs 0 v flex ht hf
  have h2 := tags_all fs ht
  rw [partP_untagged hu]
  split
  · rw [List.length_append]; omega
  · omega
section
variable {ops : Array Oper} {Q : Exit → Act → World → Prop} {a : Act} {w : World} {rest : List Oper} {o : Oper}
/-- an append of octets that hangs on a guard -/
theorem app_obg (hw : Region.wanted o (yielded ops a.tmps) = true) (s x : Operand) (ho : o.op = .call { callee := .builtin .append, args := #[s, x], argTypes := #[22, 22] })
    (B : Nat) (v : Value) (acc : Bs) (hs : a.eval s = v) (hown : OB w B v acc) (xv : Value) (l : Bs) (G : Nat → Prop) (hx : a.eval x = xv) (hl : RB w G xv l)
    (hlen : acc.length + l.length ≤ 70368744177664) (hB : B ≤ w.heap.size)
    (h : ∀ v' w', OB w' B v' (acc ++ l) → w.grownBy w' v.ownBlock → wpList Tryd.prog ops Q rest (a.put o.dst v') w') : wpList Tryd.prog ops Q (o :: rest) a w :=
  wpList_step fun K hK => by
    rw [if_pos hw]
    exact app_wp s x ho B v acc hs hown xv l G hx hl hlen hB fun v' w' h1 h2 => hK _ _ (h v' w' h1 h2)
end
end Go.Proofs.YtdklogmmfnddiaaDoor
/-
  HOW LONG WHAT IS WRITTEN IS, by how much the tree holds. Plain Lean.
-/
namespace Go.Proofs.YtdklogmmfnddiaaDoor

def wtg : List Tg → Nat
  | [] => 0
  | x :: r => x.2.length + 1 + wtg r
mutual
/-- how much a tree holds -/
def wt : T → Nat
  | .mk _ s _ l u => s.length + wts l + wtg u
def wts : List T → Nat
  | [] => 0
  | t :: r => wt t + 1 + wts r
end
theorem wt_eq (t : T) : wt t = t.s.length + wts t.l + wtg t.u := by cases t; simp [wt, T.s, T.l, T.u]
theorem wts_mem : ∀ {l : List T} {x : T}, x ∈ l → wt x + 1 ≤ wts l
  | [], _, h => by cases h
  | y :: r, x, h => by
    simp only [wts]
    rcases List.mem_cons.1 h with e | e
    · subst e; omega
    · have := wts_mem e; omega
theorem wt_at (t : T) (i : Nat) : wt (atT t i) ≤ wt t := by
  unfold atT
  by_cases h : i < t.l.length
  · rw [List.getD_eq_getElem?_getD, List.getElem?_eq_getElem h]
    have := wts_mem (List.getElem_mem h)
    have := wt_eq t
    simp only [Option.getD_some]
    omega
  · rw [List.getD_eq_getElem?_getD, List.getElem?_eq_none (by omega)]
    simp [T.zero, wt, wts, wtg]
theorem wts_take : ∀ (n : Nat) (l : List T), wts (l.take n) ≤ wts l
  | 0, l => by simp [wts]
  | n + 1, [] => by simp
  | n + 1, x :: r => by simp only [List.take_succ_cons, wts]; have := wts_take n r; omega
theorem wtg_app : ∀ (a b : List Tg), wtg (a ++ b) = wtg a + wtg b
  | [], b => by simp [wtg]
  | x :: r, b => by simp only [List.cons_append, wtg, wtg_app r b]; omega
theorem wtg_ins (out : List Tg) (t : Tg) : wtg (ins out t) ≤ wtg out + (t.2.length + 1) := by
  unfold ins
  split
  · omega
  · have e : wtg out = wtg (out.take (spot out t.1)) + wtg (out.drop (spot out t.1)) := by rw [← wtg_app, List.take_append_drop]
    rw [wtg_app, e]
    simp only [wtg]
    omega
theorem wtg_from (least : Nat) : ∀ (l out : List Tg), wtg (l.foldl (fun out t => if t.1 < least then out else ins out t) out) ≤ wtg l + wtg out
  | [], out => by simp [wtg]
  | t :: r, out => by
    simp only [List.foldl_cons, wtg]
    split
    · have := wtg_from least r out; omega
    · have h1 := wtg_from least r (ins out t)
      have h2 := wtg_ins out t
      omega
theorem wtg_take : ∀ (n : Nat) (l : List Tg), wtg (l.take n) ≤ wtg l
  | 0, l => by simp [wtg]
  | n + 1, [] => by simp
  | n + 1, x :: r => by simp only [List.take_succ_cons, wtg]; have := wtg_take n r; omega
theorem wtg_unk (fs : List F) (u : List Tg) : wtg (unknownP fs u) ≤ wtg u := by
  have h1 := wtg_from (knownP fs) (u.take 32767) []
  have h2 := wtg_take 32767 u
  unfold unknownP unknownFrom
  simp only [wtg] at h1
  omega
theorem wtg_whole : ∀ (l : List Tg), wtg (l.map fun x => (x.1, whole x.2)) ≤ wtg l
  | [] => by simp [wtg]
  | x :: r => by
    have h := wtg_whole r
    have h2 : (whole x.2).length ≤ x.2.length := by simp [whole]; omega
    simp only [List.map_cons, wtg]
    omega
theorem wtg_td (fs : List F) (u : List Tg) : wtg (tdU fs u) ≤ wtg u := Nat.le_trans (wtg_whole _) (wtg_unk fs u)
theorem tags_wt : ∀ (us : List Tg), (∀ x ∈ us, x.1 < 4294967296 ∧ x.2.length ≤ 32767) → ((us.map tagP).flatten).length ≤ 20 * wtg us
  | [], _ => by simp
  | x :: r, h => by
    have ih := tags_wt r (fun y hy => h y (List.mem_cons_of_mem _ hy))
    have hx := h x (List.mem_cons_self ..)
    have h1 := uvarP_short (n := x.1) (by omega)
    have h2 := uvarP_short (n := x.2.length) (by omega)
    simp only [List.map_cons, List.flatten_cons, List.length_append, wtg, tagP]
    omega
mutual
/-- a field's cost: octets a unit of what the tree holds -/
def ccF : F → Nat
  | .mk _ _ _ _ _ _ _ sub => 40 + ccFs sub
def ccFs : List F → Nat
  | [] => 40
  | f :: r => ccF f + ccFs r
end
theorem flatMap_wt {c : Nat} {g : T → Bs} : ∀ (l : List T), (∀ x ∈ l, (g x).length ≤ c * (wt x + 1)) → (l.flatMap g).length ≤ c * wts l
  | [], _ => by simp
  | x :: r, h => by
    have ih := flatMap_wt r fun y hy => h y (List.mem_cons_of_mem _ hy)
    have hx := h x (List.mem_cons_self ..)
    simp only [List.flatMap_cons, List.length_append, wts, Nat.mul_add] at *
    omega
theorem valueP_wt {kind : Int} {part : T → Bs} {null flex : Bool} {t : T} {c : Nat} (hp : kind = 10 → (part t).length ≤ c * (wt t + 1)) : (valueP kind part null flex t).length ≤ (30 + c) * (wt t + 1) := by
  have hw : (if null = true then [] else whole t.s).length ≤ t.s.length := by
    split
    · simp
    · simp [whole]; omega
  have hw2 : (if null = true then [] else whole t.s).length ≤ 32767 := by
    split
    · simp
    · simp [whole]; omega
  have hs : t.s.length ≤ wt t := by have := wt_eq t; omega
  have h2 := countedP_short flex null hw2 (size := 2) (by omega)
  have h4 := countedP_short flex null hw2 (size := 4) (by omega)
  have hwd : widthP kind ≤ 8 := by unfold widthP; repeat' split
                                   all_goals omega
  have e : (30 + c) * (wt t + 1) = 30 * wt t + 30 + c * (wt t + 1) := by rw [Nat.add_mul]; omega
  rw [e]
  generalize c * (wt t + 1) = cw at *
  unfold valueP
  split
  · simp; omega
  · split
    · simp; omega
    · split
      · rw [List.length_append]; omega
      · split
        · rw [List.length_append]; omega
        · split
          · rename_i h; have := hp h; omega
          · rw [fixedP_len]; omega
theorem fieldOf_wt {f : F} {part : T → Bs} {v : Int} {flex : Bool} {t : T} {c : Nat} (hp : ∀ x : T, keysT x → (part x).length ≤ c * (wt x + 1)) (ht : keysT t) : (fieldOf f part v flex t).length ≤ (40 + c) * (wt t + 1) := by
  unfold fieldOf
  dsimp only
  split
  · have hl : (if f.isNull v t = true then [] else things t.l).length ≤ 32767 := by
      split
      · simp
      · exact things_len t.l
    have hc := countedP_short flex (f.isNull v t) hl (size := 4) (by omega)
    have hm : ∀ x ∈ (if f.isNull v t = true then [] else things t.l), keysT x := by
      intro x hx
      split at hx
      · cases hx
      · exact ht.l x (List.mem_of_mem_take hx)
    have hfm := flatMap_wt (c := 30 + c) (g := fun x => valueP f.ofk part false flex x) (if f.isNull v t = true then [] else things t.l) fun x hx => valueP_wt fun _ => hp x (hm x hx)
    have hws : wts (if f.isNull v t = true then [] else things t.l) ≤ wt t := by
      have h1 := wts_take 32767 t.l
      have h2 := wt_eq t
      split
      · simp [wts]
      · unfold things; omega
    have hmul := Nat.mul_le_mul_left (30 + c) hws
    have e : (40 + c) * (wt t + 1) = 10 * (wt t + 1) + (30 + c) * (wt t + 1) := by rw [← Nat.add_mul]; congr 1; omega
    have e2 : (30 + c) * (wt t + 1) = (30 + c) * wt t + (30 + c) := by rw [Nat.mul_add, Nat.mul_one]
    simp only [List.length_append]
    omega
  · split
    · have h1 := hp t ht
      have e : (40 + c) * (wt t + 1) = 40 * (wt t + 1) + c * (wt t + 1) := by rw [← Nat.add_mul]
      rw [e]
      cases f.isNull v t with
      | true => simp only [if_true, fixedP_len]; omega
      | false => simp only [Bool.false_eq_true, if_false, List.length_append, fixedP_len]; omega
    · have h1 := valueP_wt (kind := f.kind) (null := f.isNull v t) (flex := flex) (t := t) (part := part) (c := c) fun _ => hp t ht
      have e : (40 + c) * (wt t + 1) = 10 * (wt t + 1) + (30 + c) * (wt t + 1) := by rw [← Nat.add_mul]; congr 1; omega
      omega
theorem plainAt_wt {v : Int} {flex : Bool} {t : T} (ht : keysT t) : ∀ (fs : List F) (i : Nat), (∀ f ∈ fs, ∀ x, keysT x → (fieldP f v flex x).length ≤ ccF f * (wt x + 1)) → (plainAt fs i v flex t).length + 40 * (wt t + 1) ≤ ccFs fs * (wt t + 1)
  | [], _, _ => by simp [plainAt, ccFs]
  | f :: r, i, h => by
    have ih := plainAt_wt ht r (i + 1) fun g hg => h g (List.mem_cons_of_mem _ hg)
    have h1 := h f (List.mem_cons_self ..) (atT t i) (ht.at_ i)
    have h2 := Nat.mul_le_mul_left (ccF f) (Nat.succ_le_succ (wt_at t i))
    simp only [plainAt, List.length_append, ccFs, Nat.add_mul]
    simp only [Nat.succ_eq_add_one] at h2
    split
    · omega
    · simp only [List.length_nil]; omega
mutual
theorem fieldP_wt (v : Int) (flex : Bool) : ∀ (f : F), wfF flex f = true → ∀ t, keysT t → (fieldP f v flex t).length ≤ ccF f * (wt t + 1)
  | .mk k a b nul tag dfl ofk sub, hw, t, ht => by
    have hws : wfFs flex sub = true := by
      simp only [wfF, Bool.and_eq_true] at hw
      exact hw.1.2
    rw [fieldP_eq]
    exact fieldOf_wt (fun x hx => partP_wt' v flex sub hws x hx) ht
theorem fieldsP_wt (v : Int) (flex : Bool) : ∀ (fs : List F), wfFs flex fs = true → ∀ f ∈ fs, ∀ t, keysT t → (fieldP f v flex t).length ≤ ccF f * (wt t + 1)
  | [], _, _, h => absurd h (by simp)
  | g :: r, hw, f, h => by
    simp only [wfFs, Bool.and_eq_true] at hw
    rcases List.mem_cons.1 h with e | h'
    · rw [e]; exact fieldP_wt v flex g hw.1
    · exact fieldsP_wt v flex r hw.2 f h'
theorem partP_wt' (v : Int) (flex : Bool) (fs : List F) (hw : wfFs flex fs = true) (t : T) (ht : keysT t) : (partP fs v flex t).length ≤ ccFs fs * (wt t + 1) := by
  have h1 := plainAt_wt ht fs 0 (fieldsP_wt v flex fs hw)
  have h2 := tags_wt (tdU fs t.u) (tdU_mem ht.u)
  have h3 := wtg_td fs t.u
  have h4 := uvarP_short (n := (tdU fs t.u).length) (by have := tdU_len fs t.u; omega)
  have h5 := wt_eq t
  rw [partP_untagged (wfFs_untagged hw)]
  split
  · simp only [List.length_append]; omega
  · omega
end
/-- what is written of a tree of bulk at most 2^20 -/
theorem partP_bulk {fs : List F} (v : Int) (flex : Bool) (hw : wfFs flex fs = true) (hc : ccFs fs ≤ 30000000) {t : T} (ht : keysT t) (hb : wt t ≤ 1048576) : (partP fs v flex t).length ≤ 35990000000000 := by
  have h1 := partP_wt' v flex fs hw t ht
  have h2 := Nat.mul_le_mul hc (Nat.succ_le_succ hb)
  simp only [Nat.succ_eq_add_one] at h2
  omega
end Go.Proofs.YtdklogmmfnddiaaDoor
/-
  HOW LONG A MESSAGE IS that has structs of plain fields beside its lists.
-/
namespace Go.Proofs.YtdklogmmfnddiaaDoor
open Go.ChangeShapes Go.WideShapes Go.ChangeAt Go.RowKit

/-- a field that is a struct of plain fields -/
def deepF (f : F) : Bool := decide (f.kind = 10) && decide (f.nul < 0) && flatFs f.sub && untagged f.sub
def costF2 (f : F) : Nat := if deepF f then 40000 * f.sub.length + 1082000000 else costF f
def costFs2 : List F → Nat
  | [] => 0
  | f :: r => costF2 f + costFs2 r
def listFs2 : List F → Bool
  | [] => true
  | f :: r => (deepF f || (kindOk f.kind || (decide (f.kind = 11) && (kindOk f.ofk || (decide (f.ofk = 10) && flatFs f.sub && untagged f.sub))))) && listFs2 r
theorem fieldP_cost2 {f : F} (hk : (deepF f || (kindOk f.kind || (decide (f.kind = 11) && (kindOk f.ofk || (decide (f.ofk = 10) && flatFs f.sub && untagged f.sub))))) = true) (v : Int) (flex : Bool) {t : T} (ht : keysT t) : (fieldP f v flex t).length ≤ costF2 f := by
  unfold costF2
  by_cases hd : deepF f = true
  · rw [if_pos hd]
    simp only [deepF, Bool.and_eq_true, decide_eq_true_eq] at hd
    obtain ⟨⟨⟨h10, hn⟩, hf⟩, hu⟩ := hd
    have h := partP_row hu hf v flex ht
    rw [fieldP_eq]
    unfold fieldOf
    simp only [h10]
    rw [if_neg (by decide), if_neg (by omega)]
    simpa [valueP] using h
  · rw [if_neg hd]
    simp only [Bool.or_eq_true] at hk
    rcases hk with hk | hk
    · exact absurd hk hd
    · exact fieldP_cost (by simpa only [Bool.or_eq_true] using hk) v flex ht
theorem plainAt_cost2 : ∀ (fs : List F) (i : Nat) (v : Int) (flex : Bool) {t : T}, keysT t → listFs2 fs = true → (plainAt fs i v flex t).length ≤ costFs2 fs
  | [], _, _, _, _, _, _ => by simp [plainAt]
  | f :: r, i, v, flex, t, ht, h => by
    have h' := h
    simp only [listFs2] at h'
    rw [Bool.and_eq_true] at h'
    have ih := plainAt_cost2 r (i + 1) v flex ht h'.2
    have h1 := fieldP_cost2 h'.1 v flex (ht.at_ i)
    simp only [plainAt, List.length_append, costFs2]
    split
    · omega
    · simp only [List.length_nil]; omega
theorem partP_listed2 {fs : List F} (hu : untagged fs = true) (hf : listFs2 fs = true) (hl : costFs2 fs ≤ 35900000000000) (v : Int) (flex : Bool) {t : T} (ht : keysT t) : (partP fs v flex t).length ≤ 35990000000000 := by
  have h1 := plainAt_cost2 fs 0 v flex ht hf
  have h2 := tags_all fs ht
  rw [partP_untagged hu]
  split
  · rw [List.length_append]; omega
  · omega
end Go.Proofs.YtdklogmmfnddiaaDoor
/-
  laws.version.
-/
namespace Go.Proofs.YtdklogmmfnddiaaDoor
open Go.ChangeShapes Go.WideShapes Go.ChangeAt Go.RowKit

theorem version_any {n m : Int} (hn : 0 ≤ n ∧ n ≤ 255) (hm : 0 ≤ m ∧ m ≤ 1000) (w : World) : Calls Tryd.prog 8 #[.int .u8 n, .int .i64 m] w fun e w' => e = .returned (.int .i64 (n % (m + 1))) ∧ w = w' := by
  have h1 : n.tmod (m + 1) = n % (m + 1) := Int.tmod_eq_emod_of_nonneg hn.1
  have h2 : 0 ≤ n % (m + 1) := Int.emod_nonneg _ (by omega)
  have h3 : n % (m + 1) < m + 1 := Int.emod_lt_of_pos _ (by omega)
  go_enter Tryd.func8, Tryd.ntmps8
  go_wp2
  go_ret
  exact ⟨by first | (rw [← h1]; rfl) | (simp [h1]), rfl⟩
end Go.Proofs.YtdklogmmfnddiaaDoor
/-
  A tree that is handed in, opened: what its reading says of its cells.
-/
namespace Go.Proofs.YtdklogmmfnddiaaDoor
open Go.ChangeShapes Go.WideShapes Go.ChangeAt Go.RowKit

theorem pick2 {α β : Type} {n : Nat} {P : Nat → α → β → Prop} (h : ∀ i, i < n → ∃ a b, P i a b) : ∃ (la : List α) (lb : List β), la.length = n ∧ lb.length = n ∧ ∀ i (h1 : i < la.length) (h2 : i < lb.length), P i la[i] lb[i] := by
  refine ⟨List.ofFn (fun i : Fin n => (h i i.2).choose), List.ofFn fun i : Fin n => (h i i.2).choose_spec.choose, by simp, by simp, fun i h1 h2 => ?_⟩
  simp only [List.getElem_ofFn]
  exact (h i (by simpa using h1)).choose_spec.choose_spec
/-- cells that read one by one -/
theorem RS.ofCells {W : World} {a : Addr} {n cap : Nat} {xs : List Value} (hn : n ≤ cap) (h : ∀ i (hi : i < xs.length), W.cell? (a.add i) = some xs[i]) : RS W (fun k => k < W.heap.size) (.slice (some a) n cap) n xs := by
  refine ⟨some a, cap, rfl, hn, (fun h => by cases h), fun a' ha' => ?_⟩
  cases ha'
  obtain ⟨b, o, sp⟩ := a
  have hs : 0 < xs.length → sp = none := fun h0 => by
    have := World.cell?_spot (h 0 h0)
    simpa [Addr.add] using this
  refine ⟨hs, fun i hi => ?_⟩
  obtain rfl := hs (by omega)
  have := h i hi
  rw [addr_add] at this
  exact ⟨World.block_lt_of_cell? W (⟨b, o + i, none⟩ : Addr) this, this⟩
/-- rows of m cells, one behind another -/
theorem RS.ofRows {W : World} {a : Addr} {n cap m : Nat} {css : List (List Value)} (_hn : css.length = n) (hc : n ≤ cap) (hm : ∀ c ∈ css, c.length = m) (h0 : 0 < m)
    (h : ∀ i (hi : i < css.length) j (hj : j < css[i].length), W.cell? ((a.add (i * m)).add j) = some css[i][j]) : RS W (fun k => k < W.heap.size) (.slice (some a) n cap) n css.flatten := by
  have hl := flatten_len css m hm
  obtain ⟨b, o, sp⟩ := a
  have hs : 0 < css.length → sp = none := fun h1 => by
    have hj : 0 < css[0].length := by rw [hm _ (List.getElem_mem h1)]; exact h0
    have := World.cell?_spot (h 0 h1 0 hj)
    simpa [Addr.add] using this
  refine RS.ofCells hc fun k hk => ?_
  have hk' : k < m * css.length := by rw [← hl]; exact hk
  have hi : k / m < css.length := (Nat.div_lt_iff_lt_mul h0).2 (by rw [Nat.mul_comm]; exact hk')
  have hj : k % m < m := Nat.mod_lt _ h0
  have hpos : 0 < css.length := Nat.lt_of_le_of_lt (Nat.zero_le _) hi
  obtain rfl := hs hpos
  have hci : css[k / m].length = m := hm _ (List.getElem_mem hi)
  have e := flatten_get css m hm (k / m) (k % m) hi hj (by omega)
  rw [Nat.div_add_mod] at e
  have := h (k / m) hi (k % m) (by omega)
  rw [addr_add, addr_add, Nat.add_assoc, Nat.mul_comm (k / m) m, Nat.div_add_mod] at this
  rw [addr_add, this, ← e, List.getElem?_eq_getElem hk]
section
variable {H : Type} {enc : TypeId × Value → H} {W : World} {sp : Nat → Bool} {held : Bool}
theorem cells_u8 : Tryd.prog.cellsOf 5 = 1 := by kernel_rfl
theorem cells_u32 : Tryd.prog.cellsOf 61 = 1 := by kernel_rfl
theorem cells_i64 : Tryd.prog.cellsOf 2 = 1 := by kernel_rfl
theorem cells_bool : Tryd.prog.cellsOf 4 = 1 := by kernel_rfl
theorem cells_sb : Tryd.prog.cellsOf 22 = 1 := by kernel_rfl
theorem cells_st : Tryd.prog.cellsOf 23 = 1 := by kernel_rfl
theorem cells_sg : Tryd.prog.cellsOf 24 = 1 := by kernel_rfl
theorem cells_tree : Tryd.prog.cellsOf 26 = 5 := by kernel_rfl
theorem cells_tag : Tryd.prog.cellsOf 64 = 2 := by kernel_rfl
/-- octets that are handed in -/
theorem octs_open {fuel : Nat} {v : Value} {x : DataW H × List MemPlace} (h : DataW.trod enc Tryd.prog W 0 (fun _ => true) held fuel 22 [v] = some x) :
    ∃ l, RB W (fun k => k < W.heap.size) v l ∧ l.length ≤ maxLen := by
  rcases open_ints Tryd.underlying22 Tryd.underlying5 cells_u8 h with ⟨hcs, hx⟩ | ⟨a, len, cap, zs, hcs, _, hl, hm, hz, hx, hcell, hwz⟩
  · simp only [List.cons.injEq, and_true] at hcs
    subst hcs
    exact ⟨[], RB.nil W _, by simp⟩
  · simp only [List.cons.injEq, and_true] at hcs
    subst hcs
    simp only [if_true] at hz
    have e : ((zs.take len).map fun z => UInt8.ofNat z.toNat).length = len := by simp; omega
    refine ⟨(zs.take len).map fun z => UInt8.ofNat z.toNat, ?_, by omega⟩
    unfold RB
    rw [e]
    refine RS.ofCells hl fun i hi => ?_
    have hi' : i < zs.length := by simp at hi; omega
    rw [hcell i hi']
    have hw : 0 ≤ zs[i] ∧ zs[i] ≤ 255 := by simpa [Lit.wf, IntKind.has, IntKind.min, IntKind.max, IntKind.bits, IntKind.signed] using hwz _ (List.getElem_mem hi')
    simp [bv, List.getD, hi']
    omega
set_option maxRecDepth 100000 in
theorem tag_open {fuel : Nat} {cs : List Value} {x : DataW H × List MemPlace} (h : DataW.trod enc Tryd.prog W 0 (fun _ => true) held fuel 64 cs = some x) :
    ∃ (u : Tg) (v : Value), cs = [.int .u32 (u.1 : Int), v] ∧ RB W (fun k => k < W.heap.size) v u.2 ∧ u.1 < 4294967296 ∧ u.2.length ≤ maxLen := by
  obtain ⟨xs, n, rfl, rfl, hlen, hxl, hf⟩ := DataW.trod_struct Tryd.underlying64 h
  rw [cells_tag] at hlen
  match cs, hlen with
  | [c0, c1], _ =>
    have f0 : DataW.trod enc Tryd.prog W 0 (fun _ => true) held n 61 (([c0, c1].drop 0).take (Tryd.prog.cellsOf 61)) = xs[0]? := hf 0 _ rfl
    have f1 : DataW.trod enc Tryd.prog W 0 (fun _ => true) held n 22 (([c0, c1].drop 1).take (Tryd.prog.cellsOf 22)) = xs[1]? := hf 1 _ rfl
    rw [cells_u32] at f0
    rw [cells_sb] at f1
    simp only [List.drop_zero, List.drop_succ_cons, List.take_succ_cons, List.take_zero] at f0 f1
    have hx2 : xs.length = 2 := hxl
    rw [List.getElem?_eq_getElem (by omega)] at f0 f1
    obtain ⟨k, hk, -, hw⟩ := DataW.trod_int Tryd.underlying61 f0
    obtain ⟨l, hl, hll⟩ := octs_open f1
    have hw' : 0 ≤ k ∧ k ≤ 4294967295 := by simpa [Lit.wf, IntKind.has, IntKind.min, IntKind.max, IntKind.bits, IntKind.signed] using hw
    simp only [List.cons.injEq, and_true] at hk
    subst hk
    exact ⟨(k.toNat, l), c1, by simp; omega, hl, by simp only; omega, hll⟩
theorem elem_of {fuel n : Nat} {t : TypeId} {a : Addr} {m : Nat} {elems : List (DataW H × List MemPlace)} (hlen : elems.length = n) (hel : ∀ i, i < n → (W.cells? 0 (a.add (i * m)) m).bind (DataW.trod enc Tryd.prog W 0 (fun _ => true) held fuel t) = elems[i]?) (i : Nat) (hi : i < n) :
    ∃ cs x, DataW.trod enc Tryd.prog W 0 (fun _ => true) held fuel t cs = some x ∧ cs.length = m ∧ ∀ j (hj : j < cs.length), W.cell? ((a.add (i * m)).add j) = some cs[j] := by
  have h := hel i hi
  rw [List.getElem?_eq_getElem (by omega), Option.bind_eq_some_iff] at h
  obtain ⟨cs, h1, h2⟩ := h
  obtain ⟨_, hl, hc⟩ := World.cells?_some h1
  exact ⟨cs, _, h2, hl, fun j hj => by rw [hc j (by omega), List.getElem?_eq_getElem hj]⟩
/-- tags that are handed in -/
theorem tags_open {fuel : Nat} {v : Value} {x : DataW H × List MemPlace} (h : DataW.trod enc Tryd.prog W 0 (fun _ => true) held fuel 24 [v] = some x) :
    ∃ u, HGs W (fun k => k < W.heap.size) v u := by
  rcases DataW.trod_slice Tryd.underlying24 h with ⟨hcs, hx⟩ | ⟨a, len, cap, elems, rest, n, rfl, hcs, hx, _, hl, hm, hlen, hel, -, -⟩
  · simp only [List.cons.injEq, and_true] at hcs
    subst hcs
    exact ⟨[], HGs.nil W _⟩
  · simp only [List.cons.injEq, and_true] at hcs
    subst hcs
    rw [cells_tag] at hel
    obtain ⟨us, vs, h1, h2, h3⟩ := pick2 (P := fun i (u : Tg) (v : Value) => (∀ j (hj : j < [Value.int .u32 (u.1 : Int), v].length), W.cell? ((a.add (i * 2)).add j) = some [Value.int .u32 (u.1 : Int), v][j]) ∧ RB W (fun k => k < W.heap.size) v u.2 ∧ u.1 < 4294967296 ∧ u.2.length ≤ maxLen) (n := len) fun i hi => by
      obtain ⟨cs, x, ht, hcl, hc⟩ := elem_of hlen hel i hi
      obtain ⟨u, v, rfl, q1, q2, q3⟩ := tag_open ht
      exact ⟨u, v, hc, q1, q2, q3⟩
    refine ⟨us, vs, by omega, fun i a b => (h3 i a b).2.1, fun x hx => ?_, by unfold maxLen at hm; omega, ?_⟩
    · obtain ⟨i, hi, rfl⟩ := List.getElem_of_mem hx
      have := (h3 i hi (by omega)).2.2
      unfold maxLen at this
      exact ⟨this.1, by omega⟩
    · have hz : (us.zip vs).length = len := by simp; omega
      rw [h1]
      refine RS.ofRows (m := 2) (by simpa using hz) hl (fun c hc => ?_) (by decide) fun i hi j hj => ?_
      · obtain ⟨y, _, rfl⟩ := List.mem_map.1 hc
        rfl
      · simp only [List.getElem_map, List.getElem_zip] at hj ⊢
        exact (h3 i (by simp at hi; omega) (by simp at hi; omega)).1 j hj
theorem keysTs_of : ∀ (l : List T), (∀ i (h : i < l.length), keysT l[i]) → keysTs l
  | [], _ => trivial
  | x :: r, h => ⟨h 0 (by simp), keysTs_of r fun i hi => h (i + 1) (by simpa using hi)⟩
set_option maxRecDepth 100000 in
theorem tree_open : ∀ (fuel : Nat) {cs : List Value} {x : DataW H × List MemPlace}, DataW.trod enc Tryd.prog W 0 (fun _ => true) held fuel 26 cs = some x →
    ∃ t, HT W (fun k => k < W.heap.size) t cs ∧ keysT t := by
  intro fuel
  induction fuel using Nat.strongRecOn with
  | _ fuel ih =>
    intro cs x h
    obtain ⟨xs, n, rfl, rfl, hlen, hxl, hf⟩ := DataW.trod_struct Tryd.underlying26 h
    rw [cells_tree] at hlen
    match cs, hlen with
    | [c0, c1, c2, c3, c4], _ =>
      have f0 : DataW.trod enc Tryd.prog W 0 (fun _ => true) held n 2 (([c0, c1, c2, c3, c4].drop 0).take (Tryd.prog.cellsOf 2)) = xs[0]? := hf 0 _ rfl
      have f1 : DataW.trod enc Tryd.prog W 0 (fun _ => true) held n 22 (([c0, c1, c2, c3, c4].drop 1).take (Tryd.prog.cellsOf 22)) = xs[1]? := hf 1 _ rfl
      have f2 : DataW.trod enc Tryd.prog W 0 (fun _ => true) held n 4 (([c0, c1, c2, c3, c4].drop 2).take (Tryd.prog.cellsOf 4)) = xs[2]? := hf 2 _ rfl
      have f3 : DataW.trod enc Tryd.prog W 0 (fun _ => true) held n 23 (([c0, c1, c2, c3, c4].drop 3).take (Tryd.prog.cellsOf 23)) = xs[3]? := hf 3 _ rfl
      have f4 : DataW.trod enc Tryd.prog W 0 (fun _ => true) held n 24 (([c0, c1, c2, c3, c4].drop 4).take (Tryd.prog.cellsOf 24)) = xs[4]? := hf 4 _ rfl
      rw [cells_i64] at f0
      rw [cells_sb] at f1
      rw [cells_bool] at f2
      rw [cells_st] at f3
      rw [cells_sg] at f4
      simp only [List.drop_zero, List.drop_succ_cons, List.take_succ_cons, List.take_zero] at f0 f1 f2 f3 f4
      have hx5 : xs.length = 5 := hxl
      rw [List.getElem?_eq_getElem (by omega)] at f0 f1 f2 f3 f4
      obtain ⟨k, hk, -, hw⟩ := DataW.trod_int Tryd.underlying2 f0
      obtain ⟨s, hs, hsl⟩ := octs_open f1
      obtain ⟨nu, hnu, -⟩ := DataW.trod_bool Tryd.underlying4 f2
      obtain ⟨u, hu⟩ := tags_open f4
      have hw' : -9223372036854775808 ≤ k ∧ k ≤ 9223372036854775807 := by simpa [Lit.wf, IntKind.has, IntKind.min, IntKind.max, IntKind.bits, IntKind.signed] using hw
      simp only [List.cons.injEq, and_true] at hk hnu
      subst hk hnu
      have hku : ∀ x ∈ u, x.1 < 4294967296 := fun x hx => by
        obtain ⟨_, _, _, h3, _⟩ := hu
        exact (h3 x hx).1
      unfold maxLen at hsl
      have hl : ∃ (css : List (List Value)) (l : List T), css.length = l.length ∧ (∀ i (h1 : i < l.length) (h2 : i < css.length), HT W (fun k => k < W.heap.size) l[i] css[i]) ∧ RS W (fun k => k < W.heap.size) c3 css.length css.flatten ∧ l.length ≤ 9223372036854775807 ∧ keysTs l := by
        rcases DataW.trod_slice Tryd.underlying23 f3 with ⟨hcs, hx⟩ | ⟨a, len, cap, elems, rest, m, rfl, hcs, hx, _, hl, hm, hlen, hel, -, -⟩
        · simp only [List.cons.injEq, and_true] at hcs
          subst hcs
          exact ⟨[], [], rfl, (fun i h => by simp at h), RS.nil W _, by simp, trivial⟩
        · simp only [List.cons.injEq, and_true] at hcs
          subst hcs
          rw [cells_tree] at hel
          obtain ⟨css, ts, h1, h2, h3⟩ := pick2 (P := fun i (c : List Value) (t : T) => (∀ j (hj : j < c.length), W.cell? ((a.add (i * 5)).add j) = some c[j]) ∧ c.length = 5 ∧ HT W (fun k => k < W.heap.size) t c ∧ keysT t) (n := len) fun i hi => by
            obtain ⟨cs, x, ht, hcl, hc⟩ := elem_of hlen hel i hi
            obtain ⟨t, q1, q2⟩ := ih m (by omega) ht
            exact ⟨cs, t, hc, hcl, q1, q2⟩
          unfold maxLen at hm
          refine ⟨css, ts, by omega, fun i a b => (h3 i b a).2.2.1, ?_, by omega, keysTs_of ts fun i hi => (h3 i (by omega) hi).2.2.2⟩
          rw [h1]
          refine RS.ofRows (m := 5) h1 hl (fun c hc => ?_) (by decide) fun i hi j hj => (h3 i hi (by omega)).1 j hj
          obtain ⟨i, hi, rfl⟩ := List.getElem_of_mem hc
          exact (h3 i hi (by omega)).2.1
      obtain ⟨css, l, e1, e2, e3, e4, e5⟩ := hl
      exact ⟨.mk k s nu l u, .mk k s nu l u c1 c3 c4 css hs ⟨hw'.1, hw'.2, by omega, e4⟩ e1 e2 e3 hu, hku, e5⟩
end
end Go.Proofs.YtdklogmmfnddiaaDoor
/-
  A tree that is handed in, opened: it holds no more than its reading's bulk.
-/
namespace Go.Proofs.YtdklogmmfnddiaaDoor
open Go.ChangeShapes Go.WideShapes Go.ChangeAt Go.RowKit

section
variable {H : Type} {enc : TypeId × Value → H} {W : World} {sp : Nat → Bool} {held : Bool}
theorem bulk_one (d : DataW H) : 1 ≤ Rows.uptoBulk d := by
  cases d with
  | lit l => cases l <;> simp [Rows.uptoBulk]
  | nil => simp [Rows.uptoBulk]
  | ptr d => simp [Rows.uptoBulk]
  | slice elems spare => simp [Rows.uptoBulk]
  | agg parts => simp [Rows.uptoBulk]
  | iface t d => simp [Rows.uptoBulk]
  | map entries => simp [Rows.uptoBulk]
  | held h => simp [Rows.uptoBulk]
theorem bulk_part {d : DataW H} {l : List (DataW H)} (h : d ∈ l) : Rows.uptoBulk d ≤ Rows.uptoBulkAll l := by
  induction l with
  | nil => cases h
  | cons x r ih =>
    simp only [Rows.uptoBulkAll]
    cases List.mem_cons.1 h with
    | inl e => subst e; omega
    | inr e => have := ih e; omega
theorem bulk_len (l : List (DataW H)) : l.length ≤ Rows.uptoBulkAll l := by
  induction l with
  | nil => simp [Rows.uptoBulkAll]
  | cons x r ih => have := bulk_one x; simp only [Rows.uptoBulkAll, List.length_cons]; omega
theorem octs_openB {fuel : Nat} {v : Value} {x : DataW H × List MemPlace} (h : DataW.trod enc Tryd.prog W 0 (fun _ => true) held fuel 22 [v] = some x) :
    ∃ l, RB W (fun k => k < W.heap.size) v l ∧ l.length ≤ maxLen ∧ l.length + 1 ≤ Rows.uptoBulk x.1 := by
  rcases open_ints Tryd.underlying22 Tryd.underlying5 cells_u8 h with ⟨hcs, rfl⟩ | ⟨a, len, cap, zs, hcs, _, hl, hm, hz, rfl, hcell, hwz⟩
  · simp only [List.cons.injEq, and_true] at hcs
    subst hcs
    exact ⟨[], RB.nil W _, by simp, by simp [Rows.uptoBulk]⟩
  · simp only [List.cons.injEq, and_true] at hcs
    subst hcs
    simp only [if_true] at hz
    have e : ((zs.take len).map fun z => UInt8.ofNat z.toNat).length = len := by simp; omega
    refine ⟨(zs.take len).map fun z => UInt8.ofNat z.toNat, ?_, by omega, ?_⟩
    · unfold RB
      rw [e]
      refine RS.ofCells hl fun i hi => ?_
      have hi' : i < zs.length := by simp at hi; omega
      rw [hcell i hi']
      have hw : 0 ≤ zs[i] ∧ zs[i] ≤ 255 := by simpa [Lit.wf, IntKind.has, IntKind.min, IntKind.max, IntKind.bits, IntKind.signed] using hwz _ (List.getElem_mem hi')
      simp [bv, List.getD, hi']
      omega
    · have h1 := bulk_len (H := H) (lits .u8 (zs.take len))
      have h2 : (lits (H := H) .u8 (zs.take len)).length = (zs.take len).length := by simp [lits]
      simp only [Rows.uptoBulk, List.length_map]
      omega
set_option maxRecDepth 100000 in
theorem tag_openB {fuel : Nat} {cs : List Value} {x : DataW H × List MemPlace} (h : DataW.trod enc Tryd.prog W 0 (fun _ => true) held fuel 64 cs = some x) :
    ∃ (u : Tg) (v : Value), cs = [.int .u32 (u.1 : Int), v] ∧ RB W (fun k => k < W.heap.size) v u.2 ∧ u.1 < 4294967296 ∧ u.2.length ≤ maxLen ∧ u.2.length + 1 ≤ Rows.uptoBulk x.1 := by
  obtain ⟨xs, n, rfl, rfl, hlen, hxl, hf⟩ := DataW.trod_struct Tryd.underlying64 h
  rw [cells_tag] at hlen
  match cs, hlen with
  | [c0, c1], _ =>
    have f0 : DataW.trod enc Tryd.prog W 0 (fun _ => true) held n 61 (([c0, c1].drop 0).take (Tryd.prog.cellsOf 61)) = xs[0]? := hf 0 _ rfl
    have f1 : DataW.trod enc Tryd.prog W 0 (fun _ => true) held n 22 (([c0, c1].drop 1).take (Tryd.prog.cellsOf 22)) = xs[1]? := hf 1 _ rfl
    rw [cells_u32] at f0
    rw [cells_sb] at f1
    simp only [List.drop_zero, List.drop_succ_cons, List.take_succ_cons, List.take_zero] at f0 f1
    have hx2 : xs.length = 2 := hxl
    match xs, hx2 with
    | [x0, x1], _ =>
      simp only [List.getElem?_cons_zero, List.getElem?_cons_succ] at f0 f1
      obtain ⟨k, hk, -, hw⟩ := DataW.trod_int Tryd.underlying61 f0
      obtain ⟨l, hl, hll, hb⟩ := octs_openB f1
      have hw' : 0 ≤ k ∧ k ≤ 4294967295 := by simpa [Lit.wf, IntKind.has, IntKind.min, IntKind.max, IntKind.bits, IntKind.signed] using hw
      simp only [List.cons.injEq, and_true] at hk
      subst hk
      refine ⟨(k.toNat, l), c1, by simp; omega, hl, by simp only; omega, hll, ?_⟩
      simp only [List.map_cons, List.map_nil, Rows.uptoBulk, Rows.uptoBulkAll]
      omega
theorem elem_ofB {fuel n : Nat} {t : TypeId} {a : Addr} {m : Nat} {elems : List (DataW H × List MemPlace)} (hlen : elems.length = n) (hel : ∀ i, i < n → (W.cells? 0 (a.add (i * m)) m).bind (DataW.trod enc Tryd.prog W 0 (fun _ => true) held fuel t) = elems[i]?) (i : Nat) (hi : i < n) :
    ∃ cs x, elems[i]? = some x ∧ DataW.trod enc Tryd.prog W 0 (fun _ => true) held fuel t cs = some x ∧ cs.length = m ∧ ∀ j (hj : j < cs.length), W.cell? ((a.add (i * m)).add j) = some cs[j] := by
  have h := hel i hi
  rw [List.getElem?_eq_getElem (by omega), Option.bind_eq_some_iff] at h
  obtain ⟨cs, h1, h2⟩ := h
  obtain ⟨_, hl, hc⟩ := World.cells?_some h1
  exact ⟨cs, _, List.getElem?_eq_getElem (by omega), h2, hl, fun j hj => by rw [hc j (by omega), List.getElem?_eq_getElem hj]⟩
theorem sum_tags : ∀ (us : List Tg) (es : List (DataW H × List MemPlace)), us.length = es.length → (∀ i (h : i < us.length), ∃ y, es[i]? = some y ∧ us[i].2.length + 1 ≤ Rows.uptoBulk y.1) → wtg us ≤ Rows.uptoBulkAll (es.map (·.1))
  | [], _, _, _ => by simp [wtg]
  | u :: r, [], h, _ => by simp at h
  | u :: r, e :: es, h, k => by
    have ih := sum_tags r es (by simpa using h) fun i hi => k (i + 1) (by simpa using hi)
    obtain ⟨y, h1, h2⟩ := k 0 (by simp)
    simp only [List.getElem?_cons_zero, Option.some.injEq, List.getElem_cons_zero] at h1 h2
    subst h1
    simp only [wtg, List.map_cons, Rows.uptoBulkAll]
    omega
theorem sum_trees : ∀ (us : List T) (es : List (DataW H × List MemPlace)), us.length = es.length → (∀ i (h : i < us.length), ∃ y, es[i]? = some y ∧ wt us[i] + 1 ≤ Rows.uptoBulk y.1) → wts us ≤ Rows.uptoBulkAll (es.map (·.1))
  | [], _, _, _ => by simp [wts]
  | u :: r, [], h, _ => by simp at h
  | u :: r, e :: es, h, k => by
    have ih := sum_trees r es (by simpa using h) fun i hi => k (i + 1) (by simpa using hi)
    obtain ⟨y, h1, h2⟩ := k 0 (by simp)
    simp only [List.getElem?_cons_zero, Option.some.injEq, List.getElem_cons_zero] at h1 h2
    subst h1
    simp only [wts, List.map_cons, Rows.uptoBulkAll]
    omega
theorem tags_openB {fuel : Nat} {v : Value} {x : DataW H × List MemPlace} (h : DataW.trod enc Tryd.prog W 0 (fun _ => true) held fuel 24 [v] = some x) :
    ∃ u, HGs W (fun k => k < W.heap.size) v u ∧ wtg u + 1 ≤ Rows.uptoBulk x.1 := by
  rcases DataW.trod_slice Tryd.underlying24 h with ⟨hcs, rfl⟩ | ⟨a, len, cap, elems, rest, n, rfl, hcs, rfl, _, hl, hm, hlen, hel, -, -⟩
  · simp only [List.cons.injEq, and_true] at hcs
    subst hcs
    exact ⟨[], HGs.nil W _, by simp [wtg, Rows.uptoBulk]⟩
  · simp only [List.cons.injEq, and_true] at hcs
    subst hcs
    rw [cells_tag] at hel
    obtain ⟨us, vs, h1, h2, h3⟩ := pick2 (P := fun i (u : Tg) (v : Value) => ((∀ j (hj : j < [Value.int .u32 (u.1 : Int), v].length), W.cell? ((a.add (i * 2)).add j) = some [Value.int .u32 (u.1 : Int), v][j]) ∧ RB W (fun k => k < W.heap.size) v u.2 ∧ u.1 < 4294967296 ∧ u.2.length ≤ maxLen) ∧ ∃ y, elems[i]? = some y ∧ u.2.length + 1 ≤ Rows.uptoBulk y.1) (n := len) fun i hi => by
      obtain ⟨cs, x, hx, ht, hcl, hc⟩ := elem_ofB hlen hel i hi
      obtain ⟨u, v, rfl, q1, q2, q3, q4⟩ := tag_openB ht
      exact ⟨u, v, ⟨hc, q1, q2, q3⟩, x, hx, q4⟩
    refine ⟨us, ⟨vs, by omega, fun i a b => (h3 i a b).1.2.1, fun x hx => ?_, by unfold maxLen at hm; omega, ?_⟩, ?_⟩
    · obtain ⟨i, hi, rfl⟩ := List.getElem_of_mem hx
      have := (h3 i hi (by omega)).1.2.2
      unfold maxLen at this
      exact ⟨this.1, by omega⟩
    · have hz : (us.zip vs).length = len := by simp; omega
      rw [h1]
      refine RS.ofRows (m := 2) (by simpa using hz) hl (fun c hc => ?_) (by decide) fun i hi j hj => ?_
      · obtain ⟨y, _, rfl⟩ := List.mem_map.1 hc
        rfl
      · simp only [List.getElem_map, List.getElem_zip] at hj ⊢
        exact (h3 i (by simp at hi; omega) (by simp at hi; omega)).1.1 j hj
    · have := sum_tags us elems (by omega) fun i hi => (h3 i hi (by omega)).2
      simp only [Rows.uptoBulk]
      omega
set_option maxRecDepth 100000 in
theorem tree_openB : ∀ (fuel : Nat) {cs : List Value} {x : DataW H × List MemPlace}, DataW.trod enc Tryd.prog W 0 (fun _ => true) held fuel 26 cs = some x →
    ∃ t, HT W (fun k => k < W.heap.size) t cs ∧ keysT t ∧ wt t + 1 ≤ Rows.uptoBulk x.1 := by
  intro fuel
  induction fuel using Nat.strongRecOn with
  | _ fuel ih =>
    intro cs x h
    obtain ⟨xs, n, rfl, rfl, hlen, hxl, hf⟩ := DataW.trod_struct Tryd.underlying26 h
    rw [cells_tree] at hlen
    match cs, hlen with
    | [c0, c1, c2, c3, c4], _ =>
      have f0 : DataW.trod enc Tryd.prog W 0 (fun _ => true) held n 2 (([c0, c1, c2, c3, c4].drop 0).take (Tryd.prog.cellsOf 2)) = xs[0]? := hf 0 _ rfl
      have f1 : DataW.trod enc Tryd.prog W 0 (fun _ => true) held n 22 (([c0, c1, c2, c3, c4].drop 1).take (Tryd.prog.cellsOf 22)) = xs[1]? := hf 1 _ rfl
      have f2 : DataW.trod enc Tryd.prog W 0 (fun _ => true) held n 4 (([c0, c1, c2, c3, c4].drop 2).take (Tryd.prog.cellsOf 4)) = xs[2]? := hf 2 _ rfl
      have f3 : DataW.trod enc Tryd.prog W 0 (fun _ => true) held n 23 (([c0, c1, c2, c3, c4].drop 3).take (Tryd.prog.cellsOf 23)) = xs[3]? := hf 3 _ rfl
      have f4 : DataW.trod enc Tryd.prog W 0 (fun _ => true) held n 24 (([c0, c1, c2, c3, c4].drop 4).take (Tryd.prog.cellsOf 24)) = xs[4]? := hf 4 _ rfl
      rw [cells_i64] at f0
      rw [cells_sb] at f1
      rw [cells_bool] at f2
      rw [cells_st] at f3
      rw [cells_sg] at f4
      simp only [List.drop_zero, List.drop_succ_cons, List.take_succ_cons, List.take_zero] at f0 f1 f2 f3 f4
      have hx5 : xs.length = 5 := hxl
      match xs, hx5 with
      | [x0, x1, x2, x3, x4], _ =>
        simp only [List.getElem?_cons_zero, List.getElem?_cons_succ] at f0 f1 f2 f3 f4
        obtain ⟨k, hk, -, hw⟩ := DataW.trod_int Tryd.underlying2 f0
        obtain ⟨s, hs, hsl, hsb⟩ := octs_openB f1
        obtain ⟨nu, hnu, -⟩ := DataW.trod_bool Tryd.underlying4 f2
        obtain ⟨u, hu, hub⟩ := tags_openB f4
        have hw' : -9223372036854775808 ≤ k ∧ k ≤ 9223372036854775807 := by simpa [Lit.wf, IntKind.has, IntKind.min, IntKind.max, IntKind.bits, IntKind.signed] using hw
        simp only [List.cons.injEq, and_true] at hk hnu
        subst hk hnu
        have hku : ∀ x ∈ u, x.1 < 4294967296 := fun x hx => by
          obtain ⟨_, _, _, h3, _⟩ := hu
          exact (h3 x hx).1
        unfold maxLen at hsl
        have hl : ∃ (css : List (List Value)) (l : List T), css.length = l.length ∧ (∀ i (h1 : i < l.length) (h2 : i < css.length), HT W (fun k => k < W.heap.size) l[i] css[i]) ∧ RS W (fun k => k < W.heap.size) c3 css.length css.flatten ∧ l.length ≤ 9223372036854775807 ∧ keysTs l ∧ wts l + 1 ≤ Rows.uptoBulk x3.1 := by
          rcases DataW.trod_slice Tryd.underlying23 f3 with ⟨hcs, rfl⟩ | ⟨a, len, cap, elems, rest, m, rfl, hcs, rfl, _, hl, hm, hlen, hel, -, -⟩
          · simp only [List.cons.injEq, and_true] at hcs
            subst hcs
            exact ⟨[], [], rfl, (fun i h => by simp at h), RS.nil W _, by simp, trivial, by simp [wts, Rows.uptoBulk]⟩
          · simp only [List.cons.injEq, and_true] at hcs
            subst hcs
            rw [cells_tree] at hel
            obtain ⟨css, ts, h1, h2, h3⟩ := pick2 (P := fun i (c : List Value) (t : T) => ((∀ j (hj : j < c.length), W.cell? ((a.add (i * 5)).add j) = some c[j]) ∧ c.length = 5 ∧ HT W (fun k => k < W.heap.size) t c ∧ keysT t) ∧ ∃ y, elems[i]? = some y ∧ wt t + 1 ≤ Rows.uptoBulk y.1) (n := len) fun i hi => by
              obtain ⟨cs, x, hx, ht, hcl, hc⟩ := elem_ofB hlen hel i hi
              obtain ⟨t, q1, q2, q3⟩ := ih m (by omega) ht
              exact ⟨cs, t, ⟨hc, hcl, q1, q2⟩, x, hx, q3⟩
            unfold maxLen at hm
            refine ⟨css, ts, by omega, fun i a b => (h3 i b a).1.2.2.1, ?_, by omega, keysTs_of ts fun i hi => (h3 i (by omega) hi).1.2.2.2, ?_⟩
            · rw [h1]
              refine RS.ofRows (m := 5) h1 hl (fun c hc => ?_) (by decide) fun i hi j hj => (h3 i hi (by omega)).1.1 j hj
              obtain ⟨i, hi, rfl⟩ := List.getElem_of_mem hc
              exact (h3 i hi (by omega)).1.2.1
            · have := sum_trees ts elems (by omega) fun i hi => (h3 i (by omega) hi).2
              simp only [Rows.uptoBulk]
              omega
        obtain ⟨css, l, e1, e2, e3, e4, e5, e6⟩ := hl
        refine ⟨.mk k s nu l u, .mk k s nu l u c1 c3 c4 css hs ⟨hw'.1, hw'.2, by omega, e4⟩ e1 e2 e3 hu, ⟨hku, e5⟩, ?_⟩
        simp only [List.map_cons, List.map_nil, Rows.uptoBulk, Rows.uptoBulkAll, wt]
        omega
end
end Go.Proofs.YtdklogmmfnddiaaDoor
