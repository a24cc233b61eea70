/-
  What the Behind laws share: a message that was read, seen from behind another call; how small what is told is; how long what is written is.
-/
import Derived.Test.YtodbdecpacdgiaaDoorMB14
import Derived.Test.YtodbdecpacdgiaaDoorMB16
import Derived.Test.YtodbdecpacdgiaaDoorMB1
import Derived.Test.YtodbdecpacdgiaaDoorMB13
import Derived.Test.YtodbdecpacdgiaaDoorMB3
import Derived.Deep.CutBlock
namespace Go.Proofs.YtodbdecpacdgiaaDoor
open Go.ChangeShapes Go.WideShapes Go.ChangeAt Go.RowKit

theorem Keep.andBelow {a b c : World} (h : Keep [] a b) (k : Below a.heap.size b c) : Keep [] a c :=
  ⟨k.os.trans h.os, k.tape.trans h.tape, k.output.trans h.output, Nat.le_trans h.size k.size, fun i hi _ => (k.block i hi).trans (h.block i hi (by simp))⟩
theorem VM.seen {W W4 : World} {G : Nat → Prop} {b : Nat} {fs : List F} {ty : TypeId} {ver : Int} {t : T} (h : VM W G b fs ty ver t) (hG : ∀ k, G k → k < W.heap.size) (k : Keep [] W W4) :
    ∃ c, Pt W4 b 1 c ∧ W4.cell? ⟨b, 0, none⟩ = some (.int .i16 ver) ∧ VK W4 G 10 (-1) (VFs W4 G fs) c t := by
  obtain ⟨cs, v, l, u, h1, h2, h3, rfl⟩ := h
  have hb : W4.heap[b]? = _ := (k.block b (World.heap_lt h1) List.not_mem_nil).trans h1
  have hs : SameOn G W W4 := fun i hi => k.block i (hG i hi) List.not_mem_nil
  exact ⟨cs ++ [v], ⟨[.int .i16 ver], [], ty, by simpa using hb, rfl⟩, cellOf hb 0 _ (by simp), cs, v, l, u, rfl, VFs.keepF hs (fun _ h => h) fs h2, h3.keepF hs (fun _ h => h), rfl⟩
theorem smalls_map {N : Nat} {g : T → T} (h : ∀ x, small N (g x)) : ∀ l : List T, smalls N (l.map g)
  | [] => trivial
  | x :: r => ⟨h x, smalls_map h r⟩
theorem tdU_small (fs : List F) (u : List Tg) : ∀ x ∈ tdU fs u, x.2.length ≤ 32767 := by
  intro x hx
  unfold tdU at hx
  obtain ⟨y, hy, rfl⟩ := List.mem_map.1 hx
  simp [whole]; omega
theorem tdK_small {N : Nat} (hN : 32767 ≤ N) {kind : Int} {pt : T → T} (hp : ∀ t, small N (pt t)) (null : Bool) (t : T) : small N (tdK kind pt null t) := by
  have hw : (whole t.s).length ≤ 32767 := by simp [whole]; omega
  have h8 : small N (if null then nstrT none else .mk 0 (whole t.s) false [] []) := by
    cases null
    · exact small_plain (by omega)
    · exact small_nstr (o := none) (fun x h => by cases h)
  have h9 : small N (octT (if null then none else some (whole t.s))) := by
    cases null
    · exact small_octO (o := some _) (fun x h => by cases h; omega)
    · exact small_octO (o := none) (fun x h => by cases h)
  have hpl : ∀ n : Int, small N (.mk n [] false [] []) := fun n => small_plain (by simp)
  unfold tdK
  exact ite_p (small N) (hpl _) (ite_p (small N) (hpl _) (ite_p (small N) (hpl _) (ite_p (small N) (hpl _) (ite_p (small N) (hpl _) (ite_p (small N) (hpl _) (ite_p (small N) (hpl _) (ite_p (small N) (small_plain (by rw [pad16_length]; omega)) (ite_p (small N) h8 (ite_p (small N) h9 (ite_p (small N) (hp t) (hpl _)))))))))))
mutual
theorem tdF_small {N : Nat} (hN : 32767 ≤ N) : ∀ (f : F) (v : Int) (flex : Bool) (t : T), narrow N f → small N (tdF f v flex t)
  | .mk k a b nul tag dfl ofk sub, v, flex, t, hn => by
    have hp : ∀ t : T, small N (.mk 0 [] false (tdFs sub 0 v flex t) (if flex then tdU sub t.u else [])) := fun t => by
      refine ⟨by simp, by rw [tdFs_len]; exact hn.1, ?_, ?_, tdFs_small hN sub 0 v flex t hn.2⟩
      · cases flex
        · simp
        · have := tdU_len sub t.u; simp only [if_true]; omega
      · cases flex
        · simp
        · intro x hx
          have := tdU_small sub t.u x hx
          omega
    unfold tdF
    split
    · refine ⟨by simp, ?_, by simp, (fun x hx => by cases hx), smalls_map (tdK_small hN hp false) _⟩
      rw [List.length_map]
      split
      · simp
      · have := things_len t.l; omega
    · exact tdK_small hN hp _ t
theorem tdFs_small {N : Nat} (hN : 32767 ≤ N) : ∀ (fs : List F) (i : Nat) (v : Int) (flex : Bool) (t : T), narrows N fs → smalls N (tdFs fs i v flex t)
  | [], _, _, _, _, _ => trivial
  | f :: r, i, v, flex, t, hn => by
    refine ⟨?_, tdFs_small hN r (i + 1) v flex t hn.2⟩
    split
    · exact tdF_small hN f v flex _ hn.1
    · exact dflF_small (by omega) f hn.1
end
theorem tdPart_small {N : Nat} (hN : 32767 ≤ N) {fs : List F} (hn : narrows N fs) (hl : fs.length ≤ N) (v : Int) (flex : Bool) (t : T) : small N (tdPart fs v flex t) := by
  refine ⟨by simp, by rw [tdFs_len]; exact hl, ?_, ?_, tdFs_small hN fs 0 v flex t hn⟩
  · cases flex
    · simp
    · have := tdU_len fs t.u; simp only [if_true]; omega
  · cases flex
    · simp
    · intro x hx
      have := tdU_small fs t.u x hx
      omega
/-- fields that are neither lists nor structs -/
def flatFs : List F → Bool
  | [] => true
  | f :: r => kindOk f.kind && flatFs r
theorem countedP_short (flex null : Bool) {n size : Nat} (hn : n ≤ 32767) (hs : size ≤ 4) : (countedP flex null n size).length ≤ 10 := by
  unfold countedP
  have := uvarP_short (n := n + 1) (by omega)
  split
  · simp
  · split
    · exact this
    · split <;> rw [fixedP_len] <;> omega
theorem valueP_short {kind : Int} (hk : kindOk kind = true) (part : T → Bs) (null flex : Bool) (t : T) : (valueP kind part null flex t).length ≤ 40000 := by
  have hw : (if null = true then [] else whole t.s).length ≤ 32767 := by
    split
    · simp
    · simp [whole]; omega
  have h2 := countedP_short flex null hw (size := 2) (by omega)
  have h4 := countedP_short flex null hw (size := 4) (by omega)
  have hwd : widthP kind ≤ 8 := by unfold widthP; repeat' split
                                   all_goals omega
  simp only [kindOk, Bool.and_eq_true, decide_eq_true_eq] at hk
  unfold valueP
  split
  · simp
  · split
    · simp; omega
    · split
      · rw [List.length_append]; omega
      · split
        · rw [List.length_append]; omega
        · rw [if_neg (by omega), fixedP_len]
          omega
theorem fieldP_short {f : F} (hk : kindOk f.kind = true) (v : Int) (flex : Bool) (t : T) : (fieldP f v flex t).length ≤ 40000 := by
  have hk' := hk
  simp only [kindOk, Bool.and_eq_true, decide_eq_true_eq] at hk'
  rw [fieldP_eq]
  unfold fieldOf
  rw [if_neg (by omega), if_neg (by omega)]
  exact valueP_short hk _ _ _ _
theorem plainAt_short : ∀ (fs : List F) (i : Nat) (v : Int) (flex : Bool) (t : T), flatFs fs = true → (plainAt fs i v flex t).length ≤ 40000 * fs.length
  | [], _, _, _, _, _ => by simp [plainAt]
  | f :: r, i, v, flex, t, h => by
    simp only [flatFs, Bool.and_eq_true] at h
    have ih := plainAt_short r (i + 1) v flex t h.2
    have h1 := fieldP_short h.1 v flex (atT t i)
    simp only [plainAt, List.length_append, List.length_cons]
    split
    · omega
    · simp only [List.length_nil]; omega
theorem tags_short : ∀ (us : List Tg), (∀ x ∈ us, x.1 < 4294967296 ∧ x.2.length ≤ 32767) → ((us.map tagP).flatten).length ≤ 33000 * us.length
  | [], _ => by simp
  | x :: r, h => by
    have ih := tags_short r (fun y hy => h y (List.mem_cons_of_mem _ hy))
    have hx := h x (List.mem_cons_self ..)
    have h1 := uvarP_short (n := x.1) (by omega)
    have h2 := uvarP_short (n := x.2.length) (by omega)
    simp only [List.map_cons, List.flatten_cons, List.length_append, List.length_cons, tagP]
    omega
/-- a message without lists and structs is short, whatever the tree -/
theorem partP_flat {fs : List F} (hu : untagged fs = true) (hf : flatFs fs = true) (hl : fs.length ≤ 1000) (v : Int) (flex : Bool) {t : T} (ht : keysT t) : (partP fs v flex t).length ≤ 35990000000000 := by
  have h1 := plainAt_short fs 0 v flex t hf
  have h2 := tdU_len fs t.u
  have h3 := tags_short (tdU fs t.u) (tdU_mem ht.u)
  have h4 := uvarP_short (n := (tdU fs t.u).length) (by omega)
  rw [partP_untagged hu]
  split
  · simp only [List.length_append]; omega
  · omega
/-- the cost of a field: no tree makes it longer -/
def costF (f : F) : Nat := if f.kind = 11 then 10 + 32767 * (if f.ofk = 10 then 40000 * f.sub.length + 1082000000 else 40000) else 40000
def costFs : List F → Nat
  | [] => 0
  | f :: r => costF f + costFs r
/-- fields that are no structs; lists of what is no list and no struct, or of flat structs -/
def listFs : List F → Bool
  | [] => true
  | f :: r => (kindOk f.kind || (decide (f.kind = 11) && (kindOk f.ofk || (decide (f.ofk = 10) && flatFs f.sub && untagged f.sub)))) && listFs r
theorem flatMap_le {α : Type} {M : Nat} {g : α → Bs} : ∀ (l : List α), (∀ x ∈ l, (g x).length ≤ M) → (l.flatMap g).length ≤ M * l.length
  | [], _ => by simp
  | x :: r, h => by
    have ih := flatMap_le r fun y hy => h y (List.mem_cons_of_mem _ hy)
    have hx := h x (List.mem_cons_self ..)
    simp only [List.flatMap_cons, List.length_append, List.length_cons, Nat.mul_add]
    omega
theorem tags_all (fs : List F) {t : T} (ht : keysT t) : (uvarP (tdU fs t.u).length ++ ((tdU fs t.u).map tagP).flatten).length ≤ 1082000000 := by
  have h2 := tdU_len fs t.u
  have h3 := tags_short (tdU fs t.u) (tdU_mem ht.u)
  have h4 := uvarP_short (n := (tdU fs t.u).length) (by omega)
  rw [List.length_append]
  omega
theorem partP_row {fs : List F} (hu : untagged fs = true) (hf : flatFs fs = true) (v : Int) (flex : Bool) {t : T} (ht : keysT t) : (partP fs v flex t).length ≤ 40000 * fs.length + 1082000000 := by
  have h1 := plainAt_short fs 0 v flex t hf
  have h2 := tags_all fs ht
  rw [partP_untagged hu]
  split
  · rw [List.length_append]; omega
  · omega
theorem fieldP_cost {f : F} (hk : (kindOk f.kind || (decide (f.kind = 11) && (kindOk f.ofk || (decide (f.ofk = 10) && flatFs f.sub && untagged f.sub)))) = true) (v : Int) (flex : Bool) {t : T} (ht : keysT t) : (fieldP f v flex t).length ≤ costF f := by
  by_cases h11 : f.kind = 11
  · have hk' : kindOk f.kind = false := by rw [h11]; decide
    rw [hk'] at hk
    simp only [h11, decide_true, Bool.true_and, Bool.false_or, Bool.or_eq_true, Bool.and_eq_true, decide_eq_true_eq] at hk
    rw [fieldP_eq]
    unfold fieldOf costF
    rw [if_pos h11, if_pos h11]
    have hl : (if f.isNull v t = true then [] else things t.l).length ≤ 32767 := by
      split
      · simp
      · exact things_len t.l
    have hc := countedP_short flex (f.isNull v t) hl (size := 4) (by omega)
    have hm : ∀ x ∈ (if f.isNull v t = true then [] else things t.l), keysT x := by
      intro x hx
      split at hx
      · cases hx
      · exact ht.l x (List.mem_of_mem_take hx)
    have hfm := flatMap_le (M := if f.ofk = 10 then 40000 * f.sub.length + 1082000000 else 40000) (g := fun x => valueP f.ofk (partP f.sub v flex) false flex x) (if f.isNull v t = true then [] else things t.l) fun x hx => by
      by_cases h10 : f.ofk = 10
      · rcases hk with hk | hk
        · rw [h10] at hk; cases hk
        · have := partP_row hk.2 hk.1.2 v flex (hm x hx)
          rw [if_pos h10]
          simpa [valueP, h10] using this
      · rcases hk with hk | hk
        · rw [if_neg h10]; exact valueP_short hk _ _ _ _
        · exact absurd hk.1.1 h10
    simp only [List.length_append]
    have hmul := Nat.mul_le_mul_left (if f.ofk = 10 then 40000 * f.sub.length + 1082000000 else 40000) hl
    have hcom := Nat.mul_comm 32767 (if f.ofk = 10 then 40000 * f.sub.length + 1082000000 else 40000)
    rw [hcom]
    exact Nat.add_le_add hc (Nat.le_trans hfm hmul)
  · have hk' : kindOk f.kind = true := by simpa [h11] using hk
    have := fieldP_short hk' v flex t
    unfold costF
    rw [if_neg h11]
    exact this
theorem plainAt_cost : ∀ (fs : List F) (i : Nat) (v : Int) (flex : Bool) {t : T}, keysT t → listFs fs = true → (plainAt fs i v flex t).length ≤ costFs fs
  | [], _, _, _, _, _, _ => by simp [plainAt]
  | f :: r, i, v, flex, t, ht, h => by
    simp only [listFs, Bool.and_eq_true] at h
    have ih := plainAt_cost r (i + 1) v flex ht h.2
    have h1 := fieldP_cost h.1 v flex (ht.at_ i)
    simp only [plainAt, List.length_append, costFs]
    split
    · omega
    · simp only [List.length_nil]; omega
/-- a message with a list of flat structs is short enough, whatever the tree -/
theorem partP_listed {fs : List F} (hu : untagged fs = true) (hf : listFs fs = true) (hl : costFs fs ≤ 35900000000000) (v : Int) (flex : Bool) {t : T} (ht : keysT t) : (partP fs v flex t).length ≤ 35990000000000 := by
  have h1 := plainAt_cost fs 0 v flex ht hf
  have h2 := tags_all fs ht
  rw [partP_untagged hu]
  split
  · rw [List.length_append]; omega
  · omega
section
variable {ops : Array Oper} {Q : Exit → Act → World → Prop} {a : Act} {w : World} {rest : List Oper} {o : Oper}
/-- an append of octets that hangs on a guard -/
theorem app_obg (hw : Region.wanted o (yielded ops a.tmps) = true) (s x : Operand) (ho : o.op = .call { callee := .builtin .append, args := #[s, x], argTypes := #[22, 22] })
    (B : Nat) (v : Value) (acc : Bs) (hs : a.eval s = v) (hown : OB w B v acc) (xv : Value) (l : Bs) (G : Nat → Prop) (hx : a.eval x = xv) (hl : RB w G xv l)
    (hlen : acc.length + l.length ≤ 70368744177664) (hB : B ≤ w.heap.size)
    (h : ∀ v' w', OB w' B v' (acc ++ l) → w.grownBy w' v.ownBlock → wpList Tryd.prog ops Q rest (a.put o.dst v') w') : wpList Tryd.prog ops Q (o :: rest) a w :=
  wpList_step fun K hK => by
    rw [if_pos hw]
    exact app_wp s x ho B v acc hs hown xv l G hx hl hlen hB fun v' w' h1 h2 => hK _ _ (h v' w' h1 h2)
end
end Go.Proofs.YtodbdecpacdgiaaDoor
/-
  laws.version.
-/
namespace Go.Proofs.YtodbdecpacdgiaaDoor
open Go.ChangeShapes Go.WideShapes Go.ChangeAt Go.RowKit

theorem version_any {n m : Int} (hn : 0 ≤ n ∧ n ≤ 255) (hm : 0 ≤ m ∧ m ≤ 1000) (w : World) : Calls Tryd.prog 10 #[.int .u8 n, .int .i64 m] w fun e w' => e = .returned (.int .i64 (n % (m + 1))) ∧ w = w' := by
  have h1 : n.tmod (m + 1) = n % (m + 1) := Int.tmod_eq_emod_of_nonneg hn.1
  have h2 : 0 ≤ n % (m + 1) := Int.emod_nonneg _ (by omega)
  have h3 : n % (m + 1) < m + 1 := Int.emod_lt_of_pos _ (by omega)
  go_enter Tryd.func10, Tryd.ntmps10
  go_wp2
  go_ret
  exact ⟨by first | (rw [← h1]; rfl) | (simp [h1]), rfl⟩
end Go.Proofs.YtodbdecpacdgiaaDoor
/-
  What the laws on two ways of reading share: version, the ends.
-/
namespace Go.Proofs.YtodbdecpacdgiaaDoor
open Go.ChangeShapes Go.WideShapes Go.ChangeAt Go.RowKit

theorem TTS.of {w : World} {b1 b2 : Nat} {n1 n2 n3 n4 n5 m1 m2 m3 m4 m5 : Value} {T1 T2 : TypeId} {z1 z2 : Nat × Nat} (h1 : w.heap[b1]? = some (.cells #[n1, n2, n3, n4, n5] T1 z1)) (h2 : w.heap[b2]? = some (.cells #[m1, m2, m3, m4, m5] T2 z2)) :
    w.cell? ⟨b1, 0, none⟩ = some n1 ∧ w.cell? ⟨b1, 1, none⟩ = some n2 ∧ w.cell? ⟨b1, 2, none⟩ = some n3 ∧ w.cell? ⟨b1, 3, none⟩ = some n4 ∧ w.cell? ⟨b1, 4, none⟩ = some n5 ∧ w.cell? ⟨b2, 0, none⟩ = some m1 ∧ w.cell? ⟨b2, 1, none⟩ = some m2 ∧ w.cell? ⟨b2, 2, none⟩ = some m3 ∧ w.cell? ⟨b2, 3, none⟩ = some m4 ∧ w.cell? ⟨b2, 4, none⟩ = some m5 :=
  ⟨cellOf h1 0 _ rfl, cellOf h1 1 _ rfl, cellOf h1 2 _ rfl, cellOf h1 3 _ rfl, cellOf h1 4 _ rfl, cellOf h2 0 _ rfl, cellOf h2 1 _ rfl, cellOf h2 2 _ rfl, cellOf h2 3 _ rfl, cellOf h2 4 _ rfl⟩
/-- the law's last world: both trees lie in boxes -/
theorem law_end {w w4 w5 : World} {G4 G5 : Nat → Prop} {a : T} {c4 c5 : List Value} {o4 o5 : Obj} {P : World → Prop} (K5 : Keep [] w w5) (k5 : Keep [] (w4.alloc o4) w5) (hc4 : HT w4 G4 a c4) (hc5 : HT w5 G5 a c5) (g4 : There G4 w4) (g5 : There G5 w5)
    (h : ∀ W, Keep [] w W → W.heap[w4.heap.size]? = some o4 → W.heap[w5.heap.size]? = some o5 → HT W G4 a c4 → HT W G5 a c5 → There G4 W → There G5 W → P W) : P (w5.alloc o5) := by
  have k6 : Keep [] w4 (w5.alloc o5) := ((keep_box _).trans k5).alloc _
  exact h _ (K5.alloc _) (oneBox (k5.alloc _)) (heap_alloc_new w5 o5) (hc4.keepF (g4.same k6) (fun _ h => h)) (hc5.keepF (g5.same (keep_box _)) (fun _ h => h)) (g4.keep k6) (g5.keep (keep_box _))
end Go.Proofs.YtodbdecpacdgiaaDoor
