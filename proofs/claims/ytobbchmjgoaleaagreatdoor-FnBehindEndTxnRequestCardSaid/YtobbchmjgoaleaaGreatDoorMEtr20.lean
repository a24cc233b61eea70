/-
  What the Behind laws share: a message that was read, seen from behind another call; how small what is told is; how long what is written is.
-/
import Derived.Test.YtobbchmjgoaleaaGreatDoorMEtr15
import Derived.Test.YtobbchmjgoaleaaGreatDoorMEtr1
import Derived.Test.YtobbchmjgoaleaaGreatDoorMEtr8
import Derived.Test.YtobbchmjgoaleaaGreatDoorMEtr2
namespace Go.Proofs.YtobbchmjgoaleaaGreatDoor
open Go.ChangeShapes Go.WideShapes Go.ChangeAt Go.RowKit

theorem Keep.andBelow {a b c : World} (h : Keep [] a b) (k : Below a.heap.size b c) : Keep [] a c :=
  ⟨k.os.trans h.os, k.tape.trans h.tape, k.output.trans h.output, Nat.le_trans h.size k.size, fun i hi _ => (k.block i hi).trans (h.block i hi (by simp))⟩
theorem VM.seen {W W4 : World} {G : Nat → Prop} {b : Nat} {fs : List F} {ty : TypeId} {ver : Int} {t : T} (h : VM W G b fs ty ver t) (hG : ∀ k, G k → k < W.heap.size) (k : Keep [] W W4) :
    ∃ c, Pt W4 b 1 c ∧ W4.cell? ⟨b, 0, none⟩ = some (.int .i16 ver) ∧ VK W4 G 10 (-1) (VFs W4 G fs) c t := by
  obtain ⟨cs, v, l, u, h1, h2, h3, rfl⟩ := h
  have hb : W4.heap[b]? = _ := (k.block b (World.heap_lt h1) List.not_mem_nil).trans h1
  have hs : SameOn G W W4 := fun i hi => k.block i (hG i hi) List.not_mem_nil
  exact ⟨cs ++ [v], ⟨[.int .i16 ver], [], ty, by simpa using hb, rfl⟩, cellOf hb 0 _ (by simp), cs, v, l, u, rfl, VFs.keepF hs (fun _ h => h) fs h2, h3.keepF hs (fun _ h => h), rfl⟩
theorem smalls_map {N : Nat} {g : T → T} (h : ∀ x, small N (g x)) : ∀ l : List T, smalls N (l.map g)
  | [] => trivial
  | x :: r => ⟨h x, smalls_map h r⟩
theorem tdU_small (fs : List F) (u : List Tg) : ∀ x ∈ tdU fs u, x.2.length ≤ 32767 := by
  intro x hx
  unfold tdU at hx
  obtain ⟨y, hy, rfl⟩ := List.mem_map.1 hx
  simp [whole]; omega
theorem tdK_small {N : Nat} (hN : 32767 ≤ N) {kind : Int} {pt : T → T} (hp : ∀ t, small N (pt t)) (null : Bool) (t : T) : small N (tdK kind pt null t) := by
  have hw : (whole t.s).length ≤ 32767 := by simp [whole]; omega
  unfold tdK
  repeat' split
  all_goals first
    | exact hp t
    | exact small_plain (by simp)
    | exact small_plain (by rw [pad16_length]; omega)
    | exact small_plain (by omega)
    | exact small_nstr (fun x h => by cases h)
    | exact small_plain (Nat.zero_le _)
mutual
theorem tdF_small {N : Nat} (hN : 32767 ≤ N) : ∀ (f : F) (v : Int) (flex : Bool) (t : T), narrow N f → small N (tdF f v flex t)
  | .mk k a b nul tag dfl ofk sub, v, flex, t, hn => by
    have hp : ∀ t : T, small N (.mk 0 [] false (tdFs sub 0 v flex t) (if flex then tdU sub t.u else [])) := fun t => by
      refine ⟨by simp, by rw [tdFs_len]; exact hn.1, ?_, ?_, tdFs_small hN sub 0 v flex t hn.2⟩
      · cases flex
        · simp
        · have := tdU_len sub t.u; simp only [if_true]; omega
      · cases flex
        · simp
        · intro x hx
          have := tdU_small sub t.u x hx
          omega
    unfold tdF
    split
    · refine ⟨by simp, ?_, by simp, (fun x hx => by cases hx), smalls_map (tdK_small hN hp false) _⟩
      rw [List.length_map]
      split
      · simp
      · have := things_len t.l; omega
    · exact tdK_small hN hp _ t
theorem tdFs_small {N : Nat} (hN : 32767 ≤ N) : ∀ (fs : List F) (i : Nat) (v : Int) (flex : Bool) (t : T), narrows N fs → smalls N (tdFs fs i v flex t)
  | [], _, _, _, _, _ => trivial
  | f :: r, i, v, flex, t, hn => by
    refine ⟨?_, tdFs_small hN r (i + 1) v flex t hn.2⟩
    split
    · exact tdF_small hN f v flex _ hn.1
    · exact dflF_small (by omega) f hn.1
end
theorem tdPart_small {N : Nat} (hN : 32767 ≤ N) {fs : List F} (hn : narrows N fs) (hl : fs.length ≤ N) (v : Int) (flex : Bool) (t : T) : small N (tdPart fs v flex t) := by
  refine ⟨by simp, by rw [tdFs_len]; exact hl, ?_, ?_, tdFs_small hN fs 0 v flex t hn⟩
  · cases flex
    · simp
    · have := tdU_len fs t.u; simp only [if_true]; omega
  · cases flex
    · simp
    · intro x hx
      have := tdU_small fs t.u x hx
      omega
/-- fields that are neither lists nor structs -/
def flatFs : List F → Bool
  | [] => true
  | f :: r => kindOk f.kind && flatFs r
theorem countedP_short (flex null : Bool) {n size : Nat} (hn : n ≤ 32767) (hs : size ≤ 4) : (countedP flex null n size).length ≤ 10 := by
  unfold countedP
  have := uvarP_short (n := n + 1) (by omega)
  split
  · simp
  · split
    · exact this
    · split <;> rw [fixedP_len] <;> omega
theorem valueP_short {kind : Int} (hk : kindOk kind = true) (part : T → Bs) (null flex : Bool) (t : T) : (valueP kind part null flex t).length ≤ 40000 := by
  have hw : (if null = true then [] else whole t.s).length ≤ 32767 := by
    split
    · simp
    · simp [whole]; omega
  have h2 := countedP_short flex null hw (size := 2) (by omega)
  have h4 := countedP_short flex null hw (size := 4) (by omega)
  have hwd : widthP kind ≤ 8 := by unfold widthP; repeat' split
                                   all_goals omega
  simp only [kindOk, Bool.and_eq_true, decide_eq_true_eq] at hk
  unfold valueP
  split
  · simp
  · split
    · simp; omega
    · split
      · rw [List.length_append]; omega
      · rw [if_neg (by omega), if_neg (by omega), fixedP_len]
        omega
theorem fieldP_short {f : F} (hk : kindOk f.kind = true) (v : Int) (flex : Bool) (t : T) : (fieldP f v flex t).length ≤ 40000 := by
  have hk' := hk
  simp only [kindOk, Bool.and_eq_true, decide_eq_true_eq] at hk'
  rw [fieldP_eq]
  unfold fieldOf
  rw [if_neg (by omega), if_neg (by omega)]
  exact valueP_short hk _ _ _ _
theorem plainAt_short : ∀ (fs : List F) (i : Nat) (v : Int) (flex : Bool) (t : T), flatFs fs = true → (plainAt fs i v flex t).length ≤ 40000 * fs.length
  | [], _, _, _, _, _ => by simp [plainAt]
  | f :: r, i, v, flex, t, h => by
    simp only [flatFs, Bool.and_eq_true] at h
    have ih := plainAt_short r (i + 1) v flex t h.2
    have h1 := fieldP_short h.1 v flex (atT t i)
    simp only [plainAt, List.length_append, List.length_cons]
    split
    · omega
    · simp only [List.length_nil]; omega
theorem tags_short : ∀ (us : List Tg), (∀ x ∈ us, x.1 < 4294967296 ∧ x.2.length ≤ 32767) → ((us.map tagP).flatten).length ≤ 33000 * us.length
  | [], _ => by simp
  | x :: r, h => by
    have ih := tags_short r (fun y hy => h y (List.mem_cons_of_mem _ hy))
    have hx := h x (List.mem_cons_self ..)
    have h1 := uvarP_short (n := x.1) (by omega)
    have h2 := uvarP_short (n := x.2.length) (by omega)
    simp only [List.map_cons, List.flatten_cons, List.length_append, List.length_cons, tagP]
    omega
/-- a message without lists and structs is short, whatever the tree -/
theorem partP_flat {fs : List F} (hu : untagged fs = true) (hf : flatFs fs = true) (hl : fs.length ≤ 1000) (v : Int) (flex : Bool) {t : T} (ht : keysT t) : (partP fs v flex t).length ≤ 1099511600000 := by
  have h1 := plainAt_short fs 0 v flex t hf
  have h2 := tdU_len fs t.u
  have h3 := tags_short (tdU fs t.u) (tdU_mem ht.u)
  have h4 := uvarP_short (n := (tdU fs t.u).length) (by omega)
  rw [partP_untagged hu]
  split
  · simp only [List.length_append]; omega
  · omega
section
variable {ops : Array Oper} {Q : Exit → Act → World → Prop} {a : Act} {w : World} {rest : List Oper} {o : Oper}
/-- an append of octets that hangs on a guard -/
theorem app_obg (hw : Region.wanted o (yielded ops a.tmps) = true) (s x : Operand) (ho : o.op = .call { callee := .builtin .append, args := #[s, x], argTypes := #[22, 22] })
    (B : Nat) (v : Value) (acc : Bs) (hs : a.eval s = v) (hown : OB w B v acc) (xv : Value) (l : Bs) (G : Nat → Prop) (hx : a.eval x = xv) (hl : RB w G xv l)
    (hlen : acc.length + l.length ≤ 70368744177664) (hB : B ≤ w.heap.size)
    (h : ∀ v' w', OB w' B v' (acc ++ l) → w.grownBy w' v.ownBlock → wpList Tryz.prog ops Q rest (a.put o.dst v') w') : wpList Tryz.prog ops Q (o :: rest) a w :=
  wpList_step fun K hK => by
    rw [if_pos hw]
    exact app_wp s x ho B v acc hs hown xv l G hx hl hlen hB fun v' w' h1 h2 => hK _ _ (h v' w' h1 h2)
end
end Go.Proofs.YtobbchmjgoaleaaGreatDoor
/-
  spec's messages as constants: readings of a block of fields.
-/
namespace Go.Proofs.YtobbchmjgoaleaaGreatDoor
open Go.ChangeShapes Go.WideShapes Go.ChangeAt Go.RowKit

/-- a field's eight cells, its part's fields lying at v -/
abbrev fcl8 (k a b c d e o : Int) (v : Value) : List Value := [.int .i64 k, .int .i64 a, .int .i64 b, .int .i64 c, .int .i64 d, .int .i64 e, .int .i64 o, v]
theorem HF.flat (w : World) (G : Nat → Prop) (k a b c d e o : Int) : HF w G (.mk k a b c d e o []) (fcl8 k a b c d e o (.slice none 0 0)) :=
  .mk k a b c d e o [] (.slice none 0 0) [] (by simp) rfl (fun i h => by simp at h) ⟨none, 0, rfl, Nat.le_refl _, fun _ => ⟨rfl, rfl, rfl⟩, fun a h => by cases h⟩
theorem HF.deep {w : World} {G : Nat → Prop} {v : Value} {sub : List F} (k a b c d e o : Int) (h : HFs w G v sub) : HF w G (.mk k a b c d e o sub) (fcl8 k a b c d e o v) := by
  obtain ⟨cs, h1, h2, h3, h4⟩ := h
  exact .mk k a b c d e o sub v cs h3 h1 h2 h4
/-- fields and their cells, one by one -/
inductive HFL (w : World) (G : Nat → Prop) : List F → List (List Value) → Prop
  | nil : HFL w G [] []
  | cons {f : F} {c : List Value} {fs : List F} {cs : List (List Value)} : HF w G f c → HFL w G fs cs → HFL w G (f :: fs) (c :: cs)
theorem HFL.len {w : World} {G : Nat → Prop} {fs : List F} {cs : List (List Value)} (h : HFL w G fs cs) : cs.length = fs.length := by
  induction h with
  | nil => rfl
  | cons _ _ ih => simp [ih]
theorem HFL.get {w : World} {G : Nat → Prop} {fs : List F} {cs : List (List Value)} (h : HFL w G fs cs) : ∀ i (h1 : i < fs.length) (h2 : i < cs.length), HF w G fs[i] cs[i] := by
  induction h with
  | nil => intro i h1; simp at h1
  | cons hc _ ih =>
    intro i h1 h2
    cases i with
    | zero => exact hc
    | succ i => exact ih i (by simpa using h1) (by simpa using h2)
/-- a block of fields -/
theorem HFs.block {w : World} {G : Nat → Prop} {b : Nat} {fs : List F} {cs : List (List Value)} {arr : Array Value} {t : TypeId} {z : Nat × Nat} {n : Nat} (h : w.heap[b]? = some (.cells arr t z)) (hl : HFL w G fs cs) (ha : arr.toList = cs.flatten) (hG : G b) (hn : n = fs.length) (hb : n ≤ 1048576) :
    HFs w G (.slice (some ⟨b, 0, none⟩) n n) fs := by
  have hlen := hl.len
  subst hn
  refine ⟨cs, hlen, hl.get, hb, ⟨_, _, by rw [hlen], Nat.le_refl _, (fun e => by cases e), fun a e => ?_⟩⟩
  cases e
  refine ⟨fun _ => rfl, fun i hi => ⟨hG, ?_⟩⟩
  simp only [Nat.zero_add]
  refine cellOf h i _ ?_
  rw [← Array.getElem?_toList, ha, List.getElem?_eq_getElem hi]
end Go.Proofs.YtobbchmjgoaleaaGreatDoor
