/-
  READING A MESSAGE AS A PLAIN FUNCTION OF ITS FIELDS' LIST, and how the struct that was read lies in memory.
-/
import Derived.Test.YtdklogmmfnddiaaDoorMB12
import Derived.Test.YtdklogmmfnddiaaDoorMB10
import Derived.Test.YtdklogmmfnddiaaDoorMB3
import Derived.Lib.AppendZeros
import Derived.Deep.AppendLies
namespace Go.Proofs.YtdklogmmfnddiaaDoor
open Go.ChangeShapes Go.WideShapes Go.ChangeAt Go.RowKit

/-- a list's length, as it is read -/
def rdLen (s : St) : Int × St := if ((rdI 4 s).2.1.length : Int) < (rdI 4 s).1 then (0, ([], true)) else rdI 4 s
def rdCLen (s : St) : Int × St :=
  if ((rdUv s).2.1.length : Int) < IntKind.i32.wrap (IntKind.i32.wrap ((rdUv s).1 : Int) - 1) then (0, ([], true)) else (IntKind.i32.wrap (IntKind.i32.wrap ((rdUv s).1 : Int) - 1), (rdUv s).2)
/-- octets with a length -/
def rdBs (s : St) : Bs × St := rdSpan (rdI 4 s).1 (rdI 4 s).2
def rdTimes (g : St → T × St) : Nat → St → List T × St
  | 0, s => ([], s)
  | n + 1, s => ((rdTimes g n s).1 ++ [(g (rdTimes g n s).2).1], (g (rdTimes g n s).2).2)

/-- a part: its fields, then, in a flexible version, its tags -/
def rdPartOf (fs : St → List T × St) (flex : Bool) (s : St) : T × St :=
  if flex then (.mk 0 [] false (fs s).1 (rdTags (fs s).2).1, (rdTags (fs s).2).2) else (.mk 0 [] false (fs s).1 [], (fs s).2)
/-- a value of a kind -/
def rdK (kind : Int) (nul flex : Bool) (part : St → T × St) (s : St) : T × St :=
  if kind = 0 then (.mk (if (rdBool s).1 then 1 else 0) [] false [] [], (rdBool s).2)
  else if kind = 1 then (.mk (rdI 1 s).1 [] false [] [], (rdI 1 s).2)
  else if kind = 2 then (.mk (rdI 2 s).1 [] false [] [], (rdI 2 s).2)
  else if kind = 3 then (.mk (rdI 4 s).1 [] false [] [], (rdI 4 s).2)
  else if kind = 4 then (.mk (rdI 8 s).1 [] false [] [], (rdI 8 s).2)
  else if kind = 5 then (.mk ((rdN 2 s).1 : Int) [] false [] [], (rdN 2 s).2)
  else if kind = 6 then (.mk (rdI 8 s).1 [] false [] [], (rdI 8 s).2)
  else if kind = 7 then (.mk 0 (rdUuid s).1 false [] [], (rdUuid s).2)
  else if kind = 8 then
    if nul then (if flex then (nstrT (rdCNStr s).1, (rdCNStr s).2) else (nstrT (rdNStr s).1, (rdNStr s).2))
    else (if flex then (.mk 0 (rdCStr s).1 false [] [], (rdCStr s).2) else (.mk 0 (rdStr s).1 false [] [], (rdStr s).2))
  else if kind = 9 then
    if nul then (if flex then (octT (rdCNBy s).1, (rdCNBy s).2) else (octT (rdNBy s).1, (rdNBy s).2))
    else (if flex then (octT (rdCBy s).1, (rdCBy s).2) else (octT (rdBy s).1, (rdBy s).2))
  else if kind = 10 then part s
  else (T.zero, s)
def rdListOf (nul : Int) (flex : Bool) (v : Int) (g : St → T × St) (s : St) : T × St :=
  let n := if flex then rdCLen s else rdLen s
  (.mk 0 [] (if nul < 0 then decide (n.1 ≤ 0) else decide (nul ≤ v) && decide (n.1 < 0)) (rdTimes g n.1.toNat n.2).1 [], (rdTimes g n.1.toNat n.2).2)
mutual
/-- what a field is that the version lacks -/
def dflF : F → T
  | .mk k _ _ nul _ dfl _ sub =>
    if k = 7 then .mk 0 (List.replicate 16 0) false [] []
    else if k = 8 then .mk 0 [] (decide (0 ≤ nul)) [] []
    else if k = 9 ∨ k = 11 then .mk 0 [] true [] []
    else if k = 10 then (if 0 ≤ nul then .mk 0 [] true [] [] else .mk 0 [] false (dflFs sub) [])
    else .mk dfl [] false [] []
def dflFs : List F → List T
  | [] => []
  | f :: r => dflF f :: dflFs r
end
mutual
def rdF : F → Int → Bool → St → T × St
  | .mk k _ _ nul _ _ ofk sub, v, flex, s =>
    if k = 11 then rdListOf nul flex v (rdK ofk false flex (rdPartOf (rdFs sub v flex) flex)) s
    else rdK k (decide (0 ≤ nul) && decide (nul ≤ v)) flex (rdPartOf (rdFs sub v flex) flex) s
def rdFs : List F → Int → Bool → St → List T × St
  | [], _, _, s => ([], s)
  | f :: r, v, flex, s => if f.has v then ((rdF f v flex s).1 :: (rdFs r v flex (rdF f v flex s).2).1, (rdFs r v flex (rdF f v flex s).2).2) else (dflF f :: (rdFs r v flex s).1, (rdFs r v flex s).2)
end
def rdPart (fs : List F) (v : Int) (flex : Bool) (s : St) : T × St := rdPartOf (rdFs fs v flex) flex s

theorem rdFs_has {f : F} {r : List F} {v : Int} {flex : Bool} {s : St} (h : f.has v = true) : rdFs (f :: r) v flex s = ((rdF f v flex s).1 :: (rdFs r v flex (rdF f v flex s).2).1, (rdFs r v flex (rdF f v flex s).2).2) := by
  rw [rdFs, if_pos h]
theorem rdFs_lacks {f : F} {r : List F} {v : Int} {flex : Bool} {s : St} (h : f.has v = false) : rdFs (f :: r) v flex s = (dflF f :: (rdFs r v flex s).1, (rdFs r v flex s).2) := by
  rw [rdFs, if_neg (by simp [h])]
theorem ite_p {α : Type} {c : Prop} {_ : Decidable c} {a b : α} (P : α → Prop) (h1 : P a) (h2 : P b) : P (if c then a else b) := by
  by_cases h : c
  · rw [if_pos h]; exact h1
  · rw [if_neg h]; exact h2
theorem ite_imp {c : Prop} {_ : Decidable c} {A B A' B' : Prop} (h1 : A → A') (h2 : B → B') (h : if c then A else B) : if c then A' else B' := by
  by_cases hc : c
  · rw [if_pos hc] at h ⊢; exact h1 h
  · rw [if_neg hc] at h ⊢; exact h2 h
theorem rdTimes_len (g : St → T × St) : ∀ (n : Nat) (s : St), (rdTimes g n s).1.length = n
  | 0, _ => rfl
  | n + 1, s => by simp [rdTimes, rdTimes_len g n s]

/-- WHAT HAS GONE WRONG STAYS WRONG -/
def Bad (g : St → St) : Prop := ∀ s, s.2 = true → (g s).2 = true
theorem rdN_b (k : Nat) : Bad fun s => (rdN k s).2 := fun s h => by
  cases e : (rdN k s).2.2
  · exact absurd (rdN_bad k s e) (by simp [h])
  · rfl
theorem rdUv_b : Bad fun s => (rdUv s).2 := fun s h => by
  cases e : (rdUv s).2.2
  · exact absurd (rdUv_bad s e) (by simp [h])
  · rfl
theorem rdSpan_b (n : Int) : Bad fun s => (rdSpan n s).2 := fun s h => by
  cases e : (rdSpan n s).2.2
  · exact absurd (rdSpan_bad n s e) (by simp [h])
  · rfl
theorem rdTags_b : Bad fun s => (rdTags s).2 := fun s h => by
  cases e : (rdTags s).2.2
  · exact absurd (rdTags_bad s e) (by simp [h])
  · rfl
theorem rdI_b (k : Nat) : Bad fun s => (rdI k s).2 := rdN_b k
theorem rdLen_b : Bad fun s => (rdLen s).2 := fun s h => by
  simp only [rdLen]
  split
  · rfl
  · exact rdI_b 4 s h
theorem rdCLen_b : Bad fun s => (rdCLen s).2 := fun s h => by
  simp only [rdCLen]
  split
  · rfl
  · exact rdUv_b s h
theorem rdTimes_b {g : St → T × St} (hg : Bad fun s => (g s).2) : ∀ n, Bad fun s => (rdTimes g n s).2
  | 0, _, h => h
  | n + 1, s, h => hg _ (rdTimes_b hg n s h)
theorem rdTimes_from {g : St → T × St} (hg : Bad fun s => (g s).2) (s : St) (j : Nat) (h : (rdTimes g j s).2.2 = true) : ∀ n, j ≤ n → (rdTimes g n s).2.2 = true := fun n hn => by
  induction n with
  | zero => obtain rfl : j = 0 := by omega
            exact h
  | succ n ih =>
    rcases Nat.lt_or_ge n j with h1 | h1
    · obtain rfl : j = n + 1 := by omega
      exact h
    · exact hg _ (ih h1)
theorem rdPartOf_b {fs : St → List T × St} (h : Bad fun s => (fs s).2) (flex : Bool) : Bad fun s => (rdPartOf fs flex s).2 := fun s hs => by
  cases flex
  · exact h s hs
  · exact rdTags_b _ (h s hs)
theorem rdStr_b : Bad fun s => (rdStr s).2 := fun s h => rdSpan_b _ _ (rdI_b 2 s h)
theorem rdCStr_b : Bad fun s => (rdCStr s).2 := fun s h => rdSpan_b _ _ (rdUv_b s h)
theorem rdNStr_b : Bad fun s => (rdNStr s).2 := fun s h => by
  simp only [rdNStr]
  split
  · exact rdI_b 2 s h
  · exact rdStr_b s h
theorem rdCNStr_b : Bad fun s => (rdCNStr s).2 := fun s h => by
  simp only [rdCNStr]
  split
  · exact rdUv_b s h
  · exact rdCStr_b s h
theorem rdSpO_b (n : Int) : Bad fun s => (rdSpO n s).2 := rdSpan_b n
theorem rdBy_b : Bad fun s => (rdBy s).2 := fun s h => by
  simp only [rdBy]
  split
  · exact rdI_b 4 s h
  · exact rdSpO_b _ _ (rdI_b 4 s h)
theorem rdNBy_b : Bad fun s => (rdNBy s).2 := fun s h => by
  simp only [rdNBy]
  split
  · exact rdI_b 4 s h
  · exact rdSpO_b _ _ (rdI_b 4 s h)
theorem rdCBy_b : Bad fun s => (rdCBy s).2 := fun s h => by
  simp only [rdCBy]
  split
  · exact rdUv_b s h
  · exact rdSpO_b _ _ (rdUv_b s h)
theorem rdCNBy_b : Bad fun s => (rdCNBy s).2 := fun s h => by
  simp only [rdCNBy]
  split
  · exact rdUv_b s h
  · exact rdSpO_b _ _ (rdUv_b s h)
def IsBad (x : T × St) : Prop := x.2.2 = true
theorem rdK_b (kind : Int) (nul flex : Bool) {part : St → T × St} (hp : Bad fun s => (part s).2) : Bad fun s => (rdK kind nul flex part s).2 := fun s h => by
  have Q : IsBad (rdK kind nul flex part s) := by
    unfold rdK
    refine ite_p IsBad (rdN_b 1 s h) ?_
    refine ite_p IsBad (rdI_b 1 s h) ?_
    refine ite_p IsBad (rdI_b 2 s h) ?_
    refine ite_p IsBad (rdI_b 4 s h) ?_
    refine ite_p IsBad (rdI_b 8 s h) ?_
    refine ite_p IsBad (rdN_b 2 s h) ?_
    refine ite_p IsBad (rdI_b 8 s h) ?_
    refine ite_p IsBad (rdSpan_b 16 s h) ?_
    refine ite_p IsBad (ite_p IsBad (ite_p IsBad (rdCNStr_b s h) (rdNStr_b s h)) (ite_p IsBad (rdCStr_b s h) (rdStr_b s h))) ?_
    refine ite_p IsBad (ite_p IsBad (ite_p IsBad (rdCNBy_b s h) (rdNBy_b s h)) (ite_p IsBad (rdCBy_b s h) (rdBy_b s h))) ?_
    exact ite_p IsBad (hp s h) h
  exact Q
theorem rdListOf_b (nul : Int) (flex : Bool) (v : Int) {g : St → T × St} (hg : Bad fun s => (g s).2) : Bad fun s => (rdListOf nul flex v g s).2 := fun s h => by
  cases flex
  · exact rdTimes_b hg _ _ (rdLen_b s h)
  · exact rdTimes_b hg _ _ (rdCLen_b s h)
mutual
theorem rdF_b : ∀ (f : F) (v : Int) (flex : Bool), Bad fun s => (rdF f v flex s).2
  | .mk k a b nul c d ofk sub, v, flex, s, h => by
    have hp := rdPartOf_b (rdFs_b sub v flex) flex
    simp only [rdF]
    split
    · exact rdListOf_b nul flex v (rdK_b ofk false flex hp) s h
    · exact rdK_b k _ flex hp s h
theorem rdFs_b : ∀ (l : List F) (v : Int) (flex : Bool), Bad fun s => (rdFs l v flex s).2
  | [], _, _, _, h => h
  | f :: r, v, flex, s, h => by
    simp only [rdFs]
    split
    · exact rdFs_b r v flex _ (rdF_b f v flex s h)
    · exact rdFs_b r v flex s h
end
theorem rdPart_b (fs : List F) (v : Int) (flex : Bool) : Bad fun s => (rdPart fs v flex s).2 := rdPartOf_b (rdFs_b fs v flex) flex

/-- HOW WHAT WAS READ LIES -/
def VK (W : World) (G : Nat → Prop) (kind nul : Int) (part : List Value → List T → Prop) (c : List Value) (t : T) : Prop :=
  if kind = 0 then ∃ b : Bool, c = [.bool b] ∧ t = .mk (if b then 1 else 0) [] false [] []
  else if kind = 1 then ∃ n : Int, c = [.int .i8 n] ∧ (-128 ≤ n ∧ n ≤ 127) ∧ t = .mk n [] false [] []
  else if kind = 2 then ∃ n : Int, c = [.int .i16 n] ∧ (-32768 ≤ n ∧ n ≤ 32767) ∧ t = .mk n [] false [] []
  else if kind = 3 then ∃ n : Int, c = [.int .i32 n] ∧ (-2147483648 ≤ n ∧ n ≤ 2147483647) ∧ t = .mk n [] false [] []
  else if kind = 4 then ∃ n : Int, c = [.int .i64 n] ∧ (-9223372036854775808 ≤ n ∧ n ≤ 9223372036854775807) ∧ t = .mk n [] false [] []
  else if kind = 5 then ∃ n : Int, c = [.int .u16 n] ∧ (0 ≤ n ∧ n ≤ 65535) ∧ t = .mk n [] false [] []
  else if kind = 7 then ∃ x : Bs, x.length = 16 ∧ c = x.map bv ∧ t = .mk 0 x false [] []
  else if kind = 8 then (if 0 ≤ nul then ∃ v o, c = [v] ∧ PS W G v o ∧ t = nstrT o else ∃ x : Bs, c = [str x] ∧ t = .mk 0 x false [] [])
  else if kind = 9 then ∃ v o, c = [v] ∧ OS W G v o ∧ t = octT o
  else if kind = 10 then ∃ cs v l u, c = cs ++ [v] ∧ part cs l ∧ MP W G v u ∧ t = .mk 0 [] false l u
  else if kind = 6 then ∃ n : Nat, n < 18446744073709551616 ∧ c = [.float .f64 n] ∧ t = .mk (sgn 8 n) [] false [] []
  else False
/-- a slice that begins its block: n things whose cells are xs -/
def RW (W : World) (G : Nat → Prop) (v : Value) (n : Nat) (xs : List Value) : Prop :=
  (n = 0 ∧ xs = [] ∧ (v = .slice none 0 0 ∨ ∃ b, v = .slice (some ⟨b, 0, none⟩) 0 0)) ∨
  (0 < n ∧ ∃ row cap extra ty, v = .slice (some ⟨row, 0, none⟩) n cap ∧ n ≤ cap ∧ G row ∧ W.heap[row]? = some (.cells (xs ++ extra).toArray ty (0, 0)))
theorem RW.keepF {W W' : World} {F' G : Nat → Prop} {v : Value} {n : Nat} {xs : List Value} (hs : SameOn F' W W') (hg : ∀ k, F' k → G k) (h : RW W F' v n xs) : RW W' G v n xs := by
  rcases h with h | ⟨h0, row, cap, extra, ty, h1, h2, h3, h4⟩
  · exact .inl h
  · exact .inr ⟨h0, row, cap, extra, ty, h1, h2, hg _ h3, (hs _ h3).trans h4⟩
theorem RW.shape {W : World} {G : Nat → Prop} {v : Value} {n : Nat} {xs : List Value} (h : RW W G v n xs) : ∃ ao cap, v = .slice ao n cap ∧ n ≤ cap ∧ (ao = none → n = 0 ∧ cap = 0) := by
  rcases h with ⟨rfl, _, rfl | ⟨b, rfl⟩⟩ | ⟨h0, row, cap, extra, ty, rfl, h2, _, _⟩
  · exact ⟨none, 0, rfl, Nat.le_refl _, fun _ => ⟨rfl, rfl⟩⟩
  · exact ⟨_, 0, rfl, Nat.le_refl _, fun e => by cases e⟩
  · exact ⟨_, cap, rfl, h2, fun e => by cases e⟩
/-- a list: its elements' cells, one behind another -/
def VL (W : World) (G : Nat → Prop) (P : List Value → T → Prop) (m : Nat) (v : Value) (t : T) : Prop :=
  ∃ (null : Bool) (css : List (List Value)) (l : List T), css.length = l.length ∧ (∀ i (h1 : i < l.length) (h2 : i < css.length), css[i].length = m ∧ P css[i] l[i]) ∧ RW W G v css.length css.flatten ∧ (v = .slice none 0 0 ↔ null = true) ∧ t = .mk 0 [] null l []
def wdK (kind : Int) (sub : Nat) : Nat := if kind = 7 then 16 else if kind = 10 then sub + 1 else 1
mutual
/-- how many cells a field has -/
def wdF : F → Nat
  | .mk k _ _ _ _ _ _ sub => wdK k (wdFs sub)
def wdFs : List F → Nat
  | [] => 0
  | f :: r => wdF f + wdFs r
end
mutual
def VF (W : World) (G : Nat → Prop) : F → List Value → T → Prop
  | .mk k _ _ nul _ _ ofk sub, c, t =>
    if k = 11 then ∃ v, c = [v] ∧ VL W G (VK W G ofk (-1) (VFs W G sub)) (wdK ofk (wdFs sub)) v t
    else VK W G k nul (VFs W G sub) c t
def VFs (W : World) (G : Nat → Prop) : List F → List Value → List T → Prop
  | [], c, l => c = [] ∧ l = []
  | f :: r, c, l => ∃ c1 c2 t1 l2, c = c1 ++ c2 ∧ l = t1 :: l2 ∧ VF W G f c1 t1 ∧ VFs W G r c2 l2
end
/-- a message's struct: its version, its fields, its tags -/
def VM (W : World) (G : Nat → Prop) (b : Nat) (fs : List F) (ty : TypeId) (ver : Int) (t : T) : Prop :=
  ∃ cs v l u, W.heap[b]? = some (.cells (.int .i16 ver :: (cs ++ [v])).toArray ty (0, 0)) ∧ VFs W G fs cs l ∧ MP W G v u ∧ t = .mk 0 [] false l u

section
variable {W W' : World} {F' G : Nat → Prop}
theorem VK.keepF {kind nul : Int} {p q : List Value → List T → Prop} (hs : SameOn F' W W') (hg : ∀ k, F' k → G k) (hp : ∀ c l, p c l → q c l) {c : List Value} {t : T} (h : VK W F' kind nul p c t) : VK W' G kind nul q c t := by
  unfold VK at h ⊢
  refine ite_imp id (ite_imp id (ite_imp id (ite_imp id (ite_imp id (ite_imp id (ite_imp id (ite_imp (ite_imp ?_ id) (ite_imp ?_ (ite_imp ?_ (ite_imp id id)))))))))) h
  · rintro ⟨v, o, h1, h2, h3⟩
    exact ⟨v, o, h1, h2.keepF hs hg, h3⟩
  · rintro ⟨v, o, h1, h2, h3⟩
    exact ⟨v, o, h1, h2.keepF hs hg, h3⟩
  · rintro ⟨cs, v, l, u, h1, h2, h3, h4⟩
    exact ⟨cs, v, l, u, h1, hp _ _ h2, h3.keepF hs hg, h4⟩
theorem VL.keepF {p q : List Value → T → Prop} (hs : SameOn F' W W') (hg : ∀ k, F' k → G k) (hp : ∀ c t, p c t → q c t) {m : Nat} {v : Value} {t : T} (h : VL W F' p m v t) : VL W' G q m v t := by
  obtain ⟨null, css, l, h1, h2, h3, h4, h5⟩ := h
  exact ⟨null, css, l, h1, fun i a b => ⟨(h2 i a b).1, hp _ _ (h2 i a b).2⟩, h3.keepF hs hg, h4, h5⟩
mutual
theorem VF.keepF (hs : SameOn F' W W') (hg : ∀ k, F' k → G k) : ∀ (f : F) {c : List Value} {t : T}, VF W F' f c t → VF W' G f c t
  | .mk k a b nul d e ofk sub, c, t, h => by
    have hp := fun c l => VFs.keepF hs hg sub (c := c) (l := l)
    simp only [VF] at h ⊢
    split
    · rename_i hk
      rw [if_pos hk] at h
      obtain ⟨v, h1, h2⟩ := h
      exact ⟨v, h1, h2.keepF hs hg (fun c t => VK.keepF hs hg hp)⟩
    · rename_i hk
      rw [if_neg hk] at h
      exact VK.keepF hs hg hp h
theorem VFs.keepF (hs : SameOn F' W W') (hg : ∀ k, F' k → G k) : ∀ (fs : List F) {c : List Value} {l : List T}, VFs W F' fs c l → VFs W' G fs c l
  | [], _, _, h => h
  | f :: r, c, l, h => by
    obtain ⟨c1, c2, t1, l2, h1, h2, h3, h4⟩ := h
    exact ⟨c1, c2, t1, l2, h1, h2, VF.keepF hs hg f h3, VFs.keepF hs hg r h4⟩
end
end
end Go.Proofs.YtdklogmmfnddiaaDoor
/-
  Reader.ArrayLen, CompactArrayLen, Ok.
-/
namespace Go.Proofs.YtdklogmmfnddiaaDoor
open Go.ChangeShapes Go.WideShapes Go.ChangeAt Go.RowKit

theorem Rd.nilled {w : World} {b : Nat} {G : Nat → Prop} {v : Value} {x : Bool} (h : w.heap[b]? = some (.cells #[v, .bool x] 99 (0, 0))) :
    Rd ((w.setCell ⟨b, 1, none⟩ (.bool true)).setCell ⟨b, 0, none⟩ (.slice none 0 0)) b G ([], true) ∧ Keep [b] w ((w.setCell ⟨b, 1, none⟩ (.bool true)).setCell ⟨b, 0, none⟩ (.slice none 0 0)) :=
  ⟨⟨_, heap_set (i := 0) (heap_set (i := 1) h (.bool true)) (.slice none 0 0), ⟨none, 0, rfl, Nat.le_refl _, fun _ => ⟨rfl, rfl, rfl⟩, fun a ha => by cases ha⟩, fun _ => rfl⟩, ((Keep.refl _ _).setCell (.inl (by simp)) _).setCell (.inl (by simp)) _⟩
end Go.Proofs.YtdklogmmfnddiaaDoor
/-
  WHAT IS READ IS NO LONGER THAN WHAT IT IS READ FROM.
-/
namespace Go.Proofs.YtdklogmmfnddiaaDoor
open Go.RowKit

mutual
def small (N : Nat) : T → Prop
  | .mk _ s _ l u => s.length ≤ N ∧ l.length ≤ N ∧ u.length ≤ N ∧ (∀ x ∈ u, x.2.length ≤ N) ∧ smalls N l
def smalls (N : Nat) : List T → Prop
  | [] => True
  | t :: r => small N t ∧ smalls N r
end
theorem smalls_append (N : Nat) : ∀ (a b : List T), smalls N a → smalls N b → smalls N (a ++ b)
  | [], _, _, h => h
  | _ :: r, b, h, h' => ⟨h.1, smalls_append N r b h.2 h'⟩
theorem smalls_mem {N : Nat} : ∀ {l : List T}, smalls N l → ∀ t ∈ l, small N t
  | [], _, _, h => by cases h
  | x :: r, h, t, ht => by
    rcases List.mem_cons.1 ht with e | e
    · rw [e]; exact h.1
    · exact smalls_mem h.2 t e
theorem small_plain {N : Nat} {n : Int} {s : Bs} {b : Bool} (h : s.length ≤ N) : small N (.mk n s b [] []) := ⟨h, by simp, by simp, (fun x hx => by cases hx), trivial⟩
theorem small_nstr {N : Nat} {o : Option Bs} (h : ∀ x, o = some x → x.length ≤ N) : small N (nstrT o) := by
  cases o with
  | none => exact small_plain (by simp)
  | some x => exact small_plain (h x rfl)

theorem small_octO {N : Nat} {o : Option Bs} (h : ∀ x, o = some x → x.length ≤ N) : small N (octT o) := by
  cases o with
  | none => exact small_plain (by simp)
  | some x => exact small_plain (h x rfl)
theorem rdSpO_len (n : Int) (s : St) : (∀ x, (rdSpO n s).1 = some x → x.length ≤ s.1.length) ∧ (rdSpO n s).2.1.length ≤ s.1.length := by
  have h := rdSpan_len n s
  refine ⟨fun x hx => ?_, h.2⟩
  unfold rdSpO at hx
  simp only at hx
  split at hx
  · cases hx
  · cases hx; exact h.1
theorem rdBy_len (s : St) : (∀ x, (rdBy s).1 = some x → x.length ≤ s.1.length) ∧ (rdBy s).2.1.length ≤ s.1.length := by
  have a := rdI_len 4 s
  have b := rdSpO_len (rdI 4 s).1 (rdI 4 s).2
  unfold rdBy
  split
  · exact ⟨(fun x h => by cases h; simp), a⟩
  · exact ⟨fun x h => Nat.le_trans (b.1 x h) a, Nat.le_trans b.2 a⟩
theorem rdNBy_len (s : St) : (∀ x, (rdNBy s).1 = some x → x.length ≤ s.1.length) ∧ (rdNBy s).2.1.length ≤ s.1.length := by
  have a := rdI_len 4 s
  have b := rdSpO_len (rdI 4 s).1 (rdI 4 s).2
  unfold rdNBy
  split
  · exact ⟨(fun x h => by cases h), a⟩
  · exact ⟨fun x h => Nat.le_trans (b.1 x h) a, Nat.le_trans b.2 a⟩
theorem rdCBy_len (s : St) : (∀ x, (rdCBy s).1 = some x → x.length ≤ s.1.length) ∧ (rdCBy s).2.1.length ≤ s.1.length := by
  have a := (rdUv_len s).1
  have b := rdSpO_len ((rdUv s).1 - 1) (rdUv s).2
  unfold rdCBy
  split
  · exact ⟨(fun x h => by cases h; simp), a⟩
  · exact ⟨fun x h => Nat.le_trans (b.1 x h) a, Nat.le_trans b.2 a⟩
theorem rdCNBy_len (s : St) : (∀ x, (rdCNBy s).1 = some x → x.length ≤ s.1.length) ∧ (rdCNBy s).2.1.length ≤ s.1.length := by
  have a := (rdUv_len s).1
  have b := rdSpO_len ((rdUv s).1 - 1) (rdUv s).2
  unfold rdCNBy
  split
  · exact ⟨(fun x h => by cases h), a⟩
  · exact ⟨fun x h => Nat.le_trans (b.1 x h) a, Nat.le_trans b.2 a⟩
/-- a reader that makes things no longer than what it reads -/
def Fine (N : Nat) (g : St → T × St) : Prop := ∀ s : St, s.1.length + 1 ≤ N → small N (g s).1 ∧ (g s).2.1.length ≤ s.1.length
theorem rdLen_len (s : St) : (rdLen s).1 ≤ (s.1.length : Int) ∧ (rdLen s).2.1.length ≤ s.1.length := by
  have h := rdI_len 4 s
  simp only [rdLen]
  split
  · simp
  · exact ⟨by omega, h⟩
theorem rdCLen_len (s : St) : (rdCLen s).1 ≤ (s.1.length : Int) ∧ (rdCLen s).2.1.length ≤ s.1.length := by
  have h := (rdUv_len s).1
  simp only [rdCLen]
  split
  · simp
  · exact ⟨by omega, h⟩
theorem rdTagsN_rest : ∀ (n : Nat) (s : St) (l : List Tg), (rdTagsN n s l).2.1.length ≤ s.1.length
  | 0, s, l => Nat.le_refl _
  | n + 1, s, l => by
    have a := (rdUv_len s).1
    have b := (rdUv_len (rdUv s).2).1
    have c := (rdSpan_len ((rdUv (rdUv s).2).1 : Int) (rdUv (rdUv s).2).2).2
    have h := rdTagsN_rest n (rdSpan ((rdUv (rdUv s).2).1 : Int) (rdUv (rdUv s).2).2).2 (putK l (rdUv s).1 (rdSpan ((rdUv (rdUv s).2).1 : Int) (rdUv (rdUv s).2).2).1)
    simp only [rdTagsN]
    omega
theorem rdTags_rest (s : St) : (rdTags s).2.1.length ≤ s.1.length := Nat.le_trans (rdTagsN_rest _ _ _) (rdUv_len s).1
theorem rdTimes_fine {N : Nat} {g : St → T × St} (hg : Fine N g) : ∀ (n : Nat) (s : St), s.1.length + 1 ≤ N → smalls N (rdTimes g n s).1 ∧ (rdTimes g n s).2.1.length ≤ s.1.length
  | 0, s, _ => ⟨trivial, Nat.le_refl _⟩
  | n + 1, s, h => by
    obtain ⟨h1, h2⟩ := rdTimes_fine hg n s h
    obtain ⟨h3, h4⟩ := hg (rdTimes g n s).2 (by omega)
    exact ⟨smalls_append _ _ _ h1 ⟨h3, trivial⟩, by simp only [rdTimes]; omega⟩
theorem rdPartOf_fine {N : Nat} {fs : St → List T × St} {k : Nat} (hk : k ≤ N) (hlen : ∀ s, (fs s).1.length = k) (h : ∀ s : St, s.1.length + 1 ≤ N → smalls N (fs s).1 ∧ (fs s).2.1.length ≤ s.1.length) (flex : Bool) : Fine N (rdPartOf fs flex) := fun s hs => by
  obtain ⟨h1, h2⟩ := h s hs
  cases flex
  · exact ⟨⟨by simp, by rw [hlen]; exact hk, by simp, (fun x hx => by cases hx), h1⟩, h2⟩
  · obtain ⟨h3, h4⟩ := rdTags_len (fs s).2
    have h5 : (rdTags (fs s).2).2.1.length ≤ (fs s).2.1.length := rdTags_rest _
    exact ⟨⟨by simp, by rw [hlen]; exact hk, by omega, (fun x hx => by have := h4 x hx; omega), h1⟩, by simp only [rdPartOf, if_true]; omega⟩
def IsFine (N : Nat) (s : St) (x : T × St) : Prop := small N x.1 ∧ x.2.1.length ≤ s.1.length
theorem rdK_fine {N : Nat} (hN : 16 ≤ N) (kind : Int) (nul flex : Bool) {part : St → T × St} (hp : Fine N part) : Fine N (rdK kind nul flex part) := fun s hs => by
  have Q : IsFine N s (rdK kind nul flex part s) := by
    unfold rdK
    refine ite_p (IsFine N s) ⟨small_plain (by simp), rdN_len 1 s⟩ ?_
    refine ite_p (IsFine N s) ⟨small_plain (by simp), rdI_len 1 s⟩ ?_
    refine ite_p (IsFine N s) ⟨small_plain (by simp), rdI_len 2 s⟩ ?_
    refine ite_p (IsFine N s) ⟨small_plain (by simp), rdI_len 4 s⟩ ?_
    refine ite_p (IsFine N s) ⟨small_plain (by simp), rdI_len 8 s⟩ ?_
    refine ite_p (IsFine N s) ⟨small_plain (by simp), rdN_len 2 s⟩ ?_
    refine ite_p (IsFine N s) ⟨small_plain (by simp), rdI_len 8 s⟩ ?_
    refine ite_p (IsFine N s) ⟨small_plain (by simp [rdUuid, pad16]; omega), rdUuid_len s⟩ ?_
    have h1 := rdCNStr_len s
    have h2 := rdNStr_len s
    have h3 := rdCStr_len s
    have h4 := rdStr_len s
    refine ite_p (IsFine N s) (ite_p (IsFine N s) (ite_p (IsFine N s) ⟨small_nstr fun x hx => by have := h1.1 x hx; omega, h1.2⟩ ⟨small_nstr fun x hx => by have := h2.1 x hx; omega, h2.2⟩) (ite_p (IsFine N s) ⟨small_plain (by omega), h3.2⟩ ⟨small_plain (by omega), h4.2⟩)) ?_
    have g1 := rdCNBy_len s
    have g2 := rdNBy_len s
    have g3 := rdCBy_len s
    have g4 := rdBy_len s
    refine ite_p (IsFine N s) (ite_p (IsFine N s) (ite_p (IsFine N s) ⟨small_octO fun x hx => by have := g1.1 x hx; omega, g1.2⟩ ⟨small_octO fun x hx => by have := g2.1 x hx; omega, g2.2⟩) (ite_p (IsFine N s) ⟨small_octO fun x hx => by have := g3.1 x hx; omega, g3.2⟩ ⟨small_octO fun x hx => by have := g4.1 x hx; omega, g4.2⟩)) ?_
    exact ite_p (IsFine N s) (hp s hs) ⟨small_plain (by simp), Nat.le_refl _⟩
  exact Q
theorem rdListOf_fine {N : Nat} (nul : Int) (flex : Bool) (v : Int) {g : St → T × St} (hg : Fine N g) : Fine N (rdListOf nul flex v g) := fun s hs => by
  have key : ∀ r : Int × St, r.1 ≤ (s.1.length : Int) ∧ r.2.1.length ≤ s.1.length → ∀ b, small N (.mk 0 [] b (rdTimes g r.1.toNat r.2).1 []) ∧ (rdTimes g r.1.toNat r.2).2.1.length ≤ s.1.length := fun r hr b => by
    obtain ⟨h1, h2⟩ := rdTimes_fine hg r.1.toNat r.2 (by omega)
    exact ⟨⟨by simp, by rw [rdTimes_len]; omega, by simp, (fun x hx => by cases hx), h1⟩, by omega⟩
  cases flex
  · exact key _ (rdLen_len s) _
  · exact key _ (rdCLen_len s) _
theorem rdFs_len : ∀ (fs : List F) (v : Int) (flex : Bool) (s : St), (rdFs fs v flex s).1.length = fs.length
  | [], _, _, _ => rfl
  | f :: r, v, flex, s => by
    simp only [rdFs]
    split
    · simp [rdFs_len r]
    · simp [rdFs_len r]
mutual
/-- no part has more fields than that -/
def narrow (N : Nat) : F → Prop
  | .mk _ _ _ _ _ _ _ sub => sub.length ≤ N ∧ narrows N sub
def narrows (N : Nat) : List F → Prop
  | [] => True
  | f :: r => narrow N f ∧ narrows N r
end
theorem dflFs_len : ∀ fs : List F, (dflFs fs).length = fs.length
  | [] => rfl
  | f :: r => by simp [dflFs, dflFs_len r]
mutual
theorem dflF_small {N : Nat} (hN : 16 ≤ N) : ∀ f : F, narrow N f → small N (dflF f)
  | .mk k a b nul c d e sub, h => by
    simp only [dflF]
    repeat' split
    · exact small_plain (by simp; omega)
    · exact small_plain (by simp)
    · exact small_plain (by simp)
    · exact small_plain (by simp)
    · exact ⟨by simp, by rw [dflFs_len]; exact h.1, by simp, (fun x hx => by cases hx), dflFs_small hN sub h.2⟩
    · exact small_plain (by simp)
theorem dflFs_small {N : Nat} (hN : 16 ≤ N) : ∀ fs : List F, narrows N fs → smalls N (dflFs fs)
  | [], _ => trivial
  | f :: r, h => ⟨dflF_small hN f h.1, dflFs_small hN r h.2⟩
end
mutual
theorem rdF_fine {N : Nat} (hN : 16 ≤ N) : ∀ (f : F) (v : Int) (flex : Bool), narrow N f → Fine N (rdF f v flex)
  | .mk k a b nul c d ofk sub, v, flex, hn, s, hs => by
    have hp := rdPartOf_fine (flex := flex) hn.1 (rdFs_len sub v flex) (fun s hs => rdFs_fine hN sub v flex hn.2 s hs)
    simp only [rdF]
    split
    · exact rdListOf_fine nul flex v (rdK_fine hN ofk false flex hp) s hs
    · exact rdK_fine hN k _ flex hp s hs
theorem rdFs_fine {N : Nat} (hN : 16 ≤ N) : ∀ (l : List F) (v : Int) (flex : Bool), narrows N l → ∀ s : St, s.1.length + 1 ≤ N → smalls N (rdFs l v flex s).1 ∧ (rdFs l v flex s).2.1.length ≤ s.1.length
  | [], v, flex, _, s, hs => ⟨trivial, Nat.le_refl _⟩
  | f :: r, v, flex, h, s, hs => by
    simp only [rdFs]
    split
    · obtain ⟨h1, h2⟩ := rdF_fine hN f v flex h.1 s hs
      obtain ⟨h3, h4⟩ := rdFs_fine hN r v flex h.2 (rdF f v flex s).2 (by omega)
      exact ⟨⟨h1, h3⟩, by simp only; omega⟩
    · obtain ⟨h3, h4⟩ := rdFs_fine hN r v flex h.2 s hs
      exact ⟨⟨dflF_small hN f h.1, h3⟩, h4⟩
end
theorem rdPart_fine {N : Nat} (hN : 16 ≤ N) (fs : List F) (v : Int) (flex : Bool) (h : fs.length ≤ N) (h' : narrows N fs) : Fine N (rdPart fs v flex) :=
  rdPartOf_fine h (rdFs_len fs v flex) (fun s hs => rdFs_fine hN fs v flex h' s hs) flex
end Go.Proofs.YtdklogmmfnddiaaDoor
/-
  laws.got at a tree whose parts are short: it gives the same tree.
-/
namespace Go.Proofs.YtdklogmmfnddiaaDoor
open Go.ChangeShapes Go.WideShapes Go.ChangeAt Go.RowKit

theorem small_parts {N : Nat} {a : T} (h : small N a) : a.s.length ≤ N ∧ a.l.length ≤ N ∧ a.u.length ≤ N ∧ smalls N a.l := by
  cases a
  exact ⟨h.1, h.2.1, h.2.2.1, h.2.2.2.2⟩
mutual
theorem small_up {N M : Nat} (hN : N ≤ M) : ∀ a : T, small N a → small M a
  | .mk _ _ _ l _, h => ⟨Nat.le_trans h.1 hN, Nat.le_trans h.2.1 hN, Nat.le_trans h.2.2.1 hN, fun x hx => Nat.le_trans (h.2.2.2.1 x hx) hN, smalls_up hN l h.2.2.2.2⟩
theorem smalls_up {N M : Nat} (hN : N ≤ M) : ∀ l : List T, smalls N l → smalls M l
  | [], _ => trivial
  | x :: r, h => ⟨small_up hN x h.1, smalls_up hN r h.2⟩
end
set_option maxHeartbeats 1000000 in
set_option maxRecDepth 100000 in
theorem got_step {a : T} (hsm : small 1000000 a) (hx : ∀ x ∈ a.l, GotSaid x) : GotSaid a := by
  intro G c w ha hG
  obtain ⟨hn3, hn4, hub, -⟩ := small_parts (small_up (M := 1099511627776) (by omega) _ hsm)
  clear hsm
  obtain ⟨az, ps, al, pl, au, pu, rfl, hs, hl, hu, hn1, hn2, -, -⟩ := ha.cells
  obtain ⟨i0, hi, hz0, hz1, hz2⟩ := info_agg info_st zero_st
  obtain ⟨j0, hj, hy0, hy1, hy2⟩ := info_agg info_sg zero_sg
  go_enter Tryd.func12, Tryd.ntmps12
  go_wp2_with fail
  have K3 : Keep [] w (((w.alloc (.cells #[.int .i64 a.n, .slice az a.s.length ps, .bool a.null, .slice al a.l.length pl, .slice au a.u.length pu] 37)).alloc (.cells #[.int .i64 0, .slice none 0 0, .bool false, .slice none 0 0, .slice none 0 0] 26)).alloc (.cells #[.int .i64 a.n, .slice az a.s.length ps, .bool a.null, .slice none 0 0, .slice none 0 0] 26)) := ((keep_box _).alloc _).alloc _
  have s3 : (((w.alloc (.cells #[.int .i64 a.n, .slice az a.s.length ps, .bool a.null, .slice al a.l.length pl, .slice au a.u.length pu] 37)).alloc (.cells #[.int .i64 0, .slice none 0 0, .bool false, .slice none 0 0, .slice none 0 0] 26)).alloc (.cells #[.int .i64 a.n, .slice az a.s.length ps, .bool a.null, .slice none 0 0, .slice none 0 0] 26)).heap.size = w.heap.size + 1 + 1 + 1 := by simp
  have hb0 : (((w.alloc (.cells #[.int .i64 a.n, .slice az a.s.length ps, .bool a.null, .slice al a.l.length pl, .slice au a.u.length pu] 37)).alloc (.cells #[.int .i64 0, .slice none 0 0, .bool false, .slice none 0 0, .slice none 0 0] 26)).alloc (.cells #[.int .i64 a.n, .slice az a.s.length ps, .bool a.null, .slice none 0 0, .slice none 0 0] 26)).heap[w.heap.size + 1 + 1]? = some (.cells #[.int .i64 a.n, .slice az a.s.length ps, .bool a.null, .slice none 0 0, .slice none 0 0] 26 (0, 0)) := by
    have h := heap_alloc_new ((w.alloc (.cells #[.int .i64 a.n, .slice az a.s.length ps, .bool a.null, .slice al a.l.length pl, .slice au a.u.length pu] 37)).alloc (.cells #[.int .i64 0, .slice none 0 0, .bool false, .slice none 0 0, .slice none 0 0] 26)) (.cells #[.int .i64 a.n, .slice az a.s.length ps, .bool a.null, .slice none 0 0, .slice none 0 0] 26)
    simpa using h
  have hb1 : (((w.alloc (.cells #[.int .i64 a.n, .slice az a.s.length ps, .bool a.null, .slice al a.l.length pl, .slice au a.u.length pu] 37)).alloc (.cells #[.int .i64 0, .slice none 0 0, .bool false, .slice none 0 0, .slice none 0 0] 26)).alloc (.cells #[.int .i64 a.n, .slice az a.s.length ps, .bool a.null, .slice none 0 0, .slice none 0 0] 26)).heap[w.heap.size]? = some (.cells #[.int .i64 a.n, .slice az a.s.length ps, .bool a.null, .slice al a.l.length pl, .slice au a.u.length pu] 37) := (twoBoxes (keep_box (A := []) (.cells #[.int .i64 a.n, .slice az a.s.length ps, .bool a.null, .slice none 0 0, .slice none 0 0] 26))).1
  have hb2 : (((w.alloc (.cells #[.int .i64 a.n, .slice az a.s.length ps, .bool a.null, .slice al a.l.length pl, .slice au a.u.length pu] 37)).alloc (.cells #[.int .i64 0, .slice none 0 0, .bool false, .slice none 0 0, .slice none 0 0] 26)).alloc (.cells #[.int .i64 a.n, .slice az a.s.length ps, .bool a.null, .slice none 0 0, .slice none 0 0] 26)).heap[w.heap.size + 1]? = some (.cells #[.int .i64 0, .slice none 0 0, .bool false, .slice none 0 0, .slice none 0 0] 26) := (twoBoxes (keep_box (A := []) (.cells #[.int .i64 a.n, .slice az a.s.length ps, .bool a.null, .slice none 0 0, .slice none 0 0] 26))).2
  generalize hW3 : (((w.alloc (.cells #[.int .i64 a.n, .slice az a.s.length ps, .bool a.null, .slice al a.l.length pl, .slice au a.u.length pu] 37)).alloc (.cells #[.int .i64 0, .slice none 0 0, .bool false, .slice none 0 0, .slice none 0 0] 26)).alloc (.cells #[.int .i64 a.n, .slice az a.s.length ps, .bool a.null, .slice none 0 0, .slice none 0 0] 26)) = W3 at *
  clear hW3
  have HB1 : Hid _ := hb1
  have HB2 : Hid _ := hb2
  have HS3 : Hid _ := s3
  have hs3 : w.heap.size + 3 ≤ W3.heap.size := by omega
  have hs3' : W3.heap.size ≤ w.heap.size + 3 := by omega
  clear hb1 hb2 s3
  go_loopw [18] (fun k wr => ∃ n : Nat, n ≤ a.l.length ∧ k = .int .i64 n ∧ ∃ v, wr.heap[w.heap.size + 1 + 1]? = some (.cells #[.int .i64 a.n, .slice az a.s.length ps, .bool a.null, v, .slice none 0 0] 26 (0, 0)) ∧ OT wr (w.heap.size + 3) 26 (New G W3 wr) v (a.l.take n) ∧ Keep [w.heap.size + 1 + 1] W3 wr) (fun k _ => a.l.length - (intOf k).toNat)
  case atStart => exact ⟨0, Nat.zero_le _, rfl, _, hb0, by simpa using OT.nil _ _ _ _, Keep.refl _ _⟩
  case round =>
    obtain ⟨n, hn, rfl, v, hout, hOT, hkeep⟩ := hrel
    have hk : Keep [w.heap.size + 1 + 1] w wr := (K3.weaken (by simp)).trans hkeep
    have hsame : SameOn G w wr := sameOn_of hk hG (fun k hk' => by have := hG k hk'; simp; omega)
    have hGr : There G wr := fun k hk' => Nat.lt_of_lt_of_le (hG k hk') hk.size
    have hsz := hk.size
    have hsz3 := hkeep.size
    have z3 : wr.cell? ⟨w.heap.size + 1 + 1, 3, none⟩ = some v := cellOf hout 3 _ rfl
    have f3 : wr.frozen? ⟨w.heap.size + 1 + 1, 3, none⟩ = false := freeOf hout 3
    have hbt : w.heap.size + 1 + 1 < wr.heap.size := by omega
    have HOUT : Hid _ := hout
    clear hout hb0
    by_cases hlt : n < a.l.length
    · obtain ⟨bx, ox, cx, rfl, hGx, hcx, hcell⟩ := (hl.keepF hsame (fun _ h => h)).cells hlt
      have GS := fun W (hW : Keep [] wr W) => hx _ (List.getElem_mem hlt) G _ W (hcx.keepF (hGr.same hW) (fun _ h => h)) (hGr.keep hW)
      obtain ⟨az3, ps3, al3, pl3, au3, pu3, rfl, _⟩ := hcx.cells
      have hbl := hGr bx hGx
      have c0 : wr.cell? ⟨bx, ox + n * 5, none⟩ = some _ := hcell 0 (by simp)
      have c1 : wr.cell? ⟨bx, ox + n * 5 + 1, none⟩ = some _ := hcell 1 (by simp)
      have c2 : wr.cell? ⟨bx, ox + n * 5 + 2, none⟩ = some _ := hcell 2 (by simp)
      have c3 : wr.cell? ⟨bx, ox + n * 5 + 3, none⟩ = some _ := hcell 3 (by simp)
      have c4 : wr.cell? ⟨bx, ox + n * 5 + 4, none⟩ = some _ := hcell 4 (by simp)
      simp only [List.getElem_cons_zero, List.getElem_cons_succ] at c0 c1 c2 c3 c4
      clear hcell hcx
      generalize hxn : a.l[n] = x at *
      have HXN : Hid (a.l[n] = x) := hxn
      clear hxn
      go_wp2_with fail
      clear c0 c1 c2 c3 c4
      have hlen : (a.l.take n).length = n := by simp; omega
      have HLEN : Hid _ := hlen
      clear hlen
      go_region_law (first
        | (refine step_call (by rfl) 12 #[.tmp 24] #[37] (by rfl) #[.agg #[.int .i64 x.n, .slice az3 x.s.length ps3, .bool x.null, .slice al3 x.l.length pl3, .slice au3 x.u.length pu3]] (by simp [go_sem]) _ (by rfl) got_body got_name (GS _ ((keep_box _).drew)) ?_; rintro e w2 ⟨c', rfl, hc', k2⟩; refine ⟨_, rfl, ?_⟩; obtain ⟨az5, ps5, al5, pl5, au5, pu5, rfl, _⟩ := id hc'.cells; have kx : Keep [] wr w2 := (keep_box _).drew.trans k2; have y3 := kx.cs z3; have hs2 := kx.size; have hs2' := k2.size; have hlt2 : w.heap.size + 1 + 1 < w2.heap.size := (by omega); have y4 := (kx.frozen (p := ⟨w.heap.size + 1 + 1, 3, none⟩) hbt).trans f3)
        | (obtain ⟨cs, e1, e2, e3, e4⟩ := hOT.keepF (w' := w2.alloc (.cells #[.int .i64 x.n, .slice az5 x.s.length ps5, .bool x.null, .slice al5 x.l.length pl5, .slice au5 x.u.length pu5] 26)) (G' := New G W3 (w2.alloc (.cells #[.int .i64 x.n, .slice az5 x.s.length ps5, .bool x.null, .slice al5 x.l.length pl5, .slice au5 x.u.length pu5] 26))) (fun k hk' => (kx.alloc _).block k hk'.2 (by simp)) (fun k hk' => ⟨hk'.1, by simp; have := hk'.2; omega⟩) (fun k e => by obtain ⟨xs, hr⟩ := hOT.row; have := hr.lt k e; exact (kx.alloc _).block k this.2 (by simp)); refine step_append_lies _ (by rfl) (.tmp 23) (.tmp 26) _ (by rfl) (w.heap.size + 3) 26 i0 _ 5 88 Tryd.underlying23 hi hz0 hz1 hz2 rfl (by omega) v _ cs.flatten (by rfl) e4 ⟨w2.heap.size, 0, none⟩ 1 1 [.int .i64 x.n, .slice az5 x.s.length ps5, .bool x.null, .slice al5 x.l.length pl5, .slice au5 x.u.length pu5] (by rfl) (by rfl) (World.news_of_block (cs := #[.int .i64 x.n, .slice az5 x.s.length ps5, .bool x.null, .slice al5 x.l.length pl5, .slice au5 x.u.length pu5]) (heap_alloc_new w2 _)) hc'.one (by omega) (by unfold maxLen; rw [HLEN.out]; omega) (by rw [HLEN.out]; omega) (by simp; omega) (w2.heap.size + 1) (by simp) ?_; intro g cap w3 hown1 hgr hat hlt3; have nb := hOT.off (k := w.heap.size + 1 + 1) (by omega); have x1 := hgr.block (w.heap.size + 1 + 1) (by simp; omega) nb; have x2 := (kx.alloc (.cells #[.int .i64 x.n, .slice az5 x.s.length ps5, .bool x.null, .slice al5 x.l.length pl5, .slice au5 x.u.length pu5] 26)).block _ hbt List.not_mem_nil; have x3 := (x1.trans x2).trans HOUT.out; have z5 := cellOf x3 3 _ rfl; have f5 := freeOf x3 3; clear x1 x2))
      all_goals (go_wp2; go_roundw; (case rel => (refine ⟨n + 1, by omega, by go_num, _, heap_set x3 _, ?_⟩; obtain ⟨xs0, hrow0⟩ := hOT.row; have hG3 := got_round (i := 3) (u := .slice (some ⟨g, 0, none⟩) (n + 1) cap) hG (by omega) (by omega) (by omega) hkeep kx hrow0 hc' e1 e2 (by rw [HLEN.out]; omega) hown1 hgr hat; rw [HLEN.out] at hG3; rw [List.take_succ_eq_append_getElem hlt, HXN.out]; exact hG3)); (case measure => (simp [intOf]; omega)))
    · have hnl : a.l.take n = a.l := List.take_of_length_le (by omega)
      rw [hnl] at hOT
      have HOT : Hid _ := hOT
      have h4u : wr.cell? ⟨w.heap.size, 4, none⟩ = some (.slice au a.u.length pu) := cellOf ((hkeep.block w.heap.size (by omega) (by simp; omega)).trans HB1.out) 4 _ rfl
      clear z3 f3 hOT
      go_wp2_with fail
      clear h4u hlt hnl
      have HK : Hid _ := hkeep
      clear hkeep hk hsame
      generalize hWL : wr = WL at *
      clear hWL
      go_loopw [33] (fun k wr => ∃ n : Nat, n ≤ a.u.length ∧ k = .int .i64 n ∧ ∃ u, wr.heap[w.heap.size + 1 + 1]? = some (.cells #[.int .i64 a.n, .slice az a.s.length ps, .bool a.null, v, u] 26 (0, 0)) ∧ OG wr WL.heap.size 64 (New G WL wr) u (a.u.take n) ∧ Keep [w.heap.size + 1 + 1] WL wr) (fun k _ => a.u.length - (intOf k).toNat)
      case atStart => exact ⟨0, Nat.zero_le _, rfl, _, HOUT.out, by simpa using OG.nil _ _ _ _, Keep.refl _ _⟩
      case round =>
        obtain ⟨m, hm, rfl, u, hout, hOG, hkeep⟩ := hrel
        have hkL : Keep [w.heap.size + 1 + 1] w WL := (K3.weaken (by simp)).trans HK.out
        have hk := hkL.trans hkeep
        have hsame : SameOn G w wr := sameOn_of hk hG (fun k hk' => by have := hG k hk'; simp; omega)
        have hsz' := hkeep.size
        have z3 : wr.cell? ⟨w.heap.size + 1 + 1, 4, none⟩ = some u := cellOf hout 4 _ rfl
        have f3 : wr.frozen? ⟨w.heap.size + 1 + 1, 4, none⟩ = false := freeOf hout 4
        have hbt' : w.heap.size + 1 + 1 < wr.heap.size := by omega
        by_cases hlt : m < a.u.length
        · have HOUT2 : Hid _ := hout
          obtain ⟨bx, ox, av, pv, rfl, hGx, c0, c1, hb1, hbl⟩ := (hu.keepF hsame (fun _ h => h)).elem hlt
          have hx1 := hu.num (List.getElem_mem hlt)
          have hbl3 : bx < wr.heap.size := by have := hG bx hGx; omega
          clear hout
          generalize hxn : a.u[m] = x at *
          have HXN : Hid (a.u[m] = x) := hxn
          clear hxn
          have hlen : (a.u.take m).length = m := by simp; omega
          have HLEN : Hid _ := hlen
          clear hlen
          have kx : Keep [] wr ((wr.alloc (.cells #[.int .u32 (x.1 : Int), .slice av x.2.length pv] 63)).alloc (.cells #[.int .u32 (x.1 : Int), .slice av x.2.length pv] 64)) := ((Keep.refl _ _).alloc _).alloc _
          have hnb : ((wr.alloc (.cells #[.int .u32 (x.1 : Int), .slice av x.2.length pv] 63)).alloc (.cells #[.int .u32 (x.1 : Int), .slice av x.2.length pv] 64)).heap[wr.heap.size + 1]? = some (.cells #[.int .u32 (x.1 : Int), .slice av x.2.length pv] 64 (0, 0)) := by
            have h := heap_alloc_new (wr.alloc (.cells #[.int .u32 (x.1 : Int), .slice av x.2.length pv] 63)) (.cells #[.int .u32 (x.1 : Int), .slice av x.2.length pv] 64)
            simpa using h
          have HNB : Hid _ := hnb
          clear hnb
          obtain ⟨cs, e1, e2, e3, e6, e4⟩ := hOG.keepF (w' := ((wr.alloc (.cells #[.int .u32 (x.1 : Int), .slice av x.2.length pv] 63)).alloc (.cells #[.int .u32 (x.1 : Int), .slice av x.2.length pv] 64))) (G' := New G WL ((wr.alloc (.cells #[.int .u32 (x.1 : Int), .slice av x.2.length pv] 63)).alloc (.cells #[.int .u32 (x.1 : Int), .slice av x.2.length pv] 64))) (fun k hk' => kx.block k hk'.2 (by simp)) (fun k hk' => ⟨hk'.1, by simp; have := hk'.2; omega⟩) (fun k e => by obtain ⟨xs, hr⟩ := hOG.row; have := hr.lt k e; exact kx.block k this.2 (by simp))
          have E1 : Hid _ := e1
          clear e1
          go_wp2_with (at_builtin; go_loud (refine wpList_append_lies _ rfl (.tmp 38) (.tmp 44) _ (by rfl) WL.heap.size 64 j0 _ 2 32 Tryd.underlying24 hj hy0 hy1 hy2 rfl (by omega) u _ _ (by rfl) e4 ⟨wr.heap.size + 1, 0, none⟩ 1 1 [.int .u32 (x.1 : Int), .slice av x.2.length pv] (by rfl) (by rfl) (World.news_of_block (cs := #[.int .u32 (x.1 : Int), .slice av x.2.length pv]) HNB.out) (by intro y hy; simp at hy; rcases hy with rfl | rfl <;> rfl) (by omega) (by unfold maxLen; rw [HLEN.out]; omega) (by rw [HLEN.out]; omega) (by simp; omega) (wr.heap.size + 1 + 1) (by simp) ?_); intro g cap w3 hown1 hgr hat hlt3; have nb := hOG.off (k := w.heap.size + 1 + 1) (by omega); have x1 := hgr.block (w.heap.size + 1 + 1) (by simp; omega) nb; have x2 := kx.block _ hbt' List.not_mem_nil; have x3 := (x1.trans x2).trans HOUT2.out; have z5 := cellOf x3 4 _ rfl; have f5 := freeOf x3 4; clear x1 x2)
          go_roundw
          case rel =>
            refine ⟨m + 1, by omega, by go_num, _, heap_set x3 _, ?_⟩
            obtain ⟨xs0, hrow0⟩ := hOG.row
            have hG3 := got_round2 (i := 4) (u := .slice (some ⟨g, 0, none⟩) (m + 1) cap) (x := x) (vx := .slice av x.2.length pv) (l := a.u.take m) (g := g) (cap := cap) hG (by omega) (by omega) (Nat.le_refl _) hkeep kx hb1 hx1 (fun k e => (hrow0.lt k e.symm).1) E1.out e2 e3 (by rw [HLEN.out]; omega) (by rw [HLEN.out] at hown1 ⊢; exact hown1) hgr (by simpa using hat)
            rw [HLEN.out] at hG3
            rw [List.take_succ_eq_append_getElem hlt, HXN.out]
            exact hG3
          case measure => simp [intOf]; omega
        · have hnl : a.u.take m = a.u := List.take_of_length_le (by omega)
          rw [hnl] at hOG
          have h0 : wr.cell? ⟨w.heap.size + 1 + 1, 0, none⟩ = some (.int .i64 a.n) := cellOf hout 0 _ rfl
          have h1 : wr.cell? ⟨w.heap.size + 1 + 1, 1, none⟩ = some (.slice az a.s.length ps) := cellOf hout 1 _ rfl
          have h2 : wr.cell? ⟨w.heap.size + 1 + 1, 2, none⟩ = some (.bool a.null) := cellOf hout 2 _ rfl
          have h3 : wr.cell? ⟨w.heap.size + 1 + 1, 3, none⟩ = some v := cellOf hout 3 _ rfl
          have hq := (hkeep.block (w.heap.size + 1) (by omega) (by simp)).trans ((HK.out.block (w.heap.size + 1) (by omega) (by simp)).trans HB2.out)
          have q0 : wr.cell? ⟨w.heap.size + 1, 0, none⟩ = some (.int .i64 0) := cellOf hq 0 _ rfl
          have q1 : wr.cell? ⟨w.heap.size + 1, 1, none⟩ = some (.slice none 0 0) := cellOf hq 1 _ rfl
          have q2 : wr.cell? ⟨w.heap.size + 1, 2, none⟩ = some (.bool false) := cellOf hq 2 _ rfl
          have q3 : wr.cell? ⟨w.heap.size + 1, 3, none⟩ = some (.slice none 0 0) := cellOf hq 3 _ rfl
          have q4 : wr.cell? ⟨w.heap.size + 1, 4, none⟩ = some (.slice none 0 0) := cellOf hq 4 _ rfl
          have p0 := freeOf hq 0
          have p1 := freeOf hq 1
          have p2 := freeOf hq 2
          have p3 := freeOf hq 3
          have p4 := freeOf hq 4
          have HQ : Hid _ := hq
          clear hnl hout hq
          obtain ⟨xs2, hr2⟩ := OT.row HOT.out
          obtain ⟨ao1, cp1, rfl⟩ := owns_shape hr2
          obtain ⟨xs3, hr3⟩ := hOG.row
          obtain ⟨ao2, cp2, rfl⟩ := owns_shape hr3
          clear hr2 hr3
          go_wp2_with fail
          have kq : Keep [w.heap.size + 1] wr (((((wr.setCell ⟨w.heap.size + 1, 0, none⟩ (.int .i64 a.n)).setCell ⟨w.heap.size + 1, 1, none⟩ (.slice az a.s.length ps)).setCell ⟨w.heap.size + 1, 2, none⟩ (.bool a.null)).setCell ⟨w.heap.size + 1, 3, none⟩ (.slice ao1 a.l.length cp1)).setCell ⟨w.heap.size + 1, 4, none⟩ (.slice ao2 a.u.length cp2)) := (((((Keep.refl _ _).setCell (.inl (by simp)) _).setCell (.inl (by simp)) _).setCell (.inl (by simp)) _).setCell (.inl (by simp)) _).setCell (.inl (by simp)) _
          have hq5 := heap_set (i := 4) (heap_set (i := 3) (heap_set (i := 2) (heap_set (i := 1) (heap_set (i := 0) HQ.out (.int .i64 a.n)) (.slice az a.s.length ps)) (.bool a.null)) (.slice ao1 a.l.length cp1)) (.slice ao2 a.u.length cp2)
          clear q0 q1 q2 q3 q4 p0 p1 p2 p3 p4 h0 h1 h2 h3
          generalize (((((wr.setCell ⟨w.heap.size + 1, 0, none⟩ (.int .i64 a.n)).setCell ⟨w.heap.size + 1, 1, none⟩ (.slice az a.s.length ps)).setCell ⟨w.heap.size + 1, 2, none⟩ (.bool a.null)).setCell ⟨w.heap.size + 1, 3, none⟩ (.slice ao1 a.l.length cp1)).setCell ⟨w.heap.size + 1, 4, none⟩ (.slice ao2 a.u.length cp2)) = ws at *
          have r0 : ws.cell? ⟨w.heap.size + 1, 0, none⟩ = some (.int .i64 a.n) := cellOf hq5 0 _ rfl
          have r1 : ws.cell? ⟨w.heap.size + 1, 1, none⟩ = some (.slice az a.s.length ps) := cellOf hq5 1 _ rfl
          have r2 : ws.cell? ⟨w.heap.size + 1, 2, none⟩ = some (.bool a.null) := cellOf hq5 2 _ rfl
          have r3 : ws.cell? ⟨w.heap.size + 1, 3, none⟩ = some (.slice ao1 a.l.length cp1) := cellOf hq5 3 _ rfl
          have r4 : ws.cell? ⟨w.heap.size + 1, 4, none⟩ = some (.slice ao2 a.u.length cp2) := cellOf hq5 4 _ rfl
          clear hq5
          have hL := HK.out.size
          refine bodyPost_ret (v := .agg #[.int .i64 a.n, .slice az a.s.length ps, .bool a.null, .slice ao1 a.l.length cp1, .slice ao2 a.u.length cp2]) (by simp [results, Tryd.results12, go_sem, r0, r1, r2, r3, r4]) rfl ⟨[.int .i64 a.n, .slice az a.s.length ps, .bool a.null, .slice ao1 a.l.length cp1, .slice ao2 a.u.length cp2], rfl, got_end hG hs (by omega) (by omega) (by omega) (by omega) (by omega) K3 HK.out hkeep HOT.out hOG hn1 hn2 hn3 hn4 (fun k hk' => ?_) kq.size, ?_⟩
          · refine kq.block k hk'.2 ?_
            rcases hk'.1 with h | h
            · have := hG k h; simp; omega
            · simp; omega
          · exact ((hk.weaken (B := [w.heap.size + 1 + 1, w.heap.size + 1]) (by simp)).trans (kq.weaken (by simp))).fresh (by simp; omega)

mutual
theorem gotSaid : ∀ a, small 1000000 a → GotSaid a
  | .mk n s b l u, h => got_step (a := .mk n s b l u) h (gotSaids l h.2.2.2.2)
theorem gotSaids : ∀ (l : List T), smalls 1000000 l → ∀ x ∈ l, GotSaid x
  | [], _, _, h => absurd h (by simp)
  | y :: r, hs, x, h => by
    rcases List.mem_cons.1 h with e | h'
    · rw [e]; exact gotSaid y hs.1
    · exact gotSaids r hs.2 x h'
end
end Go.Proofs.YtdklogmmfnddiaaDoor
/-
  HOW FAR A STRUCT, AND A LIST OF STRUCTS, HAVE BEEN READ: the states of readFrom's walks.
-/
namespace Go.Proofs.YtdklogmmfnddiaaDoor
open Go.ChangeShapes Go.WideShapes Go.ChangeAt Go.RowKit

/-- the blocks that hold what was read: those of G, and the new ones but for the reader's -/
def Nw (G : Nat → Prop) (w : World) (rb : Nat) (U : World) (k : Nat) : Prop := (G k ∨ w.heap.size ≤ k) ∧ k < U.heap.size ∧ k ≠ rb

theorem VFs.snoc {W : World} {G : Nat → Prop} {f : F} {c1 : List Value} {t : T} (h : VF W G f c1 t) : ∀ {fs : List F} {c : List Value} {l : List T}, VFs W G fs c l → VFs W G (fs ++ [f]) (c ++ c1) (l ++ [t])
  | [], _, _, ⟨rfl, rfl⟩ => ⟨c1, [], t, [], by simp, rfl, h, rfl, rfl⟩
  | _ :: _, _, _, ⟨a, b, t1, l2, rfl, rfl, h1, h2⟩ => ⟨a, b ++ c1, t1, l2 ++ [t], by simp, rfl, h1, VFs.snoc h h2⟩

/-- a struct: its fields fs are read (cells cd, trees td), those of rest are to come -/
structure ElSt (w U : World) (row rb : Nat) (G : Nat → Prop) (s : St) (pre cd rest post : List Value) (ty : TypeId) (fs : List F) (td : List T) : Prop where
  rd : Rd U rb G s
  blk : U.heap[row]? = some (.cells (pre ++ (cd ++ (rest ++ post))).toArray ty (0, 0))
  val : VFs U (Nw G w rb U) fs cd td
  keep : Keep [row, rb] w U
  there : There G w
  nr : ¬ G row
  nrb : ¬ G rb
  lt : row < w.heap.size
  ne : row ≠ rb
/-- one thing of a list, or a message, is read whole -/
structure ElEnd (w U : World) (row rb : Nat) (G : Nat → Prop) (s : St) (pre c post : List Value) (ty : TypeId) (ofk : Int) (fs : List F) (t : T) : Prop where
  rd : Rd U rb G s
  blk : U.heap[row]? = some (.cells (pre ++ (c ++ post)).toArray ty (0, 0))
  val : VK U (Nw G w rb U) ofk (-1) (VFs U (Nw G w rb U) fs) c t
  keep : Keep [row, rb] w U

theorem nw_same {A : List Nat} {w U U' : World} {row rb : Nat} {G : Nat → Prop} (_hz : w.heap.size ≤ U.heap.size) (hl : row < w.heap.size) (hr : ¬ G row) (k : Keep A U U') (hA : ∀ i, i ∈ A → i = row ∨ i = rb ∨ U.heap.size ≤ i) : SameOn (Nw G w rb U) U U' := fun i hi => by
  refine k.block i hi.2.1 fun ha => ?_
  rcases hA i ha with e | e | e
  · subst e
    rcases hi.1 with h | h
    · exact hr h
    · omega
  · exact hi.2.2 e
  · have := hi.2.1; omega
theorem nw_grow {w U U' : World} {rb : Nat} {G : Nat → Prop} (h : U.heap.size ≤ U'.heap.size) : ∀ k, Nw G w rb U k → Nw G w rb U' k := fun _ hk => ⟨hk.1, Nat.lt_of_lt_of_le hk.2.1 h, hk.2.2⟩

namespace ElSt
variable {w U U' : World} {row rb : Nat} {G : Nat → Prop} {s s' : St} {pre cd rest post : List Value} {ty : TypeId} {fs : List F} {td : List T}
theorem hG (h : ElSt w U row rb G s pre cd rest post ty fs td) : There G U := h.there.mono h.keep.size
theorem grow {A : List Nat} (h : ElSt w U row rb G s pre cd rest post ty fs td) (r : Rd U' rb G s') (k : Keep A U U') (hA : ∀ i, i ∈ A → i = rb ∨ U.heap.size ≤ i) : ElSt w U' row rb G s' pre cd rest post ty fs td := by
  have hs := h.keep.size
  have hl := h.lt
  have hk : Keep [rb] U U' := k.fresh (B := [rb]) (fun i hi => (hA i hi).imp (by rintro rfl; simp) id)
  refine ⟨r, ?_, ?_, h.keep.trans (hk.weaken (by simp)), h.there, h.nr, h.nrb, hl, h.ne⟩
  · exact (hk.block row (by omega) (by simp; exact h.ne)).trans h.blk
  · exact VFs.keepF (nw_same hs hl h.nr hk (by simp)) (nw_grow hk.size) _ h.val
theorem call (h : ElSt w U row rb G s pre cd rest post ty fs td) (r : Rd U' rb G s') (k : Keep [rb] U U') : ElSt w U' row rb G s' pre cd rest post ty fs td := h.grow r k (by simp)
theorem calm (h : ElSt w U row rb G s pre cd rest post ty fs td) (k : Keep [] U U') : ElSt w U' row rb G s pre cd rest post ty fs td := h.grow (h.rd.keepW h.hG h.rd.lt' k) k (by simp)
theorem cellAt {x : Value} (h : ElSt w U row rb G s pre cd (x :: rest) post ty fs td) {o : Nat} (ho : o = pre.length + cd.length) : U.cell? ⟨row, o, none⟩ = some x := by
  refine cellOf h.blk o _ ?_
  subst ho
  simp
theorem free (h : ElSt w U row rb G s pre cd rest post ty fs td) (o : Nat) : U.frozen? ⟨row, o, none⟩ = false := freeOf h.blk o
theorem setRd (h : ElSt w U row rb G s pre cd rest post ty fs td) (o : Nat) (v : Value) : Rd (U.setCell ⟨row, o, none⟩ v) rb G s ∧ Keep [row] U (U.setCell ⟨row, o, none⟩ v) := by
  have k : Keep [row] U (U.setCell ⟨row, o, none⟩ v) := (Keep.refl _ _).setCell (.inl (by simp)) _
  exact ⟨h.rd.keepA h.hG h.rd.lt' k (by intro i hi; simp at hi; subst hi; exact h.nr) (by simp; exact h.ne.symm), k⟩
theorem setBlk {x : Value} (h : ElSt w U row rb G s pre cd (x :: rest) post ty fs td) {o : Nat} (ho : o = pre.length + cd.length) (v : Value) : (U.setCell ⟨row, o, none⟩ v).heap[row]? = some (.cells (pre ++ (cd ++ ([v] ++ (rest ++ post)))).toArray ty (0, 0)) := by
  rw [heap_set h.blk v]
  subst ho
  simp [List.set_append_right]
/-- a field is read and stored -/
theorem put {x v : Value} {f : F} {t : T} (h : ElSt w U row rb G s pre cd (x :: rest) post ty fs td) {o : Nat} (ho : o = pre.length + cd.length) (hv : VF U (Nw G w rb U) f [v] t) : ElSt w (U.setCell ⟨row, o, none⟩ v) row rb G s pre (cd ++ [v]) rest post ty (fs ++ [f]) (td ++ [t]) := by
  obtain ⟨r, k⟩ := h.setRd o v
  have hs := h.keep.size
  have sm := nw_same (rb := rb) hs h.lt h.nr k (by simp)
  have gr := nw_grow (G := G) (w := w) (rb := rb) k.size
  refine ⟨r, ?_, VFs.snoc (VF.keepF sm gr _ hv) (VFs.keepF sm gr _ h.val), h.keep.trans (k.weaken (by simp)), h.there, h.nr, h.nrb, h.lt, h.ne⟩
  rw [h.setBlk ho v]
  simp
/-- a field stays as it is -/
theorem pass {x : Value} {f : F} {t : T} (h : ElSt w U row rb G s pre cd (x :: rest) post ty fs td) (hv : VF U (Nw G w rb U) f [x] t) : ElSt w U row rb G s pre (cd ++ [x]) rest post ty (fs ++ [f]) (td ++ [t]) := by
  refine ⟨h.rd, ?_, VFs.snoc hv h.val, h.keep, h.there, h.nr, h.nrb, h.lt, h.ne⟩
  rw [h.blk]
  simp
/-- the tags are read -/
theorem tags {x v : Value} {u : List Tg} (h : ElSt w U row rb G s pre cd [x] post ty fs td) {o : Nat} (ho : o = pre.length + cd.length) (hv : MP U (Nw G w rb U) v u) : ElEnd w (U.setCell ⟨row, o, none⟩ v) row rb G s pre (cd ++ [v]) post ty 10 fs (.mk 0 [] false td u) := by
  obtain ⟨r, k⟩ := h.setRd o v
  have hs := h.keep.size
  have sm := nw_same (rb := rb) hs h.lt h.nr k (by simp)
  have gr := nw_grow (G := G) (w := w) (rb := rb) k.size
  refine ⟨r, ?_, ?_, h.keep.trans (k.weaken (by simp))⟩
  · rw [h.setBlk ho v]
    simp
  · exact ⟨cd, v, td, u, rfl, VFs.keepF sm gr _ h.val, hv.keepF sm gr, rfl⟩
/-- there are no tags -/
theorem bare (h : ElSt w U row rb G s pre cd [.map none] post ty fs td) : ElEnd w U row rb G s pre (cd ++ [.map none]) post ty 10 fs (.mk 0 [] false td []) :=
  ⟨h.rd, by rw [h.blk]; simp, ⟨cd, _, td, [], rfl, h.val, MP.nil _ _, rfl⟩, h.keep⟩
/-- a list of numbers: one of them -/
theorem one {x v : Value} {ofk : Int} {t : T} (h : ElSt w U row rb G s pre [] [x] post ty [] []) {o : Nat} (ho : o = pre.length) (hv : ∀ W K p, VK W K ofk (-1) p [v] t) : ElEnd w (U.setCell ⟨row, o, none⟩ v) row rb G s pre [v] post ty ofk fs t := by
  obtain ⟨r, k⟩ := h.setRd o v
  refine ⟨r, ?_, hv _ _ _, h.keep.trans (k.weaken (by simp))⟩
  rw [h.setBlk (by simpa using ho) v]
  simp
/-- octets out of what was there already -/
theorem octs (h : ElSt w U row rb G s pre cd rest post ty fs td) {v : Value} {o : Option Bs} (ho : OS U G v o) : OS U (Nw G w rb U) v o := ho.keepF (fun _ _ => rfl) (fun k hk => ⟨.inl hk, h.hG k hk, fun e => h.nrb (e ▸ hk)⟩)
/-- what a call has made is ours -/
theorem nwOf (h : ElSt w U row rb G s pre cd rest post ty fs td) {W : World} : ∀ k, (U.heap.size ≤ k ∧ k < W.heap.size) → Nw G w rb W k := fun k hk => ⟨.inr (Nat.le_trans h.keep.size hk.1), hk.2, by have := h.rd.lt'; omega⟩
theorem nwNew (h : ElSt w U row rb G s pre cd rest post ty fs td) {W : World} : ∀ k, New G U W k → Nw G w rb W k := fun k hk => ⟨hk.1.imp id (Nat.le_trans h.keep.size), hk.2, by
  rintro rfl
  rcases hk.1 with e | e
  · exact h.nrb e
  · have := h.rd.lt'; omega⟩
end ElSt
namespace ElEnd
variable {w U U' : World} {row rb : Nat} {G : Nat → Prop} {s s' : St} {pre c post : List Value} {ty : TypeId} {ofk : Int} {fs : List F} {t : T}
theorem calm (h : ElEnd w U row rb G s pre c post ty ofk fs t) (hG : There G w) (hr : ¬ G row) (hl : row < w.heap.size) (hrb : rb < U.heap.size) (k : Keep [] U U') : ElEnd w U' row rb G s pre c post ty ofk fs t := by
  have hs := h.keep.size
  have sm := nw_same hs hl hr k (by simp) (rb := rb)
  have gr := nw_grow (G := G) (w := w) (rb := rb) k.size
  exact ⟨h.rd.keepW (hG.mono hs) hrb k, (k.block row (by omega) (by simp)).trans h.blk, VK.keepF sm gr (fun c l => VFs.keepF sm gr fs) h.val, h.keep.trans (k.weaken (by simp))⟩
end ElEnd

theorem el_at {pre cd : List Value} {m k j : Nat} (h : pre.length = m * k) (hc : cd.length = j) : k * m + j = pre.length + cd.length := by rw [h, hc, Nat.mul_comm]
theorem el_at0 {pre cd : List Value} {m k : Nat} (h : pre.length = m * k) (hc : cd.length = 0) : k * m = pre.length + cd.length := by rw [h, hc, Nat.mul_comm]; rfl
/-- how a list's row looks when it is made -/
def RowIni (U1 wx : World) (v0 av : Value) (N : Nat) (zs : List Value) (ty : TypeId) : Prop :=
  (N = 0 ∧ wx = U1 ∧ av = v0) ∨ (0 < N ∧ ∃ row cap extra, av = .slice (some ⟨row, 0, none⟩) N cap ∧ N ≤ cap ∧ U1.heap.size ≤ row ∧ Keep [] U1 wx ∧ wx.heap[row]? = some (.cells ((List.replicate N zs).flatten ++ extra).toArray ty (0, 0)))
/-- k things of a list are read -/
structure RowSt (w U : World) (row rb : Nat) (G : Nat → Prop) (g : St → T × St) (s0 : St) (N m k : Nat) (zs extra : List Value) (ty : TypeId) (ofk : Int) (fs : List F) : Prop where
  rd : Rd U rb G (rdTimes g k s0).2
  blk : ∃ css : List (List Value), css.length = k ∧ (∀ i (h1 : i < (rdTimes g k s0).1.length) (h2 : i < css.length), css[i].length = m ∧ VK U (Nw G w rb U) ofk (-1) (VFs U (Nw G w rb U) fs) css[i] (rdTimes g k s0).1[i]) ∧ U.heap[row]? = some (.cells (css.flatten ++ ((List.replicate (N - k) zs).flatten ++ extra)).toArray ty (0, 0))
  keep : Keep [row, rb] w U
  there : There G w
  nr : ¬ G row
  nrb : ¬ G rb
  lt : row < w.heap.size
  rlt : rb < w.heap.size
  ne : row ≠ rb
theorem RowSt.elem {w U : World} {row rb : Nat} {G : Nat → Prop} {g : St → T × St} {s0 : St} {N m k : Nat} {zs extra : List Value} {ty : TypeId} {ofk : Int} {fs : List F} (h : RowSt w U row rb G g s0 N m k zs extra ty ofk fs) (hk : k < N) :
    ∃ pre post, pre.length = m * k ∧ ElSt U U row rb G (rdTimes g k s0).2 pre [] zs post ty [] [] ∧
      ∀ U' c t s', ElEnd U U' row rb G s' pre c post ty ofk fs t → c.length = m → g (rdTimes g k s0).2 = (t, s') → RowSt w U' row rb G g s0 N m (k + 1) zs extra ty ofk fs := by
  obtain ⟨css, h1, h2, h3⟩ := h.blk
  have hz := h.keep.size
  have hlen : css.flatten.length = m * css.length := flatten_len css m fun c hc => by
    obtain ⟨i, hi, rfl⟩ := List.getElem_of_mem hc
    exact (h2 i (by rw [rdTimes_len]; omega) hi).1
  refine ⟨css.flatten, (List.replicate (N - (k + 1)) zs).flatten ++ extra, by rw [hlen, h1], ⟨h.rd, ?_, ⟨rfl, rfl⟩, Keep.refl _ _, h.there.mono hz, h.nr, h.nrb, Nat.lt_of_lt_of_le h.lt hz, h.ne⟩, fun U' c t s' he hc hg => ?_⟩
  · rw [h3, show N - k = (N - (k + 1)) + 1 by omega, List.replicate_succ]
    simp
  · have e1 : (rdTimes g (k + 1) s0).2 = s' := by simp only [rdTimes, hg]
    have e2 : (rdTimes g (k + 1) s0).1 = (rdTimes g k s0).1 ++ [t] := by simp only [rdTimes, hg]
    have hs' := he.keep.size
    have sm : SameOn (Nw G w rb U) U U' := nw_same hz h.lt h.nr he.keep (by simp)
    have gr := nw_grow (G := G) (w := w) (rb := rb) hs'
    have gr2 : ∀ k, Nw G U rb U' k → Nw G w rb U' k := fun k hk => ⟨hk.1.imp id (Nat.le_trans hz), hk.2⟩
    refine ⟨by rw [e1]; exact he.rd, ⟨css ++ [c], by simp [h1], ?_, ?_⟩, h.keep.trans he.keep, h.there, h.nr, h.nrb, h.lt, h.rlt, h.ne⟩
    · rw [e2]
      intro i a b
      rcases Nat.lt_or_ge i css.length with hi | hi
      · rw [List.getElem_append_left hi, List.getElem_append_left (by rw [rdTimes_len]; omega)]
        have := h2 i (by rw [rdTimes_len]; omega) hi
        exact ⟨this.1, VK.keepF sm gr (fun c l => VFs.keepF sm gr fs) this.2⟩
      · have hi' : i = css.length := by simp at b; omega
        subst hi'
        rw [List.getElem_append_right (Nat.le_refl _), List.getElem_append_right (by rw [rdTimes_len]; omega)]
        simp only [rdTimes_len, h1, Nat.sub_self, List.getElem_singleton]
        exact ⟨hc, VK.keepF (fun _ _ => rfl) gr2 (fun c l => VFs.keepF (fun _ _ => rfl) gr2 fs) he.val⟩
    · rw [he.blk]
      simp

/-- a list of which k things are read -/
def RowRel (U1 w U : World) (rb : Nat) (G : Nat → Prop) (g : St → T × St) (s0 : St) (N m k : Nat) (zs : List Value) (ty : TypeId) (ofk : Int) (fs : List F) (v0 av : Value) : Prop :=
  (N = 0 ∧ k = 0 ∧ av = v0 ∧ U = U1 ∧ w = U1 ∧ Rd U1 rb G s0) ∨
  (0 < N ∧ k ≤ N ∧ ∃ row cap extra, av = .slice (some ⟨row, 0, none⟩) N cap ∧ N ≤ cap ∧ U1.heap.size ≤ row ∧ Keep [] U1 w ∧ RowSt w U row rb G g s0 N m k zs extra ty ofk fs)
theorem RowRel.start {U1 w : World} {rb : Nat} {G : Nat → Prop} {s0 : St} {N : Nat} {zs : List Value} {ty : TypeId} {v0 av : Value} (h : RowIni U1 w v0 av N zs ty) (r : Rd U1 rb G s0) (hG : There G U1) (hb : ¬ G rb) (g : St → T × St) (m : Nat) (ofk : Int) (fs : List F) :
    RowRel U1 w w rb G g s0 N m 0 zs ty ofk fs v0 av := by
  rcases h with ⟨h1, h2, h3⟩ | ⟨h1, row, cap, extra, h2, h3, h4, h5, h6⟩
  · subst h2
    exact .inl ⟨h1, rfl, h3, rfl, rfl, r⟩
  · have hl := r.lt'
    have hz := h5.size
    refine .inr ⟨h1, Nat.zero_le _, row, cap, extra, h2, h3, h4, h5, ⟨r.keepW hG hl h5, ⟨[], rfl, fun i _ a => by simp at a, by rw [h6]; simp⟩, Keep.refl _ _, hG.mono hz, fun e => by have := hG _ e; omega, hb, World.heap_lt h6, by omega, by omega⟩⟩
theorem RowRel.elem {U1 w U : World} {rb : Nat} {G : Nat → Prop} {g : St → T × St} {s0 : St} {N m k : Nat} {zs : List Value} {ty : TypeId} {ofk : Int} {fs : List F} {v0 av : Value} (h : RowRel U1 w U rb G g s0 N m k zs ty ofk fs v0 av) (hk : k < N) :
    ∃ row cap pre post, av = .slice (some ⟨row, 0, none⟩) N cap ∧ N ≤ cap ∧ U1.heap.size ≤ row ∧ pre.length = m * k ∧ ElSt U U row rb G (rdTimes g k s0).2 pre [] zs post ty [] [] ∧
      ∀ U' c t s', ElEnd U U' row rb G s' pre c post ty ofk fs t → c.length = m → g (rdTimes g k s0).2 = (t, s') → RowRel U1 w U' rb G g s0 N m (k + 1) zs ty ofk fs v0 av := by
  rcases h with ⟨h1, _⟩ | ⟨h1, _, row, cap, extra, h2, h3, h4, h5, h6⟩
  · omega
  · obtain ⟨pre, post, a1, a2, a3⟩ := h6.elem hk
    exact ⟨row, cap, pre, post, h2, h3, h4, a1, a2, fun U' c t s' b1 b2 b3 => .inr ⟨h1, hk, row, cap, extra, h2, h3, h4, h5, a3 U' c t s' b1 b2 b3⟩⟩
theorem RowRel.keep {U1 w U : World} {rb : Nat} {G : Nat → Prop} {g : St → T × St} {s0 : St} {N m k : Nat} {zs : List Value} {ty : TypeId} {ofk : Int} {fs : List F} {v0 av : Value} (h : RowRel U1 w U rb G g s0 N m k zs ty ofk fs v0 av) : Keep [rb] U1 U := by
  rcases h with ⟨rfl, _, rfl, rfl, rfl, h1⟩ | ⟨h1, h1', row, cap, extra, rfl, h3, h4, h5, h6⟩
  · exact Keep.refl _ _
  · exact ((h5.weaken (B := [row, rb]) (by simp)).trans h6.keep).fresh (by simp; omega)
/-- the list is read whole -/
theorem RowRel.fin {U1 w U : World} {rb : Nat} {G : Nat → Prop} {g : St → T × St} {s0 : St} {N m k : Nat} {zs : List Value} {ty : TypeId} {ofk : Int} {fs : List F} {v0 av : Value} (h : RowRel U1 w U rb G g s0 N m k zs ty ofk fs v0 av) (hk : ¬ k < N) (h0 : v0 = .slice none 0 0 ∨ ∃ b, v0 = .slice (some ⟨b, 0, none⟩) 0 0) :
    Rd U rb G (rdTimes g N s0).2 ∧ Keep [rb] U1 U ∧ (∃ ao cap, av = .slice ao N cap) ∧
      ∀ null, (null = true ↔ N = 0 ∧ v0 = .slice none 0 0) → VL U (Nw G U1 rb U) (VK U (Nw G U1 rb U) ofk (-1) (VFs U (Nw G U1 rb U) fs)) m av (.mk 0 [] null (rdTimes g N s0).1 []) := by
  rcases h with ⟨rfl, _, rfl, rfl, rfl, h1⟩ | ⟨h1, h1', row, cap, extra, rfl, h3, h4, h5, h6⟩
  · have hs : ∃ ao : Option Addr, av = .slice ao 0 0 := by
      rcases h0 with rfl | ⟨b, rfl⟩
      · exact ⟨none, rfl⟩
      · exact ⟨_, rfl⟩
    obtain ⟨ao, hao⟩ := hs
    exact ⟨h1, Keep.refl _ _, ⟨ao, 0, hao⟩, fun null hn => ⟨null, [], [], rfl, fun i a => by simp at a, .inl ⟨rfl, rfl, h0⟩, by rw [hn]; simp, rfl⟩⟩
  · obtain rfl : k = N := by omega
    have hz := h6.keep.size
    have hz5 := h5.size
    have hrl := h6.rlt
    obtain ⟨css, c1, c2, c3⟩ := h6.blk
    have gr : ∀ i, Nw G w rb U i → Nw G U1 rb U i := fun i hi => ⟨hi.1.imp id (Nat.le_trans hz5), hi.2⟩
    refine ⟨h6.rd, ((h5.weaken (B := [row, rb]) (by simp)).trans h6.keep).fresh (by simp; omega), ⟨_, cap, rfl⟩, fun null hn => ⟨null, css, _, by rw [rdTimes_len, c1], fun i a b => ⟨(c2 i a b).1, VK.keepF (fun _ _ => rfl) gr (fun c l => VFs.keepF (fun _ _ => rfl) gr fs) (c2 i a b).2⟩, ?_, ?_, rfl⟩⟩
    · exact .inr ⟨by omega, row, cap, _, ty, by rw [c1], by omega, ⟨.inr h4, Nat.lt_of_lt_of_le h6.lt hz, h6.ne⟩, by simpa using c3⟩
    · constructor
      · intro e; cases e
      · intro e; have := hn.1 e; omega
/-- a message's struct is read whole -/
theorem ElEnd.vm {w U : World} {b rb : Nat} {G : Nat → Prop} {s : St} {c : List Value} {ty : TypeId} {fs : List F} {t : T} {ver : Int} (h : ElEnd w U b rb G s [.int .i16 ver] c [] ty 10 fs t) (hrb : w.heap.size ≤ rb) : Keep [b] w U ∧ VM U (New G w U) b fs ty ver t := by
  refine ⟨h.keep.fresh (by simp; omega), ?_⟩
  obtain ⟨cs, v, l, u, h1, h2, h3, h4⟩ : ∃ cs v l u, c = cs ++ [v] ∧ VFs U (Nw G w rb U) fs cs l ∧ MP U (Nw G w rb U) v u ∧ t = .mk 0 [] false l u := h.val
  have gr : ∀ k, Nw G w rb U k → New G w U k := fun k hk => ⟨hk.1, hk.2.1⟩
  refine ⟨cs, v, l, u, ?_, VFs.keepF (fun _ _ => rfl) gr fs h2, h3.keepF (fun _ _ => rfl) gr, h4⟩
  rw [h.blk, h1]
  simp

section
variable {W : World} {G : Nat → Prop} {a b nul c d e n : Int} {sub : List F}
theorem vf_bool {x : Bool} : VF W G (.mk 0 a b nul c d e sub) [.bool x] (.mk (if x then 1 else 0) [] false [] []) := ⟨x, rfl, rfl⟩
theorem vf_i8 (h : -128 ≤ n ∧ n ≤ 127) : VF W G (.mk 1 a b nul c d e sub) [.int .i8 n] (.mk n [] false [] []) := ⟨n, rfl, h, rfl⟩
theorem vf_i16 (h : -32768 ≤ n ∧ n ≤ 32767) : VF W G (.mk 2 a b nul c d e sub) [.int .i16 n] (.mk n [] false [] []) := ⟨n, rfl, h, rfl⟩
theorem vf_i32 (h : -2147483648 ≤ n ∧ n ≤ 2147483647) : VF W G (.mk 3 a b nul c d e sub) [.int .i32 n] (.mk n [] false [] []) := ⟨n, rfl, h, rfl⟩
theorem vf_i64 (h : -9223372036854775808 ≤ n ∧ n ≤ 9223372036854775807) : VF W G (.mk 4 a b nul c d e sub) [.int .i64 n] (.mk n [] false [] []) := ⟨n, rfl, h, rfl⟩
theorem vf_u16 (h : 0 ≤ n ∧ n ≤ 65535) : VF W G (.mk 5 a b nul c d e sub) [.int .u16 n] (.mk n [] false [] []) := ⟨n, rfl, h, rfl⟩
theorem vf_str (hn : nul < 0) (x : Bs) : VF W G (.mk 8 a b nul c d e sub) [.string ⟨x.toArray⟩] (.mk 0 x false [] []) := by
  show VK W G 8 nul (VFs W G sub) _ _
  simp only [VK]
  rw [if_neg (by decide), if_neg (by decide), if_neg (by decide), if_neg (by decide), if_neg (by decide), if_neg (by decide), if_neg (by decide), if_pos True.intro, if_neg (by omega)]
  exact ⟨x, rfl, rfl⟩
theorem vf_nstr (hn : 0 ≤ nul) {v : Value} {o : Option Bs} (h : PS W G v o) : VF W G (.mk 8 a b nul c d e sub) [v] (nstrT o) := by
  show VK W G 8 nul (VFs W G sub) _ _
  simp only [VK]
  rw [if_neg (by decide), if_neg (by decide), if_neg (by decide), if_neg (by decide), if_neg (by decide), if_neg (by decide), if_neg (by decide), if_pos True.intro, if_pos hn]
  exact ⟨v, o, rfl, h, rfl⟩
theorem vf_f64 {n : Nat} (h : n < 256 ^ 8) : VF W G (.mk 6 a b nul c d e sub) [.float .f64 n] (.mk (sgn 8 n) [] false [] []) := ⟨n, by simpa using h, rfl, rfl⟩
theorem vf_oct {v : Value} {o : Option Bs} (h : OS W G v o) : VF W G (.mk 9 a b nul c d e sub) [v] (octT o) := ⟨v, o, rfl, h, rfl⟩
theorem vf_list {v : Value} {t : T} {m : Nat} (hm : m = wdK e (wdFs sub)) (h : VL W G (VK W G e (-1) (VFs W G sub)) m v t) : VF W G (.mk 11 a b nul c d e sub) [v] t := by
  subst hm
  exact ⟨v, rfl, h⟩
end
theorem PS.nil (W : World) (G : Nat → Prop) : PS W G (.pointer none) none := .inl ⟨rfl, rfl⟩
theorem OS.nil (W : World) (G : Nat → Prop) : OS W G (.slice none 0 0) none := ⟨RB.nil _ _, by simp⟩
theorem VL.nil (W : World) (G : Nat → Prop) (P : List Value → T → Prop) (m : Nat) : VL W G P m (.slice none 0 0) (.mk 0 [] true [] []) :=
  ⟨true, [], [], rfl, fun i a => by simp at a, .inl ⟨rfl, rfl, .inl rfl⟩, by simp, rfl⟩
theorem clist_bad {a b nul c d ofk v : Int} {sub : List F} {s : St} (h : (rdCLen s).2.2 = true) : (rdF (.mk 11 a b nul c d ofk sub) v true s).2.2 = true :=
  rdTimes_b (rdK_b ofk false true (rdPartOf_b (rdFs_b sub v true) true)) _ _ h
theorem list_bad {a b nul c d ofk v : Int} {sub : List F} {s : St} (h : (rdLen s).2.2 = true) : (rdF (.mk 11 a b nul c d ofk sub) v false s).2.2 = true :=
  rdTimes_b (rdK_b ofk false false (rdPartOf_b (rdFs_b sub v false) false)) _ _ h
/-- how one thing of a list is read -/
def gOf (ofk : Int) (flex : Bool) (sub : List F) (v : Int) : St → T × St := rdK ofk false flex (rdPartOf (rdFs sub v flex) flex)
theorem gOf_b (ofk : Int) (flex : Bool) (sub : List F) (v : Int) : Bad fun s => (gOf ofk flex sub v s).2 := rdK_b ofk false flex (rdPartOf_b (rdFs_b sub v flex) flex)
theorem rdF_clist {a b c d ofk v : Int} {sub : List F} {s : St} {L : Int} (h : (rdCLen s).1 = L) : rdF (.mk 11 a b (-1) c d ofk sub) v true s = (.mk 0 [] (decide (L ≤ 0)) (rdTimes (gOf ofk true sub v) L.toNat (rdCLen s).2).1 [], (rdTimes (gOf ofk true sub v) L.toNat (rdCLen s).2).2) := by
  subst h
  simp [rdF, rdListOf, gOf]
theorem rdF_list {a b c d ofk v : Int} {sub : List F} {s : St} {L : Int} (h : (rdLen s).1 = L) : rdF (.mk 11 a b (-1) c d ofk sub) v false s = (.mk 0 [] (decide (L ≤ 0)) (rdTimes (gOf ofk false sub v) L.toNat (rdLen s).2).1 [], (rdTimes (gOf ofk false sub v) L.toNat (rdLen s).2).2) := by
  subst h
  simp [rdF, rdListOf, gOf]
theorem info_bd {P : Program} {t : TypeId} {z : Value} {m : Nat} (h : (P.info? t).map (fun i => (i.zero, i.size, decide (i.bytes ≤ 65536))) = some (some z, m, true)) : ∃ i, P.info? t = some i ∧ i.zero = some z ∧ i.size = m ∧ i.bytes ≤ 65536 := by
  cases hi : P.info? t with
  | none => rw [hi] at h; cases h
  | some i =>
    rw [hi] at h
    simp at h
    exact ⟨i, rfl, h.1, h.2.1, h.2.2⟩
theorem rdLen_range (s : St) : -2147483648 ≤ (rdLen s).1 ∧ (rdLen s).1 ≤ 2147483647 := by
  have := rdI_range4 s
  simp only [rdLen]
  split
  · simp
  · exact this
theorem rdCLen_range (s : St) : -2147483648 ≤ (rdCLen s).1 ∧ (rdCLen s).1 ≤ 2147483647 := by
  simp only [rdCLen]
  split
  · simp
  · simp only [IntKind.wrap_i32]; omega
/-- zero cells, one thing after another -/
theorem zeroCells_list (z : Array Value) : ∀ n : Nat, (Builtin.zeroCells z n).toList = (List.replicate n z.toList).flatten
  | 0 => by simp [Builtin.zeroCells]
  | n + 1 => by
    have ih := zeroCells_list z n
    simp only [Builtin.zeroCells, Array.toList_map, Array.toList_range] at ih ⊢
    rw [Nat.succ_mul, List.range_add, List.map_append, ih, List.replicate_succ', List.flatten_append]
    congr 1
    simp only [List.map_map, List.flatten_cons, List.flatten_nil, List.append_nil]
    refine List.ext_getElem (by simp) fun i h1 h2 => ?_
    have hi : i < z.size := by simpa using h2
    simp [Nat.add_mod, Nat.mod_eq_of_lt hi, hi]
theorem RowIni.made {w : World} {z : Value} {N : Nat} {e : TypeId} (h : 0 < N) {zs : List Value} (hz : z.cells.toList = zs) :
    RowIni w (w.drew.alloc (.cells (Builtin.zeroCells z.cells N ++ Builtin.zeroCells z.cells (grownCap w N 0 e - N)) e)) (.slice none 0 0) (.slice (some ⟨w.heap.size, 0, none⟩) N (grownCap w N 0 e)) N zs e := by
  subst hz
  refine .inr ⟨h, w.heap.size, _, (List.replicate (grownCap w N 0 e - N) z.cells.toList).flatten, rfl, grownCap_ge w N 0 e, Nat.le_refl _, ((Keep.refl [] w).drew).alloc _, ?_⟩
  have hh := heap_alloc_new w.drew (.cells (Builtin.zeroCells z.cells N ++ Builtin.zeroCells z.cells (grownCap w N 0 e - N)) e)
  have e1 : (Builtin.zeroCells z.cells N ++ Builtin.zeroCells z.cells (grownCap w N 0 e - N)) = ((List.replicate N z.cells.toList).flatten ++ (List.replicate (grownCap w N 0 e - N) z.cells.toList).flatten).toArray := by
    rw [← zeroCells_list, ← zeroCells_list]
    apply Array.ext'
    simp
  rw [e1] at hh ⊢
  exact hh
end Go.Proofs.YtdklogmmfnddiaaDoor
/-
  FIELDS OF MORE THAN ONE CELL, defaults that are stored, structs in structs: the states of readFrom's walks.
-/
namespace Go.Proofs.YtdklogmmfnddiaaDoor
open Go.ChangeShapes Go.WideShapes Go.ChangeAt Go.RowKit

namespace ElSt
variable {w U U' : World} {row rb : Nat} {G : Nat → Prop} {s s' : St} {pre cd rest post : List Value} {ty : TypeId} {fs : List F} {td : List T}
theorem cellN {x : Value} (h : ElSt w U row rb G s pre cd rest post ty fs td) (j : Nat) {o : Nat} (hx : rest[j]? = some x) (ho : o = pre.length + cd.length + j) : U.cell? ⟨row, o, none⟩ = some x := by
  refine cellOf h.blk o _ ?_
  subst ho
  have hj := (List.getElem?_eq_some_iff.1 hx).1
  rw [List.getElem?_toArray, Nat.add_assoc, List.getElem?_append_right (by omega), List.getElem?_append_right (by omega), List.getElem?_append_left (by omega)]
  rw [show pre.length + (cd.length + j) - pre.length - cd.length = j by omega]
  exact hx
/-- a field of several cells is read and stored -/
theorem puts {xs olds : List Value} {f : F} {t : T} (h : ElSt w U row rb G s pre cd (olds ++ rest) post ty fs td) {o : Nat} (ho : o = pre.length + cd.length) (hl : xs.length = olds.length) (hv : VF U (Nw G w rb U) f xs t) : ElSt w (setAll U row o xs) row rb G s pre (cd ++ xs) rest post ty (fs ++ [f]) (td ++ [t]) := by
  have hb : U.heap[row]? = some (.cells ((pre ++ cd) ++ olds ++ (rest ++ post)).toArray ty (0, 0)) := by rw [h.blk]; simp
  obtain ⟨q, k⟩ := setAll_heap hl hb
  have ho' : o = (pre ++ cd).length := by simpa using ho
  rw [← ho'] at q k
  have hs := h.keep.size
  have sm := nw_same (rb := rb) hs h.lt h.nr k (by simp)
  have gr := nw_grow (G := G) (w := w) (rb := rb) k.size
  refine ⟨h.rd.keepA h.hG h.rd.lt' k (by intro i hi; simp at hi; subst hi; exact h.nr) (by simp; exact h.ne.symm), ?_, VFs.snoc (VF.keepF sm gr _ hv) (VFs.keepF sm gr _ h.val), h.keep.trans (k.weaken (by simp)), h.there, h.nr, h.nrb, h.lt, h.ne⟩
  rw [q]
  simp
/-- a field of several cells stays as it is -/
theorem passN {xs : List Value} {f : F} {t : T} (h : ElSt w U row rb G s pre cd (xs ++ rest) post ty fs td) (hv : VF U (Nw G w rb U) f xs t) : ElSt w U row rb G s pre (cd ++ xs) rest post ty (fs ++ [f]) (td ++ [t]) := by
  refine ⟨h.rd, ?_, VFs.snoc hv h.val, h.keep, h.there, h.nr, h.nrb, h.lt, h.ne⟩
  rw [h.blk]
  simp
/-- a default is stored -/
theorem store {x : Value} {r1 r2 : List Value} (h : ElSt w U row rb G s pre cd (r1 ++ x :: r2) post ty fs td) {o : Nat} (v : Value) (ho : o = pre.length + cd.length + r1.length) : ElSt w (U.setCell ⟨row, o, none⟩ v) row rb G s pre cd (r1 ++ v :: r2) post ty fs td := by
  obtain ⟨r, k⟩ := h.setRd o v
  have hs := h.keep.size
  have sm := nw_same (rb := rb) hs h.lt h.nr k (by simp)
  have gr := nw_grow (G := G) (w := w) (rb := rb) k.size
  refine ⟨r, ?_, VFs.keepF sm gr _ h.val, h.keep.trans (k.weaken (by simp)), h.there, h.nr, h.nrb, h.lt, h.ne⟩
  rw [heap_set h.blk v]
  subst ho
  have e : (pre ++ (cd ++ (r1 ++ x :: r2 ++ post))) = (pre ++ cd ++ r1) ++ x :: (r2 ++ post) := by simp
  have e2 : (pre ++ (cd ++ (r1 ++ v :: r2 ++ post))) = (pre ++ cd ++ r1) ++ v :: (r2 ++ post) := by simp
  have hl : pre.length + cd.length + r1.length = (pre ++ cd ++ r1).length := by simp; omega
  rw [e, e2, hl]
  simp
/-- a struct within the struct: its cells -/
theorem into {zs : List Value} (h : ElSt w U row rb G s pre cd (zs ++ rest) post ty fs td) : ElSt U U row rb G s (pre ++ cd) [] zs (rest ++ post) ty [] [] := by
  refine ⟨h.rd, by rw [h.blk]; simp, ⟨rfl, rfl⟩, Keep.refl _ _, h.hG, h.nr, h.nrb, Nat.lt_of_lt_of_le h.lt h.keep.size, h.ne⟩
/-- .. is read -/
theorem out {zs c : List Value} {a b nul d e ofk : Int} {sub : List F} {t : T} (h : ElSt w U row rb G s pre cd (zs ++ rest) post ty fs td) (he : ElEnd U U' row rb G s' (pre ++ cd) c (rest ++ post) ty 10 sub t) : ElSt w U' row rb G s' pre (cd ++ c) rest post ty (fs ++ [.mk 10 a b nul d e ofk sub]) (td ++ [t]) := by
  have hs := h.keep.size
  have sm := nw_same (rb := rb) hs h.lt h.nr he.keep (by simp)
  have gr := nw_grow (G := G) (w := w) (rb := rb) he.keep.size
  have gr2 : ∀ k, Nw G U rb U' k → Nw G w rb U' k := fun k hk => ⟨hk.1.imp id (Nat.le_trans hs), hk.2⟩
  have hv : VK U' (Nw G U rb U') 10 (-1) (VFs U' (Nw G U rb U') sub) c t := he.val
  have hv2 : VF U' (Nw G w rb U') (.mk 10 a b nul d e ofk sub) c t := VK.keepF (fun _ _ => rfl) gr2 (fun c l => VFs.keepF (fun _ _ => rfl) gr2 sub) hv
  refine ⟨he.rd, ?_, VFs.snoc hv2 (VFs.keepF sm gr _ h.val), h.keep.trans he.keep, h.there, h.nr, h.nrb, h.lt, h.ne⟩
  rw [he.blk]
  simp
/-- sixteen cells are stored -/
theorem put16 {z0 z1 z2 z3 z4 z5 z6 z7 z8 z9 z10 z11 z12 z13 z14 z15 x0 x1 x2 x3 x4 x5 x6 x7 x8 x9 x10 x11 x12 x13 x14 x15 : Value} {f : F} {t : T} (h : ElSt w U row rb G s pre cd (z0 :: z1 :: z2 :: z3 :: z4 :: z5 :: z6 :: z7 :: z8 :: z9 :: z10 :: z11 :: z12 :: z13 :: z14 :: z15 :: rest) post ty fs td) {o0 o1 o2 o3 o4 o5 o6 o7 o8 o9 o10 o11 o12 o13 o14 o15 : Nat} (e0 : o0 = pre.length + cd.length) (e1 : o1 = pre.length + cd.length + 1) (e2 : o2 = pre.length + cd.length + 2) (e3 : o3 = pre.length + cd.length + 3) (e4 : o4 = pre.length + cd.length + 4) (e5 : o5 = pre.length + cd.length + 5) (e6 : o6 = pre.length + cd.length + 6) (e7 : o7 = pre.length + cd.length + 7) (e8 : o8 = pre.length + cd.length + 8) (e9 : o9 = pre.length + cd.length + 9) (e10 : o10 = pre.length + cd.length + 10) (e11 : o11 = pre.length + cd.length + 11) (e12 : o12 = pre.length + cd.length + 12) (e13 : o13 = pre.length + cd.length + 13) (e14 : o14 = pre.length + cd.length + 14) (e15 : o15 = pre.length + cd.length + 15) (hv : VF U (Nw G w rb U) f [x0, x1, x2, x3, x4, x5, x6, x7, x8, x9, x10, x11, x12, x13, x14, x15] t) :
    ElSt w ((((((((((((((((U.setCell ⟨row, o0, none⟩ x0).setCell ⟨row, o1, none⟩ x1).setCell ⟨row, o2, none⟩ x2).setCell ⟨row, o3, none⟩ x3).setCell ⟨row, o4, none⟩ x4).setCell ⟨row, o5, none⟩ x5).setCell ⟨row, o6, none⟩ x6).setCell ⟨row, o7, none⟩ x7).setCell ⟨row, o8, none⟩ x8).setCell ⟨row, o9, none⟩ x9).setCell ⟨row, o10, none⟩ x10).setCell ⟨row, o11, none⟩ x11).setCell ⟨row, o12, none⟩ x12).setCell ⟨row, o13, none⟩ x13).setCell ⟨row, o14, none⟩ x14).setCell ⟨row, o15, none⟩ x15) row rb G s pre (cd ++ [x0, x1, x2, x3, x4, x5, x6, x7, x8, x9, x10, x11, x12, x13, x14, x15]) rest post ty (fs ++ [f]) (td ++ [t]) := by
  have q := ElSt.puts (xs := [x0, x1, x2, x3, x4, x5, x6, x7, x8, x9, x10, x11, x12, x13, x14, x15]) (olds := [z0, z1, z2, z3, z4, z5, z6, z7, z8, z9, z10, z11, z12, z13, z14, z15]) (rest := rest) h rfl rfl hv
  subst e0 e1 e2 e3 e4 e5 e6 e7 e8 e9 e10 e11 e12 e13 e14 e15
  exact q
/-- a text in a box that was laid ahead of the call that read it -/
theorem boxed {Wn : World} {z : Value} {x : Bs} (h : ElSt w U row rb G s pre cd rest post ty fs td) (r : Rd Wn rb G s') (k : Keep [rb] (U.alloc (.cells #[z] 9)) Wn) :
    Wn.cell? ⟨U.heap.size, 0, none⟩ = some z ∧ Wn.frozen? ⟨U.heap.size, 0, none⟩ = false ∧ ElSt w (Wn.setCell ⟨U.heap.size, 0, none⟩ (str x)) row rb G s' pre cd rest post ty fs td ∧
      PS (Wn.setCell ⟨U.heap.size, 0, none⟩ (str x)) (Nw G w rb (Wn.setCell ⟨U.heap.size, 0, none⟩ (str x))) (.pointer (some ⟨U.heap.size, 0, none⟩)) (some x) := by
  have hrb := h.rd.lt'
  have hz := k.size
  simp at hz
  have hb : Wn.heap[U.heap.size]? = some (.cells #[z] 9 (0, 0)) := (k.block _ (by simp) (by simp; omega)).trans (heap_alloc_new U _)
  have k2 : Keep [U.heap.size] Wn (Wn.setCell ⟨U.heap.size, 0, none⟩ (str x)) := (Keep.refl _ _).setCell (.inl (by simp)) _
  have k3 : Keep [rb, U.heap.size] U (Wn.setCell ⟨U.heap.size, 0, none⟩ (str x)) := (((keep_box (A := []) _).weaken (by simp)).trans (k.weaken (B := [rb, U.heap.size]) (by simp))).trans (k2.weaken (by simp))
  have hG : There G Wn := h.hG.mono (by omega)
  have r3 : Rd (Wn.setCell ⟨U.heap.size, 0, none⟩ (str x)) rb G s' := r.keepA hG (by omega) k2 (by intro i hi hg; simp at hi; subst hi; have := h.hG _ hg; omega) (by simp; omega)
  refine ⟨cellOf hb 0 _ rfl, freeOf hb 0, h.grow r3 k3 (by intro i hi; simp at hi; rcases hi with h | h <;> simp [h]), .inr ⟨_, x, rfl, rfl, ⟨.inr h.keep.size, ?_, by omega⟩, ?_⟩⟩
  · have := k2.size; omega
  · rw [heap_set hb]
    rfl
end ElSt
theorem vf_uuid {W : World} {G : Nat → Prop} {a b nul c d e : Int} {sub : List F} {x : Bs} (h : x.length = 16) : VF W G (.mk 7 a b nul c d e sub) (x.map bv) (.mk 0 x false [] []) := ⟨x, h, rfl, rfl⟩
theorem vf_uuid2 {W : World} {G : Nat → Prop} {a b nul c d e : Int} {sub : List F} {x : Bs} {cs : List Value} (hc : cs = x.map bv) (h : x.length = 16) : VF W G (.mk 7 a b nul c d e sub) cs (.mk 0 x false [] []) := ⟨x, h, hc, rfl⟩
section
variable {pre cd cd2 : List Value} {m k j J : Nat}
theorem el_atN (h : pre.length = m * k) (hc : cd.length + j = J) : k * m + J = pre.length + cd.length + j := by rw [h, Nat.mul_comm]; omega
theorem el_atN0 (h : pre.length = m * k) (hc : cd.length + j = 0) : k * m = pre.length + cd.length + j := by rw [h, Nat.mul_comm]; omega
theorem el_at2 (h : pre.length = m * k) (hc : cd.length + cd2.length = J) : k * m + J = (pre ++ cd).length + cd2.length := by rw [List.length_append, h, Nat.mul_comm]; omega
theorem el_at20 (h : pre.length = m * k) (hc : cd.length + cd2.length = 0) : k * m = (pre ++ cd).length + cd2.length := by rw [List.length_append, h, Nat.mul_comm]; omega
theorem el_atN2 (h : pre.length = m * k) (hc : cd.length + cd2.length + j = J) : k * m + J = (pre ++ cd).length + cd2.length + j := by rw [List.length_append, h, Nat.mul_comm]; omega
theorem el_atN20 (h : pre.length = m * k) (hc : cd.length + cd2.length + j = 0) : k * m = (pre ++ cd).length + cd2.length + j := by rw [List.length_append, h, Nat.mul_comm]; omega
end
theorem sixteen_of {l : Bs} (h : l.length = 16) : ∃ x0 x1 x2 x3 x4 x5 x6 x7 x8 x9 x10 x11 x12 x13 x14 x15, l = [x0, x1, x2, x3, x4, x5, x6, x7, x8, x9, x10, x11, x12, x13, x14, x15] := by
  match l, h with
  | [x0, x1, x2, x3, x4, x5, x6, x7, x8, x9, x10, x11, x12, x13, x14, x15], _ => exact ⟨x0, x1, x2, x3, x4, x5, x6, x7, x8, x9, x10, x11, x12, x13, x14, x15, rfl⟩
theorem uuid_lit {G : Nat → Prop} {b : Nat} {s : St} {w : World} (h : Rd w b G s) (hG : There G w) (hb : ¬ G b) :
    Calls Tryd.prog 65 #[.pointer (some ⟨b, 0, none⟩)] w fun e w' => ∃ x0 x1 x2 x3 x4 x5 x6 x7 x8 x9 x10 x11 x12 x13 x14 x15, (rdUuid s).1 = [x0, x1, x2, x3, x4, x5, x6, x7, x8, x9, x10, x11, x12, x13, x14, x15] ∧ e = .returned (.agg #[.int .u8 (x0.toNat : Int), .int .u8 (x1.toNat : Int), .int .u8 (x2.toNat : Int), .int .u8 (x3.toNat : Int), .int .u8 (x4.toNat : Int), .int .u8 (x5.toNat : Int), .int .u8 (x6.toNat : Int), .int .u8 (x7.toNat : Int), .int .u8 (x8.toNat : Int), .int .u8 (x9.toNat : Int), .int .u8 (x10.toNat : Int), .int .u8 (x11.toNat : Int), .int .u8 (x12.toNat : Int), .int .u8 (x13.toNat : Int), .int .u8 (x14.toNat : Int), .int .u8 (x15.toNat : Int)]) ∧ Rd w' b G (rdUuid s).2 ∧ Keep [b] w w' := by
  refine (uuid_any h hG hb).mono ?_
  rintro e w' ⟨rfl, h1, h2⟩
  obtain ⟨x0, x1, x2, x3, x4, x5, x6, x7, x8, x9, x10, x11, x12, x13, x14, x15, hx⟩ := sixteen_of (l := (rdUuid s).1) (pad16_length _)
  exact ⟨x0, x1, x2, x3, x4, x5, x6, x7, x8, x9, x10, x11, x12, x13, x14, x15, hx, by rw [hx]; rfl, h1, h2⟩
open Go.Lib in
/-- append(a, make([]T, n)...) to an empty slice -/
theorem run_append_empty_zeros {P : Program} (w : World) (t tn ty e : TypeId) (i : TypeInfo) (z : Value) (k kn : IntKind) (ht : P.underlying t = some (.slice e)) (htn : P.underlying tn = some (.int kn)) (hi : P.info? e = some i) (hz : i.zero = some z)
    (n : Nat) (h0 : 0 < n) (hs : 0 < i.size) (h63 : (n : Int) ≤ 9223372036854775807) (h48 : n * i.bytes ≤ 281474976710656) (base : Option Addr) :
    (Builtin.append_ #[t, tn] ty #[.slice base 0 0, .int k n]).run P w =
      .ok (.slice (some ⟨w.heap.size, 0, none⟩) n (grownCap w n 0 e)) (w.drew.alloc (.cells (Builtin.zeroCells z.cells n ++ Builtin.zeroCells z.cells (grownCap w n 0 e - n)) e)) := by
  cases base with
  | none => exact run_append_nil_zeros w t tn ty e i z k kn ht htn hi hz n h0 hs h63 h48
  | some b =>
    have hn : n ≠ 0 := by omega
    have hw : IntKind.i64.wrap (n : Int) = n := by rw [IntKind.wrap_i64]; omega
    have h63' : ¬ (9223372036854775807 < (n : Int)) := by omega
    have h48' : ¬ (281474976710656 < Builtin.nextslicecap n 0 * i.bytes) := by rw [nextslicecap_zero h0]; omega
    have h48i : ¬ (281474976710656 < (n : Int) * (i.bytes : Int)) := by
      rw [← Int.natCast_mul]
      omega
    have hneg : ¬ ((n : Int) < 0) := by omega
    have hns : ¬ (n * i.size = 0) := Nat.mul_ne_zero hn (by omega)
    have hf := run_firstCells_some (P := P) w.drew i.size 0 b 0 0 [] (by simp) (by simp)
    simp [Builtin.append_, run_underlying ht, run_underlying htn, sizeOf, typeInfo, zeroValue, hi, hz, asInt, asIntOf, hw, hn, hneg, hns, h63', h48', h48i, Question.forced, hf, newRow, grownCap]
theorem RowIni.made2 {w : World} {z : Value} {N : Nat} {e : TypeId} (h : 0 < N) {zs : List Value} (hz : z.cells.toList = zs) (v0 : Value) :
    RowIni w (w.drew.alloc (.cells (Builtin.zeroCells z.cells N ++ Builtin.zeroCells z.cells (grownCap w N 0 e - N)) e)) v0 (.slice (some ⟨w.heap.size, 0, none⟩) N (grownCap w N 0 e)) N zs e := by
  rcases RowIni.made (w := w) (e := e) h hz with ⟨h1, _⟩ | h1
  · omega
  · exact .inr h1
/-- what a list begins as -/
def V0 (c : Prop) (v : Value) : Prop := (c → ∃ b, v = .slice (some ⟨b, 0, none⟩) 0 0) ∧ (¬ c → v = .slice none 0 0)
theorem V0.shape {c : Prop} {v : Value} (h : V0 c v) : (∃ ao, v = .slice ao 0 0) ∧ (v = .slice none 0 0 ∨ ∃ b, v = .slice (some ⟨b, 0, none⟩) 0 0) ∧ (v = .slice none 0 0 ↔ ¬ c) := by
  by_cases hc : c
  · obtain ⟨b, rfl⟩ := h.1 hc
    exact ⟨⟨_, rfl⟩, .inr ⟨b, rfl⟩, ⟨fun e => (by cases e), fun e => absurd hc e⟩⟩
  · obtain rfl := h.2 hc
    exact ⟨⟨_, rfl⟩, .inl rfl, ⟨fun _ => hc, fun _ => rfl⟩⟩
theorem rdF_cnlist {a b c d ofk v nul : Int} {sub : List F} {s : St} {L : Int} (hn : 0 ≤ nul) (h : (rdCLen s).1 = L) : rdF (.mk 11 a b nul c d ofk sub) v true s = (.mk 0 [] (decide (nul ≤ v) && decide (L < 0)) (rdTimes (gOf ofk true sub v) L.toNat (rdCLen s).2).1 [], (rdTimes (gOf ofk true sub v) L.toNat (rdCLen s).2).2) := by
  subst h
  simp [rdF, rdListOf, gOf, show ¬ nul < 0 by omega]
theorem rdF_nlist {a b c d ofk v nul : Int} {sub : List F} {s : St} {L : Int} (hn : 0 ≤ nul) (h : (rdLen s).1 = L) : rdF (.mk 11 a b nul c d ofk sub) v false s = (.mk 0 [] (decide (nul ≤ v) && decide (L < 0)) (rdTimes (gOf ofk false sub v) L.toNat (rdLen s).2).1 [], (rdTimes (gOf ofk false sub v) L.toNat (rdLen s).2).2) := by
  subst h
  simp [rdF, rdListOf, gOf, show ¬ nul < 0 by omega]
end Go.Proofs.YtdklogmmfnddiaaDoor
/-
  A LOOP OF readFrom AS A DECLARATION OF ITS OWN: the code at a place of a function's body, and what a return says.
-/
namespace Go.Proofs.YtdklogmmfnddiaaDoor
open Go.ChangeShapes Go.WideShapes Go.ChangeAt Go.RowKit

/-- the code at a place of a code: the way to it, 'true' being the second of two -/
def codeAt : List Bool → Code → Code
  | [], c => c
  | i :: r, .seq a b => codeAt r (bif i then b else a)
  | i :: r, .cond _ a b => codeAt r (bif i then b else a)
  | _ :: r, .loop c => codeAt r c
  | _ :: r, .block _ c => codeAt r c
  | _ :: r, .scope c => codeAt r c
  | _ :: _, c => c
theorem ret_post {P : Program} {fn : Func} {R : Ending → World → Prop} {a : Act} {w : World} {v : Value} {t : Tmp} (hr : fn.results = #[.tmp t]) (h1 : a.defers = []) (h2 : a.tmps.getD t undef = v) (hR : R (.returned v) w) : bodyPost P fn R .ret a w := by
  refine bodyPost_ret (v := v) ?_ h1 hR
  subst h2
  simp [results, hr]
theorem inBlock_ret {Q : Exit → Act → World → Prop} {n : Nat} {a : Act} {w : World} (h : Q .ret a w) : Exit.inBlock n Q .ret a w := h
theorem then_ret {K : Act → World → Prop} {Q : Exit → Act → World → Prop} {a : Act} {w : World} (h : Q .ret a w) : Exit.then K Q .ret a w := h
theorem RowRel.at_end {U1 w U : World} {rb : Nat} {G : Nat → Prop} {g : St → T × St} {s0 : St} {N m k : Nat} {zs : List Value} {ty : TypeId} {ofk : Int} {fs : List F} {v0 av : Value} (h : RowRel U1 w U rb G g s0 N m k zs ty ofk fs v0 av) (hk : ¬ k < N) : RowRel U1 w U rb G g s0 N m N zs ty ofk fs v0 av := by
  have e : k = N := by
    rcases h with ⟨h1, h2, _⟩ | ⟨h1, h2, _⟩ <;> omega
  subst e
  exact h
end Go.Proofs.YtdklogmmfnddiaaDoor
