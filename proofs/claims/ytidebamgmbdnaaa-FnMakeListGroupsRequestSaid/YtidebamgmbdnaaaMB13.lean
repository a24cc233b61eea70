/-
  READING A MESSAGE AS A PLAIN FUNCTION OF ITS FIELDS' LIST, and how the struct that was read lies in memory.
-/
import Derived.Test.YtidebamgmbdnaaaMB12
import Derived.Test.YtidebamgmbdnaaaMB10
import Derived.Test.YtidebamgmbdnaaaMB3
import Derived.Lib.AppendZeros
import Derived.Deep.AppendLies
namespace Go.Proofs.Ytidebamgmbdnaaa
open Go.ChangeShapes Go.WideShapes Go.ChangeAt Go.RowKit

/-- a list's length, as it is read -/
def rdLen (s : St) : Int × St := if ((rdI 4 s).2.1.length : Int) < (rdI 4 s).1 then (0, ([], true)) else rdI 4 s
def rdCLen (s : St) : Int × St :=
  if ((rdUv s).2.1.length : Int) < IntKind.i32.wrap (IntKind.i32.wrap ((rdUv s).1 : Int) - 1) then (0, ([], true)) else (IntKind.i32.wrap (IntKind.i32.wrap ((rdUv s).1 : Int) - 1), (rdUv s).2)
/-- octets with a length -/
def rdBs (s : St) : Bs × St := rdSpan (rdI 4 s).1 (rdI 4 s).2
def rdTimes (g : St → T × St) : Nat → St → List T × St
  | 0, s => ([], s)
  | n + 1, s => ((rdTimes g n s).1 ++ [(g (rdTimes g n s).2).1], (g (rdTimes g n s).2).2)

/-- a part: its fields, then, in a flexible version, its tags -/
def rdPartOf (fs : St → List T × St) (flex : Bool) (s : St) : T × St :=
  if flex then (.mk 0 [] false (fs s).1 (rdTags (fs s).2).1, (rdTags (fs s).2).2) else (.mk 0 [] false (fs s).1 [], (fs s).2)
/-- a value of a kind -/
def rdK (kind : Int) (nul flex : Bool) (part : St → T × St) (s : St) : T × St :=
  if kind = 0 then (.mk (if (rdBool s).1 then 1 else 0) [] false [] [], (rdBool s).2)
  else if kind = 1 then (.mk (rdI 1 s).1 [] false [] [], (rdI 1 s).2)
  else if kind = 2 then (.mk (rdI 2 s).1 [] false [] [], (rdI 2 s).2)
  else if kind = 3 then (.mk (rdI 4 s).1 [] false [] [], (rdI 4 s).2)
  else if kind = 4 then (.mk (rdI 8 s).1 [] false [] [], (rdI 8 s).2)
  else if kind = 5 then (.mk ((rdN 2 s).1 : Int) [] false [] [], (rdN 2 s).2)
  else if kind = 6 then (.mk (rdI 8 s).1 [] false [] [], (rdI 8 s).2)
  else if kind = 7 then (.mk 0 (rdUuid s).1 false [] [], (rdUuid s).2)
  else if kind = 8 then
    if nul then (if flex then (nstrT (rdCNStr s).1, (rdCNStr s).2) else (nstrT (rdNStr s).1, (rdNStr s).2))
    else (if flex then (.mk 0 (rdCStr s).1 false [] [], (rdCStr s).2) else (.mk 0 (rdStr s).1 false [] [], (rdStr s).2))
  else if kind = 9 then
    if nul then (if flex then (octT (rdCNBy s).1, (rdCNBy s).2) else (octT (rdNBy s).1, (rdNBy s).2))
    else (if flex then (octT (rdCBy s).1, (rdCBy s).2) else (octT (rdBy s).1, (rdBy s).2))
  else if kind = 10 then part s
  else (T.zero, s)
def rdListOf (nul : Int) (flex : Bool) (v : Int) (g : St → T × St) (s : St) : T × St :=
  let n := if flex then rdCLen s else rdLen s
  (.mk 0 [] (if nul < 0 then decide (n.1 ≤ 0) else decide (nul ≤ v) && decide (n.1 < 0)) (rdTimes g n.1.toNat n.2).1 [], (rdTimes g n.1.toNat n.2).2)
mutual
/-- what a field is that the version lacks -/
def dflF : F → T
  | .mk k _ _ nul _ dfl _ sub =>
    if k = 7 then .mk 0 (List.replicate 16 0) false [] []
    else if k = 8 then .mk 0 [] (decide (0 ≤ nul)) [] []
    else if k = 9 ∨ k = 11 then .mk 0 [] true [] []
    else if k = 10 then (if 0 ≤ nul then .mk 0 [] true [] [] else .mk 0 [] false (dflFs sub) [])
    else .mk dfl [] false [] []
def dflFs : List F → List T
  | [] => []
  | f :: r => dflF f :: dflFs r
end
mutual
def rdF : F → Int → Bool → St → T × St
  | .mk k _ _ nul _ _ ofk sub, v, flex, s =>
    if k = 11 then rdListOf nul flex v (rdK ofk false flex (rdPartOf (rdFs sub v flex) flex)) s
    else rdK k (decide (0 ≤ nul) && decide (nul ≤ v)) flex (rdPartOf (rdFs sub v flex) flex) s
def rdFs : List F → Int → Bool → St → List T × St
  | [], _, _, s => ([], s)
  | f :: r, v, flex, s => if f.has v then ((rdF f v flex s).1 :: (rdFs r v flex (rdF f v flex s).2).1, (rdFs r v flex (rdF f v flex s).2).2) else (dflF f :: (rdFs r v flex s).1, (rdFs r v flex s).2)
end
def rdPart (fs : List F) (v : Int) (flex : Bool) (s : St) : T × St := rdPartOf (rdFs fs v flex) flex s

theorem rdFs_has {f : F} {r : List F} {v : Int} {flex : Bool} {s : St} (h : f.has v = true) : rdFs (f :: r) v flex s = ((rdF f v flex s).1 :: (rdFs r v flex (rdF f v flex s).2).1, (rdFs r v flex (rdF f v flex s).2).2) := by
  rw [rdFs, if_pos h]
theorem rdFs_lacks {f : F} {r : List F} {v : Int} {flex : Bool} {s : St} (h : f.has v = false) : rdFs (f :: r) v flex s = (dflF f :: (rdFs r v flex s).1, (rdFs r v flex s).2) := by
  rw [rdFs, if_neg (by simp [h])]
theorem ite_p {α : Type} {c : Prop} {_ : Decidable c} {a b : α} (P : α → Prop) (h1 : P a) (h2 : P b) : P (if c then a else b) := by
  by_cases h : c
  · rw [if_pos h]; exact h1
  · rw [if_neg h]; exact h2
theorem ite_imp {c : Prop} {_ : Decidable c} {A B A' B' : Prop} (h1 : A → A') (h2 : B → B') (h : if c then A else B) : if c then A' else B' := by
  by_cases hc : c
  · rw [if_pos hc] at h ⊢; exact h1 h
  · rw [if_neg hc] at h ⊢; exact h2 h
theorem rdTimes_len (g : St → T × St) : ∀ (n : Nat) (s : St), (rdTimes g n s).1.length = n
  | 0, _ => rfl
  | n + 1, s => by simp [rdTimes, rdTimes_len g n s]

/-- WHAT HAS GONE WRONG STAYS WRONG -/
def Bad (g : St → St) : Prop := ∀ s, s.2 = true → (g s).2 = true
theorem rdN_b (k : Nat) : Bad fun s => (rdN k s).2 := fun s h => by
  cases e : (rdN k s).2.2
  · exact absurd (rdN_bad k s e) (by simp [h])
  · rfl
theorem rdUv_b : Bad fun s => (rdUv s).2 := fun s h => by
  cases e : (rdUv s).2.2
  · exact absurd (rdUv_bad s e) (by simp [h])
  · rfl
theorem rdSpan_b (n : Int) : Bad fun s => (rdSpan n s).2 := fun s h => by
  cases e : (rdSpan n s).2.2
  · exact absurd (rdSpan_bad n s e) (by simp [h])
  · rfl
theorem rdTags_b : Bad fun s => (rdTags s).2 := fun s h => by
  cases e : (rdTags s).2.2
  · exact absurd (rdTags_bad s e) (by simp [h])
  · rfl
theorem rdI_b (k : Nat) : Bad fun s => (rdI k s).2 := rdN_b k
theorem rdLen_b : Bad fun s => (rdLen s).2 := fun s h => by
  simp only [rdLen]
  split
  · rfl
  · exact rdI_b 4 s h
theorem rdCLen_b : Bad fun s => (rdCLen s).2 := fun s h => by
  simp only [rdCLen]
  split
  · rfl
  · exact rdUv_b s h
theorem rdTimes_b {g : St → T × St} (hg : Bad fun s => (g s).2) : ∀ n, Bad fun s => (rdTimes g n s).2
  | 0, _, h => h
  | n + 1, s, h => hg _ (rdTimes_b hg n s h)
theorem rdTimes_from {g : St → T × St} (hg : Bad fun s => (g s).2) (s : St) (j : Nat) (h : (rdTimes g j s).2.2 = true) : ∀ n, j ≤ n → (rdTimes g n s).2.2 = true := fun n hn => by
  induction n with
  | zero => obtain rfl : j = 0 := by omega
            exact h
  | succ n ih =>
    rcases Nat.lt_or_ge n j with h1 | h1
    · obtain rfl : j = n + 1 := by omega
      exact h
    · exact hg _ (ih h1)
theorem rdPartOf_b {fs : St → List T × St} (h : Bad fun s => (fs s).2) (flex : Bool) : Bad fun s => (rdPartOf fs flex s).2 := fun s hs => by
  cases flex
  · exact h s hs
  · exact rdTags_b _ (h s hs)
theorem rdStr_b : Bad fun s => (rdStr s).2 := fun s h => rdSpan_b _ _ (rdI_b 2 s h)
theorem rdCStr_b : Bad fun s => (rdCStr s).2 := fun s h => rdSpan_b _ _ (rdUv_b s h)
theorem rdNStr_b : Bad fun s => (rdNStr s).2 := fun s h => by
  simp only [rdNStr]
  split
  · exact rdI_b 2 s h
  · exact rdStr_b s h
theorem rdCNStr_b : Bad fun s => (rdCNStr s).2 := fun s h => by
  simp only [rdCNStr]
  split
  · exact rdUv_b s h
  · exact rdCStr_b s h
theorem rdSpO_b (n : Int) : Bad fun s => (rdSpO n s).2 := rdSpan_b n
theorem rdBy_b : Bad fun s => (rdBy s).2 := fun s h => by
  simp only [rdBy]
  split
  · exact rdI_b 4 s h
  · exact rdSpO_b _ _ (rdI_b 4 s h)
theorem rdNBy_b : Bad fun s => (rdNBy s).2 := fun s h => by
  simp only [rdNBy]
  split
  · exact rdI_b 4 s h
  · exact rdSpO_b _ _ (rdI_b 4 s h)
theorem rdCBy_b : Bad fun s => (rdCBy s).2 := fun s h => by
  simp only [rdCBy]
  split
  · exact rdUv_b s h
  · exact rdSpO_b _ _ (rdUv_b s h)
theorem rdCNBy_b : Bad fun s => (rdCNBy s).2 := fun s h => by
  simp only [rdCNBy]
  split
  · exact rdUv_b s h
  · exact rdSpO_b _ _ (rdUv_b s h)
def IsBad (x : T × St) : Prop := x.2.2 = true
theorem rdK_b (kind : Int) (nul flex : Bool) {part : St → T × St} (hp : Bad fun s => (part s).2) : Bad fun s => (rdK kind nul flex part s).2 := fun s h => by
  have Q : IsBad (rdK kind nul flex part s) := by
    unfold rdK
    refine ite_p IsBad (rdN_b 1 s h) ?_
    refine ite_p IsBad (rdI_b 1 s h) ?_
    refine ite_p IsBad (rdI_b 2 s h) ?_
    refine ite_p IsBad (rdI_b 4 s h) ?_
    refine ite_p IsBad (rdI_b 8 s h) ?_
    refine ite_p IsBad (rdN_b 2 s h) ?_
    refine ite_p IsBad (rdI_b 8 s h) ?_
    refine ite_p IsBad (rdSpan_b 16 s h) ?_
    refine ite_p IsBad (ite_p IsBad (ite_p IsBad (rdCNStr_b s h) (rdNStr_b s h)) (ite_p IsBad (rdCStr_b s h) (rdStr_b s h))) ?_
    refine ite_p IsBad (ite_p IsBad (ite_p IsBad (rdCNBy_b s h) (rdNBy_b s h)) (ite_p IsBad (rdCBy_b s h) (rdBy_b s h))) ?_
    exact ite_p IsBad (hp s h) h
  exact Q
theorem rdListOf_b (nul : Int) (flex : Bool) (v : Int) {g : St → T × St} (hg : Bad fun s => (g s).2) : Bad fun s => (rdListOf nul flex v g s).2 := fun s h => by
  cases flex
  · exact rdTimes_b hg _ _ (rdLen_b s h)
  · exact rdTimes_b hg _ _ (rdCLen_b s h)
mutual
theorem rdF_b : ∀ (f : F) (v : Int) (flex : Bool), Bad fun s => (rdF f v flex s).2
  | .mk k a b nul c d ofk sub, v, flex, s, h => by
    have hp := rdPartOf_b (rdFs_b sub v flex) flex
    simp only [rdF]
    split
    · exact rdListOf_b nul flex v (rdK_b ofk false flex hp) s h
    · exact rdK_b k _ flex hp s h
theorem rdFs_b : ∀ (l : List F) (v : Int) (flex : Bool), Bad fun s => (rdFs l v flex s).2
  | [], _, _, _, h => h
  | f :: r, v, flex, s, h => by
    simp only [rdFs]
    split
    · exact rdFs_b r v flex _ (rdF_b f v flex s h)
    · exact rdFs_b r v flex s h
end
theorem rdPart_b (fs : List F) (v : Int) (flex : Bool) : Bad fun s => (rdPart fs v flex s).2 := rdPartOf_b (rdFs_b fs v flex) flex

/-- HOW WHAT WAS READ LIES -/
def VK (W : World) (G : Nat → Prop) (kind nul : Int) (part : List Value → List T → Prop) (c : List Value) (t : T) : Prop :=
  if kind = 0 then ∃ b : Bool, c = [.bool b] ∧ t = .mk (if b then 1 else 0) [] false [] []
  else if kind = 1 then ∃ n : Int, c = [.int .i8 n] ∧ (-128 ≤ n ∧ n ≤ 127) ∧ t = .mk n [] false [] []
  else if kind = 2 then ∃ n : Int, c = [.int .i16 n] ∧ (-32768 ≤ n ∧ n ≤ 32767) ∧ t = .mk n [] false [] []
  else if kind = 3 then ∃ n : Int, c = [.int .i32 n] ∧ (-2147483648 ≤ n ∧ n ≤ 2147483647) ∧ t = .mk n [] false [] []
  else if kind = 4 then ∃ n : Int, c = [.int .i64 n] ∧ (-9223372036854775808 ≤ n ∧ n ≤ 9223372036854775807) ∧ t = .mk n [] false [] []
  else if kind = 5 then ∃ n : Int, c = [.int .u16 n] ∧ (0 ≤ n ∧ n ≤ 65535) ∧ t = .mk n [] false [] []
  else if kind = 7 then ∃ x : Bs, x.length = 16 ∧ c = x.map bv ∧ t = .mk 0 x false [] []
  else if kind = 8 then (if 0 ≤ nul then ∃ v o, c = [v] ∧ PS W G v o ∧ t = nstrT o else ∃ x : Bs, c = [str x] ∧ t = .mk 0 x false [] [])
  else if kind = 9 then ∃ v o, c = [v] ∧ OS W G v o ∧ t = octT o
  else if kind = 10 then ∃ cs v l u, c = cs ++ [v] ∧ part cs l ∧ MP W G v u ∧ t = .mk 0 [] false l u
  else if kind = 6 then ∃ n : Nat, n < 18446744073709551616 ∧ c = [.float .f64 n] ∧ t = .mk (sgn 8 n) [] false [] []
  else False
/-- a slice that begins its block: n things whose cells are xs -/
def RW (W : World) (G : Nat → Prop) (v : Value) (n : Nat) (xs : List Value) : Prop :=
  (n = 0 ∧ xs = [] ∧ (v = .slice none 0 0 ∨ ∃ b, v = .slice (some ⟨b, 0, none⟩) 0 0)) ∨
  (0 < n ∧ ∃ row cap extra ty, v = .slice (some ⟨row, 0, none⟩) n cap ∧ n ≤ cap ∧ G row ∧ W.heap[row]? = some (.cells (xs ++ extra).toArray ty (0, 0)))
theorem RW.keepF {W W' : World} {F' G : Nat → Prop} {v : Value} {n : Nat} {xs : List Value} (hs : SameOn F' W W') (hg : ∀ k, F' k → G k) (h : RW W F' v n xs) : RW W' G v n xs := by
  rcases h with h | ⟨h0, row, cap, extra, ty, h1, h2, h3, h4⟩
  · exact .inl h
  · exact .inr ⟨h0, row, cap, extra, ty, h1, h2, hg _ h3, (hs _ h3).trans h4⟩
theorem RW.shape {W : World} {G : Nat → Prop} {v : Value} {n : Nat} {xs : List Value} (h : RW W G v n xs) : ∃ ao cap, v = .slice ao n cap ∧ n ≤ cap ∧ (ao = none → n = 0 ∧ cap = 0) := by
  rcases h with ⟨rfl, _, rfl | ⟨b, rfl⟩⟩ | ⟨h0, row, cap, extra, ty, rfl, h2, _, _⟩
  · exact ⟨none, 0, rfl, Nat.le_refl _, fun _ => ⟨rfl, rfl⟩⟩
  · exact ⟨_, 0, rfl, Nat.le_refl _, fun e => by cases e⟩
  · exact ⟨_, cap, rfl, h2, fun e => by cases e⟩
/-- a list: its elements' cells, one behind another -/
def VL (W : World) (G : Nat → Prop) (P : List Value → T → Prop) (m : Nat) (v : Value) (t : T) : Prop :=
  ∃ (null : Bool) (css : List (List Value)) (l : List T), css.length = l.length ∧ (∀ i (h1 : i < l.length) (h2 : i < css.length), css[i].length = m ∧ P css[i] l[i]) ∧ RW W G v css.length css.flatten ∧ (v = .slice none 0 0 ↔ null = true) ∧ t = .mk 0 [] null l []
def wdK (kind : Int) (sub : Nat) : Nat := if kind = 7 then 16 else if kind = 10 then sub + 1 else 1
mutual
/-- how many cells a field has -/
def wdF : F → Nat
  | .mk k _ _ _ _ _ _ sub => wdK k (wdFs sub)
def wdFs : List F → Nat
  | [] => 0
  | f :: r => wdF f + wdFs r
end
mutual
def VF (W : World) (G : Nat → Prop) : F → List Value → T → Prop
  | .mk k _ _ nul _ _ ofk sub, c, t =>
    if k = 11 then ∃ v, c = [v] ∧ VL W G (VK W G ofk (-1) (VFs W G sub)) (wdK ofk (wdFs sub)) v t
    else VK W G k nul (VFs W G sub) c t
def VFs (W : World) (G : Nat → Prop) : List F → List Value → List T → Prop
  | [], c, l => c = [] ∧ l = []
  | f :: r, c, l => ∃ c1 c2 t1 l2, c = c1 ++ c2 ∧ l = t1 :: l2 ∧ VF W G f c1 t1 ∧ VFs W G r c2 l2
end
/-- a message's struct: its version, its fields, its tags -/
def VM (W : World) (G : Nat → Prop) (b : Nat) (fs : List F) (ty : TypeId) (ver : Int) (t : T) : Prop :=
  ∃ cs v l u, W.heap[b]? = some (.cells (.int .i16 ver :: (cs ++ [v])).toArray ty (0, 0)) ∧ VFs W G fs cs l ∧ MP W G v u ∧ t = .mk 0 [] false l u

section
variable {W W' : World} {F' G : Nat → Prop}
theorem VK.keepF {kind nul : Int} {p q : List Value → List T → Prop} (hs : SameOn F' W W') (hg : ∀ k, F' k → G k) (hp : ∀ c l, p c l → q c l) {c : List Value} {t : T} (h : VK W F' kind nul p c t) : VK W' G kind nul q c t := by
  unfold VK at h ⊢
  refine ite_imp id (ite_imp id (ite_imp id (ite_imp id (ite_imp id (ite_imp id (ite_imp id (ite_imp (ite_imp ?_ id) (ite_imp ?_ (ite_imp ?_ (ite_imp id id)))))))))) h
  · rintro ⟨v, o, h1, h2, h3⟩
    exact ⟨v, o, h1, h2.keepF hs hg, h3⟩
  · rintro ⟨v, o, h1, h2, h3⟩
    exact ⟨v, o, h1, h2.keepF hs hg, h3⟩
  · rintro ⟨cs, v, l, u, h1, h2, h3, h4⟩
    exact ⟨cs, v, l, u, h1, hp _ _ h2, h3.keepF hs hg, h4⟩
theorem VL.keepF {p q : List Value → T → Prop} (hs : SameOn F' W W') (hg : ∀ k, F' k → G k) (hp : ∀ c t, p c t → q c t) {m : Nat} {v : Value} {t : T} (h : VL W F' p m v t) : VL W' G q m v t := by
  obtain ⟨null, css, l, h1, h2, h3, h4, h5⟩ := h
  exact ⟨null, css, l, h1, fun i a b => ⟨(h2 i a b).1, hp _ _ (h2 i a b).2⟩, h3.keepF hs hg, h4, h5⟩
mutual
theorem VF.keepF (hs : SameOn F' W W') (hg : ∀ k, F' k → G k) : ∀ (f : F) {c : List Value} {t : T}, VF W F' f c t → VF W' G f c t
  | .mk k a b nul d e ofk sub, c, t, h => by
    have hp := fun c l => VFs.keepF hs hg sub (c := c) (l := l)
    simp only [VF] at h ⊢
    split
    · rename_i hk
      rw [if_pos hk] at h
      obtain ⟨v, h1, h2⟩ := h
      exact ⟨v, h1, h2.keepF hs hg (fun c t => VK.keepF hs hg hp)⟩
    · rename_i hk
      rw [if_neg hk] at h
      exact VK.keepF hs hg hp h
theorem VFs.keepF (hs : SameOn F' W W') (hg : ∀ k, F' k → G k) : ∀ (fs : List F) {c : List Value} {l : List T}, VFs W F' fs c l → VFs W' G fs c l
  | [], _, _, h => h
  | f :: r, c, l, h => by
    obtain ⟨c1, c2, t1, l2, h1, h2, h3, h4⟩ := h
    exact ⟨c1, c2, t1, l2, h1, h2, VF.keepF hs hg f h3, VFs.keepF hs hg r h4⟩
end
end
end Go.Proofs.Ytidebamgmbdnaaa
/-
  Reader.ArrayLen, CompactArrayLen, Ok.
-/
namespace Go.Proofs.Ytidebamgmbdnaaa
open Go.ChangeShapes Go.WideShapes Go.ChangeAt Go.RowKit

end Go.Proofs.Ytidebamgmbdnaaa
/-
  WHAT IS READ IS NO LONGER THAN WHAT IT IS READ FROM.
-/
namespace Go.Proofs.Ytidebamgmbdnaaa
open Go.RowKit

mutual
def small (N : Nat) : T → Prop
  | .mk _ s _ l u => s.length ≤ N ∧ l.length ≤ N ∧ u.length ≤ N ∧ (∀ x ∈ u, x.2.length ≤ N) ∧ smalls N l
def smalls (N : Nat) : List T → Prop
  | [] => True
  | t :: r => small N t ∧ smalls N r
end
theorem smalls_append (N : Nat) : ∀ (a b : List T), smalls N a → smalls N b → smalls N (a ++ b)
  | [], _, _, h => h
  | _ :: r, b, h, h' => ⟨h.1, smalls_append N r b h.2 h'⟩
theorem smalls_mem {N : Nat} : ∀ {l : List T}, smalls N l → ∀ t ∈ l, small N t
  | [], _, _, h => by cases h
  | x :: r, h, t, ht => by
    rcases List.mem_cons.1 ht with e | e
    · rw [e]; exact h.1
    · exact smalls_mem h.2 t e
theorem small_plain {N : Nat} {n : Int} {s : Bs} {b : Bool} (h : s.length ≤ N) : small N (.mk n s b [] []) := ⟨h, by simp, by simp, (fun x hx => by cases hx), trivial⟩
theorem small_nstr {N : Nat} {o : Option Bs} (h : ∀ x, o = some x → x.length ≤ N) : small N (nstrT o) := by
  cases o with
  | none => exact small_plain (by simp)
  | some x => exact small_plain (h x rfl)

theorem small_octO {N : Nat} {o : Option Bs} (h : ∀ x, o = some x → x.length ≤ N) : small N (octT o) := by
  cases o with
  | none => exact small_plain (by simp)
  | some x => exact small_plain (h x rfl)
theorem rdSpO_len (n : Int) (s : St) : (∀ x, (rdSpO n s).1 = some x → x.length ≤ s.1.length) ∧ (rdSpO n s).2.1.length ≤ s.1.length := by
  have h := rdSpan_len n s
  refine ⟨fun x hx => ?_, h.2⟩
  unfold rdSpO at hx
  simp only at hx
  split at hx
  · cases hx
  · cases hx; exact h.1
theorem rdBy_len (s : St) : (∀ x, (rdBy s).1 = some x → x.length ≤ s.1.length) ∧ (rdBy s).2.1.length ≤ s.1.length := by
  have a := rdI_len 4 s
  have b := rdSpO_len (rdI 4 s).1 (rdI 4 s).2
  unfold rdBy
  split
  · exact ⟨(fun x h => by cases h; simp), a⟩
  · exact ⟨fun x h => Nat.le_trans (b.1 x h) a, Nat.le_trans b.2 a⟩
theorem rdNBy_len (s : St) : (∀ x, (rdNBy s).1 = some x → x.length ≤ s.1.length) ∧ (rdNBy s).2.1.length ≤ s.1.length := by
  have a := rdI_len 4 s
  have b := rdSpO_len (rdI 4 s).1 (rdI 4 s).2
  unfold rdNBy
  split
  · exact ⟨(fun x h => by cases h), a⟩
  · exact ⟨fun x h => Nat.le_trans (b.1 x h) a, Nat.le_trans b.2 a⟩
theorem rdCBy_len (s : St) : (∀ x, (rdCBy s).1 = some x → x.length ≤ s.1.length) ∧ (rdCBy s).2.1.length ≤ s.1.length := by
  have a := (rdUv_len s).1
  have b := rdSpO_len ((rdUv s).1 - 1) (rdUv s).2
  unfold rdCBy
  split
  · exact ⟨(fun x h => by cases h; simp), a⟩
  · exact ⟨fun x h => Nat.le_trans (b.1 x h) a, Nat.le_trans b.2 a⟩
theorem rdCNBy_len (s : St) : (∀ x, (rdCNBy s).1 = some x → x.length ≤ s.1.length) ∧ (rdCNBy s).2.1.length ≤ s.1.length := by
  have a := (rdUv_len s).1
  have b := rdSpO_len ((rdUv s).1 - 1) (rdUv s).2
  unfold rdCNBy
  split
  · exact ⟨(fun x h => by cases h), a⟩
  · exact ⟨fun x h => Nat.le_trans (b.1 x h) a, Nat.le_trans b.2 a⟩
/-- a reader that makes things no longer than what it reads -/
def Fine (N : Nat) (g : St → T × St) : Prop := ∀ s : St, s.1.length + 1 ≤ N → small N (g s).1 ∧ (g s).2.1.length ≤ s.1.length
theorem rdLen_len (s : St) : (rdLen s).1 ≤ (s.1.length : Int) ∧ (rdLen s).2.1.length ≤ s.1.length := by
  have h := rdI_len 4 s
  simp only [rdLen]
  split
  · simp
  · exact ⟨by omega, h⟩
theorem rdCLen_len (s : St) : (rdCLen s).1 ≤ (s.1.length : Int) ∧ (rdCLen s).2.1.length ≤ s.1.length := by
  have h := (rdUv_len s).1
  simp only [rdCLen]
  split
  · simp
  · exact ⟨by omega, h⟩
theorem rdTagsN_rest : ∀ (n : Nat) (s : St) (l : List Tg), (rdTagsN n s l).2.1.length ≤ s.1.length
  | 0, s, l => Nat.le_refl _
  | n + 1, s, l => by
    have a := (rdUv_len s).1
    have b := (rdUv_len (rdUv s).2).1
    have c := (rdSpan_len ((rdUv (rdUv s).2).1 : Int) (rdUv (rdUv s).2).2).2
    have h := rdTagsN_rest n (rdSpan ((rdUv (rdUv s).2).1 : Int) (rdUv (rdUv s).2).2).2 (putK l (rdUv s).1 (rdSpan ((rdUv (rdUv s).2).1 : Int) (rdUv (rdUv s).2).2).1)
    simp only [rdTagsN]
    omega
theorem rdTags_rest (s : St) : (rdTags s).2.1.length ≤ s.1.length := Nat.le_trans (rdTagsN_rest _ _ _) (rdUv_len s).1
theorem rdTimes_fine {N : Nat} {g : St → T × St} (hg : Fine N g) : ∀ (n : Nat) (s : St), s.1.length + 1 ≤ N → smalls N (rdTimes g n s).1 ∧ (rdTimes g n s).2.1.length ≤ s.1.length
  | 0, s, _ => ⟨trivial, Nat.le_refl _⟩
  | n + 1, s, h => by
    obtain ⟨h1, h2⟩ := rdTimes_fine hg n s h
    obtain ⟨h3, h4⟩ := hg (rdTimes g n s).2 (by omega)
    exact ⟨smalls_append _ _ _ h1 ⟨h3, trivial⟩, by simp only [rdTimes]; omega⟩
theorem rdPartOf_fine {N : Nat} {fs : St → List T × St} {k : Nat} (hk : k ≤ N) (hlen : ∀ s, (fs s).1.length = k) (h : ∀ s : St, s.1.length + 1 ≤ N → smalls N (fs s).1 ∧ (fs s).2.1.length ≤ s.1.length) (flex : Bool) : Fine N (rdPartOf fs flex) := fun s hs => by
  obtain ⟨h1, h2⟩ := h s hs
  cases flex
  · exact ⟨⟨by simp, by rw [hlen]; exact hk, by simp, (fun x hx => by cases hx), h1⟩, h2⟩
  · obtain ⟨h3, h4⟩ := rdTags_len (fs s).2
    have h5 : (rdTags (fs s).2).2.1.length ≤ (fs s).2.1.length := rdTags_rest _
    exact ⟨⟨by simp, by rw [hlen]; exact hk, by omega, (fun x hx => by have := h4 x hx; omega), h1⟩, by simp only [rdPartOf, if_true]; omega⟩
def IsFine (N : Nat) (s : St) (x : T × St) : Prop := small N x.1 ∧ x.2.1.length ≤ s.1.length
theorem rdK_fine {N : Nat} (hN : 16 ≤ N) (kind : Int) (nul flex : Bool) {part : St → T × St} (hp : Fine N part) : Fine N (rdK kind nul flex part) := fun s hs => by
  have Q : IsFine N s (rdK kind nul flex part s) := by
    unfold rdK
    refine ite_p (IsFine N s) ⟨small_plain (by simp), rdN_len 1 s⟩ ?_
    refine ite_p (IsFine N s) ⟨small_plain (by simp), rdI_len 1 s⟩ ?_
    refine ite_p (IsFine N s) ⟨small_plain (by simp), rdI_len 2 s⟩ ?_
    refine ite_p (IsFine N s) ⟨small_plain (by simp), rdI_len 4 s⟩ ?_
    refine ite_p (IsFine N s) ⟨small_plain (by simp), rdI_len 8 s⟩ ?_
    refine ite_p (IsFine N s) ⟨small_plain (by simp), rdN_len 2 s⟩ ?_
    refine ite_p (IsFine N s) ⟨small_plain (by simp), rdI_len 8 s⟩ ?_
    refine ite_p (IsFine N s) ⟨small_plain (by simp [rdUuid, pad16]; omega), rdUuid_len s⟩ ?_
    have h1 := rdCNStr_len s
    have h2 := rdNStr_len s
    have h3 := rdCStr_len s
    have h4 := rdStr_len s
    refine ite_p (IsFine N s) (ite_p (IsFine N s) (ite_p (IsFine N s) ⟨small_nstr fun x hx => by have := h1.1 x hx; omega, h1.2⟩ ⟨small_nstr fun x hx => by have := h2.1 x hx; omega, h2.2⟩) (ite_p (IsFine N s) ⟨small_plain (by omega), h3.2⟩ ⟨small_plain (by omega), h4.2⟩)) ?_
    have g1 := rdCNBy_len s
    have g2 := rdNBy_len s
    have g3 := rdCBy_len s
    have g4 := rdBy_len s
    refine ite_p (IsFine N s) (ite_p (IsFine N s) (ite_p (IsFine N s) ⟨small_octO fun x hx => by have := g1.1 x hx; omega, g1.2⟩ ⟨small_octO fun x hx => by have := g2.1 x hx; omega, g2.2⟩) (ite_p (IsFine N s) ⟨small_octO fun x hx => by have := g3.1 x hx; omega, g3.2⟩ ⟨small_octO fun x hx => by have := g4.1 x hx; omega, g4.2⟩)) ?_
    exact ite_p (IsFine N s) (hp s hs) ⟨small_plain (by simp), Nat.le_refl _⟩
  exact Q
theorem rdListOf_fine {N : Nat} (nul : Int) (flex : Bool) (v : Int) {g : St → T × St} (hg : Fine N g) : Fine N (rdListOf nul flex v g) := fun s hs => by
  have key : ∀ r : Int × St, r.1 ≤ (s.1.length : Int) ∧ r.2.1.length ≤ s.1.length → ∀ b, small N (.mk 0 [] b (rdTimes g r.1.toNat r.2).1 []) ∧ (rdTimes g r.1.toNat r.2).2.1.length ≤ s.1.length := fun r hr b => by
    obtain ⟨h1, h2⟩ := rdTimes_fine hg r.1.toNat r.2 (by omega)
    exact ⟨⟨by simp, by rw [rdTimes_len]; omega, by simp, (fun x hx => by cases hx), h1⟩, by omega⟩
  cases flex
  · exact key _ (rdLen_len s) _
  · exact key _ (rdCLen_len s) _
theorem rdFs_len : ∀ (fs : List F) (v : Int) (flex : Bool) (s : St), (rdFs fs v flex s).1.length = fs.length
  | [], _, _, _ => rfl
  | f :: r, v, flex, s => by
    simp only [rdFs]
    split
    · simp [rdFs_len r]
    · simp [rdFs_len r]
mutual
/-- no part has more fields than that -/
def narrow (N : Nat) : F → Prop
  | .mk _ _ _ _ _ _ _ sub => sub.length ≤ N ∧ narrows N sub
def narrows (N : Nat) : List F → Prop
  | [] => True
  | f :: r => narrow N f ∧ narrows N r
end
theorem dflFs_len : ∀ fs : List F, (dflFs fs).length = fs.length
  | [] => rfl
  | f :: r => by simp [dflFs, dflFs_len r]
mutual
theorem dflF_small {N : Nat} (hN : 16 ≤ N) : ∀ f : F, narrow N f → small N (dflF f)
  | .mk k a b nul c d e sub, h => by
    simp only [dflF]
    repeat' split
    · exact small_plain (by simp; omega)
    · exact small_plain (by simp)
    · exact small_plain (by simp)
    · exact small_plain (by simp)
    · exact ⟨by simp, by rw [dflFs_len]; exact h.1, by simp, (fun x hx => by cases hx), dflFs_small hN sub h.2⟩
    · exact small_plain (by simp)
theorem dflFs_small {N : Nat} (hN : 16 ≤ N) : ∀ fs : List F, narrows N fs → smalls N (dflFs fs)
  | [], _ => trivial
  | f :: r, h => ⟨dflF_small hN f h.1, dflFs_small hN r h.2⟩
end
mutual
theorem rdF_fine {N : Nat} (hN : 16 ≤ N) : ∀ (f : F) (v : Int) (flex : Bool), narrow N f → Fine N (rdF f v flex)
  | .mk k a b nul c d ofk sub, v, flex, hn, s, hs => by
    have hp := rdPartOf_fine (flex := flex) hn.1 (rdFs_len sub v flex) (fun s hs => rdFs_fine hN sub v flex hn.2 s hs)
    simp only [rdF]
    split
    · exact rdListOf_fine nul flex v (rdK_fine hN ofk false flex hp) s hs
    · exact rdK_fine hN k _ flex hp s hs
theorem rdFs_fine {N : Nat} (hN : 16 ≤ N) : ∀ (l : List F) (v : Int) (flex : Bool), narrows N l → ∀ s : St, s.1.length + 1 ≤ N → smalls N (rdFs l v flex s).1 ∧ (rdFs l v flex s).2.1.length ≤ s.1.length
  | [], v, flex, _, s, hs => ⟨trivial, Nat.le_refl _⟩
  | f :: r, v, flex, h, s, hs => by
    simp only [rdFs]
    split
    · obtain ⟨h1, h2⟩ := rdF_fine hN f v flex h.1 s hs
      obtain ⟨h3, h4⟩ := rdFs_fine hN r v flex h.2 (rdF f v flex s).2 (by omega)
      exact ⟨⟨h1, h3⟩, by simp only; omega⟩
    · obtain ⟨h3, h4⟩ := rdFs_fine hN r v flex h.2 s hs
      exact ⟨⟨dflF_small hN f h.1, h3⟩, h4⟩
end
theorem rdPart_fine {N : Nat} (hN : 16 ≤ N) (fs : List F) (v : Int) (flex : Bool) (h : fs.length ≤ N) (h' : narrows N fs) : Fine N (rdPart fs v flex) :=
  rdPartOf_fine h (rdFs_len fs v flex) (fun s hs => rdFs_fine hN fs v flex h' s hs) flex
end Go.Proofs.Ytidebamgmbdnaaa
/-
  laws.got at a tree whose parts are short: it gives the same tree.
-/
namespace Go.Proofs.Ytidebamgmbdnaaa
open Go.ChangeShapes Go.WideShapes Go.ChangeAt Go.RowKit

theorem small_parts {N : Nat} {a : T} (h : small N a) : a.s.length ≤ N ∧ a.l.length ≤ N ∧ a.u.length ≤ N ∧ smalls N a.l := by
  cases a
  exact ⟨h.1, h.2.1, h.2.2.1, h.2.2.2.2⟩
mutual
theorem small_up {N M : Nat} (hN : N ≤ M) : ∀ a : T, small N a → small M a
  | .mk _ _ _ l _, h => ⟨Nat.le_trans h.1 hN, Nat.le_trans h.2.1 hN, Nat.le_trans h.2.2.1 hN, fun x hx => Nat.le_trans (h.2.2.2.1 x hx) hN, smalls_up hN l h.2.2.2.2⟩
theorem smalls_up {N M : Nat} (hN : N ≤ M) : ∀ l : List T, smalls N l → smalls M l
  | [], _ => trivial
  | x :: r, h => ⟨small_up hN x h.1, smalls_up hN r h.2⟩
end
end Go.Proofs.Ytidebamgmbdnaaa
/-
  HOW FAR A STRUCT, AND A LIST OF STRUCTS, HAVE BEEN READ: the states of readFrom's walks.
-/
namespace Go.Proofs.Ytidebamgmbdnaaa
open Go.ChangeShapes Go.WideShapes Go.ChangeAt Go.RowKit

/-- the blocks that hold what was read: those of G, and the new ones but for the reader's -/
def Nw (G : Nat → Prop) (w : World) (rb : Nat) (U : World) (k : Nat) : Prop := (G k ∨ w.heap.size ≤ k) ∧ k < U.heap.size ∧ k ≠ rb

theorem VFs.snoc {W : World} {G : Nat → Prop} {f : F} {c1 : List Value} {t : T} (h : VF W G f c1 t) : ∀ {fs : List F} {c : List Value} {l : List T}, VFs W G fs c l → VFs W G (fs ++ [f]) (c ++ c1) (l ++ [t])
  | [], _, _, ⟨rfl, rfl⟩ => ⟨c1, [], t, [], by simp, rfl, h, rfl, rfl⟩
  | _ :: _, _, _, ⟨a, b, t1, l2, rfl, rfl, h1, h2⟩ => ⟨a, b ++ c1, t1, l2 ++ [t], by simp, rfl, h1, VFs.snoc h h2⟩

theorem nw_same {A : List Nat} {w U U' : World} {row rb : Nat} {G : Nat → Prop} (_hz : w.heap.size ≤ U.heap.size) (hl : row < w.heap.size) (hr : ¬ G row) (k : Keep A U U') (hA : ∀ i, i ∈ A → i = row ∨ i = rb ∨ U.heap.size ≤ i) : SameOn (Nw G w rb U) U U' := fun i hi => by
  refine k.block i hi.2.1 fun ha => ?_
  rcases hA i ha with e | e | e
  · subst e
    rcases hi.1 with h | h
    · exact hr h
    · omega
  · exact hi.2.2 e
  · have := hi.2.1; omega
theorem nw_grow {w U U' : World} {rb : Nat} {G : Nat → Prop} (h : U.heap.size ≤ U'.heap.size) : ∀ k, Nw G w rb U k → Nw G w rb U' k := fun _ hk => ⟨hk.1, Nat.lt_of_lt_of_le hk.2.1 h, hk.2.2⟩

namespace ElSt
variable {w U U' : World} {row rb : Nat} {G : Nat → Prop} {s s' : St} {pre cd rest post : List Value} {ty : TypeId} {fs : List F} {td : List T}
end ElSt
namespace ElEnd
variable {w U U' : World} {row rb : Nat} {G : Nat → Prop} {s s' : St} {pre c post : List Value} {ty : TypeId} {ofk : Int} {fs : List F} {t : T}
end ElEnd

theorem el_at {pre cd : List Value} {m k j : Nat} (h : pre.length = m * k) (hc : cd.length = j) : k * m + j = pre.length + cd.length := by rw [h, hc, Nat.mul_comm]
theorem el_at0 {pre cd : List Value} {m k : Nat} (h : pre.length = m * k) (hc : cd.length = 0) : k * m = pre.length + cd.length := by rw [h, hc, Nat.mul_comm]; rfl
/-- how a list's row looks when it is made -/
def RowIni (U1 wx : World) (v0 av : Value) (N : Nat) (zs : List Value) (ty : TypeId) : Prop :=
  (N = 0 ∧ wx = U1 ∧ av = v0) ∨ (0 < N ∧ ∃ row cap extra, av = .slice (some ⟨row, 0, none⟩) N cap ∧ N ≤ cap ∧ U1.heap.size ≤ row ∧ Keep [] U1 wx ∧ wx.heap[row]? = some (.cells ((List.replicate N zs).flatten ++ extra).toArray ty (0, 0)))
section
variable {W : World} {G : Nat → Prop} {a b nul c d e n : Int} {sub : List F}
theorem vf_bool {x : Bool} : VF W G (.mk 0 a b nul c d e sub) [.bool x] (.mk (if x then 1 else 0) [] false [] []) := ⟨x, rfl, rfl⟩
theorem vf_i8 (h : -128 ≤ n ∧ n ≤ 127) : VF W G (.mk 1 a b nul c d e sub) [.int .i8 n] (.mk n [] false [] []) := ⟨n, rfl, h, rfl⟩
theorem vf_i16 (h : -32768 ≤ n ∧ n ≤ 32767) : VF W G (.mk 2 a b nul c d e sub) [.int .i16 n] (.mk n [] false [] []) := ⟨n, rfl, h, rfl⟩
theorem vf_i32 (h : -2147483648 ≤ n ∧ n ≤ 2147483647) : VF W G (.mk 3 a b nul c d e sub) [.int .i32 n] (.mk n [] false [] []) := ⟨n, rfl, h, rfl⟩
theorem vf_i64 (h : -9223372036854775808 ≤ n ∧ n ≤ 9223372036854775807) : VF W G (.mk 4 a b nul c d e sub) [.int .i64 n] (.mk n [] false [] []) := ⟨n, rfl, h, rfl⟩
theorem vf_u16 (h : 0 ≤ n ∧ n ≤ 65535) : VF W G (.mk 5 a b nul c d e sub) [.int .u16 n] (.mk n [] false [] []) := ⟨n, rfl, h, rfl⟩
theorem vf_str (hn : nul < 0) (x : Bs) : VF W G (.mk 8 a b nul c d e sub) [.string ⟨x.toArray⟩] (.mk 0 x false [] []) := by
  show VK W G 8 nul (VFs W G sub) _ _
  simp only [VK]
  rw [if_neg (by decide), if_neg (by decide), if_neg (by decide), if_neg (by decide), if_neg (by decide), if_neg (by decide), if_neg (by decide), if_pos True.intro, if_neg (by omega)]
  exact ⟨x, rfl, rfl⟩
theorem vf_nstr (hn : 0 ≤ nul) {v : Value} {o : Option Bs} (h : PS W G v o) : VF W G (.mk 8 a b nul c d e sub) [v] (nstrT o) := by
  show VK W G 8 nul (VFs W G sub) _ _
  simp only [VK]
  rw [if_neg (by decide), if_neg (by decide), if_neg (by decide), if_neg (by decide), if_neg (by decide), if_neg (by decide), if_neg (by decide), if_pos True.intro, if_pos hn]
  exact ⟨v, o, rfl, h, rfl⟩
theorem vf_f64 {n : Nat} (h : n < 256 ^ 8) : VF W G (.mk 6 a b nul c d e sub) [.float .f64 n] (.mk (sgn 8 n) [] false [] []) := ⟨n, by simpa using h, rfl, rfl⟩
theorem vf_oct {v : Value} {o : Option Bs} (h : OS W G v o) : VF W G (.mk 9 a b nul c d e sub) [v] (octT o) := ⟨v, o, rfl, h, rfl⟩
theorem vf_list {v : Value} {t : T} {m : Nat} (hm : m = wdK e (wdFs sub)) (h : VL W G (VK W G e (-1) (VFs W G sub)) m v t) : VF W G (.mk 11 a b nul c d e sub) [v] t := by
  subst hm
  exact ⟨v, rfl, h⟩
end
theorem PS.nil (W : World) (G : Nat → Prop) : PS W G (.pointer none) none := .inl ⟨rfl, rfl⟩
theorem OS.nil (W : World) (G : Nat → Prop) : OS W G (.slice none 0 0) none := ⟨RB.nil _ _, by simp⟩
theorem VL.nil (W : World) (G : Nat → Prop) (P : List Value → T → Prop) (m : Nat) : VL W G P m (.slice none 0 0) (.mk 0 [] true [] []) :=
  ⟨true, [], [], rfl, fun i a => by simp at a, .inl ⟨rfl, rfl, .inl rfl⟩, by simp, rfl⟩
theorem clist_bad {a b nul c d ofk v : Int} {sub : List F} {s : St} (h : (rdCLen s).2.2 = true) : (rdF (.mk 11 a b nul c d ofk sub) v true s).2.2 = true :=
  rdTimes_b (rdK_b ofk false true (rdPartOf_b (rdFs_b sub v true) true)) _ _ h
theorem list_bad {a b nul c d ofk v : Int} {sub : List F} {s : St} (h : (rdLen s).2.2 = true) : (rdF (.mk 11 a b nul c d ofk sub) v false s).2.2 = true :=
  rdTimes_b (rdK_b ofk false false (rdPartOf_b (rdFs_b sub v false) false)) _ _ h
/-- how one thing of a list is read -/
def gOf (ofk : Int) (flex : Bool) (sub : List F) (v : Int) : St → T × St := rdK ofk false flex (rdPartOf (rdFs sub v flex) flex)
theorem gOf_b (ofk : Int) (flex : Bool) (sub : List F) (v : Int) : Bad fun s => (gOf ofk flex sub v s).2 := rdK_b ofk false flex (rdPartOf_b (rdFs_b sub v flex) flex)
theorem rdF_clist {a b c d ofk v : Int} {sub : List F} {s : St} {L : Int} (h : (rdCLen s).1 = L) : rdF (.mk 11 a b (-1) c d ofk sub) v true s = (.mk 0 [] (decide (L ≤ 0)) (rdTimes (gOf ofk true sub v) L.toNat (rdCLen s).2).1 [], (rdTimes (gOf ofk true sub v) L.toNat (rdCLen s).2).2) := by
  subst h
  simp [rdF, rdListOf, gOf]
theorem rdF_list {a b c d ofk v : Int} {sub : List F} {s : St} {L : Int} (h : (rdLen s).1 = L) : rdF (.mk 11 a b (-1) c d ofk sub) v false s = (.mk 0 [] (decide (L ≤ 0)) (rdTimes (gOf ofk false sub v) L.toNat (rdLen s).2).1 [], (rdTimes (gOf ofk false sub v) L.toNat (rdLen s).2).2) := by
  subst h
  simp [rdF, rdListOf, gOf]
theorem info_bd {P : Program} {t : TypeId} {z : Value} {m : Nat} (h : (P.info? t).map (fun i => (i.zero, i.size, decide (i.bytes ≤ 65536))) = some (some z, m, true)) : ∃ i, P.info? t = some i ∧ i.zero = some z ∧ i.size = m ∧ i.bytes ≤ 65536 := by
  cases hi : P.info? t with
  | none => rw [hi] at h; cases h
  | some i =>
    rw [hi] at h
    simp at h
    exact ⟨i, rfl, h.1, h.2.1, h.2.2⟩
theorem rdLen_range (s : St) : -2147483648 ≤ (rdLen s).1 ∧ (rdLen s).1 ≤ 2147483647 := by
  have := rdI_range4 s
  simp only [rdLen]
  split
  · simp
  · exact this
theorem rdCLen_range (s : St) : -2147483648 ≤ (rdCLen s).1 ∧ (rdCLen s).1 ≤ 2147483647 := by
  simp only [rdCLen]
  split
  · simp
  · simp only [IntKind.wrap_i32]; omega
/-- zero cells, one thing after another -/
theorem zeroCells_list (z : Array Value) : ∀ n : Nat, (Builtin.zeroCells z n).toList = (List.replicate n z.toList).flatten
  | 0 => by simp [Builtin.zeroCells]
  | n + 1 => by
    have ih := zeroCells_list z n
    simp only [Builtin.zeroCells, Array.toList_map, Array.toList_range] at ih ⊢
    rw [Nat.succ_mul, List.range_add, List.map_append, ih, List.replicate_succ', List.flatten_append]
    congr 1
    simp only [List.map_map, List.flatten_cons, List.flatten_nil, List.append_nil]
    refine List.ext_getElem (by simp) fun i h1 h2 => ?_
    have hi : i < z.size := by simpa using h2
    simp [Nat.add_mod, Nat.mod_eq_of_lt hi, hi]
theorem RowIni.made {w : World} {z : Value} {N : Nat} {e : TypeId} (h : 0 < N) {zs : List Value} (hz : z.cells.toList = zs) :
    RowIni w (w.drew.alloc (.cells (Builtin.zeroCells z.cells N ++ Builtin.zeroCells z.cells (grownCap w N 0 e - N)) e)) (.slice none 0 0) (.slice (some ⟨w.heap.size, 0, none⟩) N (grownCap w N 0 e)) N zs e := by
  subst hz
  refine .inr ⟨h, w.heap.size, _, (List.replicate (grownCap w N 0 e - N) z.cells.toList).flatten, rfl, grownCap_ge w N 0 e, Nat.le_refl _, ((Keep.refl [] w).drew).alloc _, ?_⟩
  have hh := heap_alloc_new w.drew (.cells (Builtin.zeroCells z.cells N ++ Builtin.zeroCells z.cells (grownCap w N 0 e - N)) e)
  have e1 : (Builtin.zeroCells z.cells N ++ Builtin.zeroCells z.cells (grownCap w N 0 e - N)) = ((List.replicate N z.cells.toList).flatten ++ (List.replicate (grownCap w N 0 e - N) z.cells.toList).flatten).toArray := by
    rw [← zeroCells_list, ← zeroCells_list]
    apply Array.ext'
    simp
  rw [e1] at hh ⊢
  exact hh
end Go.Proofs.Ytidebamgmbdnaaa
/-
  FIELDS OF MORE THAN ONE CELL, defaults that are stored, structs in structs: the states of readFrom's walks.
-/
namespace Go.Proofs.Ytidebamgmbdnaaa
open Go.ChangeShapes Go.WideShapes Go.ChangeAt Go.RowKit

namespace ElSt
variable {w U U' : World} {row rb : Nat} {G : Nat → Prop} {s s' : St} {pre cd rest post : List Value} {ty : TypeId} {fs : List F} {td : List T}
end ElSt
theorem vf_uuid {W : World} {G : Nat → Prop} {a b nul c d e : Int} {sub : List F} {x : Bs} (h : x.length = 16) : VF W G (.mk 7 a b nul c d e sub) (x.map bv) (.mk 0 x false [] []) := ⟨x, h, rfl, rfl⟩
theorem vf_uuid2 {W : World} {G : Nat → Prop} {a b nul c d e : Int} {sub : List F} {x : Bs} {cs : List Value} (hc : cs = x.map bv) (h : x.length = 16) : VF W G (.mk 7 a b nul c d e sub) cs (.mk 0 x false [] []) := ⟨x, h, hc, rfl⟩
section
variable {pre cd cd2 : List Value} {m k j J : Nat}
theorem el_atN (h : pre.length = m * k) (hc : cd.length + j = J) : k * m + J = pre.length + cd.length + j := by rw [h, Nat.mul_comm]; omega
theorem el_atN0 (h : pre.length = m * k) (hc : cd.length + j = 0) : k * m = pre.length + cd.length + j := by rw [h, Nat.mul_comm]; omega
theorem el_at2 (h : pre.length = m * k) (hc : cd.length + cd2.length = J) : k * m + J = (pre ++ cd).length + cd2.length := by rw [List.length_append, h, Nat.mul_comm]; omega
theorem el_at20 (h : pre.length = m * k) (hc : cd.length + cd2.length = 0) : k * m = (pre ++ cd).length + cd2.length := by rw [List.length_append, h, Nat.mul_comm]; omega
theorem el_atN2 (h : pre.length = m * k) (hc : cd.length + cd2.length + j = J) : k * m + J = (pre ++ cd).length + cd2.length + j := by rw [List.length_append, h, Nat.mul_comm]; omega
theorem el_atN20 (h : pre.length = m * k) (hc : cd.length + cd2.length + j = 0) : k * m = (pre ++ cd).length + cd2.length + j := by rw [List.length_append, h, Nat.mul_comm]; omega
end
theorem sixteen_of {l : Bs} (h : l.length = 16) : ∃ x0 x1 x2 x3 x4 x5 x6 x7 x8 x9 x10 x11 x12 x13 x14 x15, l = [x0, x1, x2, x3, x4, x5, x6, x7, x8, x9, x10, x11, x12, x13, x14, x15] := by
  match l, h with
  | [x0, x1, x2, x3, x4, x5, x6, x7, x8, x9, x10, x11, x12, x13, x14, x15], _ => exact ⟨x0, x1, x2, x3, x4, x5, x6, x7, x8, x9, x10, x11, x12, x13, x14, x15, rfl⟩
open Go.Lib in
/-- append(a, make([]T, n)...) to an empty slice -/
theorem run_append_empty_zeros {P : Program} (w : World) (t tn ty e : TypeId) (i : TypeInfo) (z : Value) (k kn : IntKind) (ht : P.underlying t = some (.slice e)) (htn : P.underlying tn = some (.int kn)) (hi : P.info? e = some i) (hz : i.zero = some z)
    (n : Nat) (h0 : 0 < n) (hs : 0 < i.size) (h63 : (n : Int) ≤ 9223372036854775807) (h48 : n * i.bytes ≤ 281474976710656) (base : Option Addr) :
    (Builtin.append_ #[t, tn] ty #[.slice base 0 0, .int k n]).run P w =
      .ok (.slice (some ⟨w.heap.size, 0, none⟩) n (grownCap w n 0 e)) (w.drew.alloc (.cells (Builtin.zeroCells z.cells n ++ Builtin.zeroCells z.cells (grownCap w n 0 e - n)) e)) := by
  cases base with
  | none => exact run_append_nil_zeros w t tn ty e i z k kn ht htn hi hz n h0 hs h63 h48
  | some b =>
    have hn : n ≠ 0 := by omega
    have hw : IntKind.i64.wrap (n : Int) = n := by rw [IntKind.wrap_i64]; omega
    have h63' : ¬ (9223372036854775807 < (n : Int)) := by omega
    have h48' : ¬ (281474976710656 < Builtin.nextslicecap n 0 * i.bytes) := by rw [nextslicecap_zero h0]; omega
    have h48i : ¬ (281474976710656 < (n : Int) * (i.bytes : Int)) := by
      rw [← Int.natCast_mul]
      omega
    have hneg : ¬ ((n : Int) < 0) := by omega
    have hns : ¬ (n * i.size = 0) := Nat.mul_ne_zero hn (by omega)
    have hf := run_firstCells_some (P := P) w.drew i.size 0 b 0 0 [] (by simp) (by simp)
    simp [Builtin.append_, run_underlying ht, run_underlying htn, sizeOf, typeInfo, zeroValue, hi, hz, asInt, asIntOf, hw, hn, hneg, hns, h63', h48', h48i, Question.forced, hf, newRow, grownCap]
theorem RowIni.made2 {w : World} {z : Value} {N : Nat} {e : TypeId} (h : 0 < N) {zs : List Value} (hz : z.cells.toList = zs) (v0 : Value) :
    RowIni w (w.drew.alloc (.cells (Builtin.zeroCells z.cells N ++ Builtin.zeroCells z.cells (grownCap w N 0 e - N)) e)) v0 (.slice (some ⟨w.heap.size, 0, none⟩) N (grownCap w N 0 e)) N zs e := by
  rcases RowIni.made (w := w) (e := e) h hz with ⟨h1, _⟩ | h1
  · omega
  · exact .inr h1
/-- what a list begins as -/
def V0 (c : Prop) (v : Value) : Prop := (c → ∃ b, v = .slice (some ⟨b, 0, none⟩) 0 0) ∧ (¬ c → v = .slice none 0 0)
theorem V0.shape {c : Prop} {v : Value} (h : V0 c v) : (∃ ao, v = .slice ao 0 0) ∧ (v = .slice none 0 0 ∨ ∃ b, v = .slice (some ⟨b, 0, none⟩) 0 0) ∧ (v = .slice none 0 0 ↔ ¬ c) := by
  by_cases hc : c
  · obtain ⟨b, rfl⟩ := h.1 hc
    exact ⟨⟨_, rfl⟩, .inr ⟨b, rfl⟩, ⟨fun e => (by cases e), fun e => absurd hc e⟩⟩
  · obtain rfl := h.2 hc
    exact ⟨⟨_, rfl⟩, .inl rfl, ⟨fun _ => hc, fun _ => rfl⟩⟩
theorem rdF_cnlist {a b c d ofk v nul : Int} {sub : List F} {s : St} {L : Int} (hn : 0 ≤ nul) (h : (rdCLen s).1 = L) : rdF (.mk 11 a b nul c d ofk sub) v true s = (.mk 0 [] (decide (nul ≤ v) && decide (L < 0)) (rdTimes (gOf ofk true sub v) L.toNat (rdCLen s).2).1 [], (rdTimes (gOf ofk true sub v) L.toNat (rdCLen s).2).2) := by
  subst h
  simp [rdF, rdListOf, gOf, show ¬ nul < 0 by omega]
theorem rdF_nlist {a b c d ofk v nul : Int} {sub : List F} {s : St} {L : Int} (hn : 0 ≤ nul) (h : (rdLen s).1 = L) : rdF (.mk 11 a b nul c d ofk sub) v false s = (.mk 0 [] (decide (nul ≤ v) && decide (L < 0)) (rdTimes (gOf ofk false sub v) L.toNat (rdLen s).2).1 [], (rdTimes (gOf ofk false sub v) L.toNat (rdLen s).2).2) := by
  subst h
  simp [rdF, rdListOf, gOf, show ¬ nul < 0 by omega]
end Go.Proofs.Ytidebamgmbdnaaa
/-
  A LOOP OF readFrom AS A DECLARATION OF ITS OWN: the code at a place of a function's body, and what a return says.
-/
namespace Go.Proofs.Ytidebamgmbdnaaa
open Go.ChangeShapes Go.WideShapes Go.ChangeAt Go.RowKit

/-- the code at a place of a code: the way to it, 'true' being the second of two -/
def codeAt : List Bool → Code → Code
  | [], c => c
  | i :: r, .seq a b => codeAt r (bif i then b else a)
  | i :: r, .cond _ a b => codeAt r (bif i then b else a)
  | _ :: r, .loop c => codeAt r c
  | _ :: r, .block _ c => codeAt r c
  | _ :: r, .scope c => codeAt r c
  | _ :: _, c => c
theorem ret_post {P : Program} {fn : Func} {R : Ending → World → Prop} {a : Act} {w : World} {v : Value} {t : Tmp} (hr : fn.results = #[.tmp t]) (h1 : a.defers = []) (h2 : a.tmps.getD t undef = v) (hR : R (.returned v) w) : bodyPost P fn R .ret a w := by
  refine bodyPost_ret (v := v) ?_ h1 hR
  subst h2
  simp [results, hr]
theorem inBlock_ret {Q : Exit → Act → World → Prop} {n : Nat} {a : Act} {w : World} (h : Q .ret a w) : Exit.inBlock n Q .ret a w := h
theorem then_ret {K : Act → World → Prop} {Q : Exit → Act → World → Prop} {a : Act} {w : World} (h : Q .ret a w) : Exit.then K Q .ret a w := h
end Go.Proofs.Ytidebamgmbdnaaa
