/-
  Reader.CompactNullableBytes, with what is nil and what is not.
-/
import Derived.Test.YtidebamgmbdnaaaMB7
import Derived.Test.YtidebamgmbdnaaaMB6
import Derived.Test.YtidebamgmbdnaaaMB5
import Derived.Test.YtidebamgmbdnaaaMB9
import Derived.Test.YtidebamgmbdnaaaMB10
import Derived.Test.YtidebamgmbdnaaaMB11
import Derived.Test.YtidebamgmbdnaaaMB2
namespace Go.Proofs.Ytidebamgmbdnaaa
open Go.ChangeShapes Go.WideShapes Go.ChangeAt Go.RowKit

def rdCNB (s : St) : Option Bs × St := if (rdUv s).1 = 0 then (none, (rdUv s).2) else (some (rdSpan ((rdUv s).1 - 1) (rdUv s).2).1, (rdSpan ((rdUv s).1 - 1) (rdUv s).2).2)
/-- octets, or nil -/
def OS (w : World) (G : Nat → Prop) (v : Value) (o : Option Bs) : Prop := RB w G v (o.getD []) ∧ (v = .slice none 0 0 ↔ o = none)
/-- a span, nil where it is bad -/
def rdSpO (n : Int) (s : St) : Option Bs × St := (if (rdSpan n s).2.2 then none else some (rdSpan n s).1, (rdSpan n s).2)
def rdBy (s : St) : Option Bs × St := if (rdI 4 s).1 = -1 then (some [], (rdI 4 s).2) else rdSpO (rdI 4 s).1 (rdI 4 s).2
def rdNBy (s : St) : Option Bs × St := if (rdI 4 s).1 < 0 then (none, (rdI 4 s).2) else rdSpO (rdI 4 s).1 (rdI 4 s).2
def rdCBy (s : St) : Option Bs × St := if (rdUv s).1 = 0 then (some [], (rdUv s).2) else rdSpO ((rdUv s).1 - 1) (rdUv s).2
def rdCNBy (s : St) : Option Bs × St := if (rdUv s).1 = 0 then (none, (rdUv s).2) else rdSpO ((rdUv s).1 - 1) (rdUv s).2
theorem OS.of_span {w : World} {G : Nat → Prop} {v : Value} {n : Int} {s : St} (h : RB w G v (rdSpan n s).1) (n2 : (rdSpan n s).2.2 = false → v ≠ .slice none 0 0) (n3 : (rdSpan n s).2.2 = true → v = .slice none 0 0) : OS w G v (rdSpO n s).1 := by
  unfold rdSpO
  cases e : (rdSpan n s).2.2
  · exact ⟨h, by simp [n2 e]⟩
  · rw [n3 e]
    exact ⟨RB.nil _ _, by simp⟩
theorem OS.empty (w : World) (G : Nat → Prop) (a : Addr) (c : Nat) : OS w G (.slice (some a) 0 c) (some []) := ⟨RB.empty _ _ _ _, by simp⟩
theorem OS.nought (w : World) (G : Nat → Prop) : OS w G (.slice none 0 0) none := ⟨RB.nil _ _, by simp⟩
end Go.Proofs.Ytidebamgmbdnaaa
/-
  kbin.AppendCompactString, AppendNullableString, .. , the lengths of lists, octets: onto octets of the call's own.
-/
namespace Go.Proofs.Ytidebamgmbdnaaa
open Go.ChangeShapes Go.WideShapes Go.ChangeAt Go.RowKit

def nstrP : Option Bs → Bs
  | none => fixedP (-1) 2
  | some s => fixedP s.length 2 ++ s
def cnstrP : Option Bs → Bs
  | none => [0]
  | some s => uvarP (s.length + 1) ++ s
theorem cast1 (n : Nat) : ((1 + n : Nat) : Int) = 1 + (n : Int) := by omega
set_option maxHeartbeats 400000 in
set_option maxRecDepth 100000 in
theorem appcstr_any {B : Nat} {v : Value} {acc s : Bs} {w : World} (ho : OB w B v acc) (hB : B ≤ w.heap.size) (hl : acc.length ≤ 40000000000000) (hs : s.length ≤ 1000000) :
    Calls Try.prog 81 #[v, str s] w fun e w' => ∃ v', e = .returned v' ∧ OB w' B v' (acc ++ (uvarP (s.length + 1) ++ s)) ∧ Below B w w' := by
  have AP := appuv_any (n := 1 + s.length) ho hB (by omega) (by omega)
  rw [cast1] at AP
  have hsz := str_size s
  have hul : (uvarP (1 + s.length)).length ≤ 10 := uvarP_short (by omega)
  go_enter Try.func81, Try.ntmps81
  unfold str
  go_wp2_with (first
    | (go_at_call 68; go_loud (refine AP.mono ?_; rintro e w1 ⟨v1, rfl, h1, b1⟩))
    | (at_builtin; go_loud (refine app_text rfl _ _ rfl B _ (acc ++ uvarP (1 + s.length)) rfl h1 s rfl (by rw [List.length_append]; omega) (Nat.le_trans hB b1.size) ?_; intro v2 w2 h2 g2)))
  go_ret
  exact ⟨_, rfl, by rw [← List.append_assoc, Nat.add_comm s.length 1]; exact h2, below_grown b1 hB h1 g2⟩
set_option maxHeartbeats 400000 in
set_option maxRecDepth 100000 in
theorem appnstr_any {G : Nat → Prop} {B : Nat} {v p : Value} {acc : Bs} {o : Option Bs} {w : World} (ho : OB w B v acc) (hp : PS w G p o) (hB : B ≤ w.heap.size) (hl : acc.length ≤ 40000000000000) (hs : ∀ x, o = some x → x.length ≤ 1000000) :
    Calls Try.prog 90 #[v, p] w fun e w' => ∃ v', e = .returned v' ∧ OB w' B v' (acc ++ nstrP o) ∧ Below B w w' := by
  rcases hp with ⟨rfl, rfl⟩ | ⟨k, s, rfl, rfl, _, hk⟩
  · have AP := appi16_any (n := -1) ho hB (by omega)
    go_enter Try.func90, Try.ntmps90
    go_wp2_with (go_at_call 66; go_loud (refine AP.mono ?_; rintro e w1 ⟨v1, rfl, h1, b1⟩))
    go_ret
    exact ⟨_, rfl, h1, b1⟩
  · have AP := appstr_any (s := s) ho hB (by omega) (by have := hs s rfl; omega)
    have c0 : w.cell? ⟨k, 0, none⟩ = some (str s) := cellOf hk 0 _ rfl
    clear hs hk
    unfold str at c0 AP
    go_enter Try.func90, Try.ntmps90
    go_wp2_with (go_at_call 82; go_loud (refine AP.mono ?_; rintro e w1 ⟨v1, rfl, h1, b1⟩))
    go_ret
    exact ⟨_, rfl, h1, b1⟩
theorem uvar0 : uvarP 0 = [0] := by rw [uvarP_small (by omega)]; rfl
set_option maxHeartbeats 400000 in
set_option maxRecDepth 100000 in
theorem appcnstr_any {G : Nat → Prop} {B : Nat} {v p : Value} {acc : Bs} {o : Option Bs} {w : World} (ho : OB w B v acc) (hp : PS w G p o) (hB : B ≤ w.heap.size) (hl : acc.length ≤ 40000000000000) (hs : ∀ x, o = some x → x.length ≤ 1000000) :
    Calls Try.prog 89 #[v, p] w fun e w' => ∃ v', e = .returned v' ∧ OB w' B v' (acc ++ cnstrP o) ∧ Below B w w' := by
  rcases hp with ⟨rfl, rfl⟩ | ⟨k, s, rfl, rfl, _, hk⟩
  · have AP := appuv_any (n := 0) ho hB (by omega) (by omega)
    rw [uvar0] at AP
    simp only [Int.natCast_zero] at AP
    go_enter Try.func89, Try.ntmps89
    go_wp2_with (go_at_call 68; go_loud (refine AP.mono ?_; rintro e w1 ⟨v1, rfl, h1, b1⟩))
    go_ret
    exact ⟨_, rfl, h1, b1⟩
  · have AP := appcstr_any (s := s) ho hB hl (hs s rfl)
    have c0 : w.cell? ⟨k, 0, none⟩ = some (str s) := cellOf hk 0 _ rfl
    clear hs hk
    unfold str at c0 AP
    go_enter Try.func89, Try.ntmps89
    go_wp2_with (go_at_call 81; go_loud (refine AP.mono ?_; rintro e w1 ⟨v1, rfl, h1, b1⟩))
    go_ret
    exact ⟨_, rfl, h1, b1⟩
theorem wrap_i32s (n : Nat) (h : n ≤ 1000000) : IntKind.i32.wrap (n : Int) = n := by rw [IntKind.wrap_i32]; omega
set_option maxHeartbeats 400000 in
theorem applen_any {B : Nat} {v : Value} {acc : Bs} {n : Nat} {w : World} (ho : OB w B v acc) (hB : B ≤ w.heap.size) (hl : acc.length ≤ 40000000000000) (hn : n ≤ 1000000) :
    Calls Try.prog 80 #[v, .int .i64 (n : Int)] w fun e w' => ∃ v', e = .returned v' ∧ OB w' B v' (acc ++ fixedP n 4) ∧ Below B w w' := by
  have AP := appi32_any (n := (n : Int)) ho hB (by omega)
  go_enter Try.func80, Try.ntmps80
  go_wp2_with (go_at_call 65; go_loud (refine AP.mono ?_; rintro e w1 ⟨v1, rfl, h1, b1⟩))
  go_ret
  exact ⟨_, rfl, h1, b1⟩
set_option maxHeartbeats 400000 in
theorem appclen_any {B : Nat} {v : Value} {acc : Bs} {n : Nat} {w : World} (ho : OB w B v acc) (hB : B ≤ w.heap.size) (hl : acc.length ≤ 40000000000000) (hn : n ≤ 1000000) :
    Calls Try.prog 79 #[v, .int .i64 (n : Int)] w fun e w' => ∃ v', e = .returned v' ∧ OB w' B v' (acc ++ uvarP (n + 1)) ∧ Below B w w' := by
  have AP := appuv_any (n := 1 + n) ho hB (by omega) (by omega)
  rw [cast1] at AP
  go_enter Try.func79, Try.ntmps79
  go_wp2_with (go_at_call 68; go_loud (refine AP.mono ?_; rintro e w1 ⟨v1, rfl, h1, b1⟩))
  go_ret
  exact ⟨_, rfl, by rw [Nat.add_comm n 1]; exact h1, b1⟩
set_option maxHeartbeats 400000 in
theorem appnlen_any {B : Nat} {v : Value} {acc : Bs} {n : Nat} {b : Bool} {w : World} (ho : OB w B v acc) (hB : B ≤ w.heap.size) (hl : acc.length ≤ 40000000000000) (hn : n ≤ 1000000) :
    Calls Try.prog 92 #[v, .int .i64 (n : Int), .bool b] w fun e w' => ∃ v', e = .returned v' ∧ OB w' B v' (acc ++ (if b then fixedP (-1) 4 else fixedP n 4)) ∧ Below B w w' := by
  cases b with
  | true =>
    have AP := appi32_any (n := -1) ho hB (by omega)
    go_enter Try.func92, Try.ntmps92
    go_wp2_with (go_at_call 65; go_loud (refine AP.mono ?_; rintro e w1 ⟨v1, rfl, h1, b1⟩))
    go_ret
    exact ⟨_, rfl, h1, b1⟩
  | false =>
    have AP := appi32_any (n := (n : Int)) ho hB (by omega)
    go_enter Try.func92, Try.ntmps92
    go_wp2_with (go_at_call 65; go_loud (refine AP.mono ?_; rintro e w1 ⟨v1, rfl, h1, b1⟩))
    go_ret
    exact ⟨_, rfl, h1, b1⟩
set_option maxHeartbeats 400000 in
theorem appcnlen_any {B : Nat} {v : Value} {acc : Bs} {n : Nat} {b : Bool} {w : World} (ho : OB w B v acc) (hB : B ≤ w.heap.size) (hl : acc.length ≤ 40000000000000) (hn : n ≤ 1000000) :
    Calls Try.prog 91 #[v, .int .i64 (n : Int), .bool b] w fun e w' => ∃ v', e = .returned v' ∧ OB w' B v' (acc ++ (if b then [0] else uvarP (n + 1))) ∧ Below B w w' := by
  cases b with
  | true =>
    have AP := appuv_any (n := 0) ho hB (by omega) (by omega)
    rw [uvar0] at AP
    simp only [Int.natCast_zero] at AP
    go_enter Try.func91, Try.ntmps91
    go_wp2_with (go_at_call 68; go_loud (refine AP.mono ?_; rintro e w1 ⟨v1, rfl, h1, b1⟩))
    go_ret
    exact ⟨_, rfl, h1, b1⟩
  | false =>
    have AP := appuv_any (n := 1 + n) ho hB (by omega) (by omega)
    rw [cast1] at AP
    go_enter Try.func91, Try.ntmps91
    go_wp2_with (go_at_call 68; go_loud (refine AP.mono ?_; rintro e w1 ⟨v1, rfl, h1, b1⟩))
    go_ret
    exact ⟨_, rfl, by rw [Nat.add_comm n 1]; exact h1, b1⟩
end Go.Proofs.Ytidebamgmbdnaaa
/-
  kbin.AppendUuid: onto octets of the call's own.
-/
namespace Go.Proofs.Ytidebamgmbdnaaa
open Go.ChangeShapes Go.WideShapes Go.ChangeAt Go.RowKit

theorem rb_own {W : World} {b : Nat} {x : Bs} {t : TypeId} (h : W.heap[b]? = some (.cells (x.map bv).toArray t (0, 0))) : RB W (fun k => k = b) (.slice (some ⟨b, 0, none⟩) x.length x.length) x := by
  refine ⟨_, _, rfl, Nat.le_refl _, (fun h => by cases h), fun a ha => ?_⟩
  cases ha
  refine ⟨fun _ => rfl, fun i hi => ⟨rfl, ?_⟩⟩
  simp only [World.cell?, h, Option.isSome_none, Bool.false_eq_true, if_false, Nat.zero_add]
  rw [List.getElem?_toArray]
  exact List.getElem?_eq_getElem hi
set_option maxHeartbeats 400000 in
set_option maxRecDepth 100000 in
theorem appuuid_any {B : Nat} {v : Value} {acc x : Bs} {w : World} (ho : OB w B v acc) (hB : B ≤ w.heap.size) (hl : acc.length ≤ 40000000000000) (hx : x.length = 16) :
    Calls Try.prog 93 #[v, .agg (x.map bv).toArray] w fun e w' => ∃ v', e = .returned v' ∧ OB w' B v' (acc ++ x) ∧ Below B w w' := by
  have hb := rb_own (heap_alloc_new w (.cells (x.map bv).toArray 119))
  rw [hx] at hb
  have hx2 : (x.map bv).toArray.size = 16 := by simp [hx]
  generalize hc : (x.map bv).toArray = c at *
  clear hc
  go_enter Try.func93, Try.ntmps93
  have k0 : Keep [] w (w.alloc (.cells c 119)) := keep_box _
  go_wp2_with (at_builtin; go_loud (refine app_ob rfl _ _ rfl B _ acc rfl (ho.keep k0) _ x _ rfl hb (by omega) (Nat.le_trans hB k0.size) ?_; intro v2 w2 h2 g2))
  go_ret
  exact ⟨_, rfl, h2, below_grown ⟨k0.os, k0.tape, k0.output, k0.size, fun i hi => k0.block i (Nat.lt_of_lt_of_le hi hB) (by simp)⟩ hB (ho.keep k0) g2⟩
end Go.Proofs.Ytidebamgmbdnaaa
/-
  HOW FAR A MESSAGE HAS BEEN READ: the reader, the message's block, and what stays.
-/
namespace Go.Proofs.Ytidebamgmbdnaaa
open Go.ChangeShapes Go.WideShapes Go.ChangeAt Go.RowKit

theorem World.heap_lt {w : World} {b : Nat} {o : Obj} (h : w.heap[b]? = some o) : b < w.heap.size := (Array.getElem?_eq_some_iff.1 h).1
namespace RdSt
variable {w U U' : World} {b rb j : Nat} {G : Nat → Prop} {s s' : St} {arr : Array Value} {t : TypeId} {v : Value}
end RdSt
theorem PS.shape {w : World} {G : Nat → Prop} {v : Value} {o : Option Bs} (h : PS w G v o) : ∃ a, v = .pointer a := by
  rcases h with ⟨rfl, _⟩ | ⟨k, l, rfl, _⟩
  · exact ⟨_, rfl⟩
  · exact ⟨_, rfl⟩
end Go.Proofs.Ytidebamgmbdnaaa
/-
  spec's messages as constants: readings of a block of fields.
-/
namespace Go.Proofs.Ytidebamgmbdnaaa
open Go.ChangeShapes Go.WideShapes Go.ChangeAt Go.RowKit

/-- a field's eight cells, its part's fields lying at v -/
abbrev fcl8 (k a b c d e o : Int) (v : Value) : List Value := [.int .i64 k, .int .i64 a, .int .i64 b, .int .i64 c, .int .i64 d, .int .i64 e, .int .i64 o, v]
theorem HF.flat (w : World) (G : Nat → Prop) (k a b c d e o : Int) : HF w G (.mk k a b c d e o []) (fcl8 k a b c d e o (.slice none 0 0)) :=
  .mk k a b c d e o [] (.slice none 0 0) [] (by simp) rfl (fun i h => by simp at h) ⟨none, 0, rfl, Nat.le_refl _, fun _ => ⟨rfl, rfl, rfl⟩, fun a h => by cases h⟩
theorem HF.deep {w : World} {G : Nat → Prop} {v : Value} {sub : List F} (k a b c d e o : Int) (h : HFs w G v sub) : HF w G (.mk k a b c d e o sub) (fcl8 k a b c d e o v) := by
  obtain ⟨cs, h1, h2, h3, h4⟩ := h
  exact .mk k a b c d e o sub v cs h3 h1 h2 h4
/-- fields and their cells, one by one -/
inductive HFL (w : World) (G : Nat → Prop) : List F → List (List Value) → Prop
  | nil : HFL w G [] []
  | cons {f : F} {c : List Value} {fs : List F} {cs : List (List Value)} : HF w G f c → HFL w G fs cs → HFL w G (f :: fs) (c :: cs)
theorem HFL.len {w : World} {G : Nat → Prop} {fs : List F} {cs : List (List Value)} (h : HFL w G fs cs) : cs.length = fs.length := by
  induction h with
  | nil => rfl
  | cons _ _ ih => simp [ih]
theorem HFL.get {w : World} {G : Nat → Prop} {fs : List F} {cs : List (List Value)} (h : HFL w G fs cs) : ∀ i (h1 : i < fs.length) (h2 : i < cs.length), HF w G fs[i] cs[i] := by
  induction h with
  | nil => intro i h1; simp at h1
  | cons hc _ ih =>
    intro i h1 h2
    cases i with
    | zero => exact hc
    | succ i => exact ih i (by simpa using h1) (by simpa using h2)
/-- a block of fields -/
theorem HFs.block {w : World} {G : Nat → Prop} {b : Nat} {fs : List F} {cs : List (List Value)} {arr : Array Value} {t : TypeId} {z : Nat × Nat} {n : Nat} (h : w.heap[b]? = some (.cells arr t z)) (hl : HFL w G fs cs) (ha : arr.toList = cs.flatten) (hG : G b) (hn : n = fs.length) (hb : n ≤ 1048576) :
    HFs w G (.slice (some ⟨b, 0, none⟩) n n) fs := by
  have hlen := hl.len
  subst hn
  refine ⟨cs, hlen, hl.get, hb, ⟨_, _, by rw [hlen], Nat.le_refl _, (fun e => by cases e), fun a e => ?_⟩⟩
  cases e
  refine ⟨fun _ => rfl, fun i hi => ⟨hG, ?_⟩⟩
  simp only [Nat.zero_add]
  refine cellOf h i _ ?_
  rw [← Array.getElem?_toList, ha, List.getElem?_eq_getElem hi]
end Go.Proofs.Ytidebamgmbdnaaa
/-
  How many tags may be read of so many octets, and how long they may be. Plain lemmas.
-/
namespace Go.Proofs.Ytidebamgmbdnaaa

theorem rdUv_len (s : St) : (rdUv s).2.1.length ≤ s.1.length ∧ ((rdUv s).1 ≠ 0 → (rdUv s).2.1.length + 1 ≤ s.1.length) := by
  have h := uvP_lt s.1
  unfold rdUv
  split
  · simp
  · rename_i hn
    simp only [List.length_drop]
    omega
theorem rdSpan_len (n : Int) (s : St) : (rdSpan n s).1.length ≤ s.1.length ∧ (rdSpan n s).2.1.length ≤ s.1.length := by
  unfold rdSpan
  split
  · simp
  · simp only [List.length_take, List.length_drop]
    omega
theorem insK_perm {α : Type} (x : Nat × α) : ∀ l : List (Nat × α), (insK x l).Perm (x :: l)
  | [] => List.Perm.refl _
  | y :: r => by
    unfold insK
    split
    · exact List.Perm.refl _
    · exact ((insK_perm x r).cons y).trans (List.Perm.swap x y r)
/-- the tags but for that of the number nought -/
def n0 (l : List Tg) : Nat := (l.filter fun x => decide (x.1 ≠ 0)).length
theorem n0_put (l : List Tg) (k : Nat) (x : Bs) : n0 (putK l k x) ≤ n0 l + (if k = 0 then 0 else 1) := by
  unfold n0 putK
  have h := ((insK_perm (k, x) (l.filter fun y => decide (y.1 ≠ k))).filter fun x => decide (x.1 ≠ 0)).length_eq
  rw [h, List.filter_cons]
  have hs : ((l.filter fun y => decide (y.1 ≠ k)).filter fun x => decide (x.1 ≠ 0)).length ≤ (l.filter fun x => decide (x.1 ≠ 0)).length := ((List.filter_sublist).filter _).length_le
  by_cases hk : k = 0
  · rw [if_neg (by simp [hk]), if_pos hk]
    exact Nat.le_trans hs (Nat.le_add_right _ _)
  · rw [if_pos (by simp [hk]), if_neg hk, List.length_cons]
    exact Nat.succ_le_succ hs
theorem n0_rising : ∀ {l : List Tg}, Rising l → l.length ≤ n0 l + 1
  | [], _ => by simp
  | y :: r, h => by
    obtain ⟨h1, _⟩ := List.pairwise_cons.1 h
    have e : r.filter (fun x => decide (x.1 ≠ 0)) = r := List.filter_eq_self.2 fun x hx => by have := h1 x hx; simp; omega
    unfold n0
    rw [List.filter_cons, e]
    split
    · simp
    · simp
theorem rdTagsN_len (B : Nat) : ∀ (n : Nat) (s : St) (l : List Tg), Rising l → (∀ x ∈ l, x.2.length ≤ B) → s.1.length ≤ B →
    n0 (rdTagsN n s l).1 ≤ n0 l + s.1.length ∧ Rising (rdTagsN n s l).1 ∧ ∀ x ∈ (rdTagsN n s l).1, x.2.length ≤ B
  | 0, s, l, h1, h2, _ => ⟨by simp [rdTagsN], h1, h2⟩
  | n + 1, s, l, h1, h2, h3 => by
    have a := rdUv_len s
    have b := rdUv_len (rdUv s).2
    have c := rdSpan_len ((rdUv (rdUv s).2).1 : Int) (rdUv (rdUv s).2).2
    have p := n0_put l (rdUv s).1 (rdSpan ((rdUv (rdUv s).2).1 : Int) (rdUv (rdUv s).2).2).1
    have ih := rdTagsN_len B n (rdSpan ((rdUv (rdUv s).2).1 : Int) (rdUv (rdUv s).2).2).2 (putK l (rdUv s).1 (rdSpan ((rdUv (rdUv s).2).1 : Int) (rdUv (rdUv s).2).2).1) (rising_putK h1 _ _)
      (fun x hx => by
        rcases mem_putK hx with rfl | hx
        · simp only; omega
        · exact h2 x hx) (by omega)
    simp only [rdTagsN]
    refine ⟨?_, ih.2⟩
    have := ih.1
    by_cases hk : (rdUv s).1 = 0
    · rw [if_pos hk] at p; omega
    · rw [if_neg hk] at p; have := a.2 hk; omega
theorem rdTags_len (s : St) : (rdTags s).1.length ≤ s.1.length + 1 ∧ ∀ x ∈ (rdTags s).1, x.2.length ≤ s.1.length := by
  have a := rdUv_len s
  have h := rdTagsN_len s.1.length (rdUv s).1 (rdUv s).2 [] rising_nil (by simp) a.1
  have r := n0_rising h.2.1
  refine ⟨?_, h.2.2⟩
  have := h.1
  have z : n0 [] = 0 := rfl
  show (rdTagsN (rdUv s).1 (rdUv s).2 []).1.length ≤ _
  omega
theorem rdN_len (k : Nat) (s : St) : (rdN k s).2.1.length ≤ s.1.length := by
  unfold rdN
  split
  · simp
  · simp
theorem rdI_len (k : Nat) (s : St) : (rdI k s).2.1.length ≤ s.1.length := rdN_len k s
theorem rdStr_len (s : St) : (rdStr s).1.length ≤ s.1.length ∧ (rdStr s).2.1.length ≤ s.1.length := by
  have a := rdI_len 2 s
  have b := rdSpan_len (rdI 2 s).1 (rdI 2 s).2
  unfold rdStr
  omega
theorem rdCStr_len (s : St) : (rdCStr s).1.length ≤ s.1.length ∧ (rdCStr s).2.1.length ≤ s.1.length := by
  have a := (rdUv_len s).1
  have b := rdSpan_len ((rdUv s).1 - 1) (rdUv s).2
  unfold rdCStr
  omega
theorem rdNStr_len (s : St) : (∀ x, (rdNStr s).1 = some x → x.length ≤ s.1.length) ∧ (rdNStr s).2.1.length ≤ s.1.length := by
  have a := rdI_len 2 s
  have b := rdStr_len s
  unfold rdNStr
  split
  · exact ⟨(fun x h => by cases h), a⟩
  · exact ⟨(fun x h => by cases h; exact b.1), b.2⟩
theorem rdCNStr_len (s : St) : (∀ x, (rdCNStr s).1 = some x → x.length ≤ s.1.length) ∧ (rdCNStr s).2.1.length ≤ s.1.length := by
  have a := (rdUv_len s).1
  have b := rdCStr_len s
  unfold rdCNStr
  split
  · exact ⟨(fun x h => by cases h), a⟩
  · exact ⟨(fun x h => by cases h; exact b.1), b.2⟩
theorem rdUuid_len (s : St) : (rdUuid s).2.1.length ≤ s.1.length := (rdSpan_len 16 s).2
end Go.Proofs.Ytidebamgmbdnaaa
/-
  Nullable texts and octets as trees; what has gone wrong stays wrong. Plain lemmas.
-/
namespace Go.Proofs.Ytidebamgmbdnaaa
open Go.ChangeShapes Go.WideShapes Go.ChangeAt Go.RowKit

def nstrT : Option Bs → T
  | none => .mk 0 [] true [] []
  | some l => .mk 0 l false [] []
def octT : Option Bs → T
  | none => .mk 0 [] true [] []
  | some l => .mk 0 l false [] []
theorem octT_eq (o : Option Bs) : octT o = .mk 0 (o.getD []) (decide (o = none)) [] [] := by cases o <;> rfl
theorem OS.keepF {w w' : World} {F G : Nat → Prop} {v : Value} {o : Option Bs} (h : OS w F v o) (hs : SameOn F w w') (hg : ∀ k, F k → G k) : OS w' G v o := ⟨h.1.keepF hs hg, h.2⟩
theorem rdN_bad (k : Nat) (s : St) (h : (rdN k s).2.2 = false) : s.2 = false := by
  unfold rdN at h
  split at h
  · cases h
  · exact h
theorem rdI_bad (k : Nat) (s : St) (h : (rdI k s).2.2 = false) : s.2 = false := rdN_bad k s h
theorem rdUv_bad (s : St) (h : (rdUv s).2.2 = false) : s.2 = false := by
  unfold rdUv at h
  split at h
  · cases h
  · exact h
theorem rdSpan_bad (n : Int) (s : St) (h : (rdSpan n s).2.2 = false) : s.2 = false := by
  unfold rdSpan at h
  split at h
  · cases h
  · exact h
theorem rdTagsN_bad : ∀ (n : Nat) (s : St) (l : List Tg), (rdTagsN n s l).2.2 = false → s.2 = false
  | 0, _, _, h => h
  | n + 1, _, _, h => rdUv_bad _ (rdUv_bad _ (rdSpan_bad _ _ (rdTagsN_bad n _ _ h)))
theorem rdTags_bad (s : St) (h : (rdTags s).2.2 = false) : s.2 = false := rdUv_bad _ (rdTagsN_bad _ _ _ h)
theorem rdCNB_len (s : St) : (∀ x, (rdCNB s).1 = some x → x.length ≤ s.1.length) ∧ (rdCNB s).2.1.length ≤ s.1.length := by
  have a := (rdUv_len s).1
  have b := rdSpan_len ((rdUv s).1 - 1) (rdUv s).2
  unfold rdCNB
  split
  · exact ⟨(fun x h => by cases h), a⟩
  · exact ⟨(fun x h => by cases h; exact Nat.le_trans b.1 a), Nat.le_trans b.2 a⟩
end Go.Proofs.Ytidebamgmbdnaaa
