/-
  WHAT VALUES READ AS, AND WHICH BLOCKS STAY: the words that all texts of this seat share. Plain lemmas on worlds.
-/
import Derived.Test.YtidebamgmbdnaaaProg
import Derived.WalkKit
import Derived.ProofKit
import Derived.OpenShut
import Derived.BigQuiet
import Derived.Deep.QuietTactic
import Derived.IntWalk
import Derived.Laws.AppendOwnNone
import Derived.Lib.VarintBits
import Derived.Laws.Bits128
import Derived.Laws.CopyOwn
import Derived.Deep.RegionHeld3
namespace Go.Proofs.Ytidebamgmbdnaaa
open Go.RowKit

/-- a byte as a cell -/
def bv (x : UInt8) : Value := .int .u8 (x.toNat : Int)

/-- outside the blocks A everything is as it was; blocks may be new -/
structure Keep (A : List Nat) (w w' : World) : Prop where
  os : w'.os = w.os
  tape : w'.tape = w.tape
  output : w'.output = w.output
  size : w.heap.size ≤ w'.heap.size
  block : ∀ k, k < w.heap.size → k ∉ A → w'.heap[k]? = w.heap[k]?

namespace Keep
variable {A B : List Nat} {w w1 w2 : World}
theorem refl (A : List Nat) (w : World) : Keep A w w := ⟨rfl, rfl, rfl, Nat.le_refl _, fun _ _ _ => rfl⟩
theorem trans (h : Keep A w w1) (k : Keep A w1 w2) : Keep A w w2 :=
  ⟨k.os.trans h.os, k.tape.trans h.tape, k.output.trans h.output, Nat.le_trans h.size k.size,
    fun i hi ha => (k.block i (Nat.lt_of_lt_of_le hi h.size) ha).trans (h.block i hi ha)⟩
theorem weaken (h : Keep A w w1) (hs : ∀ k, k ∈ A → k ∈ B) : Keep B w w1 :=
  ⟨h.os, h.tape, h.output, h.size, fun k hk hb => h.block k hk fun ha => hb (hs k ha)⟩
/-- blocks that were not there when it began count for nothing -/
theorem fresh (h : Keep A w w1) (hs : ∀ k, k ∈ A → k ∈ B ∨ w.heap.size ≤ k) : Keep B w w1 :=
  ⟨h.os, h.tape, h.output, h.size, fun k hk hb => h.block k hk fun ha => by
    rcases hs k ha with h1 | h1
    · exact hb h1
    · omega⟩
theorem drew (h : Keep A w w1) : Keep A w w1.drew := ⟨h.os, h.tape, h.output, h.size, h.block⟩
theorem alloc (h : Keep A w w1) (o : Obj) : Keep A w (w1.alloc o) :=
  h.trans ⟨rfl, rfl, rfl, by simp, fun k hk _ => Below.heap_alloc _ _ _ hk⟩
theorem setCell (h : Keep A w w1) {p : Addr} (hp : p.block ∈ A ∨ w.heap.size ≤ p.block) (u : Value) : Keep A w (w1.setCell p u) :=
  ⟨h.os, h.tape, h.output, by simp [World.setCell]; exact h.size, fun k hk ha => by
    rw [Below.heap_setCell _ _ _ _ (by
      intro e; subst e
      rcases hp with h1 | h1
      · exact ha h1
      · omega)]
    exact h.block k hk ha⟩
theorem grown (h : Keep A w w1) {row : Option Nat} (hg : w1.grownBy w2 row) (hr : ∀ k, row = some k → k ∈ A ∨ w.heap.size ≤ k) : Keep A w w2 :=
  ⟨hg.os.trans h.os, hg.tape.trans h.tape, hg.output.trans h.output, Nat.le_trans h.size hg.size, fun k hk ha =>
    (hg.block k (Nat.lt_of_lt_of_le hk h.size) (fun e => by
      rcases hr k e.symm with h1 | h1
      · exact ha h1
      · omega)).trans (h.block k hk ha)⟩
theorem cell (h : Keep A w w1) {p : Addr} (hp : p.block < w.heap.size) (ha : p.block ∉ A) : w1.cell? p = w.cell? p :=
  World.cell?_of_block (h.block _ hp ha)
theorem below (h : Keep [] w w1) : Below w.heap.size w w1 :=
  ⟨h.os, h.tape, h.output, h.size, fun k hk => h.block k hk (by simp)⟩
end Keep

/-- the blocks that are there and not among A -/
def Out (A : List Nat) (w : World) (k : Nat) : Prop := k < w.heap.size ∧ k ∉ A

/-- on the blocks F the two worlds agree -/
def SameOn (F : Nat → Prop) (w w' : World) : Prop := ∀ k, F k → w'.heap[k]? = w.heap[k]?
theorem Keep.sameOn {A : List Nat} {w w' : World} (h : Keep A w w') : SameOn (Out A w) w w' := fun k hk => h.block k hk.1 hk.2
theorem Out.grow {A : List Nat} {w w' : World} (h : Keep A w w') {k : Nat} (hk : Out A w k) : Out A w' k := ⟨Nat.lt_of_lt_of_le hk.1 h.size, hk.2⟩

/-- v is a slice of n elements whose cells are xs, all in blocks F -/
def RS (w : World) (F : Nat → Prop) (v : Value) (n : Nat) (xs : List Value) : Prop :=
  ∃ ao cap, v = .slice ao n cap ∧ n ≤ cap ∧ (ao = none → n = 0 ∧ cap = 0 ∧ xs = []) ∧
    ∀ a, ao = some a → (0 < xs.length → a.spot = none) ∧ ∀ i (h : i < xs.length), F a.block ∧ w.cell? ⟨a.block, a.off + i, none⟩ = some xs[i]

theorem RS.mono {w : World} {F G : Nat → Prop} {v : Value} {n : Nat} {xs : List Value} (h : RS w F v n xs) (hs : ∀ k, F k → G k) : RS w G v n xs := by
  obtain ⟨ao, cap, rfl, h1, h2, h3⟩ := h
  exact ⟨ao, cap, rfl, h1, h2, fun a ha => ⟨(h3 a ha).1, fun i hi => ⟨hs _ ((h3 a ha).2 i hi).1, ((h3 a ha).2 i hi).2⟩⟩⟩
theorem RS.same {w w' : World} {F : Nat → Prop} {v : Value} {n : Nat} {xs : List Value} (h : RS w F v n xs) (hs : SameOn F w w') : RS w' F v n xs := by
  obtain ⟨ao, cap, rfl, h1, h2, h3⟩ := h
  refine ⟨ao, cap, rfl, h1, h2, fun a ha => ⟨(h3 a ha).1, fun i hi => ?_⟩⟩
  obtain ⟨g1, g2⟩ := (h3 a ha).2 i hi
  exact ⟨g1, (World.cell?_of_block (w := w) (a := ⟨a.block, a.off + i, none⟩) (hs _ g1)).trans g2⟩
theorem RS.keep {A : List Nat} {w w' : World} {v : Value} {n : Nat} {xs : List Value} (h : RS w (Out A w) v n xs) (hk : Keep A w w') : RS w' (Out A w') v n xs :=
  (h.same hk.sameOn).mono fun _ => Out.grow hk

/-- v is a slice that reads as these bytes -/
def RB (w : World) (F : Nat → Prop) (v : Value) (l : List UInt8) : Prop := RS w F v l.length (l.map bv)
end Go.Proofs.Ytidebamgmbdnaaa
/-
  THE REFERENCE AS PLAIN LEAN FUNCTIONS ON LISTS: what spec's functions compute. No program in sight.
-/
namespace Go.Proofs.Ytidebamgmbdnaaa

abbrev Bs := List UInt8
abbrev Tg := Nat × Bs

/-- what a field says -/
inductive T where
  | mk (n : Int) (s : Bs) (null : Bool) (l : List T) (u : List Tg)
namespace T
def n : T → Int | .mk n _ _ _ _ => n
def s : T → Bs | .mk _ s _ _ _ => s
def null : T → Bool | .mk _ _ b _ _ => b
def l : T → List T | .mk _ _ _ l _ => l
def u : T → List Tg | .mk _ _ _ _ u => u
def zero : T := .mk 0 [] false [] []
end T
def atT (t : T) (i : Nat) : T := t.l.getD i T.zero

/-- a field of a message -/
inductive F where
  | mk (kind frm to nul tag dfl ofk : Int) (sub : List F)
namespace F
def kind : F → Int | .mk k _ _ _ _ _ _ _ => k
def frm : F → Int | .mk _ k _ _ _ _ _ _ => k
def to : F → Int | .mk _ _ k _ _ _ _ _ => k
def nul : F → Int | .mk _ _ _ k _ _ _ _ => k
def tag : F → Int | .mk _ _ _ _ k _ _ _ => k
def dfl : F → Int | .mk _ _ _ _ _ k _ _ => k
def ofk : F → Int | .mk _ _ _ _ _ _ k _ => k
def sub : F → List F | .mk _ _ _ _ _ _ _ s => s
/-- does a version have the field -/
def has (f : F) (v : Int) : Bool := decide (f.frm ≤ v) && (decide (f.to < 0) || decide (v ≤ f.to))
/-- is the field null at a version -/
def isNull (f : F) (v : Int) (t : T) : Bool := t.null && decide (0 ≤ f.nul) && decide (f.nul ≤ v)
end F

/-- octet k of a number, the lowest being 0 -/
def oct (n : Int) (k : Nat) : UInt8 := UInt8.ofNat ((n / 2 ^ (8 * k)) % 256).toNat
/-- a number in so many octets, the highest one first -/
def fixedP (n : Int) : Nat → Bs
  | 0 => []
  | k + 1 => oct n k :: fixedP n k
/-- a number in groups of seven bits -/
def uvarP (n : Nat) : Bs := if h : 127 < n then UInt8.ofNat (n % 128 + 128) :: uvarP (n / 128) else [UInt8.ofNat n]
termination_by n
decreasing_by omega

def whole (b : Bs) : Bs := b.take 32767
def things (l : List T) : List T := l.take 32767
def widthP (kind : Int) : Nat := if kind = 1 then 1 else if kind = 2 ∨ kind = 5 then 2 else if kind = 3 then 4 else 8
def countedP (flex null : Bool) (n : Nat) (size : Nat) : Bs :=
  if flex && null then [0] else if flex then uvarP (n + 1) else if null then fixedP (-1) size else fixedP n size

/-- a value of a kind; what its part says is handed over -/
def valueP (kind : Int) (part : T → Bs) (null flex : Bool) (t : T) : Bs :=
  if kind = 0 then [UInt8.ofNat (t.n % 2).toNat]
  else if kind = 7 then t.s.take 16 ++ List.replicate (16 - t.s.length) 0
  else if kind = 8 then countedP flex null (if null then [] else whole t.s).length 2 ++ (if null then [] else whole t.s)
  else if kind = 9 then countedP flex null (if null then [] else whole t.s).length 4 ++ (if null then [] else whole t.s)
  else if kind = 10 then part t
  else fixedP t.n (widthP kind)

/-- a field; what its part says is handed over -/
def fieldOf (f : F) (part : T → Bs) (v : Int) (flex : Bool) (t : T) : Bs :=
  let null := f.isNull v t
  if f.kind = 11 then
    let l := if null then [] else things t.l
    countedP flex null l.length 4 ++ l.flatMap fun x => valueP f.ofk part false flex x
  else if f.kind = 10 ∧ 0 ≤ f.nul then (if null then fixedP (-1) 1 else fixedP 1 1 ++ part t)
  else valueP f.kind part null flex t

def knownP (fs : List F) : Nat := fs.foldl (fun n f => if 0 ≤ f.tag then max n (f.tag.toNat + 1) else n) 0
/-- where a key belongs -/
def spot (out : List Tg) (k : Nat) : Nat := (out.takeWhile fun x => x.1 < k).length
def ins (out : List Tg) (t : Tg) : List Tg := if out[spot out t.1]?.any (·.1 == t.1) then out else out.take (spot out t.1) ++ t :: out.drop (spot out t.1)
def unknownFrom (least : Nat) (l : List Tg) : List Tg := (l.take 32767).foldl (fun out t => if t.1 < least then out else ins out t) []
def unknownP (fs : List F) (l : List Tg) : List Tg := unknownFrom (knownP fs) l

/-- is a field as by default; whether all of its part's fields are is handed over -/
def usualOf (f : F) (part : T → Bool) (t : T) : Bool :=
  if f.kind = 0 then decide (t.n % 2 = f.dfl)
  else if f.kind = 7 then (t.s.take 16).all (· == 0)
  else if f.kind = 8 ∨ f.kind = 9 then (if 0 ≤ f.nul then t.null else t.s.isEmpty)
  else if f.kind = 11 then t.l.isEmpty
  else if f.kind = 10 then part t && (unknownP f.sub t.u).isEmpty
  else fixedP t.n (widthP f.kind) == fixedP f.dfl (widthP f.kind)

mutual
def usualP : F → T → Bool
  | .mk k a b c d e o sub, t => usualOf (.mk k a b c d e o sub) (usualAll sub 0) t
def usualAll : List F → Nat → T → Bool
  | [], _, _ => true
  | f :: r, i, t => usualP f (atT t i) && usualAll r (i + 1) t
end

/-- the tags of the fields with tags: what is written of each is handed over -/
def tagged (tag : Nat) (fs : List (F × (T → Bs))) (t : T) : List Bs :=
  (fs.zipIdx.filter fun x => decide (x.1.1.tag = (tag : Int)) && !usualP x.1.1 (atT t x.2)).map fun x => uvarP tag ++ uvarP (x.1.2 (atT t x.2)).length ++ x.1.2 (atT t x.2)

def partOf (fs : List (F × (T → Bs))) (v : Int) (flex : Bool) (t : T) : Bs :=
  let plain := (fs.zipIdx.filter fun x => decide (x.1.1.tag < 0) && x.1.1.has v).flatMap fun x => x.1.2 (atT t x.2)
  if !flex then plain else
  let tags := (List.range (knownP (fs.map (·.1)))).flatMap (fun g => tagged g fs t) ++ (unknownP (fs.map (·.1)) t.u).map fun u => uvarP u.1 ++ uvarP (whole u.2).length ++ whole u.2
  plain ++ uvarP tags.length ++ tags.flatten

mutual
def fieldP : F → Int → Bool → T → Bs
  | .mk k a b c d e o sub, v, flex, t => fieldOf (.mk k a b c d e o sub) (fun t => partOf (fieldsP sub v flex) v flex t) v flex t
def fieldsP : List F → Int → Bool → List (F × (T → Bs))
  | [], _, _ => []
  | f :: r, v, flex => (f, fieldP f v flex) :: fieldsP r v flex
end
def partP (fs : List F) (v : Int) (flex : Bool) (t : T) : Bs := partOf (fieldsP fs v flex) v flex t

/-- a message: its fields, and the first flexible version -/
structure Msg where
  fields : List F
  flex : Int
def Msg.flexible (m : Msg) (v : Int) : Bool := decide (0 ≤ m.flex) && decide (m.flex ≤ v)
def writeP (m : Msg) (v : Int) (t : T) : Bs := partP m.fields v (m.flexible v) t
def keptP (m : Msg) (v : Int) (t : T) : Bs := fixedP v 2 ++ writeP m v t

theorem fieldsP_map (fs : List F) (v : Int) (flex : Bool) : fieldsP fs v flex = fs.map fun f => (f, fieldP f v flex) := by
  induction fs with
  | nil => simp [fieldsP]
  | cons f r ih => simp [fieldsP, ih]
theorem fieldP_eq (f : F) (v : Int) (flex : Bool) (t : T) : fieldP f v flex t = fieldOf f (partP f.sub v flex) v flex t := by
  cases f; simp only [fieldP, F.sub]; rfl
theorem usualP_eq (f : F) (t : T) : usualP f t = usualOf f (usualAll f.sub 0) t := by
  cases f; simp [usualP, F.sub]
end Go.Proofs.Ytidebamgmbdnaaa
/-
  HOW spec's TREES AND FIELDS LIE IN MEMORY: readings, and that they stay where the memory that they reach stays.
-/
namespace Go.Proofs.Ytidebamgmbdnaaa
open Go.RowKit

theorem flatten_get {α : Type} : ∀ (cs : List (List α)) (m : Nat) (_ : ∀ c ∈ cs, c.length = m) (i j : Nat) (hi : i < cs.length) (_ : j < m) (hc : j < cs[i].length), cs.flatten[m * i + j]? = some (cs[i][j])
  | [], _, _, i, _, hi, _, _ => by simp at hi
  | c :: cs, m, hm, 0, j, _, hj, hc => by
    have : c.length = m := hm c (by simp)
    simp only [List.flatten_cons, Nat.mul_zero, Nat.zero_add, List.getElem_cons_zero]
    rw [List.getElem?_append_left (by omega)]
    simp
  | c :: cs, m, hm, i + 1, j, hi, hj, hc => by
    have hcl : c.length = m := hm c (by simp)
    have := flatten_get cs m (fun x hx => hm x (by simp [hx])) i j (by simpa using hi) hj (by simpa using hc)
    simp only [List.flatten_cons, List.getElem_cons_succ]
    rw [List.getElem?_append_right (by rw [hcl, Nat.mul_add]; omega), hcl, show m * (i + 1) + j - m = m * i + j by rw [Nat.mul_add]; omega]
    exact this
theorem flatten_len {α : Type} : ∀ (cs : List (List α)) (m : Nat) (_ : ∀ c ∈ cs, c.length = m), cs.flatten.length = m * cs.length
  | [], m, _ => by simp
  | c :: cs, m, hm => by
    have h1 : c.length = m := hm c (by simp)
    have h2 := flatten_len cs m (fun x hx => hm x (by simp [hx]))
    simp only [List.flatten_cons, List.length_append, List.length_cons, h1, h2, Nat.mul_add]
    omega

/-- an element of a row of n things of m cells each -/
theorem RS.elem {w : World} {G : Nat → Prop} {v : Value} {cs : List (List Value)} {m : Nat} (h : RS w G v cs.length cs.flatten) (hm : ∀ c ∈ cs, c.length = m) {i : Nat} (hi : i < cs.length) (h0 : 0 < m) :
    ∃ b o cap, v = .slice (some ⟨b, o, none⟩) cs.length cap ∧ cs.length ≤ cap ∧ G b ∧ ∀ j (hj : j < cs[i].length), w.cell? ⟨b, o + i * m + j, none⟩ = some (cs[i][j]) := by
  obtain ⟨ao, cap, rfl, h1, h2, h3⟩ := h
  cases ao with
  | none => have := (h2 rfl).1; omega
  | some a =>
    obtain ⟨b, o, sp⟩ := a
    obtain ⟨g1, g2⟩ := h3 _ rfl
    replace g1 := g1 (by rw [flatten_len cs m hm]; exact Nat.mul_pos h0 (by omega))
    simp only at g1
    subst g1
    have hlen := flatten_len cs m hm
    have hci : cs[i].length = m := hm _ (List.getElem_mem hi)
    have key : ∀ j, j < m → m * i + j < cs.flatten.length := fun j hj => by
      rw [hlen]
      have : m * (i + 1) ≤ m * cs.length := Nat.mul_le_mul_left m hi
      rw [Nat.mul_add] at this
      omega
    refine ⟨b, o, cap, rfl, h1, (g2 (m * i + 0) (key 0 h0)).1, fun j hj => ?_⟩
    have hj' : j < m := by omega
    have e := flatten_get cs m hm i j hi hj' hj
    rw [show o + i * m + j = o + (m * i + j) by rw [Nat.mul_comm]; omega, (g2 (m * i + j) (key j hj')).2]
    rw [List.getElem?_eq_getElem (key j hj')] at e
    exact e

/-- tags: each its number and its octets -/
def HGs (w : World) (G : Nat → Prop) (v : Value) (u : List Tg) : Prop :=
  ∃ vs : List Value, vs.length = u.length ∧ (∀ i (h1 : i < u.length) (h2 : i < vs.length), RB w G vs[i] u[i].2) ∧ (∀ x ∈ u, x.1 < 4294967296 ∧ x.2.length ≤ 9223372036854775807) ∧ u.length ≤ 9223372036854775807 ∧
    RS w G v u.length ((u.zip vs).map fun x => [Value.int .u32 (x.1.1 : Int), x.2]).flatten

/-- a tree's five cells -/
inductive HT (w : World) (G : Nat → Prop) : T → List Value → Prop
  | mk (n : Int) (s : Bs) (null : Bool) (l : List T) (u : List Tg) (vs vl vu : Value) (cs : List (List Value)) (hs : RB w G vs s) (hn : -9223372036854775808 ≤ n ∧ n ≤ 9223372036854775807 ∧ s.length ≤ 9223372036854775807 ∧ l.length ≤ 9223372036854775807)
      (hlen : cs.length = l.length) (hl : ∀ i (h1 : i < l.length) (h2 : i < cs.length), HT w G l[i] cs[i]) (hr : RS w G vl cs.length cs.flatten) (hu : HGs w G vu u) :
      HT w G (.mk n s null l u) [.int .i64 n, vs, .bool null, vl, vu]
def HTs (w : World) (G : Nat → Prop) (v : Value) (l : List T) : Prop :=
  ∃ cs : List (List Value), cs.length = l.length ∧ (∀ i (h1 : i < l.length) (h2 : i < cs.length), HT w G l[i] cs[i]) ∧ l.length ≤ 9223372036854775807 ∧ RS w G v cs.length cs.flatten

/-- a field's eight cells -/
inductive HF (w : World) (G : Nat → Prop) : F → List Value → Prop
  | mk (k a b c d e o : Int) (sub : List F) (v : Value) (cs : List (List Value)) (hb : sub.length ≤ 1048576) (hlen : cs.length = sub.length)
      (hl : ∀ i (h1 : i < sub.length) (h2 : i < cs.length), HF w G sub[i] cs[i]) (hr : RS w G v cs.length cs.flatten) :
      HF w G (.mk k a b c d e o sub) [.int .i64 k, .int .i64 a, .int .i64 b, .int .i64 c, .int .i64 d, .int .i64 e, .int .i64 o, v]
def HFs (w : World) (G : Nat → Prop) (v : Value) (l : List F) : Prop :=
  ∃ cs : List (List Value), cs.length = l.length ∧ (∀ i (h1 : i < l.length) (h2 : i < cs.length), HF w G l[i] cs[i]) ∧ l.length ≤ 1048576 ∧ RS w G v cs.length cs.flatten

theorem RB.keepF {w w' : World} {F G : Nat → Prop} {v : Value} {l : Bs} (h : RB w F v l) (hs : SameOn F w w') (hg : ∀ k, F k → G k) : RB w' G v l := (RS.same h hs).mono hg
theorem RS.keepF {w w' : World} {F G : Nat → Prop} {v : Value} {n : Nat} {xs : List Value} (h : RS w F v n xs) (hs : SameOn F w w') (hg : ∀ k, F k → G k) : RS w' G v n xs := (RS.same h hs).mono hg
theorem HGs.keepF {w w' : World} {F G : Nat → Prop} {v : Value} {u : List Tg} (h : HGs w F v u) (hs : SameOn F w w') (hg : ∀ k, F k → G k) : HGs w' G v u := by
  obtain ⟨vs, h1, h2, h3, h5, h4⟩ := h
  exact ⟨vs, h1, fun i a b => (h2 i a b).keepF hs hg, h3, h5, h4.keepF hs hg⟩
theorem HT.keepF {w w' : World} {F G : Nat → Prop} {t : T} {c : List Value} (h : HT w F t c) (hs : SameOn F w w') (hg : ∀ k, F k → G k) : HT w' G t c := by
  induction h with
  | mk n s null l u vs vl vu cs hb hn hlen _ hr hu ih => exact .mk n s null l u vs vl vu cs (hb.keepF hs hg) hn hlen ih (hr.keepF hs hg) (hu.keepF hs hg)
theorem HTs.keepF {w w' : World} {F G : Nat → Prop} {v : Value} {l : List T} (h : HTs w F v l) (hs : SameOn F w w') (hg : ∀ k, F k → G k) : HTs w' G v l := by
  obtain ⟨cs, h1, h2, h4, h3⟩ := h
  exact ⟨cs, h1, fun i a b => (h2 i a b).keepF hs hg, h4, h3.keepF hs hg⟩
theorem HF.keepF {w w' : World} {F' G : Nat → Prop} {f : F} {c : List Value} (h : HF w F' f c) (hs : SameOn F' w w') (hg : ∀ k, F' k → G k) : HF w' G f c := by
  induction h with
  | mk k a b c d e o sub v cs hb hlen _ hr ih => exact .mk k a b c d e o sub v cs hb hlen ih (hr.keepF hs hg)
theorem HFs.keepF {w w' : World} {F' G : Nat → Prop} {v : Value} {l : List F} (h : HFs w F' v l) (hs : SameOn F' w w') (hg : ∀ k, F' k → G k) : HFs w' G v l := by
  obtain ⟨cs, h1, h2, h4, h3⟩ := h
  exact ⟨cs, h1, fun i a b => (h2 i a b).keepF hs hg, h4, h3.keepF hs hg⟩
section
variable {A : List Nat} {w w' : World}
theorem RB.keep {v : Value} {l : Bs} (h : RB w (Out A w) v l) (hk : Keep A w w') : RB w' (Out A w') v l := h.keepF hk.sameOn fun _ => Out.grow hk
theorem HT.keep {t : T} {c : List Value} (h : HT w (Out A w) t c) (hk : Keep A w w') : HT w' (Out A w') t c := h.keepF hk.sameOn fun _ => Out.grow hk
theorem HTs.keep {v : Value} {l : List T} (h : HTs w (Out A w) v l) (hk : Keep A w w') : HTs w' (Out A w') v l := h.keepF hk.sameOn fun _ => Out.grow hk
theorem HGs.keep {v : Value} {l : List Tg} (h : HGs w (Out A w) v l) (hk : Keep A w w') : HGs w' (Out A w') v l := h.keepF hk.sameOn fun _ => Out.grow hk
theorem HF.keep {f : F} {c : List Value} (h : HF w (Out A w) f c) (hk : Keep A w w') : HF w' (Out A w') f c := h.keepF hk.sameOn fun _ => Out.grow hk
theorem HFs.keep {v : Value} {l : List F} (h : HFs w (Out A w) v l) (hk : Keep A w w') : HFs w' (Out A w') v l := h.keepF hk.sameOn fun _ => Out.grow hk
end

theorem HT.five {w : World} {G : Nat → Prop} {t : T} {c : List Value} (h : HT w G t c) : c.length = 5 := by cases h; rfl
theorem HF.eight {w : World} {G : Nat → Prop} {f : F} {c : List Value} (h : HF w G f c) : c.length = 8 := by cases h; rfl
theorem HT.parts {w : World} {G : Nat → Prop} {t : T} {c : List Value} (h : HT w G t c) :
    ∃ vs vl vu, c = [.int .i64 t.n, vs, .bool t.null, vl, vu] ∧ RB w G vs t.s ∧ HTs w G vl t.l ∧ HGs w G vu t.u ∧ -9223372036854775808 ≤ t.n ∧ t.n ≤ 9223372036854775807 ∧ t.s.length ≤ 9223372036854775807 ∧ t.l.length ≤ 9223372036854775807 := by
  cases h with
  | mk n s null l u vs vl vu cs hb hn hlen hl hr hu => exact ⟨vs, vl, vu, rfl, hb, ⟨cs, hlen, hl, hn.2.2.2, hr⟩, hu, hn⟩
theorem HF.parts {w : World} {G : Nat → Prop} {f : F} {c : List Value} (h : HF w G f c) :
    ∃ v, c = [.int .i64 f.kind, .int .i64 f.frm, .int .i64 f.to, .int .i64 f.nul, .int .i64 f.tag, .int .i64 f.dfl, .int .i64 f.ofk, v] ∧ HFs w G v f.sub := by
  cases h with
  | mk k a b c d e o sub v cs hb hlen hl hr => exact ⟨v, rfl, cs, hlen, hl, hb, hr⟩
theorem HTs.elem {w : World} {G : Nat → Prop} {v : Value} {l : List T} (h : HTs w G v l) {i : Nat} (hi : i < l.length) :
    ∃ b o cap c, v = .slice (some ⟨b, o, none⟩) l.length cap ∧ l.length ≤ cap ∧ G b ∧ HT w G l[i] c ∧ ∀ j (hj : j < c.length), w.cell? ⟨b, o + i * 5 + j, none⟩ = some c[j] := by
  obtain ⟨cs, h1, h2, h5, h3⟩ := h
  have hm : ∀ c ∈ cs, c.length = 5 := fun c hc => by
    obtain ⟨j, hj, rfl⟩ := List.getElem_of_mem hc
    exact (h2 j (by omega) hj).five
  obtain ⟨b, o, cap, e, hc, hG, hcell⟩ := h3.elem hm (i := i) (by omega) (by omega)
  exact ⟨b, o, cap, cs[i], by rw [e, h1], by omega, hG, h2 i hi (by omega), hcell⟩
theorem HFs.elem {w : World} {G : Nat → Prop} {v : Value} {l : List F} (h : HFs w G v l) {i : Nat} (hi : i < l.length) :
    ∃ b o cap c, v = .slice (some ⟨b, o, none⟩) l.length cap ∧ l.length ≤ cap ∧ G b ∧ HF w G l[i] c ∧ ∀ j (hj : j < c.length), w.cell? ⟨b, o + i * 8 + j, none⟩ = some c[j] := by
  obtain ⟨cs, h1, h2, h5, h3⟩ := h
  have hm : ∀ c ∈ cs, c.length = 8 := fun c hc => by
    obtain ⟨j, hj, rfl⟩ := List.getElem_of_mem hc
    exact (h2 j (by omega) hj).eight
  obtain ⟨b, o, cap, e, hc, hG, hcell⟩ := h3.elem hm (i := i) (by omega) (by omega)
  exact ⟨b, o, cap, cs[i], by rw [e, h1], by omega, hG, h2 i hi (by omega), hcell⟩
theorem HTs.bd {w : World} {G : Nat → Prop} {v : Value} {l : List T} (h : HTs w G v l) : l.length ≤ 9223372036854775807 := by
  obtain ⟨cs, h1, h2, h5, h3⟩ := h
  exact h5
theorem HFs.bd {w : World} {G : Nat → Prop} {v : Value} {l : List F} (h : HFs w G v l) : l.length ≤ 1048576 := by
  obtain ⟨cs, h1, h2, h5, h3⟩ := h
  exact h5
theorem HGs.bd {w : World} {G : Nat → Prop} {v : Value} {l : List Tg} (h : HGs w G v l) : l.length ≤ 9223372036854775807 := by
  obtain ⟨cs, h1, h2, h5, h4, h3⟩ := h
  exact h4
/-- a slice's length is what it reads as -/
theorem HTs.shape {w : World} {G : Nat → Prop} {v : Value} {l : List T} (h : HTs w G v l) : ∃ ao cap, v = .slice ao l.length cap ∧ l.length ≤ cap := by
  obtain ⟨cs, h1, _, _, ao, cap, e, h4, _⟩ := h
  exact ⟨ao, cap, by rw [e, h1], by omega⟩
theorem HFs.shape {w : World} {G : Nat → Prop} {v : Value} {l : List F} (h : HFs w G v l) : ∃ ao cap, v = .slice ao l.length cap ∧ l.length ≤ cap := by
  obtain ⟨cs, h1, _, _, ao, cap, e, h4, _⟩ := h
  exact ⟨ao, cap, by rw [e, h1], by omega⟩
end Go.Proofs.Ytidebamgmbdnaaa
/-
  THE SMALL FUNCTIONS OF spec: what each returns, at every input.
-/
namespace Go.Proofs.Ytidebamgmbdnaaa
open Go.ChangeShapes Go.WideShapes Go.ChangeAt Go.RowKit

/-- a slice of the call's own that holds these octets -/
def OB (w : World) (B : Nat) (v : Value) (l : Bs) : Prop := w.ownsRow B 5 1 v l.length (l.map bv)

theorem info_u8 : (Try.prog.info? 5).map (fun i => (i.zero, i.size, i.bytes)) = some (some (.int .u8 0), 1, 1) := by kernel_rfl

theorem OB.rb {w : World} {B : Nat} {v : Value} {l : Bs} (h : OB w B v l) : RB w (fun k => B ≤ k ∧ k < w.heap.size) v l := by
  obtain ⟨h1, ⟨rfl, h2⟩ | ⟨g, cap, cur, rfl, hb, hg, hn, hm, hs, ht⟩⟩ := h
  · exact ⟨none, 0, by rw [h2], by omega, fun _ => ⟨h2, rfl, by simpa using h2⟩, (fun a ha => by cases ha)⟩
  · have hlt : g < w.heap.size := (Array.getElem?_eq_some_iff.1 hg).1
    refine ⟨_, cap, rfl, hn, (fun h => by cases h), fun a ha => ?_⟩
    cases ha
    refine ⟨fun _ => rfl, fun i hi => ⟨⟨hb, hlt⟩, ?_⟩⟩
    have e : (l.map bv)[i]? = some (l.map bv)[i] := List.getElem?_eq_getElem hi
    rw [← e, ← ht, List.getElem?_take, if_pos (by simpa using hi)]
    simp [World.cell?, hg]
theorem OB.nil (w : World) (B : Nat) : OB w B (.slice none 0 0) [] := World.ownsRow_nil _ _ _ _

theorem OB.alloc {w : World} {B : Nat} {v : Value} {l : Bs} (h : OB w B v l) (o : Obj) : OB (w.alloc o) B v l := World.ownsRow.alloc h o
theorem OB.drew {w : World} {B : Nat} {v : Value} {l : Bs} (h : OB w B v l) : OB w.drew B v l := h

section
variable {w : World} {ops : Array Oper} {rest : List Oper} {o : Oper} {a : Act} {Q : Exit → Act → World → Prop}
set_option maxRecDepth 100000 in
theorem app_wp {K : Act → World → Prop} (s x : Operand) (ho : o.op = .call { callee := .builtin .append, args := #[s, x], argTypes := #[22, 22] })
    (B : Nat) (v : Value) (acc : Bs) (hs : a.eval s = v) (hown : OB w B v acc) (xv : Value) (l : Bs) (G : Nat → Prop) (hx : a.eval x = xv) (hl : RB w G xv l)
    (hlen : acc.length + l.length ≤ 70368744177664) (hB : B ≤ w.heap.size)
    (h : ∀ v' w', OB w' B v' (acc ++ l) → w.grownBy w' v.ownBlock → K (a.put o.dst v') w') : o.wp Try.prog a w K Q := by
  obtain ⟨i0, hi, hz0, hz1, hz2⟩ := info_parts info_u8
  obtain ⟨ao, cap, rfl, h1, h2, h3⟩ := hl
  cases ao with
  | none =>
    obtain ⟨g1, g2, g3⟩ := h2 rfl
    have hnil : l = [] := List.eq_nil_of_length_eq_zero g1
    subst hnil
    subst g2
    have hrun := run_append_owned_none (P := Try.prog) (w := w) B 22 o.type 5 i0 1 Try.underlying22 hi v _ _ hown
    have hx' : a.eval x = .slice none 0 0 := hx
    unfold Oper.wp
    simp [execOp, ho, resolve, invoke, builtin, hs, hx', hrun, Result.andThen]
    exact h v w (by simpa using hown) ⟨rfl, rfl, rfl, Nat.le_refl _, fun _ _ _ => rfl⟩
  | some ad =>
    obtain ⟨g1, g2⟩ := h3 ad rfl
    refine wp_append_own w s x _ ho B 5 i0 (.int .u8 0) 1 1 Try.underlying22 hi hz0 hz1 hz2 rfl (by decide) v acc.length (acc.map bv) hs hown ad l.length cap (l.map bv) hx (by simp) ?_ ?_ (by unfold maxLen; omega) (by omega) hB ?_
    · intro j u hj
      have hlt : j < (l.map bv).length := (List.getElem?_eq_some_iff.1 hj).1
      rw [List.getElem?_eq_getElem hlt] at hj
      have := (g2 j hlt).2
      rw [Option.some.inj hj] at this
      rw [← this]
      congr 1
      obtain ⟨b, o, sp⟩ := ad
      replace g1 := g1 (by omega)
      simp only at g1
      subst g1
      unfold Addr.add
      split
      · subst j; rfl
      · rfl
    · intro u hu
      obtain ⟨x, _, rfl⟩ := List.mem_map.1 hu
      rfl
    · intro v' w' hown' hg _
      exact h v' w' (by unfold OB; rw [List.length_append, List.map_append]; exact hown') hg
/-- append, onto octets of the call's own, of octets that lie anywhere -/
theorem app_ob (hgd : o.guard = none) (s x : Operand) (ho : o.op = .call { callee := .builtin .append, args := #[s, x], argTypes := #[22, 22] })
    (B : Nat) (v : Value) (acc : Bs) (hs : a.eval s = v) (hown : OB w B v acc) (xv : Value) (l : Bs) (G : Nat → Prop) (hx : a.eval x = xv) (hl : RB w G xv l)
    (hlen : acc.length + l.length ≤ 70368744177664) (hB : B ≤ w.heap.size)
    (h : ∀ v' w', OB w' B v' (acc ++ l) → w.grownBy w' v.ownBlock → wpList Try.prog ops Q rest (a.put o.dst v') w') : wpList Try.prog ops Q (o :: rest) a w :=
  wpList_plain hgd fun _ hK => app_wp s x ho B v acc hs hown xv l G hx hl hlen hB fun v' w' h1 h2 => hK _ _ (h v' w' h1 h2)
/-- the same, as a step of a region that draws its order -/
theorem app_step {K : Act → World → Prop} {E : Prop} (hgd : o.guard = none) (s x : Operand) (ho : o.op = .call { callee := .builtin .append, args := #[s, x], argTypes := #[22, 22] })
    (B : Nat) (v : Value) (acc : Bs) (hs : a.eval s = v) (hown : OB w B v acc) (xv : Value) (l : Bs) (G : Nat → Prop) (hx : a.eval x = xv) (hl : RB w G xv l)
    (hlen : acc.length + l.length ≤ 70368744177664) (hB : B ≤ w.heap.size)
    (h : ∀ v' w', OB w' B v' (acc ++ l) → w.grownBy w' v.ownBlock → K (a.put o.dst v') w') : if Region.wanted o (yielded ops a.tmps) = true then Oper.wp Try.prog o a w K Q else E := by
  have hw : Region.wanted o (yielded ops a.tmps) = true := by simp [Region.wanted, hgd]
  rw [if_pos hw]
  exact app_wp s x ho B v acc hs hown xv l G hx hl hlen hB h
/-- append of octets that have just been laid in a block of their own -/
theorem app_new (hgd : o.guard = none) (s x : Operand) (ho : o.op = .call { callee := .builtin .append, args := #[s, x], argTypes := #[22, 22] })
    (B : Nat) (v : Value) (acc : Bs) (hs : a.eval s = v) (hown : OB w B v acc) (cs : Array Value) (l : Bs) (n : Nat) (hx : a.eval x = .slice (some ⟨w.heap.size, 0, none⟩) n n) (hcs : cs.toList = l.map bv) (hn : n = l.length)
    (hlen : acc.length + l.length ≤ 70368744177664) (hB : B ≤ w.heap.size)
    (h : ∀ v' w', OB w' B v' (acc ++ l) → w.grownBy w' v.ownBlock → wpList Try.prog ops Q rest (a.put o.dst v') w') : wpList Try.prog ops Q (o :: rest) a (w.alloc (.cells cs 5)) := by
  subst hn
  refine app_ob hgd s x ho B v acc hs (hown.alloc _) _ l (fun _ => True) hx ?_ hlen (by simp; omega) ?_
  · refine ⟨_, _, rfl, Nat.le_refl _, (fun h => by cases h), fun ad had => ?_⟩
    cases had
    refine ⟨fun _ => rfl, fun i hi => ⟨trivial, ?_⟩⟩
    have e : (l.map bv)[i]? = some (l.map bv)[i] := List.getElem?_eq_getElem hi
    rw [← e, ← hcs]
    have e2 : (w.alloc (.cells cs 5)).heap[w.heap.size]? = some (.cells cs 5) := heap_alloc_new w _
    simp only [World.cell?, e2]
    simp
  · intro v' w' h1 h2
    refine h v' w' h1 ⟨h2.os, h2.tape, h2.output, Nat.le_trans (by simp) h2.size, fun k hk hne => ?_⟩
    rw [h2.block k (by simp; omega) hne, Below.heap_alloc _ _ _ hk]
end

/-- a number's lowest octet -/
def u8 (z : Int) : UInt8 := UInt8.ofNat (z % 256).toNat
theorem u8_wrap (z : Int) : IntKind.u8.wrap z = ((u8 z).toNat : Int) := by
  have h1 : 0 ≤ z % 256 := Int.emod_nonneg _ (by decide)
  have h2 : z % 256 < 256 := Int.emod_lt_of_pos _ (by decide)
  have h3 : (u8 z).toNat = (z % 256).toNat := by
    simp only [u8, UInt8.toNat_ofNat']
    omega
  rw [h3]
  simp [IntKind.wrap, IntKind.bits, IntKind.signed]
  omega
theorem oct_cell (n : Int) (j : Nat) : bv (oct n j) = .int .u8 (n / 2 ^ (8 * j) % 256) := by
  have h1 : 0 ≤ (n / 2 ^ (8 * j)) % 256 := Int.emod_nonneg _ (by decide)
  have h2 : (n / 2 ^ (8 * j)) % 256 < 256 := Int.emod_lt_of_pos _ (by decide)
  unfold bv oct
  simp only [UInt8.toNat_ofNat']
  congr 1
  omega
theorem grow_keep {B : Nat} {w wr w' : World} {v : Value} {l : Bs} (hk : Keep [] w wr) (hown : OB wr B v l) (hB : w.heap.size ≤ B) (hg : wr.grownBy w' v.ownBlock) : Keep [] w w' :=
  hk.grown hg fun k e => .inr (Nat.le_trans hB (hown.lt k e).1)

set_option maxHeartbeats 400000 in
set_option maxRecDepth 100000 in
theorem fixed_any (n : Int) (size : Nat) (hsz : size ≤ 8) (w : World) :
    Calls Try.prog 60 #[.int .i64 n, .int .i64 size] w fun e w' => ∃ d, e = .returned d ∧ OB w' w.heap.size d (fixedP n size) ∧ Keep [] w w' := by
  go_enter Try.func60, Try.ntmps60
  go_wp2
  go_loopw [5, 6] (fun v i wr => ∃ k : Nat, k ≤ size ∧ i = .int .i64 ((k : Int) - 1) ∧ ∃ acc : Bs, acc.length = size - k ∧ acc ++ fixedP n k = fixedP n size ∧ OB wr w.heap.size v acc ∧ Keep [] w wr) (fun _ i _ => (intOf i + 1).toNat)
  case atStart => exact ⟨size, Nat.le_refl _, rfl, [], by simp, rfl, OB.nil _ _, Keep.refl _ _⟩
  case round =>
    obtain ⟨k, hk, rfl, acc, hlen, hacc, hown, hkeep⟩ := hrel
    have hB := hkeep.size
    have hle : acc.length ≤ 8 := by omega
    have HA : Hid (acc ++ fixedP n k = fixedP n size) := hacc
    have HL : Hid (acc.length = size - k) := hlen
    clear hacc hlen
    by_cases h0 : 0 < k
    · obtain ⟨j, rfl⟩ : ∃ j, k = j + 1 := ⟨k - 1, by omega⟩
      have hj : ((j + 1 : Nat) : Int) - 1 = j := by omega
      rw [hj]
      clear hj h0
      go_wp2_with (at_builtin; refine app_new rfl (.tmp 13) (.tmp 19) rfl w.heap.size _ acc rfl hown _ [oct n j] 1 rfl (by simp [oct_cell]) rfl (by simp; omega) hB ?_; intro v' w' hown' hgr)
      have hkeep' := grow_keep hkeep hown (Nat.le_refl _) hgr
      go_wp2
      go_roundw
      case rel => exact ⟨j, by omega, rfl, acc ++ [oct n j], by have := HL.out; simp; omega, by have := HA.out; simp [fixedP] at this ⊢; exact this, hown', hkeep'⟩
      case measure => simp [intOf]
    · obtain rfl : k = 0 := by omega
      go_wp2
      go_ret
      exact ⟨_, rfl, by have := HA.out; simp [fixedP] at this; rw [← this]; exact hown, hkeep⟩
end Go.Proofs.Ytidebamgmbdnaaa
/-
  MORE SMALL FUNCTIONS OF spec: Uvarint, width, counted, whole, things, at, has, null.
-/
namespace Go.Proofs.Ytidebamgmbdnaaa
open Go.ChangeShapes Go.WideShapes Go.ChangeAt Go.RowKit

theorem uvarP_len : ∀ (k n : Nat), 0 < k → n < 128 ^ k → (uvarP n).length ≤ k
  | 0, _, h, _ => by omega
  | k + 1, n, _, h => by
    rw [uvarP]
    split
    · rename_i h1
      cases k with
      | zero => simp at h; omega
      | succ k =>
        have := uvarP_len (k + 1) (n / 128) (by omega) (by rw [Nat.pow_succ] at h; omega)
        simp; omega
    · simp
theorem uvarP_short {n : Nat} (h : n < 18446744073709551616) : (uvarP n).length ≤ 10 := uvarP_len 10 n (by omega) (by omega)
theorem uvarP_big {n : Nat} (h : 127 < n) : uvarP n = UInt8.ofNat (n % 128 + 128) :: uvarP (n / 128) := by rw [uvarP, dif_pos h]
theorem uvarP_small {n : Nat} (h : ¬ 127 < n) : uvarP n = [UInt8.ofNat n] := by rw [uvarP, dif_neg h]

theorem uvar_cell {k n : Nat} (hk : k ≤ n) (hn : (n : Int) ≤ 18446744073709551615) :
    (#[Value.int .u8 (bits .or .u8 (bits .and .u64 (k : Int) 127 % 256) 128)] : Array Value).toList = [UInt8.ofNat (k % 128 + 128)].map bv := by
  have h1 : bits .and .u64 (k : Int) 127 = (k : Int) % 128 := bits_mask .u64 64 (by decide) wraps_u64 7 (by decide) _ (by omega) (by omega)
  rw [h1, u8_or128_right _ (by omega) (by omega)]
  simp only [List.map_cons, List.map_nil, bv, UInt8.toNat_ofNat']
  congr 2
  omega
set_option maxHeartbeats 400000 in
set_option maxRecDepth 100000 in
theorem uvar_any (n : Nat) (hn : n < 18446744073709551616) (w : World) :
    Calls Try.prog 77 #[.int .u64 n] w fun e w' => ∃ d, e = .returned d ∧ OB w' w.heap.size d (uvarP n) ∧ Keep [] w w' := by
  have hshort : (uvarP n).length ≤ 10 := uvarP_short hn
  have hn' : (n : Int) ≤ 18446744073709551615 := by omega
  clear hn
  go_enter Try.func77, Try.ntmps77
  go_wp2
  go_loopw [0, 3] (fun i v wr => ∃ k : Nat, k ≤ n ∧ i = .int .u64 (k : Int) ∧ ∃ acc : Bs, acc ++ uvarP k = uvarP n ∧ OB wr w.heap.size v acc ∧ Keep [] w wr) (fun i _ _ => (intOf i).toNat)
  case atStart => exact ⟨n, Nat.le_refl _, rfl, [], rfl, OB.nil _ _, Keep.refl _ _⟩
  case round =>
    obtain ⟨k, hk, rfl, acc, hacc, hown, hkeep⟩ := hrel
    have hB := hkeep.size
    have hle : acc.length ≤ 10 := by have := congrArg List.length hacc; simp at this; omega
    have HA : Hid (acc ++ uvarP k = uvarP n) := hacc
    have HS : Hid ((uvarP n).length ≤ 10) := hshort
    clear hacc hshort
    by_cases h0 : 127 < k
    · have hc := uvar_cell hk hn'
      have HC : Hid (_ = _) := hc
      clear hc
      go_wp2_with (at_builtin; refine app_new rfl (.tmp 6) (.tmp 11) rfl w.heap.size _ acc rfl hown _ [UInt8.ofNat (k % 128 + 128)] 1 rfl HC.out rfl (by simp; omega) hB ?_; intro v' w' hown' hgr)
      have hkeep' := grow_keep hkeep hown (Nat.le_refl _) hgr
      go_wp2
      go_roundw
      case rel => exact ⟨k / 128, by omega, by go_num, acc ++ [UInt8.ofNat (k % 128 + 128)], by have := HA.out; rw [uvarP_big h0] at this; simpa using this, hown', hkeep'⟩
      case measure => simp [intOf]; omega
    · go_wp2_with (at_builtin; refine app_new rfl (.tmp 15) (.tmp 18) rfl w.heap.size _ acc rfl hown _ [UInt8.ofNat k] 1 rfl (by simp [bv]; omega) rfl (by simp; omega) hB ?_; intro v' w' hown' hgr)
      have hkeep' := grow_keep hkeep hown (Nat.le_refl _) hgr
      go_wp2
      go_ret
      exact ⟨_, rfl, by have := HA.out; rw [uvarP_small h0] at this; rw [← this]; exact hown', hkeep'⟩

set_option maxHeartbeats 400000 in
theorem width_any (k : Int) (w : World) :
    Calls Try.prog 105 #[.int .i64 k] w fun e w' => e = .returned (.int .i64 (widthP k)) ∧ w = w' := by
  go_enter Try.func105, Try.ntmps105
  go_wp2
  all_goals go_ret
  all_goals refine ⟨?_, rfl⟩
  all_goals (unfold widthP; simp_all)

theorem ob_new {w : World} {B : Nat} {cs : Array Value} {l : Bs} {n : Nat} (hB : B ≤ w.heap.size) (hcs : cs.toList = l.map bv) (hn : n = l.length) (hm : l.length ≤ maxLen) :
    OB (w.alloc (.cells cs 5)) B (.slice (some ⟨w.heap.size, 0, none⟩) n n) l := by
  subst hn
  have h1 : cs.size = l.length := by rw [← Array.length_toList, hcs]; simp
  exact ⟨by simp, .inr ⟨w.heap.size, _, cs, rfl, hB, heap_alloc_new w _, Nat.le_refl _, hm, by omega, by rw [hcs, Nat.mul_one, List.take_of_length_le (by simp)]⟩⟩
set_option maxHeartbeats 400000 in
set_option maxRecDepth 100000 in
theorem counted_any (flex null : Bool) (n size : Nat) (hn : n ≤ 9223372036854775807) (hs : size ≤ 8) (w : World) :
    Calls Try.prog 103 #[.bool flex, .bool null, .int .i64 n, .int .i64 size] w fun e w' => ∃ d, e = .returned d ∧ OB w' w.heap.size d (countedP flex null n size) ∧ Keep [] w w' := by
  have e1 : ((n + 1 : Nat) : Int) = (n : Int) + 1 := by omega
  have c1 := uvar_any (n + 1) (by omega)
  rw [e1] at c1
  clear e1
  cases flex <;> cases null
  all_goals
    go_enter Try.func103, Try.ntmps103
    go_wp2_with (first
      | (go_at_call 77; refine (c1 _).mono ?_; rintro e w' ⟨d, rfl, h1, h2⟩)
      | (go_at_call 60; refine (fixed_any _ _ hs _).mono ?_; rintro e w' ⟨d, rfl, h1, h2⟩))
    go_ret
  · exact ⟨_, rfl, h1, h2⟩
  · exact ⟨_, rfl, h1, h2⟩
  · exact ⟨_, rfl, h1, h2⟩
  · exact ⟨_, rfl, ob_new (l := [0]) (Nat.le_refl _) rfl rfl (by decide), (Keep.refl _ _).alloc _⟩

theorem RS.shrink {w : World} {G : Nat → Prop} {ao : Option Addr} {n cap k : Nat} {xs : List Value} (h : RS w G (.slice ao n cap) n xs) (hk : k ≤ n) (j : Nat) : RS w G (.slice ao k cap) k (xs.take j) := by
  obtain ⟨ao', cap', e, h1, h2, h3⟩ := h
  cases e
  refine ⟨_, _, rfl, by omega, fun h => ?_, fun a ha => ⟨fun h0 => (h3 a ha).1 (by simp at h0; omega), fun i hi => ?_⟩⟩
  · obtain ⟨g1, g2, g3⟩ := h2 h
    exact ⟨by omega, g2, by rw [g3]; simp⟩
  · have hi' : i < xs.length := by simp at hi; omega
    have := (h3 a ha).2 i hi'
    simpa using this
theorem RB.take {w : World} {G : Nat → Prop} {ao : Option Addr} {n cap k : Nat} {l : Bs} (h : RS w G (.slice ao n cap) n (l.map bv)) (hn : l.length = n) (hk : k ≤ n) : RB w G (.slice ao k cap) (l.take k) := by
  have h1 := h.shrink hk k
  unfold RB
  rw [List.length_take, List.map_take, show min k l.length = k by omega]
  exact h1
theorem HTs.take {w : World} {G : Nat → Prop} {ao : Option Addr} {n cap k : Nat} {l : List T} (h : HTs w G (.slice ao n cap) l) (hk : k ≤ l.length) : HTs w G (.slice ao k cap) (l.take k) := by
  obtain ⟨cs, h1, h2, h5, h3⟩ := h
  have hm : ∀ c ∈ cs.take k, c.length = 5 := fun c hc => by
    obtain ⟨j, hj, rfl⟩ := List.getElem_of_mem (List.mem_of_mem_take hc)
    exact (h2 j (by omega) hj).five
  refine ⟨cs.take k, by simp; omega, fun i a b => ?_, by simp; omega, ?_⟩
  · simp only [List.getElem_take]
    exact h2 i (by simp at a; omega) (by simp at b; omega)
  · obtain ⟨ao', cap', e, _⟩ := id h3
    cases e
    have h4 := h3.shrink (k := k) (by omega) (5 * k)
    have e1 : (cs.take k).length = k := by simp; omega
    have e2 : cs.flatten.take (5 * k) = (cs.take k).flatten := by
      have e3 : cs.flatten = (cs.take k).flatten ++ (cs.drop k).flatten := by rw [← List.flatten_append, List.take_append_drop]
      have e4 := flatten_len (cs.take k) 5 hm
      rw [e3, List.take_left' (by rw [e4, e1])]
    rw [e1, ← e2]
    exact h4
set_option maxHeartbeats 400000 in
theorem whole_any {G : Nat → Prop} {v : Value} {l : Bs} {w : World} (h : RB w G v l) (hl : l.length ≤ 9223372036854775807) :
    Calls Try.prog 38 #[v] w fun e w' => ∃ d, e = .returned d ∧ RB w' G d (whole l) ∧ w = w' := by
  obtain ⟨ao, cap, rfl, hcap, h1⟩ := id h
  have H1 : Hid _ := h
  clear h1 h
  by_cases hle : l.length ≤ 32767
  · go_enter Try.func38, Try.ntmps38
    go_wp2
    go_ret
    refine ⟨_, rfl, ?_, rfl⟩
    unfold whole
    rw [List.take_of_length_le (by omega)]
    exact H1.out
  · go_enter Try.func38, Try.ntmps38
    go_wp2
    go_ret
    exact ⟨_, rfl, RB.take H1.out rfl (by omega), rfl⟩
set_option maxHeartbeats 400000 in
theorem things_any {G : Nat → Prop} {v : Value} {l : List T} {w : World} (h : HTs w G v l) :
    Calls Try.prog 72 #[v] w fun e w' => ∃ d, e = .returned d ∧ HTs w' G d (things l) ∧ w = w' := by
  have hl := h.bd
  obtain ⟨ao, cap, rfl, hcap⟩ := h.shape
  have H1 : Hid (HTs w G (.slice ao l.length cap) l) := h
  clear h
  by_cases hle : l.length ≤ 32767
  · go_enter Try.func72, Try.ntmps72
    go_wp2
    go_ret
    refine ⟨_, rfl, ?_, rfl⟩
    unfold things
    rw [List.take_of_length_le (by omega)]
    exact H1.out
  · go_enter Try.func72, Try.ntmps72
    go_wp2
    go_ret
    exact ⟨_, rfl, HTs.take H1.out (by omega), rfl⟩
end Go.Proofs.Ytidebamgmbdnaaa
/-
  spec.at, Field.has, Field.null.
-/
namespace Go.Proofs.Ytidebamgmbdnaaa
open Go.ChangeShapes Go.WideShapes Go.ChangeAt Go.RowKit

theorem RS.nil (w : World) (G : Nat → Prop) : RS w G (.slice none 0 0) 0 [] := ⟨none, 0, rfl, Nat.le_refl _, fun _ => ⟨rfl, rfl, rfl⟩, (fun a h => by cases h)⟩
theorem RB.nil (w : World) (G : Nat → Prop) : RB w G (.slice none 0 0) [] := RS.nil w G
theorem HTs.nil (w : World) (G : Nat → Prop) : HTs w G (.slice none 0 0) [] := ⟨[], rfl, (fun i h => by simp at h), by simp, RS.nil w G⟩
theorem HGs.nil (w : World) (G : Nat → Prop) : HGs w G (.slice none 0 0) [] := ⟨[], rfl, (fun i h => by simp at h), (fun x h => by cases h), by simp, RS.nil w G⟩
theorem HT.zero (w : World) (G : Nat → Prop) : HT w G T.zero [.int .i64 0, .slice none 0 0, .bool false, .slice none 0 0, .slice none 0 0] :=
  .mk 0 [] false [] [] _ _ _ [] (RB.nil w G) (by simp) rfl (fun i h => by simp at h) (RS.nil w G) (HGs.nil w G)

theorem RS.shape {w : World} {G : Nat → Prop} {v : Value} {n : Nat} {xs : List Value} (h : RS w G v n xs) : ∃ ao cap, v = .slice ao n cap := by
  obtain ⟨ao, cap, e, _⟩ := h
  exact ⟨ao, cap, e⟩
theorem HGs.shape {w : World} {G : Nat → Prop} {v : Value} {u : List Tg} (h : HGs w G v u) : ∃ ao cap, v = .slice ao u.length cap := by
  obtain ⟨_, _, _, _, _, h4⟩ := h
  exact h4.shape
/-- the blocks G were there -/
def There (G : Nat → Prop) (w : World) : Prop := ∀ k, G k → k < w.heap.size
theorem There.same {G : Nat → Prop} {w w' : World} (h : There G w) (hk : Keep [] w w') : SameOn G w w' := fun k hg => hk.block k (h k hg) (by simp)
theorem There.keep {G : Nat → Prop} {w w' : World} (h : There G w) (hk : Keep [] w w') : There G w' := fun k hg => Nat.lt_of_lt_of_le (h k hg) hk.size

set_option maxHeartbeats 1000000 in
set_option maxRecDepth 100000 in
theorem at_any {G : Nat → Prop} {t : T} {c : List Value} {w : World} (ht : HT w G t c) (hG : There G w) (i : Nat) :
    Calls Try.prog 36 #[.agg c.toArray, .int .i64 i] w fun e w' => ∃ c', e = .returned (.agg c'.toArray) ∧ HT w' G (atT t i) c' ∧ Keep [] w w' := by
  obtain ⟨vs, vl, vu, rfl, hs, hl, hu, hn1, hn2, hn3, hn4⟩ := ht.parts
  by_cases hi : i < t.l.length
  · obtain ⟨b, o, cap, c, rfl, hcap, hGb, hc, hcell⟩ := hl.elem hi
    obtain ⟨vs', vl', vu', rfl, k1, k2, k3, _⟩ := hc.parts
    obtain ⟨az, ps, rfl⟩ := RS.shape k1
    obtain ⟨al, pl, rfl, _⟩ := HTs.shape k2
    obtain ⟨au, pu, rfl⟩ := HGs.shape k3
    clear k1 k2 k3
    have hlt : b < w.heap.size := hG b hGb
    have c0 : w.cell? ⟨b, o + i * 5, none⟩ = some (Value.int .i64 (t.l[i]).n) := hcell 0 (by simp)
    have c1 : w.cell? ⟨b, o + i * 5 + 1, none⟩ = some (.slice az (t.l[i]).s.length ps) := hcell 1 (by simp)
    have c2 : w.cell? ⟨b, o + i * 5 + 2, none⟩ = some (.bool (t.l[i]).null) := hcell 2 (by simp)
    have c3 : w.cell? ⟨b, o + i * 5 + 3, none⟩ = some (.slice al (t.l[i]).l.length pl) := hcell 3 (by simp)
    have c4 : w.cell? ⟨b, o + i * 5 + 4, none⟩ = some (.slice au (t.l[i]).u.length pu) := hcell 4 (by simp)
    clear hcell
    generalize hx : t.l[i] = x at *
    have HX : Hid (t.l[i] = x) := hx
    clear hx
    go_enter Try.func36, Try.ntmps36
    go_wp2
    refine bodyPost_ret (v := .agg #[.int .i64 x.n, .slice az x.s.length ps, .bool x.null, .slice al x.l.length pl, .slice au x.u.length pu]) (by simp [results, Try.results36, go_sem]) rfl ?_
    have hk : Keep [] w ((w.alloc (.cells #[.int .i64 t.n, vs, .bool t.null, .slice (some ⟨b, o, none⟩) t.l.length cap, vu] 26)).alloc (.cells #[.int .i64 x.n, .slice az x.s.length ps, .bool x.null, .slice al x.l.length pl, .slice au x.u.length pu] 26)) := ((Keep.refl _ _).alloc _).alloc _
    refine ⟨[_, _, _, _, _], rfl, ?_, hk⟩
    have e : atT t i = x := by rw [← HX.out]; simp [atT, hi]
    rw [e]
    exact hc.keepF (hG.same hk) (fun _ h => h)
  · have hat : atT t i = T.zero := by simp [atT, List.getElem?_eq_none (Nat.not_lt.1 hi)]
    have HAT : Hid (atT t i = T.zero) := hat
    obtain ⟨al, pl, rfl, _⟩ := hl.shape
    clear hat ht
    go_enter Try.func36, Try.ntmps36
    go_wp2
    refine bodyPost_ret (v := .agg #[.int .i64 0, .slice none 0 0, .bool false, .slice none 0 0, .slice none 0 0]) (by simp [results, Try.results36, go_sem]) rfl ⟨[_, _, _, _, _], rfl, ?_, ((Keep.refl _ _).alloc _).alloc _⟩
    rw [HAT.out]
    exact HT.zero _ _

/-- a field's cells, by name -/
theorem HF.cells {w : World} {G : Nat → Prop} {f : F} {c : List Value} (h : HF w G f c) : ∃ ao cap, c = [.int .i64 f.kind, .int .i64 f.frm, .int .i64 f.to, .int .i64 f.nul, .int .i64 f.tag, .int .i64 f.dfl, .int .i64 f.ofk, .slice ao f.sub.length cap] ∧ HFs w G (.slice ao f.sub.length cap) f.sub := by
  obtain ⟨v, rfl, h1⟩ := h.parts
  obtain ⟨ao, cap, rfl, _⟩ := h1.shape
  exact ⟨ao, cap, rfl, h1⟩
theorem HT.cells {w : World} {G : Nat → Prop} {t : T} {c : List Value} (h : HT w G t c) :
    ∃ az ps al pl au pu, c = [.int .i64 t.n, .slice az t.s.length ps, .bool t.null, .slice al t.l.length pl, .slice au t.u.length pu] ∧ RB w G (.slice az t.s.length ps) t.s ∧ HTs w G (.slice al t.l.length pl) t.l ∧ HGs w G (.slice au t.u.length pu) t.u ∧ -9223372036854775808 ≤ t.n ∧ t.n ≤ 9223372036854775807 ∧ t.s.length ≤ 9223372036854775807 ∧ t.l.length ≤ 9223372036854775807 := by
  obtain ⟨vs, vl, vu, rfl, k1, k2, k3, k4⟩ := h.parts
  obtain ⟨az, ps, rfl⟩ := RS.shape k1
  obtain ⟨al, pl, rfl, _⟩ := HTs.shape k2
  obtain ⟨au, pu, rfl⟩ := HGs.shape k3
  exact ⟨az, ps, al, pl, au, pu, rfl, k1, k2, k3, k4⟩

set_option maxHeartbeats 400000 in
theorem has_any {G : Nat → Prop} {f : F} {c : List Value} {w : World} (hf : HF w G f c) (v : Int) :
    Calls Try.prog 74 #[.agg c.toArray, .int .i64 v] w fun e w' => e = .returned (.bool (f.has v)) ∧ Keep [] w w' := by
  obtain ⟨ao, cap, rfl, _⟩ := hf.cells
  clear hf
  unfold F.has
  generalize f.frm = a
  generalize f.to = b
  by_cases h1 : a ≤ v <;> by_cases h2 : b < 0 <;> by_cases h3 : v ≤ b
  all_goals
    go_enter Try.func74, Try.ntmps74
    go_wp2
    go_ret
    exact ⟨by simp [h1, h2, h3], (Keep.refl _ _).alloc _⟩

set_option maxHeartbeats 400000 in
theorem null_any {G : Nat → Prop} {f : F} {c : List Value} {t : T} {ct : List Value} {w : World} (hf : HF w G f c) (ht : HT w G t ct) (v : Int) :
    Calls Try.prog 71 #[.agg c.toArray, .int .i64 v, .agg ct.toArray] w fun e w' => e = .returned (.bool (f.isNull v t)) ∧ Keep [] w w' := by
  obtain ⟨ao, cap, rfl, _⟩ := hf.cells
  obtain ⟨az, ps, al, pl, au, pu, rfl, _⟩ := ht.cells
  clear hf ht
  unfold F.isNull
  generalize f.nul = a
  generalize t.null = b
  cases b <;> by_cases h2 : 0 ≤ a <;> by_cases h3 : a ≤ v
  all_goals
    go_enter Try.func71, Try.ntmps71
    go_wp2
    go_ret
    exact ⟨by simp [*], ((Keep.refl _ _).alloc _).alloc _⟩
end Go.Proofs.Ytidebamgmbdnaaa
/-
  spec.value: what is written of a value of a kind. The part's contract is handed over.
-/
namespace Go.Proofs.Ytidebamgmbdnaaa
open Go.ChangeShapes Go.WideShapes Go.ChangeAt Go.RowKit

/-- what spec.part promises of these fields -/
def PartSaid (fs : List F) (v : Int) (flex : Bool) : Prop :=
  ∀ (G : Nat → Prop) (vs : Value) (t : T) (c : List Value) (w : World), HFs w G vs fs → HT w G t c → There G w → (partP fs v flex t).length ≤ 36000000000000 →
    Calls Try.prog 39 #[vs, .int .i64 v, .bool flex, .agg c.toArray] w fun e w' => ∃ d, e = .returned d ∧ OB w' w.heap.size d (partP fs v flex t) ∧ Keep [] w w'

theorem keep_box {A : List Nat} {w : World} (o : Obj) : Keep A w (w.alloc o) := (Keep.refl _ _).alloc _
theorem OB.len {w : World} {B : Nat} {v : Value} {l : Bs} (h : OB w B v l) : ∃ ao cap, v = .slice ao l.length cap := by
  obtain ⟨_, ⟨rfl, h2⟩ | ⟨g, cap, cur, rfl, _⟩⟩ := h
  · exact ⟨none, 0, by rw [h2]⟩
  · exact ⟨_, _, rfl⟩
theorem OB.lower {w : World} {B B' : Nat} {v : Value} {l : Bs} (h : OB w B v l) (hB : B' ≤ B) : OB w B' v l := by
  obtain ⟨h1, h2 | ⟨g, cap, cur, e, hb, r⟩⟩ := h
  · exact ⟨h1, .inl h2⟩
  · exact ⟨h1, .inr ⟨g, cap, cur, e, Nat.le_trans hB hb, r⟩⟩
theorem OB.keep {w w' : World} {B : Nat} {v : Value} {l : Bs} (h : OB w B v l) (hk : Keep [] w w') : OB w' B v l := by
  obtain ⟨h1, h2 | ⟨g, cap, cur, e, hb, hg, r⟩⟩ := h
  · exact ⟨h1, .inl h2⟩
  · exact ⟨h1, .inr ⟨g, cap, cur, e, hb, by rw [hk.block g (Array.getElem?_eq_some_iff.1 hg).1 (by simp)]; exact hg, r⟩⟩
theorem own_cell {w w' : World} {B : Nat} {v : Value} {l : Bs} (h : OB w B v l) (hg : w.grownBy w' v.ownBlock) {p : Addr} (hp : p.block < B) (hB : B ≤ w.heap.size) : w'.cell? p = w.cell? p :=
  World.cell?_of_block (hg.block _ (by omega) (fun e => by have := (h.lt _ e.symm).1; omega))
theorem whole_len (l : Bs) : (whole l).length ≤ 32767 := by simp [whole]; omega

set_option maxHeartbeats 1000000 in
set_option maxRecDepth 100000 in
theorem value_num {kind v : Int} {null flex : Bool} {vs : Value} {G : Nat → Prop} {t : T} {c : List Value} {w : World} (ht : HT w G t c)
    (h0 : ¬ kind = 0) (h7 : ¬ kind = 7) (h8 : ¬ kind = 8) (h9 : ¬ kind = 9) (h10 : ¬ kind = 10) :
    Calls Try.prog 104 #[.int .i64 kind, vs, .bool null, .int .i64 v, .bool flex, .agg c.toArray] w fun e w' => ∃ d, e = .returned d ∧ OB w' w.heap.size d (fixedP t.n (widthP kind)) ∧ Keep [] w w' := by
  obtain ⟨az, ps, al, pl, au, pu, rfl, hs, hl, hu, hn1, hn2, hn3, hn4⟩ := ht.cells
  have hw : widthP kind ≤ 8 := by unfold widthP; split <;> (try split) <;> (try split) <;> omega
  have F1 := fun W => fixed_any t.n (widthP kind) hw W
  have W1 := fun W => width_any kind W
  clear ht hs hl hu
  go_enter Try.func104, Try.ntmps104
  go_wp2_with fail
  go_region_held3 (fun w' => w'.cell? ⟨w.heap.size, 0, none⟩ = some (.int .i64 t.n)) (go_keep) (first
    | (go_at_call 105; refine (W1 _).mono ?_; rintro e w' ⟨rfl, rfl⟩)
    | (go_at_call 60; refine (F1 _).mono ?_; rintro e w' ⟨d, rfl, h1, h2⟩; have hc := h2.cell (p := ⟨w.heap.size, 0, none⟩) (by simp) (by simp)))
  go_wp2
  go_ret
  exact ⟨_, rfl, h1.lower (by simp), (keep_box _).drew.trans h2⟩

theorem and_one (n : Int) : bits .and .i64 n 1 = n % 2 := by
  have h1 : (BitVec.ofInt 64 1).toNat = 2 ^ 1 - 1 := by decide
  have key : (BitVec.ofInt 64 n &&& BitVec.ofInt 64 1).toNat = (n % ((2 ^ 64 : Nat) : Int)).toNat % 2 ^ 1 := by
    rw [BitVec.toNat_and, BitVec.toNat_ofInt, h1, Nat.and_two_pow_sub_one_eq_mod]
  show IntKind.i64.wrap ((BitVec.ofInt 64 n &&& BitVec.ofInt 64 1).toNat : Nat) = n % 2
  rw [key, IntKind.wrap_i64]
  omega
theorem fixedP_len (n : Int) : ∀ k, (fixedP n k).length = k
  | 0 => rfl
  | k + 1 => by simp [fixedP, fixedP_len n k]
theorem countedP_len (flex null : Bool) (n size : Nat) (hs : size ≤ 8) (hn : n ≤ 4611686018427387904) : (countedP flex null n size).length ≤ 10 := by
  have h1 := uvarP_short (n := n + 1) (by omega)
  unfold countedP
  split
  · simp
  · split
    · exact h1
    · split <;> (rw [fixedP_len]; omega)
theorem ob_new' {w : World} {B g : Nat} {cs : Array Value} {l : Bs} {n : Nat} (hg : g = w.heap.size) (hB : B ≤ w.heap.size) (hcs : cs.toList = l.map bv) (hn : n = l.length) (hm : l.length ≤ maxLen) :
    OB (w.alloc (.cells cs 5)) B (.slice (some ⟨g, 0, none⟩) n n) l := by
  subst hg
  exact ob_new hB hcs hn hm
theorem bool_cell (n : Int) : (#[Value.int .u8 (n % 2)] : Array Value).toList = [UInt8.ofNat (n % 2).toNat].map bv := by
  simp only [List.map_cons, List.map_nil, bv, UInt8.toNat_ofNat']
  congr 2
  omega

set_option maxHeartbeats 1000000 in
set_option maxRecDepth 100000 in
theorem value_bool {v : Int} {null flex : Bool} {vs : Value} {G : Nat → Prop} {t : T} {c : List Value} {w : World} (ht : HT w G t c) :
    Calls Try.prog 104 #[.int .i64 0, vs, .bool null, .int .i64 v, .bool flex, .agg c.toArray] w fun e w' => ∃ d, e = .returned d ∧ OB w' w.heap.size d [UInt8.ofNat (t.n % 2).toNat] ∧ Keep [] w w' := by
  obtain ⟨az, ps, al, pl, au, pu, rfl, hs, hl, hu, hn1, hn2, hn3, hn4⟩ := ht.cells
  have ha := and_one t.n
  clear ht hs hl hu
  go_enter Try.func104, Try.ntmps104
  go_wp2
  go_ret
  refine ⟨_, rfl, ob_new' (g := w.heap.size + 1) (l := [UInt8.ofNat (t.n % 2).toNat]) (by simp) (by simp) (bool_cell _) rfl (by simp [maxLen]), (keep_box _).alloc _⟩

set_option maxHeartbeats 1000000 in
set_option maxRecDepth 100000 in
theorem value_text {v : Int} {null flex : Bool} {vs : Value} {G : Nat → Prop} {t : T} {c : List Value} {w : World} (ht : HT w G t c) (hG : There G w) (kind : Int) (size : Nat) (hk : kind = 8 ∧ size = 2 ∨ kind = 9 ∧ size = 4) :
    Calls Try.prog 104 #[.int .i64 kind, vs, .bool null, .int .i64 v, .bool flex, .agg c.toArray] w fun e w' => ∃ d, e = .returned d ∧ OB w' w.heap.size d (countedP flex null (if null then [] else whole t.s).length size ++ (if null then [] else whole t.s)) ∧ Keep [] w w' := by
  obtain ⟨az, ps, al, pl, au, pu, rfl, hs, hl, hu, hn1, hn2, hn3, hn4⟩ := ht.cells
  have hwl := whole_len t.s
  have hB : (w.alloc (.cells #[.int .i64 t.n, .slice az t.s.length ps, .bool t.null, .slice al t.l.length pl, .slice au t.u.length pu] 26)).heap.size = w.heap.size + 1 := by simp
  have hs' : RB (w.alloc (.cells #[.int .i64 t.n, .slice az t.s.length ps, .bool t.null, .slice al t.l.length pl, .slice au t.u.length pu] 26)) G (.slice az t.s.length ps) t.s := hs.keepF (hG.same (keep_box _)) (fun _ h => h)
  have W1 := whole_any hs' (by omega)
  clear ht hs hl hu
  have e0 : ((0 : Nat) : Int) = 0 := rfl
  have Z2 := fun W => counted_any flex true 0 2 (by omega) (by decide) W
  have Z4 := fun W => counted_any flex true 0 4 (by omega) (by decide) W
  rw [e0] at Z2 Z4
  clear e0
  rcases hk with ⟨rfl, rfl⟩ | ⟨rfl, rfl⟩ <;> cases null
  all_goals go_enter Try.func104, Try.ntmps104
  · go_wp2_with (first
      | (go_at_call 38; refine W1.mono ?_; rintro e w' ⟨d, rfl, hd, rfl⟩; obtain ⟨ad, pd, rfl⟩ := RS.shape hd)
      | (go_at_call 103; refine (counted_any flex false (whole t.s).length 2 (by omega) (by decide) _).mono ?_; rintro e w2 ⟨d2, rfl, h1, h2⟩; have hd2 := RB.keepF hd ((hG.keep (keep_box _)).same h2) (fun _ h => h))
      | (at_builtin; refine app_ob rfl (.tmp 42) (.tmp 43) rfl w.heap.size _ _ rfl (h1.lower (by simp)) _ _ G rfl hd2 (by have := countedP_len flex false (whole t.s).length 2 (by decide) (by omega); omega) (by have := h2.size; simp at this; omega) ?_; intro v' w3 ho hg))
    go_ret
    exact ⟨_, rfl, ho, grow_keep ((keep_box _).trans h2) h1 (by simp) hg⟩
  · go_wp2_with (first
      | (go_at_call 38; refine W1.mono ?_; rintro e w' ⟨d, rfl, hd, rfl⟩; obtain ⟨ad, pd, rfl⟩ := RS.shape hd)
      | (go_at_call 103; refine (Z2 _).mono ?_; rintro e w2 ⟨d2, rfl, h1, h2⟩; have hd2 := RB.nil w2 G)
      | (at_builtin; refine app_ob rfl (.tmp 42) (.tmp 43) rfl w.heap.size _ _ rfl (h1.lower (by simp)) _ _ G rfl hd2 (by have := countedP_len flex true 0 2 (by decide) (by omega); simp; omega) (by have := h2.size; simp at this; omega) ?_; intro v' w3 ho hg))
    go_ret
    exact ⟨_, rfl, by simpa using ho, grow_keep ((keep_box _).trans h2) h1 (by simp) hg⟩
  · go_wp2_with (first
      | (go_at_call 38; refine W1.mono ?_; rintro e w' ⟨d, rfl, hd, rfl⟩; obtain ⟨ad, pd, rfl⟩ := RS.shape hd)
      | (go_at_call 103; refine (counted_any flex false (whole t.s).length 4 (by omega) (by decide) _).mono ?_; rintro e w2 ⟨d2, rfl, h1, h2⟩; have hd2 := RB.keepF hd ((hG.keep (keep_box _)).same h2) (fun _ h => h))
      | (at_builtin; refine app_ob rfl (.tmp 55) (.tmp 56) rfl w.heap.size _ _ rfl (h1.lower (by simp)) _ _ G rfl hd2 (by have := countedP_len flex false (whole t.s).length 4 (by decide) (by omega); omega) (by have := h2.size; simp at this; omega) ?_; intro v' w3 ho hg))
    go_ret
    exact ⟨_, rfl, ho, grow_keep ((keep_box _).trans h2) h1 (by simp) hg⟩
  · go_wp2_with (first
      | (go_at_call 38; refine W1.mono ?_; rintro e w' ⟨d, rfl, hd, rfl⟩; obtain ⟨ad, pd, rfl⟩ := RS.shape hd)
      | (go_at_call 103; refine (Z4 _).mono ?_; rintro e w2 ⟨d2, rfl, h1, h2⟩; have hd2 := RB.nil w2 G)
      | (at_builtin; refine app_ob rfl (.tmp 55) (.tmp 56) rfl w.heap.size _ _ rfl (h1.lower (by simp)) _ _ G rfl hd2 (by have := countedP_len flex true 0 4 (by decide) (by omega); simp; omega) (by have := h2.size; simp at this; omega) ?_; intro v' w3 ho hg))
    go_ret
    exact ⟨_, rfl, by simpa using ho, grow_keep ((keep_box _).trans h2) h1 (by simp) hg⟩

theorem alloc_at2 (w : World) (o1 o2 : Obj) : ((w.alloc o1).alloc o2).heap[w.heap.size + 1]? = some o2 := by
  have h := heap_alloc_new (w.alloc o1) o2
  simpa using h
theorem addr_add (b o j : Nat) : (⟨b, o, none⟩ : Addr).add j = ⟨b, o + j, none⟩ := by
  unfold Addr.add
  split
  · subst j; rfl
  · rfl
/-- the cells of octets that lie somewhere, as the laws on copies ask for them -/
theorem RB.src {w : World} {G : Nat → Prop} {az : Option Addr} {n p : Nat} {l : Bs} (h : RB w G (.slice az n p) l) (h0 : 0 < l.length) :
    ∃ ad, az = some ad ∧ ∀ (j : Nat) (v : Value), (l.map bv)[j]? = some v → w.cell? (ad.add j) = some v := by
  obtain ⟨ao, cap, e, h1, h2, h3⟩ := h
  cases e
  cases az with
  | none => have := (h2 rfl).1; omega
  | some a =>
    refine ⟨a, rfl, fun j v hj => ?_⟩
    obtain ⟨b, o, sp⟩ := a
    obtain ⟨g1, g2⟩ := h3 _ rfl
    replace g1 := g1 (by have := (List.getElem?_eq_some_iff.1 hj).1; omega)
    simp only at g1
    subst g1
    have hlt : j < (l.map bv).length := (List.getElem?_eq_some_iff.1 hj).1
    rw [List.getElem?_eq_getElem hlt] at hj
    rw [addr_add, (g2 j hlt).2]
    exact hj
theorem oneCell_bv (l : Bs) : ∀ v ∈ l.map bv, v.oneCell' = true := by
  intro u hu
  obtain ⟨x, _, rfl⟩ := List.mem_map.1 hu
  rfl
theorem keep_of_below {w w' : World} (h : Below w.heap.size w w') : Keep [] w w' := ⟨h.os, h.tape, h.output, h.size, fun k hk _ => h.block k hk⟩
theorem uuid_splice (s : Bs) : splice (List.replicate 16 (Value.int .u8 0)) 0 ((s.map bv).take 16) = (s.take 16 ++ List.replicate (16 - s.length) 0).map bv := by
  have e : (Value.int .u8 0) = bv 0 := rfl
  rw [e]
  simp only [splice, List.map_append, List.map_take, List.map_replicate, List.take_zero, List.nil_append, Nat.zero_add, List.drop_replicate, List.length_take, List.length_map]
  congr 2
  omega
theorem ob_block {w : World} {B g n : Nat} {l : Bs} (hB : B ≤ g) (h : w.heap[g]? = some (.cells (l.map bv).toArray 5)) (hn : n = l.length) (hm : l.length ≤ maxLen) : OB w B (.slice (some ⟨g, 0, none⟩) n n) l := by
  subst hn
  exact ⟨by simp, .inr ⟨g, _, _, rfl, hB, h, Nat.le_refl _, hm, by simp, by simp [List.take_of_length_le]⟩⟩
theorem make16 (u : World) : (Instr.makeSlice 22 (.int .i64 16) (.int .i64 16)).run Try.prog u = .ok (.slice (some ⟨u.heap.size, 0, none⟩) 16 16) (u.alloc (.cells (List.replicate 16 (.int .u8 0)).toArray 5)) := by kernel_rfl
theorem zeros16 : (List.replicate 16 (.int .u8 0) : List Value) = (List.replicate 16 (0 : UInt8)).map bv := rfl
set_option maxHeartbeats 1000000 in
set_option maxRecDepth 100000 in
theorem value_uuid {v : Int} {null flex : Bool} {vs : Value} {G : Nat → Prop} {t : T} {c : List Value} {w : World} (ht : HT w G t c) (hG : There G w) :
    Calls Try.prog 104 #[.int .i64 7, vs, .bool null, .int .i64 v, .bool flex, .agg c.toArray] w fun e w' => ∃ d, e = .returned d ∧ OB w' w.heap.size d (t.s.take 16 ++ List.replicate (16 - t.s.length) 0) ∧ Keep [] w w' := by
  obtain ⟨az, ps, al, pl, au, pu, rfl, hs, hl, hu, hn1, hn2, hn3, hn4⟩ := ht.cells
  clear ht hl hu
  have hmk := make16
  go_enter Try.func104, Try.ntmps104
  go_wp2_with ((with_reducible refine wpList_copy_splice rfl (.tmp 27) (.tmp 29) 22 22 rfl 5 Try.underlying22 (by kernel_rfl) _ _ _ _ _ _ rfl rfl (w.heap.size + 1) 0 (List.replicate 16 (.int .u8 0)) 5 ?hg ((t.s.take 16).map bv) ?hn ?hpos ?hfit ?h1 w.heap.size w ?hb ?hBg ?_))
  case hg => exact alloc_at2 _ _ _
  case hn => simp [Nat.min_comm]
  case hpos =>
    intro hp
    obtain ⟨ad, e, hc⟩ := RB.src (hs.keepF (hG.same ((keep_box _).alloc _)) (fun _ h => h)) (l := t.s) (by omega)
    refine ⟨ad, e, fun j v hj => hc j v ?_⟩
    rw [List.getElem?_take] at hj
    split at hj
    · exact hj
    · cases hj
  case hfit => simp; omega
  case h1 => exact oneCell_bv _
  case hb => exact ((Below.refl _ _).alloc (Nat.le_refl _) _).alloc (by simp) _
  case hBg => omega
  · intro w' H hb
    go_wp2
    go_ret
    refine ⟨_, rfl, ?_, keep_of_below hb⟩
    have h := H.out
    change _ = some (Obj.cells (splice (List.replicate 16 (Value.int .u8 0)) 0 ((t.s.map bv).take 16)).toArray _) at h
    rw [uuid_splice] at h
    exact ob_block (by omega) h (by simp; omega) (by simp [maxLen]; omega)

set_option maxHeartbeats 1000000 in
set_option maxRecDepth 100000 in
theorem value_part {sub : List F} {v : Int} {null flex : Bool} {vs : Value} {G : Nat → Prop} {t : T} {c : List Value} {w : World} (hp : PartSaid sub v flex) (hf : HFs w G vs sub) (ht : HT w G t c) (hG : There G w) (hb : (partP sub v flex t).length ≤ 36000000000000) :
    Calls Try.prog 104 #[.int .i64 10, vs, .bool null, .int .i64 v, .bool flex, .agg c.toArray] w fun e w' => ∃ d, e = .returned d ∧ OB w' w.heap.size d (partP sub v flex t) ∧ Keep [] w w' := by
  have HC : ∀ o, Calls Try.prog 39 #[vs, .int .i64 v, .bool flex, .agg c.toArray] (w.alloc o) fun e w' => ∃ d, e = .returned d ∧ OB w' (w.alloc o).heap.size d (partP sub v flex t) ∧ Keep [] (w.alloc o) w' := fun o =>
    hp G vs t c _ (hf.keepF (hG.same (keep_box _)) (fun _ h => h)) (ht.keepF (hG.same (keep_box _)) (fun _ h => h)) (hG.keep (keep_box _)) hb
  obtain ⟨az, ps, al, pl, au, pu, rfl, hs, hl, hu, hn1, hn2, hn3, hn4⟩ := ht.cells
  clear ht hl hu hs hp hf hb
  go_enter Try.func104, Try.ntmps104
  go_wp2_with (go_at_call 39; refine (HC _).mono ?_; rintro e w' ⟨d, rfl, h1, h2⟩)
  go_ret
  exact ⟨_, rfl, h1.lower (by simp), (keep_box _).trans h2⟩

theorem value_any {kind : Int} {sub : List F} {v : Int} {null flex : Bool} {vs : Value} {G : Nat → Prop} {t : T} {c : List Value} {w : World} (hp : PartSaid sub v flex) (hf : HFs w G vs sub) (ht : HT w G t c) (hG : There G w)
    (hb : (valueP kind (partP sub v flex) null flex t).length ≤ 36000000000000) :
    Calls Try.prog 104 #[.int .i64 kind, vs, .bool null, .int .i64 v, .bool flex, .agg c.toArray] w fun e w' => ∃ d, e = .returned d ∧ OB w' w.heap.size d (valueP kind (partP sub v flex) null flex t) ∧ Keep [] w w' := by
  unfold valueP at hb ⊢
  by_cases h0 : kind = 0
  · subst h0; rw [if_pos rfl]; exact value_bool ht
  rw [if_neg h0]; rw [if_neg h0] at hb
  by_cases h7 : kind = 7
  · subst h7; rw [if_pos rfl]; exact value_uuid ht hG
  rw [if_neg h7]; rw [if_neg h7] at hb
  by_cases h8 : kind = 8
  · subst h8; rw [if_pos rfl]; exact value_text ht hG 8 2 (.inl ⟨rfl, rfl⟩)
  rw [if_neg h8]; rw [if_neg h8] at hb
  by_cases h9 : kind = 9
  · subst h9; rw [if_pos rfl]; exact value_text ht hG 9 4 (.inr ⟨rfl, rfl⟩)
  rw [if_neg h9]; rw [if_neg h9] at hb
  by_cases h10 : kind = 10
  · subst h10; rw [if_pos rfl]; rw [if_pos rfl] at hb; exact value_part hp hf ht hG hb
  rw [if_neg h10]; exact value_num ht h0 h7 h8 h9 h10
end Go.Proofs.Ytidebamgmbdnaaa
