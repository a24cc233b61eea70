/-
  THE REFERENCE AS PLAIN LEAN FUNCTIONS ON LISTS: what spec's functions compute. No program in sight.
-/
namespace Go.Proofs.YtedconnhligkeaaDoor

abbrev Bs := List UInt8
abbrev Tg := Nat × Bs

/-- what a field says -/
inductive T where
  | mk (n : Int) (s : Bs) (null : Bool) (l : List T) (u : List Tg)
namespace T
def n : T → Int | .mk n _ _ _ _ => n
def s : T → Bs | .mk _ s _ _ _ => s
def null : T → Bool | .mk _ _ b _ _ => b
def l : T → List T | .mk _ _ _ l _ => l
def u : T → List Tg | .mk _ _ _ _ u => u
def zero : T := .mk 0 [] false [] []
end T
def atT (t : T) (i : Nat) : T := t.l.getD i T.zero

/-- a field of a message -/
inductive F where
  | mk (kind frm to nul tag dfl ofk : Int) (sub : List F)
namespace F
def kind : F → Int | .mk k _ _ _ _ _ _ _ => k
def frm : F → Int | .mk _ k _ _ _ _ _ _ => k
def to : F → Int | .mk _ _ k _ _ _ _ _ => k
def nul : F → Int | .mk _ _ _ k _ _ _ _ => k
def tag : F → Int | .mk _ _ _ _ k _ _ _ => k
def dfl : F → Int | .mk _ _ _ _ _ k _ _ => k
def ofk : F → Int | .mk _ _ _ _ _ _ k _ => k
def sub : F → List F | .mk _ _ _ _ _ _ _ s => s
/-- does a version have the field -/
def has (f : F) (v : Int) : Bool := decide (f.frm ≤ v) && (decide (f.to < 0) || decide (v ≤ f.to))
/-- is the field null at a version -/
def isNull (f : F) (v : Int) (t : T) : Bool := t.null && decide (0 ≤ f.nul) && decide (f.nul ≤ v)
end F

/-- octet k of a number, the lowest being 0 -/
def oct (n : Int) (k : Nat) : UInt8 := UInt8.ofNat ((n / 2 ^ (8 * k)) % 256).toNat
/-- a number in so many octets, the highest one first -/
def fixedP (n : Int) : Nat → Bs
  | 0 => []
  | k + 1 => oct n k :: fixedP n k
/-- a number in groups of seven bits -/
def uvarP (n : Nat) : Bs := if h : 127 < n then UInt8.ofNat (n % 128 + 128) :: uvarP (n / 128) else [UInt8.ofNat n]
termination_by n
decreasing_by omega

def whole (b : Bs) : Bs := b.take 32767
def things (l : List T) : List T := l.take 32767
def widthP (kind : Int) : Nat := if kind = 1 then 1 else if kind = 2 ∨ kind = 5 then 2 else if kind = 3 then 4 else 8
def countedP (flex null : Bool) (n : Nat) (size : Nat) : Bs :=
  if flex && null then [0] else if flex then uvarP (n + 1) else if null then fixedP (-1) size else fixedP n size

/-- a value of a kind; what its part says is handed over -/
def valueP (kind : Int) (part : T → Bs) (null flex : Bool) (t : T) : Bs :=
  if kind = 0 then [UInt8.ofNat (t.n % 2).toNat]
  else if kind = 7 then t.s.take 16 ++ List.replicate (16 - t.s.length) 0
  else if kind = 8 then countedP flex null (if null then [] else whole t.s).length 2 ++ (if null then [] else whole t.s)
  else if kind = 9 then countedP flex null (if null then [] else whole t.s).length 4 ++ (if null then [] else whole t.s)
  else if kind = 10 then part t
  else fixedP t.n (widthP kind)

/-- a field; what its part says is handed over -/
def fieldOf (f : F) (part : T → Bs) (v : Int) (flex : Bool) (t : T) : Bs :=
  let null := f.isNull v t
  if f.kind = 11 then
    let l := if null then [] else things t.l
    countedP flex null l.length 4 ++ l.flatMap fun x => valueP f.ofk part false flex x
  else if f.kind = 10 ∧ 0 ≤ f.nul then (if null then fixedP (-1) 1 else fixedP 1 1 ++ part t)
  else valueP f.kind part null flex t

def knownP (fs : List F) : Nat := fs.foldl (fun n f => if 0 ≤ f.tag then max n (f.tag.toNat + 1) else n) 0
/-- where a key belongs -/
def spot (out : List Tg) (k : Nat) : Nat := (out.takeWhile fun x => x.1 < k).length
def ins (out : List Tg) (t : Tg) : List Tg := if out[spot out t.1]?.any (·.1 == t.1) then out else out.take (spot out t.1) ++ t :: out.drop (spot out t.1)
def unknownFrom (least : Nat) (l : List Tg) : List Tg := (l.take 32767).foldl (fun out t => if t.1 < least then out else ins out t) []
def unknownP (fs : List F) (l : List Tg) : List Tg := unknownFrom (knownP fs) l

/-- is a field as by default; whether all of its part's fields are is handed over -/
def usualOf (f : F) (part : T → Bool) (t : T) : Bool :=
  if f.kind = 0 then decide (t.n % 2 = f.dfl)
  else if f.kind = 7 then (t.s.take 16).all (· == 0)
  else if f.kind = 8 ∨ f.kind = 9 then (if 0 ≤ f.nul then t.null else t.s.isEmpty)
  else if f.kind = 11 then t.l.isEmpty
  else if f.kind = 10 then part t && (unknownP f.sub t.u).isEmpty
  else fixedP t.n (widthP f.kind) == fixedP f.dfl (widthP f.kind)

mutual
def usualP : F → T → Bool
  | .mk k a b c d e o sub, t => usualOf (.mk k a b c d e o sub) (usualAll sub 0) t
def usualAll : List F → Nat → T → Bool
  | [], _, _ => true
  | f :: r, i, t => usualP f (atT t i) && usualAll r (i + 1) t
end

/-- the tags of the fields with tags: what is written of each is handed over -/
def tagged (tag : Nat) (fs : List (F × (T → Bs))) (t : T) : List Bs :=
  (fs.zipIdx.filter fun x => decide (x.1.1.tag = (tag : Int)) && !usualP x.1.1 (atT t x.2)).map fun x => uvarP tag ++ uvarP (x.1.2 (atT t x.2)).length ++ x.1.2 (atT t x.2)

def partOf (fs : List (F × (T → Bs))) (v : Int) (flex : Bool) (t : T) : Bs :=
  let plain := (fs.zipIdx.filter fun x => decide (x.1.1.tag < 0) && x.1.1.has v).flatMap fun x => x.1.2 (atT t x.2)
  if !flex then plain else
  let tags := (List.range (knownP (fs.map (·.1)))).flatMap (fun g => tagged g fs t) ++ (unknownP (fs.map (·.1)) t.u).map fun u => uvarP u.1 ++ uvarP (whole u.2).length ++ whole u.2
  plain ++ uvarP tags.length ++ tags.flatten

mutual
def fieldP : F → Int → Bool → T → Bs
  | .mk k a b c d e o sub, v, flex, t => fieldOf (.mk k a b c d e o sub) (fun t => partOf (fieldsP sub v flex) v flex t) v flex t
def fieldsP : List F → Int → Bool → List (F × (T → Bs))
  | [], _, _ => []
  | f :: r, v, flex => (f, fieldP f v flex) :: fieldsP r v flex
end
def partP (fs : List F) (v : Int) (flex : Bool) (t : T) : Bs := partOf (fieldsP fs v flex) v flex t

/-- a message: its fields, and the first flexible version -/
structure Msg where
  fields : List F
  flex : Int
def Msg.flexible (m : Msg) (v : Int) : Bool := decide (0 ≤ m.flex) && decide (m.flex ≤ v)
def writeP (m : Msg) (v : Int) (t : T) : Bs := partP m.fields v (m.flexible v) t
def keptP (m : Msg) (v : Int) (t : T) : Bs := fixedP v 2 ++ writeP m v t

theorem fieldsP_map (fs : List F) (v : Int) (flex : Bool) : fieldsP fs v flex = fs.map fun f => (f, fieldP f v flex) := by
  induction fs with
  | nil => simp [fieldsP]
  | cons f r ih => simp [fieldsP, ih]
theorem fieldP_eq (f : F) (v : Int) (flex : Bool) (t : T) : fieldP f v flex t = fieldOf f (partP f.sub v flex) v flex t := by
  cases f; simp only [fieldP, F.sub]; rfl
theorem usualP_eq (f : F) (t : T) : usualP f t = usualOf f (usualAll f.sub 0) t := by
  cases f; simp [usualP, F.sub]
end Go.Proofs.YtedconnhligkeaaDoor
