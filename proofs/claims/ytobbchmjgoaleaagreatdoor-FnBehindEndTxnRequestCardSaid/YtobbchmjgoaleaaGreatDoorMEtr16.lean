/-
  HOW FAR A MESSAGE HAS BEEN WRITTEN: the states of AppendTo's walks.
-/
import Derived.Test.YtobbchmjgoaleaaGreatDoorMEtr13
import Derived.Test.YtobbchmjgoaleaaGreatDoorMEtr15
namespace Go.Proofs.YtobbchmjgoaleaaGreatDoor
open Go.ChangeShapes Go.WideShapes Go.ChangeAt Go.RowKit

/-- F is being written: rest is to come -/
structure ApSt (w U : World) (B : Nat) (v : Value) (F rest : Bs) : Prop where
  cur : ∃ c, OB U B v c ∧ c ++ rest = F
  len : F.length ≤ 17592186044416
  below : Below B w U
  le : B ≤ w.heap.size
namespace ApSt
variable {w U : World} {B : Nat} {v : Value} {F p rest : Bs}
theorem le' (h : ApSt w U B v F rest) : B ≤ U.heap.size := Nat.le_trans h.le h.below.size
theorem at_ (h : ApSt w U B v F rest) {k o : Nat} {x : Value} (hc : w.cell? ⟨k, o, none⟩ = some x) (hk : k < B) : U.cell? ⟨k, o, none⟩ = some x := (h.below.cell (p := ⟨k, o, none⟩) hk).trans hc
theorem blk (h : ApSt w U B v F rest) {k : Nat} (hk : k < B) : U.heap[k]? = w.heap[k]? := h.below.block k hk
theorem same (h : ApSt w U B v F rest) {G : Nat → Prop} (hG : ∀ k, G k → k < B) : SameOn G w U := fun k hk => h.below.block k (hG k hk)
theorem call (h : ApSt w U B v F (p ++ rest)) {fn : Nat} {args : Array Value} (hc : ∀ acc, OB U B v acc → acc.length + p.length ≤ 17592186044416 → Calls Tryz.prog fn args U fun e U' => ∃ v', e = .returned v' ∧ OB U' B v' (acc ++ p) ∧ Below B U U') :
    Calls Tryz.prog fn args U fun e U' => ∃ v', e = .returned v' ∧ ApSt w U' B v' F rest := by
  obtain ⟨c, ho, hf⟩ := h.cur
  have hl := h.len
  refine (hc c ho (by rw [← hf] at hl; simp only [List.length_append] at hl; omega)).mono ?_
  rintro e U' ⟨v', rfl, h1, h2⟩
  exact ⟨v', rfl, ⟨c ++ p, h1, by rw [List.append_assoc]; exact hf⟩, h.len, h.below.trans h2, h.le⟩
theorem bool {x : Bool} (h : ApSt w U B v F ([if x then 1 else 0] ++ rest)) : Calls Tryz.prog 146 #[v, .bool x] U fun e U' => ∃ v', e = .returned v' ∧ ApSt w U' B v' F rest := h.call fun _ ho hl => appbool_any ho h.le' (by omega)
theorem i8 {n : Int} (h : ApSt w U B v F (fixedP n 1 ++ rest)) : Calls Tryz.prog 163 #[v, .int .i8 n] U fun e U' => ∃ v', e = .returned v' ∧ ApSt w U' B v' F rest := h.call fun _ ho hl => appi8_any ho h.le' (by omega)
theorem i16 {n : Int} (h : ApSt w U B v F (fixedP n 2 ++ rest)) : Calls Tryz.prog 135 #[v, .int .i16 n] U fun e U' => ∃ v', e = .returned v' ∧ ApSt w U' B v' F rest := h.call fun _ ho hl => appi16_any ho h.le' (by omega)
theorem i32 {n : Int} (h : ApSt w U B v F (fixedP n 4 ++ rest)) : Calls Tryz.prog 134 #[v, .int .i32 n] U fun e U' => ∃ v', e = .returned v' ∧ ApSt w U' B v' F rest := h.call fun _ ho hl => appi32_any ho h.le' (by omega)
theorem i64 {n : Int} (h : ApSt w U B v F (fixedP n 8 ++ rest)) : Calls Tryz.prog 145 #[v, .int .i64 n] U fun e U' => ∃ v', e = .returned v' ∧ ApSt w U' B v' F rest := h.call fun _ ho hl => appi64_any ho h.le' (by omega)
theorem st {s : Bs} (h : ApSt w U B v F ((fixedP s.length 2 ++ s) ++ rest)) (hs : s.length ≤ 1000000) : Calls Tryz.prog 144 #[v, .string ⟨s.toArray⟩] U fun e U' => ∃ v', e = .returned v' ∧ ApSt w U' B v' F rest := h.call fun _ ho hl => appstr_any ho h.le' (by omega) (by omega)
theorem cst {s : Bs} (h : ApSt w U B v F ((uvarP (s.length + 1) ++ s) ++ rest)) (hs : s.length ≤ 1000000) : Calls Tryz.prog 143 #[v, .string ⟨s.toArray⟩] U fun e U' => ∃ v', e = .returned v' ∧ ApSt w U' B v' F rest := h.call fun _ ho hl => appcstr_any ho h.le' (by omega) hs
theorem nst {G : Nat → Prop} {p : Value} {o : Option Bs} (h : ApSt w U B v F (nstrP o ++ rest)) (hp : PS w G p o) (hG : ∀ k, G k → k < B) (hs : ∀ x, o = some x → x.length ≤ 1000000) : Calls Tryz.prog 137 #[v, p] U fun e U' => ∃ v', e = .returned v' ∧ ApSt w U' B v' F rest := h.call fun _ ho hl => appnstr_any ho (hp.keepF (h.same hG) (fun _ h => h)) h.le' (by omega) hs
theorem cnst {G : Nat → Prop} {p : Value} {o : Option Bs} (h : ApSt w U B v F (cnstrP o ++ rest)) (hp : PS w G p o) (hG : ∀ k, G k → k < B) (hs : ∀ x, o = some x → x.length ≤ 1000000) : Calls Tryz.prog 136 #[v, p] U fun e U' => ∃ v', e = .returned v' ∧ ApSt w U' B v' F rest := h.call fun _ ho hl => appcnstr_any ho (hp.keepF (h.same hG) (fun _ h => h)) h.le' (by omega) hs
theorem ln {n : Nat} (h : ApSt w U B v F (fixedP n 4 ++ rest)) (hn : n ≤ 1000000) : Calls Tryz.prog 152 #[v, .int .i64 (n : Int)] U fun e U' => ∃ v', e = .returned v' ∧ ApSt w U' B v' F rest := h.call fun _ ho hl => applen_any ho h.le' (by omega) hn
theorem cln {n : Nat} (h : ApSt w U B v F (uvarP (n + 1) ++ rest)) (hn : n ≤ 1000000) : Calls Tryz.prog 151 #[v, .int .i64 (n : Int)] U fun e U' => ∃ v', e = .returned v' ∧ ApSt w U' B v' F rest := h.call fun _ ho hl => appclen_any ho h.le' (by omega) hn
theorem nln {n : Nat} {b : Bool} (h : ApSt w U B v F ((if b then fixedP (-1) 4 else fixedP n 4) ++ rest)) (hn : n ≤ 1000000) : Calls Tryz.prog 156 #[v, .int .i64 (n : Int), .bool b] U fun e U' => ∃ v', e = .returned v' ∧ ApSt w U' B v' F rest := h.call fun _ ho hl => appnlen_any ho h.le' (by omega) hn
theorem cnln {n : Nat} {b : Bool} (h : ApSt w U B v F ((if b then [0] else uvarP (n + 1)) ++ rest)) (hn : n ≤ 1000000) : Calls Tryz.prog 155 #[v, .int .i64 (n : Int), .bool b] U fun e U' => ∃ v', e = .returned v' ∧ ApSt w U' B v' F rest := h.call fun _ ho hl => appcnlen_any ho h.le' (by omega) hn
theorem uv {n : Nat} (h : ApSt w U B v F (uvarP n ++ rest)) (hn : n ≤ 1000000) : Calls Tryz.prog 138 #[v, .int .u32 (n : Int)] U fun e U' => ∃ v', e = .returned v' ∧ ApSt w U' B v' F rest := h.call fun _ ho hl => appuv_any ho h.le' (by omega) (by omega)
theorem tlen {G : Nat → Prop} {b i : Nat} {vm : Value} {u : List Tg} {c : List Value} {po j : Nat} (h : ApSt w U B v F rest) (hp : Pt w b po c) (ho : i = po + j) (hc : c[j]? = some vm) (hm : MP w G vm u) (hb : b < B) (hG : ∀ k, G k → k < B) :
    Calls Tryz.prog 139 #[.pointer (some ⟨b, i, none⟩)] U fun e w' => e = .returned (.int .i64 (u.length : Int)) ∧ U = w' := by
  obtain ⟨arr, ty, h1, h2⟩ := hp.whole ho hc
  exact tlen_any ((h.blk hb).trans h1) h2 (hm.keepF (h.same hG) (fun _ h => h))
theorem tg {G : Nat → Prop} {b i : Nat} {vm : Value} {u : List Tg} {c : List Value} {po j : Nat} (h : ApSt w U B v F ((u.map tagP).flatten ++ rest)) (hp : Pt w b po c) (ho : i = po + j) (hc : c[j]? = some vm) (hm : MP w G vm u) (hb : b < B) (hG : ∀ k, G k → k < B) (hs : ∀ x ∈ u, x.2.length ≤ 1000000) :
    Calls Tryz.prog 140 #[.pointer (some ⟨b, i, none⟩), v] U fun e U' => ∃ v', e = .returned v' ∧ ApSt w U' B v' F rest := by
  obtain ⟨arr, ty, h1, h2⟩ := hp.whole ho hc
  exact h.call fun acc hoo hl => appeach_any ((h.blk hb).trans h1) h2 (hm.keepF (h.same hG) (fun _ h => h)) hb hG hoo h.le' hs (by simp only [List.length_append]; omega)
theorem start {acc X : Bs} (ho : OB w B v acc) (hB : B ≤ w.heap.size) (hl : (acc ++ X).length ≤ 17592186044416) : ApSt w w B v (acc ++ X) X := ⟨⟨acc, ho, rfl⟩, hl, Below.refl _ _, hB⟩
theorem done (h : ApSt w U B v F []) : OB U B v F ∧ Below B w U := by
  obtain ⟨c, h1, h2⟩ := h.cur
  rw [List.append_nil] at h2
  subst h2
  exact ⟨h1, h.below⟩
end ApSt
/-! what a field's octets are -/
section
variable {a b nul c d e ver : Int} {sub : List F}
theorem apF_bool {fx x : Bool} : apF (.mk 0 a b nul c d e sub) ver fx (.mk (if x then 1 else 0) [] false [] []) = [if x then 1 else 0] := by cases x <;> rfl
theorem apF_i8 {fx : Bool} {n : Int} : apF (.mk 1 a b nul c d e sub) ver fx (.mk n [] false [] []) = fixedP n 1 := rfl
theorem apF_i16 {fx : Bool} {n : Int} : apF (.mk 2 a b nul c d e sub) ver fx (.mk n [] false [] []) = fixedP n 2 := rfl
theorem apF_i32 {fx : Bool} {n : Int} : apF (.mk 3 a b nul c d e sub) ver fx (.mk n [] false [] []) = fixedP n 4 := rfl
theorem apF_i64 {fx : Bool} {n : Int} : apF (.mk 4 a b nul c d e sub) ver fx (.mk n [] false [] []) = fixedP n 8 := rfl
theorem apF_uuid {fx : Bool} {x : Bs} : apF (.mk 7 a b nul c d e sub) ver fx (.mk 0 x false [] []) = x := rfl
theorem apF_str {x : Bs} : apF (.mk 8 a b nul c d e sub) ver false (.mk 0 x false [] []) = fixedP x.length 2 ++ x := rfl
theorem apF_cstr {x : Bs} : apF (.mk 8 a b nul c d e sub) ver true (.mk 0 x false [] []) = uvarP (x.length + 1) ++ x := rfl
theorem apF_nstr {o : Option Bs} (h0 : 0 ≤ nul) (h1 : nul ≤ ver) : apF (.mk 8 a b nul c d e sub) ver false (nstrT o) = nstrP o := by
  cases o with
  | none =>
    simp only [apF, apK, nstrT, F.isNull, F.nul, T.null, T.s, countedP, nstrP]
    simp [h0, h1]
  | some x => rfl
theorem apF_cnstr {o : Option Bs} (h0 : 0 ≤ nul) (h1 : nul ≤ ver) : apF (.mk 8 a b nul c d e sub) ver true (nstrT o) = cnstrP o := by
  cases o with
  | none =>
    simp only [apF, apK, nstrT, F.isNull, F.nul, T.null, T.s, countedP, cnstrP]
    simp [h0, h1]
  | some x => rfl
/-- a list's thing -/
def apE (ofk : Int) (sub : List F) (ver : Int) (fx : Bool) : T → Bs := apK ofk (fun t => apFs sub ver fx t.l ++ (if fx then apU t.u else [])) false fx
theorem apF_list {nu : Bool} {l : List T} (h : nul < 0) : apF (.mk 11 a b nul c d e sub) ver false (.mk 0 [] nu l []) = fixedP l.length 4 ++ l.flatMap (apE e sub ver false) := by
  simp only [apF, apE, F.isNull, F.nul, T.null, T.l, countedP]
  simp [show ¬ 0 ≤ nul by omega]
theorem apF_clist {nu : Bool} {l : List T} (h : nul < 0) : apF (.mk 11 a b nul c d e sub) ver true (.mk 0 [] nu l []) = uvarP (l.length + 1) ++ l.flatMap (apE e sub ver true) := by
  simp only [apF, apE, F.isNull, F.nul, T.null, T.l, countedP]
  simp [show ¬ 0 ≤ nul by omega]
theorem apF_nlist {nu : Bool} {l : List T} (h0 : 0 ≤ nul) (h1 : nul ≤ ver) : apF (.mk 11 a b nul c d e sub) ver false (.mk 0 [] nu l []) = (if nu then fixedP (-1) 4 else fixedP l.length 4) ++ l.flatMap (apE e sub ver false) := by
  simp only [apF, apE, F.isNull, F.nul, T.null, T.l, countedP]
  simp [h0, h1]
theorem apF_cnlist {nu : Bool} {l : List T} (h0 : 0 ≤ nul) (h1 : nul ≤ ver) : apF (.mk 11 a b nul c d e sub) ver true (.mk 0 [] nu l []) = (if nu then [0] else uvarP (l.length + 1)) ++ l.flatMap (apE e sub ver true) := by
  simp only [apF, apE, F.isNull, F.nul, T.null, T.l, countedP]
  cases nu <;> simp [h0, h1]
theorem apE_part {l : List T} {u : List Tg} : apE 10 sub ver false (.mk 0 [] false l u) = apFs sub ver false l := by
  show apFs sub ver false l ++ [] = _
  simp
theorem apE_cpart {l : List T} {u : List Tg} : apE 10 sub ver true (.mk 0 [] false l u) = apFs sub ver true l ++ (uvarP u.length ++ (u.map tagP).flatten) := rfl
theorem apE_i8 {fx : Bool} {n : Int} : apE 1 sub ver fx (.mk n [] false [] []) = fixedP n 1 := rfl
theorem apE_i16 {fx : Bool} {n : Int} : apE 2 sub ver fx (.mk n [] false [] []) = fixedP n 2 := rfl
theorem apE_i32 {fx : Bool} {n : Int} : apE 3 sub ver fx (.mk n [] false [] []) = fixedP n 4 := rfl
theorem apE_i64 {fx : Bool} {n : Int} : apE 4 sub ver fx (.mk n [] false [] []) = fixedP n 8 := rfl
theorem apE_str {x : Bs} : apE 8 sub ver false (.mk 0 x false [] []) = fixedP x.length 2 ++ x := rfl
theorem apE_cstr {x : Bs} : apE 8 sub ver true (.mk 0 x false [] []) = uvarP (x.length + 1) ++ x := rfl
theorem apPart_plain {fs : List F} {l : List T} {u : List Tg} : apPart fs ver false (.mk 0 [] false l u) = apFs fs ver false l := by
  show apFs fs ver false l ++ [] = _
  simp
theorem apPart_flex {fs : List F} {l : List T} {u : List Tg} : apPart fs ver true (.mk 0 [] false l u) = apFs fs ver true l ++ (uvarP u.length ++ (u.map tagP).flatten) := rfl
theorem apFs_has {f : F} {r : List F} {fx : Bool} {t : T} {l : List T} (h : f.has ver = true) : apFs (f :: r) ver fx (t :: l) = apF f ver fx t ++ apFs r ver fx l := by
  rw [apFs, if_pos h]
theorem apFs_lacks {f : F} {r : List F} {fx : Bool} {t : T} {l : List T} (h : f.has ver = false) : apFs (f :: r) ver fx (t :: l) = apFs r ver fx l := by
  rw [apFs, if_neg (by simp [h]), List.nil_append]
end
end Go.Proofs.YtobbchmjgoaleaaGreatDoor
