/-
  THE READER OF kbin: each method's contract, over what the reader's octets read as.
-/
import Derived.Test.YtdklogmmfnddiaaDoorMB3
import Derived.Laws.BitsLemmas
namespace Go.Proofs.YtdklogmmfnddiaaDoor
open Go.ChangeShapes Go.WideShapes Go.ChangeAt Go.RowKit

theorem There.mono {G : Nat → Prop} {w w' : World} (h : There G w) (hk : w.heap.size ≤ w'.heap.size) : There G w' := fun k hg => Nat.lt_of_lt_of_le (h k hg) hk
/-- octets as a number, the highest one first -/
def be (l : Bs) : Nat := l.foldl (fun n b => 256 * n + b.toNat) 0
/-- a number of so many octets with a sign -/
def sgn (k n : Nat) : Int := if n < 2 ^ (8 * k - 1) then (n : Int) else (n : Int) - 2 ^ (8 * k)
/-- what is left, and whether it ran out -/
abbrev St := Bs × Bool
def rdN (k : Nat) (s : St) : Nat × St := if s.1.length < k then (0, ([], true)) else (be (s.1.take k), (s.1.drop k, s.2))
def rdI (k : Nat) (s : St) : Int × St := (sgn k (rdN k s).1, (rdN k s).2)

theorem be_lt : ∀ (l : Bs) (n : Nat), l.foldl (fun n b => 256 * n + b.toNat) n < 256 ^ l.length * (n + 1)
  | [], n => by simp
  | b :: r, n => by
    have h := be_lt r (256 * n + b.toNat)
    have hb : b.toNat < 256 := b.toNat_lt
    simp only [List.foldl_cons, List.length_cons, Nat.pow_succ]
    refine Nat.lt_of_lt_of_le h ?_
    rw [Nat.mul_assoc]
    exact Nat.mul_le_mul_left _ (by omega)
theorem rdN_lt (k : Nat) (s : St) : (rdN k s).1 < 256 ^ k := by
  unfold rdN
  split
  · exact Nat.pow_pos (by decide)
  · have h := be_lt (s.1.take k) 0
    have hl : (s.1.take k).length = k := by simp; omega
    simpa [be, hl] using h
theorem rdI_range1 (s : St) : -128 ≤ (rdI 1 s).1 ∧ (rdI 1 s).1 ≤ 127 := by
  have h := rdN_lt 1 s
  simp only [rdI, sgn]
  split <;> omega
theorem rdI_range2 (s : St) : -32768 ≤ (rdI 2 s).1 ∧ (rdI 2 s).1 ≤ 32767 := by
  have h := rdN_lt 2 s
  simp only [rdI, sgn]
  split <;> omega
theorem rdI_range4 (s : St) : -2147483648 ≤ (rdI 4 s).1 ∧ (rdI 4 s).1 ≤ 2147483647 := by
  have h := rdN_lt 4 s
  simp only [rdI, sgn]
  split <;> omega
theorem rdI_range8 (s : St) : -9223372036854775808 ≤ (rdI 8 s).1 ∧ (rdI 8 s).1 ≤ 9223372036854775807 := by
  have h := rdN_lt 8 s
  simp only [rdI, sgn]
  split <;> omega
theorem wrap_i16' (n : Int) : IntKind.i16.wrap n = if n % 65536 < 32768 then n % 65536 else n % 65536 - 65536 := by
  simp only [IntKind.wrap, IntKind.bits, IntKind.signed]
  first | rfl | (simp; done) | (simp; split <;> omega)
theorem wrap_i8' (n : Int) : IntKind.i8.wrap n = if n % 256 < 128 then n % 256 else n % 256 - 256 := by
  simp only [IntKind.wrap, IntKind.bits, IntKind.signed]
  first | rfl | (simp; done) | (simp; split <;> omega)
/-- the reader's block -/
def Rd (w : World) (b : Nat) (G : Nat → Prop) (s : St) : Prop := ∃ v, w.heap[b]? = some (.cells #[v, .bool s.2] 99 (0, 0)) ∧ RB w G v s.1 ∧ Hid (s.2 = true → v = .slice none 0 0)

/-- the reader's octets are no nil slice -/
def SrcSome (w : World) (b : Nat) : Prop := ∃ a n c bd, w.heap[b]? = some (.cells #[.slice (some a) n c, bd] 99 (0, 0))
theorem RB.spot {w : World} {G : Nat → Prop} {ao : Option Addr} {n cap : Nat} {l : Bs} (h : RB w G (.slice ao n cap) l) (h0 : 0 < l.length) :
    ∃ b o, ao = some ⟨b, o, none⟩ ∧ G b ∧ n = l.length ∧ n ≤ cap ∧ ∀ j (hj : j < l.length), w.cell? ⟨b, o + j, none⟩ = some (.int .u8 (l[j].toNat : Int)) := by
  obtain ⟨ao', cap', e, h1, h2, h3⟩ := h
  cases e
  cases ao with
  | none => have := (h2 rfl).1; omega
  | some a =>
    obtain ⟨b, o, sp⟩ := a
    obtain ⟨g1, g2⟩ := h3 _ rfl
    replace g1 := g1 (by simpa using h0)
    simp only at g1
    subst g1
    refine ⟨b, o, rfl, (g2 0 (by simpa using h0)).1, rfl, h1, fun j hj => ?_⟩
    have := (g2 j (by simpa using hj)).2
    simpa [bv] using this

theorem or_up (k : IntKind) (j : Nat) (hj : j ≤ k.bits) (hk : ∀ n : Int, 0 ≤ n → n < 2 ^ j → k.wrap n = n) (i : Nat) (x y : Int) (hx₀ : 0 ≤ x) (hx : x % 2 ^ i = 0) (hx₁ : x < 2 ^ j) (hy₀ : 0 ≤ y) (hy : y < 2 ^ i) (hij : i ≤ j) : bits .or k y x = y + x := by
  have hc : bits .or k y x = bits .or k x y := by simp only [bits, BitVec.or_comm]
  have h2 : (2 : Int) ^ i ≤ 2 ^ j := by exact_mod_cast Nat.pow_le_pow_right (by decide) hij
  rw [hc, bits_join k j hj hk i x y hx₀ hx hx₁ hy₀ hy (by omega)]
  omega
theorem wraps_u16 (n : Int) (h₀ : 0 ≤ n) (h₁ : n < 2 ^ 16) : IntKind.u16.wrap n = n := by rw [IntKind.wrap_u16]; omega
theorem wraps_u32 (n : Int) (h₀ : 0 ≤ n) (h₁ : n < 2 ^ 32) : IntKind.u32.wrap n = n := by rw [IntKind.wrap_u32]; omega
theorem wraps_u64 (n : Int) (h₀ : 0 ≤ n) (h₁ : n < 2 ^ 64) : IntKind.u64.wrap n = n := by rw [IntKind.wrap_u64]; omega
theorem RB.none0 (w : World) (G : Nat → Prop) (b o c : Nat) : RB w G (.slice (some ⟨b, o, none⟩) 0 c) [] :=
  ⟨_, c, rfl, Nat.zero_le _, (fun h => by cases h), fun a ha => ⟨fun h => by simp at h, fun i hi => by simp at hi⟩⟩
/-- nothing, wherever it lies -/
theorem RB.empty (w : World) (G : Nat → Prop) (a : Addr) (c : Nat) : RB w G (.slice (some a) 0 c) [] :=
  ⟨_, c, rfl, Nat.zero_le _, (fun h => by cases h), fun a ha => ⟨fun h => by simp at h, fun i hi => by simp at hi⟩⟩
theorem RB.drop {w : World} {G : Nat → Prop} {b o n cap : Nat} {l : Bs} (h : RB w G (.slice (some ⟨b, o, none⟩) n cap) l) (k m c : Nat) (hk : k ≤ l.length) (hm : m = l.length - k) (hc : c = cap - k) : RB w G (.slice (some ⟨b, o + k, none⟩) m c) (l.drop k) := by
  obtain ⟨ao', cap', e, h1, h2, h3⟩ := h
  cases e
  subst hm hc
  refine ⟨some ⟨b, o + k, none⟩, cap - k, by rw [List.length_drop], by simp; omega, (fun h => by cases h), fun a ha => ?_⟩
  cases ha
  obtain ⟨_, g2⟩ := h3 _ rfl
  refine ⟨fun _ => rfl, fun i hi => ?_⟩
  have hi' : k + i < (l.map bv).length := by simp at hi ⊢; omega
  obtain ⟨q1, q2⟩ := g2 (k + i) hi'
  refine ⟨q1, ?_⟩
  have e : (⟨b, o + k + i, none⟩ : Addr) = ⟨b, o + (k + i), none⟩ := by rw [Nat.add_assoc]
  simp only at q2
  rw [e, q2]
  simp
/-- the end of a reading of k octets -/
theorem rd_done {k b : Nat} {G : Nat → Prop} {src : Bs} {bad : Bool} {w w2 : World} {bs o cap : Nat} {v : Value} (hG : There G w) (hb : ¬ G b) (hr : RB w G (.slice (some ⟨bs, o, none⟩) src.length cap) src) (hz : Hid (bad = true → Value.slice (some ⟨bs, o, none⟩) src.length cap = .slice none 0 0)) (hk : ¬ src.length < k) (kx : Keep [] w w2)
    (hh : w2.heap[b]? = some (.cells #[.slice (some ⟨bs, o, none⟩) src.length cap, .bool bad] 99 (0, 0)))
    (hv : (v = .slice (some ⟨bs, o, none⟩) 0 (cap - k) ∧ src.length = k) ∨ v = .slice (some ⟨bs, o + k, none⟩) (src.length - k) (cap - k)) :
    Rd (w2.setCell ⟨b, 0, none⟩ v) b G (rdN k (src, bad)).2 ∧ Keep [b] w (w2.setCell ⟨b, 0, none⟩ v) := by
  have hs : SameOn G w (w2.setCell ⟨b, 0, none⟩ v) := fun j hj => (Below.heap_setCell _ _ _ _ (fun e => hb (by simp only at e; rw [← e]; exact hj))).trans (hG.same kx j hj)
  refine ⟨⟨v, ?_, ?_, fun e => absurd (hz.out (by simpa only [rdN, if_neg hk] using e)) (by simp)⟩, (kx.weaken (by simp)).setCell (.inl (by simp)) _⟩
  · simp only [rdN, if_neg hk]
    exact heap_set hh v
  · simp only [rdN, if_neg hk]
    rcases hv with ⟨rfl, e⟩ | rfl
    · rw [show src.drop k = [] from List.drop_eq_nil_of_le (by omega)]
      exact RB.none0 _ _ _ _ _
    · exact RB.keepF (hr.drop k _ _ (by omega) rfl rfl) hs (fun _ h => h)
theorem rdI_short {k : Nat} {s : St} (h : s.1.length < k) : (rdN k s) = (0, ([], true)) := by simp [rdN, h]
end Go.Proofs.YtdklogmmfnddiaaDoor
/-
  Reader.Int16.
-/
namespace Go.Proofs.YtdklogmmfnddiaaDoor
open Go.ChangeShapes Go.WideShapes Go.ChangeAt Go.RowKit

theorem i16_val (b0 b1 : UInt8) (r : Bs) (bad : Bool) : (rdI 2 (b0 :: b1 :: r, bad)).1 = IntKind.i16.wrap (256 * (b0.toNat : Int) + b1.toNat) := by
  have h0 : b0.toNat < 256 := b0.toNat_lt
  have h1 : b1.toNat < 256 := b1.toNat_lt
  simp only [rdI, rdN, List.length_cons, if_neg (show ¬ r.length + 1 + 1 < 2 by omega), List.take_succ_cons, List.take_zero, be, List.foldl_cons, List.foldl_nil, sgn, wrap_i16']
  split <;> split <;> omega
end Go.Proofs.YtdklogmmfnddiaaDoor
/-
  Reader.Int32.
-/
namespace Go.Proofs.YtdklogmmfnddiaaDoor
open Go.ChangeShapes Go.WideShapes Go.ChangeAt Go.RowKit

set_option maxHeartbeats 400000 in
theorem u32_any (G : Nat → Prop) (w : World) (ao : Option Addr) (n cap : Nat) (b0 b1 b2 b3 : UInt8) (r : Bs) (h : RB w G (.slice ao n cap) (b0 :: b1 :: b2 :: b3 :: r)) :
    Calls Tryd.prog 70 #[.agg #[], .slice ao n cap] w fun e w' => e = .returned (.int .u32 (16777216 * (b0.toNat : Int) + 65536 * b1.toNat + 256 * b2.toNat + b3.toNat)) ∧ Keep [] w w' := by
  obtain ⟨b, o, rfl, _, hn, _, hc⟩ := h.spot (by simp)
  have h0 : w.cell? ⟨b, o, none⟩ = some (.int .u8 b0.toNat) := hc 0 (by simp)
  have h1 : w.cell? ⟨b, o + 1, none⟩ = some (.int .u8 b1.toNat) := hc 1 (by simp)
  have h2 : w.cell? ⟨b, o + 2, none⟩ = some (.int .u8 b2.toNat) := hc 2 (by simp)
  have h3 : w.cell? ⟨b, o + 3, none⟩ = some (.int .u8 b3.toNat) := hc 3 (by simp)
  have h4 : 4 ≤ n := by simp at hn; omega
  have hlt := World.block_lt_of_cell? w _ h0
  have g0 : (w.alloc (Obj.cells #[] 117)).cell? ⟨b, o, none⟩ = some (.int .u8 b0.toNat) := by rw [World.cell?_alloc_lt _ _ _ hlt]; exact h0
  have g1 : (w.alloc (Obj.cells #[] 117)).cell? ⟨b, o + 1, none⟩ = some (.int .u8 b1.toNat) := by rw [World.cell?_alloc_lt _ _ _ (World.block_lt_of_cell? w _ h1)]; exact h1
  have g2 : (w.alloc (Obj.cells #[] 117)).cell? ⟨b, o + 2, none⟩ = some (.int .u8 b2.toNat) := by rw [World.cell?_alloc_lt _ _ _ (World.block_lt_of_cell? w _ h2)]; exact h2
  have g3 : (w.alloc (Obj.cells #[] 117)).cell? ⟨b, o + 3, none⟩ = some (.int .u8 b3.toNat) := by rw [World.cell?_alloc_lt _ _ _ (World.block_lt_of_cell? w _ h3)]; exact h3
  have hb2 : b2.toNat < 256 := b2.toNat_lt
  have hb3 : b3.toNat < 256 := b3.toNat_lt
  have hb0 : b0.toNat < 256 := b0.toNat_lt
  have hb1 : b1.toNat < 256 := b1.toNat_lt
  clear hc hn h h0 h1 h2 h3
  generalize b0.toNat = x0 at *
  generalize b1.toNat = x1 at *
  generalize b2.toNat = x2 at *
  generalize b3.toNat = x3 at *
  go_enter Tryd.func70, Tryd.ntmps70
  go_wp2
  go_quiet (fail)
  go_wp2
  refine bodyPost_ret (v := .int .u32 (16777216 * (x0 : Int) + 65536 * x1 + 256 * x2 + x3)) ?_ rfl ⟨rfl, ((keep_box _).drewN _)⟩
  simp [results, Tryd.results70, go_sem]
  rw [or_up .u32 32 (by decide) wraps_u32 8 ((x2 : Int) * 256) (x3 : Int) (by omega) (by omega) (by omega) (by omega) (by omega) (by omega), or_up .u32 32 (by decide) wraps_u32 16 ((x1 : Int) * 65536) _ (by omega) (by omega) (by omega) (by omega) (by omega) (by omega), or_up .u32 32 (by decide) wraps_u32 24 ((x0 : Int) * 16777216) _ (by omega) (by omega) (by omega) (by omega) (by omega) (by omega)]
  omega
theorem i32_val (b0 b1 b2 b3 : UInt8) (r : Bs) (bad : Bool) : (rdI 4 (b0 :: b1 :: b2 :: b3 :: r, bad)).1 = IntKind.i32.wrap (16777216 * (b0.toNat : Int) + 65536 * b1.toNat + 256 * b2.toNat + b3.toNat) := by
  have h0 : b0.toNat < 256 := b0.toNat_lt
  have h1 : b1.toNat < 256 := b1.toNat_lt
  have h2 : b2.toNat < 256 := b2.toNat_lt
  have h3 : b3.toNat < 256 := b3.toNat_lt
  simp only [rdI, rdN, List.length_cons, if_neg (show ¬ r.length + 1 + 1 + 1 + 1 < 4 by omega), List.take_succ_cons, List.take_zero, be, List.foldl_cons, List.foldl_nil, sgn, IntKind.wrap_i32]
  split <;> omega
theorem i32_body : Tryd.f57.body.isNone = false := by kernel_rfl
set_option maxHeartbeats 400000 in
set_option maxRecDepth 100000 in
theorem i32_some {G : Nat → Prop} {b : Nat} {s : St} {w : World} (h : Rd w b G s) (hG : There G w) (hb : ¬ G b) :
    Calls Tryd.prog 57 #[.pointer (some ⟨b, 0, none⟩)] w fun e w' => e = .returned (.int .i32 (rdI 4 s).1) ∧ Rd w' b G (rdI 4 s).2 ∧ Keep [b] w w' ∧ ((rdI 4 s).2.2 = false → SrcSome w' b) := by
  obtain ⟨src, bad⟩ := s
  obtain ⟨v, hh, hr, hz⟩ := h
  obtain ⟨ao, cap, rfl⟩ := RS.shape hr
  have c0 : w.cell? ⟨b, 0, none⟩ = some (.slice ao src.length cap) := cellOf hh 0 _ rfl
  have c1 : w.cell? ⟨b, 1, none⟩ = some (.bool bad) := cellOf hh 1 _ rfl
  have f0 := freeOf hh 0
  have f1 := freeOf hh 1
  go_enter Tryd.func57, Tryd.ntmps57
  by_cases hl : src.length < 4
  · go_wp2_with fail
    go_ret
    exact ⟨by simp [rdI, rdN, hl, sgn], ⟨.slice none 0 0, by simp only [rdI, rdN, hl, if_true]; exact heap_set (heap_set hh _) _, by simp only [rdI, rdN, hl, if_true]; exact RB.nil _ _, fun _ => rfl⟩, ((Keep.refl _ _).setCell (.inl (by simp)) _).setCell (.inl (by simp)) _, fun h => by simp [rdI, rdN, hl] at h⟩
  · obtain ⟨b0, b1, b2, b3, r, rfl⟩ : ∃ b0 b1 b2 b3 r, src = b0 :: b1 :: b2 :: b3 :: r := by
      match src, hl with
      | b0 :: b1 :: b2 :: b3 :: r, _ => exact ⟨b0, b1, b2, b3, r, rfl⟩
      | [_, _, _], h => simp at h
      | [_, _], h => simp at h
      | [_], h => simp at h
      | [], h => simp at h
    have HH : Hid _ := hh
    clear hh
    have hS := c0
    go_wp2_with fail
    go_region_held3 (fun w' => w'.cell? ⟨b, 0, none⟩ = some (.slice ao (b0 :: b1 :: b2 :: b3 :: r).length cap)) (exact hS) (first
      | (go_at_call 70; refine (u32_any G _ ao _ cap b0 b1 b2 b3 r (hr.keepF (hG.same (Keep.refl _ _).drew) (fun _ h => h))).mono ?_; rintro e w2 ⟨rfl, hk2⟩; have kx : Keep [] w w2 := (Keep.refl _ _).drew.trans hk2; have hS := kx.cs c0))
    obtain ⟨bs, o, rfl, hGb, -, hcap, -⟩ := hr.spot (by simp)
    have hbw : b < w.heap.size := World.block_lt_of_cell? w _ c0
    have hh2 := (kx.block b hbw (by simp)).trans HH.out
    have d0 : w2.cell? ⟨b, 0, none⟩ = some (.slice (some ⟨bs, o, none⟩) (b0 :: b1 :: b2 :: b3 :: r).length cap) := cellOf hh2 0 _ rfl
    have e0 := freeOf hh2 0
    have HH2 : Hid _ := hh2
    clear hh2
    by_cases hcap : cap = 4
    · subst hcap
      go_wp2
      go_ret
      obtain ⟨q1, q2⟩ := rd_done (k := 4) (b := b) (v := .slice (some ⟨bs, o, none⟩) r.length 0) hG hb hr hz hl kx HH2.out (.inl ⟨by simp at hcap ⊢; omega, by simp at hcap ⊢; omega⟩)
      exact ⟨by simp [i32_val], q1, q2, fun _ => ⟨_, _, _, _, heap_set HH2.out _⟩⟩
    · go_wp2
      go_ret
      obtain ⟨q1, q2⟩ := rd_done (k := 4) (b := b) (v := .slice (some ⟨bs, o + 4, none⟩) r.length (cap - 4)) hG hb hr hz hl kx HH2.out (.inr (by simp))
      exact ⟨by simp [i32_val], q1, q2, fun _ => ⟨_, _, _, _, heap_set HH2.out _⟩⟩
theorem int32_any {G : Nat → Prop} {b : Nat} {s : St} {w : World} (h : Rd w b G s) (hG : There G w) (hb : ¬ G b) :
    Calls Tryd.prog 57 #[.pointer (some ⟨b, 0, none⟩)] w fun e w' => e = .returned (.int .i32 (rdI 4 s).1) ∧ Rd w' b G (rdI 4 s).2 ∧ Keep [b] w w' :=
  (i32_some h hG hb).mono fun _ _ q => ⟨q.1, q.2.1, q.2.2.1⟩
end Go.Proofs.YtdklogmmfnddiaaDoor
/-
  Reader.readUint64, Reader.Int64.
-/
namespace Go.Proofs.YtdklogmmfnddiaaDoor
open Go.ChangeShapes Go.WideShapes Go.ChangeAt Go.RowKit

set_option maxHeartbeats 400000 in
set_option maxRecDepth 100000 in
theorem u64_any (G : Nat → Prop) (w : World) (ao : Option Addr) (n cap : Nat) (b0 b1 b2 b3 b4 b5 b6 b7 : UInt8) (r : Bs) (h : RB w G (.slice ao n cap) (b0 :: b1 :: b2 :: b3 :: b4 :: b5 :: b6 :: b7 :: r)) :
    Calls Tryd.prog 80 #[.agg #[], .slice ao n cap] w fun e w' => e = .returned (.int .u64 (72057594037927936 * (b0.toNat : Int) + 281474976710656 * b1.toNat + 1099511627776 * b2.toNat + 4294967296 * b3.toNat + 16777216 * b4.toNat + 65536 * b5.toNat + 256 * b6.toNat + b7.toNat)) ∧ Keep [] w w' := by
  obtain ⟨b, o, rfl, _, hn, _, hc⟩ := h.spot (by simp)
  have h0 : w.cell? ⟨b, o, none⟩ = some (.int .u8 b0.toNat) := hc 0 (by simp)
  have h1 : w.cell? ⟨b, o + 1, none⟩ = some (.int .u8 b1.toNat) := hc 1 (by simp)
  have h2 : w.cell? ⟨b, o + 2, none⟩ = some (.int .u8 b2.toNat) := hc 2 (by simp)
  have h3 : w.cell? ⟨b, o + 3, none⟩ = some (.int .u8 b3.toNat) := hc 3 (by simp)
  have h4 : w.cell? ⟨b, o + 4, none⟩ = some (.int .u8 b4.toNat) := hc 4 (by simp)
  have h5 : w.cell? ⟨b, o + 5, none⟩ = some (.int .u8 b5.toNat) := hc 5 (by simp)
  have h6 : w.cell? ⟨b, o + 6, none⟩ = some (.int .u8 b6.toNat) := hc 6 (by simp)
  have h7 : w.cell? ⟨b, o + 7, none⟩ = some (.int .u8 b7.toNat) := hc 7 (by simp)
  have hk : 8 ≤ n := by simp at hn; omega
  have g0 : (w.alloc (Obj.cells #[] 117)).cell? ⟨b, o, none⟩ = some (.int .u8 b0.toNat) := by rw [World.cell?_alloc_lt _ _ _ (World.block_lt_of_cell? w _ h0)]; exact h0
  have g1 : (w.alloc (Obj.cells #[] 117)).cell? ⟨b, o + 1, none⟩ = some (.int .u8 b1.toNat) := by rw [World.cell?_alloc_lt _ _ _ (World.block_lt_of_cell? w _ h1)]; exact h1
  have g2 : (w.alloc (Obj.cells #[] 117)).cell? ⟨b, o + 2, none⟩ = some (.int .u8 b2.toNat) := by rw [World.cell?_alloc_lt _ _ _ (World.block_lt_of_cell? w _ h2)]; exact h2
  have g3 : (w.alloc (Obj.cells #[] 117)).cell? ⟨b, o + 3, none⟩ = some (.int .u8 b3.toNat) := by rw [World.cell?_alloc_lt _ _ _ (World.block_lt_of_cell? w _ h3)]; exact h3
  have g4 : (w.alloc (Obj.cells #[] 117)).cell? ⟨b, o + 4, none⟩ = some (.int .u8 b4.toNat) := by rw [World.cell?_alloc_lt _ _ _ (World.block_lt_of_cell? w _ h4)]; exact h4
  have g5 : (w.alloc (Obj.cells #[] 117)).cell? ⟨b, o + 5, none⟩ = some (.int .u8 b5.toNat) := by rw [World.cell?_alloc_lt _ _ _ (World.block_lt_of_cell? w _ h5)]; exact h5
  have g6 : (w.alloc (Obj.cells #[] 117)).cell? ⟨b, o + 6, none⟩ = some (.int .u8 b6.toNat) := by rw [World.cell?_alloc_lt _ _ _ (World.block_lt_of_cell? w _ h6)]; exact h6
  have g7 : (w.alloc (Obj.cells #[] 117)).cell? ⟨b, o + 7, none⟩ = some (.int .u8 b7.toNat) := by rw [World.cell?_alloc_lt _ _ _ (World.block_lt_of_cell? w _ h7)]; exact h7
  have hb0 : b0.toNat < 256 := b0.toNat_lt
  have hb1 : b1.toNat < 256 := b1.toNat_lt
  have hb2 : b2.toNat < 256 := b2.toNat_lt
  have hb3 : b3.toNat < 256 := b3.toNat_lt
  have hb4 : b4.toNat < 256 := b4.toNat_lt
  have hb5 : b5.toNat < 256 := b5.toNat_lt
  have hb6 : b6.toNat < 256 := b6.toNat_lt
  have hb7 : b7.toNat < 256 := b7.toNat_lt
  clear hc hn h h0 h1 h2 h3 h4 h5 h6 h7
  generalize b0.toNat = x0 at *
  generalize b1.toNat = x1 at *
  generalize b2.toNat = x2 at *
  generalize b3.toNat = x3 at *
  generalize b4.toNat = x4 at *
  generalize b5.toNat = x5 at *
  generalize b6.toNat = x6 at *
  generalize b7.toNat = x7 at *
  go_enter Tryd.func80, Tryd.ntmps80
  go_wp2
  go_quiet (fail)
  go_wp2
  refine bodyPost_ret (v := .int .u64 (72057594037927936 * (x0 : Int) + 281474976710656 * x1 + 1099511627776 * x2 + 4294967296 * x3 + 16777216 * x4 + 65536 * x5 + 256 * x6 + x7)) ?_ rfl ⟨rfl, ((keep_box _).drewN _)⟩
  simp [results, Tryd.results80, go_sem]
  rw [or_up .u64 64 (by decide) wraps_u64 8 ((x6 : Int) * 256) (x7 : Int) (by omega) (by omega) (by omega) (by omega) (by omega) (by omega), or_up .u64 64 (by decide) wraps_u64 16 ((x5 : Int) * 65536) _ (by omega) (by omega) (by omega) (by omega) (by omega) (by omega), or_up .u64 64 (by decide) wraps_u64 24 ((x4 : Int) * 16777216) _ (by omega) (by omega) (by omega) (by omega) (by omega) (by omega), or_up .u64 64 (by decide) wraps_u64 32 ((x3 : Int) * 4294967296) _ (by omega) (by omega) (by omega) (by omega) (by omega) (by omega), or_up .u64 64 (by decide) wraps_u64 40 ((x2 : Int) * 1099511627776) _ (by omega) (by omega) (by omega) (by omega) (by omega) (by omega), or_up .u64 64 (by decide) wraps_u64 48 ((x1 : Int) * 281474976710656) _ (by omega) (by omega) (by omega) (by omega) (by omega) (by omega), or_up .u64 64 (by decide) wraps_u64 56 ((x0 : Int) * 72057594037927936) _ (by omega) (by omega) (by omega) (by omega) (by omega) (by omega)]
  omega
theorem i64_val (b0 b1 b2 b3 b4 b5 b6 b7 : UInt8) (r : Bs) (bad : Bool) : (rdI 8 (b0 :: b1 :: b2 :: b3 :: b4 :: b5 :: b6 :: b7 :: r, bad)).1 = IntKind.i64.wrap (72057594037927936 * (b0.toNat : Int) + 281474976710656 * b1.toNat + 1099511627776 * b2.toNat + 4294967296 * b3.toNat + 16777216 * b4.toNat + 65536 * b5.toNat + 256 * b6.toNat + b7.toNat) := by
  have h0 : b0.toNat < 256 := b0.toNat_lt
  have h1 : b1.toNat < 256 := b1.toNat_lt
  have h2 : b2.toNat < 256 := b2.toNat_lt
  have h3 : b3.toNat < 256 := b3.toNat_lt
  have h4 : b4.toNat < 256 := b4.toNat_lt
  have h5 : b5.toNat < 256 := b5.toNat_lt
  have h6 : b6.toNat < 256 := b6.toNat_lt
  have h7 : b7.toNat < 256 := b7.toNat_lt
  simp only [rdI, rdN, List.length_cons, if_neg (show ¬ r.length + 1 + 1 + 1 + 1 + 1 + 1 + 1 + 1 < 8 by omega), List.take_succ_cons, List.take_zero, be, List.foldl_cons, List.foldl_nil, sgn, IntKind.wrap_i64]
  split <;> omega
theorem rdI8_wrap (s : St) : (rdI 8 s).1 = IntKind.i64.wrap ((rdN 8 s).1 : Int) := by
  have h := rdN_lt 8 s
  simp only [rdI, sgn, IntKind.wrap_i64]
  split <;> omega
theorem rdN_val (b0 b1 b2 b3 b4 b5 b6 b7 : UInt8) (r : Bs) (bad : Bool) : ((rdN 8 (b0 :: b1 :: b2 :: b3 :: b4 :: b5 :: b6 :: b7 :: r, bad)).1 : Int) = 72057594037927936 * (b0.toNat : Int) + 281474976710656 * b1.toNat + 1099511627776 * b2.toNat + 4294967296 * b3.toNat + 16777216 * b4.toNat + 65536 * b5.toNat + 256 * b6.toNat + b7.toNat := by
  simp only [rdN, List.length_cons, if_neg (show ¬ r.length + 1 + 1 + 1 + 1 + 1 + 1 + 1 + 1 < 8 by omega), List.take_succ_cons, List.take_zero, be, List.foldl_cons, List.foldl_nil]
  omega
set_option maxHeartbeats 400000 in
set_option maxRecDepth 100000 in
theorem readu64_any {G : Nat → Prop} {b : Nat} {s : St} {w : World} (h : Rd w b G s) (hG : There G w) (hb : ¬ G b) :
    Calls Tryd.prog 71 #[.pointer (some ⟨b, 0, none⟩)] w fun e w' => e = .returned (.int .u64 ((rdN 8 s).1 : Int)) ∧ Rd w' b G (rdI 8 s).2 ∧ Keep [b] w w' := by
  obtain ⟨src, bad⟩ := s
  obtain ⟨v, hh, hr, hz⟩ := h
  obtain ⟨ao, cap, rfl⟩ := RS.shape hr
  have c0 : w.cell? ⟨b, 0, none⟩ = some (.slice ao src.length cap) := cellOf hh 0 _ rfl
  have c1 : w.cell? ⟨b, 1, none⟩ = some (.bool bad) := cellOf hh 1 _ rfl
  have f0 := freeOf hh 0
  have f1 := freeOf hh 1
  go_enter Tryd.func71, Tryd.ntmps71
  by_cases hl : src.length < 8
  · go_wp2_with fail
    go_ret
    exact ⟨by simp [rdN, hl], ⟨.slice none 0 0, by simp only [rdI, rdN, hl, if_true]; exact heap_set (heap_set hh _) _, by simp only [rdI, rdN, hl, if_true]; exact RB.nil _ _, fun _ => rfl⟩, ((Keep.refl _ _).setCell (.inl (by simp)) _).setCell (.inl (by simp)) _⟩
  · obtain ⟨b0, b1, b2, b3, b4, b5, b6, b7, r, rfl⟩ : ∃ b0 b1 b2 b3 b4 b5 b6 b7 r, src = b0 :: b1 :: b2 :: b3 :: b4 :: b5 :: b6 :: b7 :: r := by
      match src, hl with
      | b0 :: b1 :: b2 :: b3 :: b4 :: b5 :: b6 :: b7 :: r, _ => exact ⟨b0, b1, b2, b3, b4, b5, b6, b7, r, rfl⟩
      | [_, _, _, _, _, _, _], h => simp at h
      | [_, _, _, _, _, _], h => simp at h
      | [_, _, _, _, _], h => simp at h
      | [_, _, _, _], h => simp at h
      | [_, _, _], h => simp at h
      | [_, _], h => simp at h
      | [_], h => simp at h
      | [], h => simp at h
    have HH : Hid _ := hh
    clear hh
    have hS := c0
    go_wp2_with fail
    go_region_held3 (fun w' => w'.cell? ⟨b, 0, none⟩ = some (.slice ao (b0 :: b1 :: b2 :: b3 :: b4 :: b5 :: b6 :: b7 :: r).length cap)) (exact hS) (first
      | (go_at_call 80; refine (u64_any G _ ao _ cap b0 b1 b2 b3 b4 b5 b6 b7 r (hr.keepF (hG.same (Keep.refl _ _).drew) (fun _ h => h))).mono ?_; rintro e w2 ⟨rfl, hk2⟩; have kx : Keep [] w w2 := (Keep.refl _ _).drew.trans hk2; have hS := kx.cs c0))
    obtain ⟨bs, o, rfl, hGb, -, hcap, -⟩ := hr.spot (by simp)
    have hbw : b < w.heap.size := World.block_lt_of_cell? w _ c0
    have hh2 := (kx.block b hbw (by simp)).trans HH.out
    have d0 : w2.cell? ⟨b, 0, none⟩ = some (.slice (some ⟨bs, o, none⟩) (b0 :: b1 :: b2 :: b3 :: b4 :: b5 :: b6 :: b7 :: r).length cap) := cellOf hh2 0 _ rfl
    have e0 := freeOf hh2 0
    have HH2 : Hid _ := hh2
    clear hh2
    by_cases hcap : cap = 8
    · subst hcap
      go_wp2
      go_ret
      obtain ⟨q1, q2⟩ := rd_done (k := 8) (b := b) (v := .slice (some ⟨bs, o, none⟩) r.length 0) hG hb hr hz hl kx HH2.out (.inl ⟨by simp at hcap ⊢; omega, by simp at hcap ⊢; omega⟩)
      exact ⟨by rw [rdN_val]; rfl, q1, q2⟩
    · go_wp2
      go_ret
      obtain ⟨q1, q2⟩ := rd_done (k := 8) (b := b) (v := .slice (some ⟨bs, o + 8, none⟩) r.length (cap - 8)) hG hb hr hz hl kx HH2.out (.inr (by simp))
      exact ⟨by rw [rdN_val]; rfl, q1, q2⟩
set_option maxHeartbeats 400000 in
set_option maxRecDepth 100000 in
theorem int64_any {G : Nat → Prop} {b : Nat} {s : St} {w : World} (h : Rd w b G s) (hG : There G w) (hb : ¬ G b) :
    Calls Tryd.prog 58 #[.pointer (some ⟨b, 0, none⟩)] w fun e w' => e = .returned (.int .i64 (rdI 8 s).1) ∧ Rd w' b G (rdI 8 s).2 ∧ Keep [b] w w' := by
  have hw := rdI8_wrap s
  have hw2 : wrap64 ((rdN 8 s).1 : Int) = IntKind.i64.wrap ((rdN 8 s).1 : Int) := by rw [IntKind.wrap_i64]; unfold wrap64; omega
  go_enter Tryd.func58, Tryd.ntmps58
  go_wp2_with (go_at_call 71; go_loud (refine (readu64_any h hG hb).mono ?_; rintro e w1 ⟨rfl, h1, k1⟩))
  go_ret
  exact ⟨by rw [hw, ← hw2]; rfl, h1, k1⟩
end Go.Proofs.YtdklogmmfnddiaaDoor
/-
  Reader.Bool, Int8, Ok.
-/
namespace Go.Proofs.YtdklogmmfnddiaaDoor
open Go.ChangeShapes Go.WideShapes Go.ChangeAt Go.RowKit

def rdBool (s : St) : Bool × St := (((rdN 1 s).1 : Int) != 0, (rdN 1 s).2)
theorem i8_val (b0 : UInt8) (r : Bs) (bad : Bool) : (rdI 1 (b0 :: r, bad)).1 = IntKind.i8.wrap (b0.toNat : Int) := by
  have h0 : b0.toNat < 256 := b0.toNat_lt
  simp only [rdI, rdN, List.length_cons, if_neg (show ¬ r.length + 1 < 1 by omega), List.take_succ_cons, List.take_zero, be, List.foldl_cons, List.foldl_nil, sgn, wrap_i8']
  split <;> split <;> omega
theorem n8_val (b0 : UInt8) (r : Bs) (bad : Bool) : (rdN 1 (b0 :: r, bad)).1 = b0.toNat := by
  simp only [rdN, List.length_cons, if_neg (show ¬ r.length + 1 < 1 by omega), List.take_succ_cons, List.take_zero, be, List.foldl_cons, List.foldl_nil]
  omega
set_option maxHeartbeats 400000 in
set_option maxRecDepth 100000 in
theorem int8_any {G : Nat → Prop} {b : Nat} {s : St} {w : World} (h : Rd w b G s) (hG : There G w) (hb : ¬ G b) :
    Calls Tryd.prog 67 #[.pointer (some ⟨b, 0, none⟩)] w fun e w' => e = .returned (.int .i8 (rdI 1 s).1) ∧ Rd w' b G (rdI 1 s).2 ∧ Keep [b] w w' := by
  obtain ⟨src, bad⟩ := s
  obtain ⟨v, hh, hr, hz⟩ := h
  obtain ⟨ao, cap, rfl⟩ := RS.shape hr
  have c0 : w.cell? ⟨b, 0, none⟩ = some (.slice ao src.length cap) := cellOf hh 0 _ rfl
  have c1 : w.cell? ⟨b, 1, none⟩ = some (.bool bad) := cellOf hh 1 _ rfl
  have f0 := freeOf hh 0
  have f1 := freeOf hh 1
  go_enter Tryd.func67, Tryd.ntmps67
  have HH : Hid _ := hh
  clear hh
  cases src with
  | nil =>
    go_wp2_with fail
    go_ret
    exact ⟨by simp [rdI, rdN, sgn], ⟨.slice none 0 0, by simp only [rdI, rdN, List.length_nil, Nat.lt_one_iff, if_true]; exact heap_set (heap_set HH.out _) _, by simp only [rdI, rdN, List.length_nil, Nat.lt_one_iff, if_true]; exact RB.nil _ _, fun _ => rfl⟩, ((Keep.refl _ _).setCell (.inl (by simp)) _).setCell (.inl (by simp)) _⟩
  | cons b0 r =>
    obtain ⟨bs, o, rfl, hGb, -, hcap, hc⟩ := hr.spot (by simp)
    have g0 : w.cell? ⟨bs, o, none⟩ = some (.int .u8 b0.toNat) := hc 0 (by simp)
    clear hc
    by_cases h1 : cap = 1
    · subst h1
      go_wp2_with fail
      go_ret
      obtain ⟨q1, q2⟩ := rd_done (k := 1) (b := b) (v := .slice (some ⟨bs, o, none⟩) r.length 0) hG hb hr hz (by simp) (Keep.refl _ _) HH.out (.inl ⟨by simp at hcap ⊢; omega, by simp at hcap ⊢; omega⟩)
      exact ⟨by simp [i8_val], q1, q2⟩
    · go_wp2_with fail
      go_ret
      obtain ⟨q1, q2⟩ := rd_done (k := 1) (b := b) (v := .slice (some ⟨bs, o + 1, none⟩) r.length (cap - 1)) hG hb hr hz (by simp) (Keep.refl _ _) HH.out (.inr (by simp))
      exact ⟨by simp [i8_val], q1, q2⟩
set_option maxHeartbeats 400000 in
set_option maxRecDepth 100000 in
theorem bool_any {G : Nat → Prop} {b : Nat} {s : St} {w : World} (h : Rd w b G s) (hG : There G w) (hb : ¬ G b) :
    Calls Tryd.prog 66 #[.pointer (some ⟨b, 0, none⟩)] w fun e w' => e = .returned (.bool (rdBool s).1) ∧ Rd w' b G (rdBool s).2 ∧ Keep [b] w w' := by
  obtain ⟨src, bad⟩ := s
  obtain ⟨v, hh, hr, hz⟩ := h
  obtain ⟨ao, cap, rfl⟩ := RS.shape hr
  have c0 : w.cell? ⟨b, 0, none⟩ = some (.slice ao src.length cap) := cellOf hh 0 _ rfl
  have c1 : w.cell? ⟨b, 1, none⟩ = some (.bool bad) := cellOf hh 1 _ rfl
  have f0 := freeOf hh 0
  have f1 := freeOf hh 1
  go_enter Tryd.func66, Tryd.ntmps66
  have HH : Hid _ := hh
  clear hh
  cases src with
  | nil =>
    go_wp2_with fail
    go_ret
    exact ⟨by simp [rdBool, rdN], ⟨.slice none 0 0, by simp only [rdBool, rdN, List.length_nil, Nat.lt_one_iff, if_true]; exact heap_set (heap_set HH.out _) _, by simp only [rdBool, rdN, List.length_nil, Nat.lt_one_iff, if_true]; exact RB.nil _ _, fun _ => rfl⟩, ((Keep.refl _ _).setCell (.inl (by simp)) _).setCell (.inl (by simp)) _⟩
  | cons b0 r =>
    obtain ⟨bs, o, rfl, hGb, -, hcap, hc⟩ := hr.spot (by simp)
    have g0 : w.cell? ⟨bs, o, none⟩ = some (.int .u8 b0.toNat) := hc 0 (by simp)
    clear hc
    by_cases h1 : cap = 1
    · subst h1
      go_wp2_with fail
      go_ret
      obtain ⟨q1, q2⟩ := rd_done (k := 1) (b := b) (v := .slice (some ⟨bs, o, none⟩) r.length 0) hG hb hr hz (by simp) (Keep.refl _ _) HH.out (.inl ⟨by simp at hcap ⊢; omega, by simp at hcap ⊢; omega⟩)
      exact ⟨by simp [rdBool, n8_val], q1, q2⟩
    · go_wp2_with fail
      go_ret
      obtain ⟨q1, q2⟩ := rd_done (k := 1) (b := b) (v := .slice (some ⟨bs, o + 1, none⟩) r.length (cap - 1)) hG hb hr hz (by simp) (Keep.refl _ _) HH.out (.inr (by simp))
      exact ⟨by simp [rdBool, n8_val], q1, q2⟩
end Go.Proofs.YtdklogmmfnddiaaDoor
/-
  Reader.Complete.
-/
namespace Go.Proofs.YtdklogmmfnddiaaDoor
open Go.ChangeShapes Go.WideShapes Go.ChangeAt Go.RowKit

/-- the package's errors lie where they were laid -/
def Gl (w : World) (p : Addr) : Prop := w.cell? ⟨1, 0, none⟩ = some (.iface 157 (.pointer (some p)))
theorem Gl.keep {A : List Nat} {w w' : World} {p : Addr} (h : Gl w p) (hk : Keep A w w') (hA : 1 ∉ A) : Gl w' p :=
  (hk.cell (World.block_lt_of_cell? w _ h) hA).trans h
/-- what a reading answers -/
def errV (p : Addr) (bad : Bool) : Value := if bad then .iface 157 (.pointer (some p)) else .nilIface
theorem errV_true (p : Addr) : errV p true = .iface 157 (.pointer (some p)) := rfl
theorem errV_false (p : Addr) : errV p false = .nilIface := rfl
set_option maxHeartbeats 400000 in
set_option maxRecDepth 100000 in
theorem complete_any {G : Nat → Prop} {b : Nat} {p : Addr} {s : St} {w : World} (h : Rd w b G s) (hg : Gl w p) :
    Calls Tryd.prog 60 #[.pointer (some ⟨b, 0, none⟩)] w fun e w' => e = .returned (errV p s.2) ∧ Keep [] w w' := by
  obtain ⟨src, bad⟩ := s
  obtain ⟨v, hh, hr, -⟩ := h
  have c1 : w.cell? ⟨b, 1, none⟩ = some (.bool bad) := cellOf hh 1 _ rfl
  unfold Gl at hg
  go_enter Tryd.func60, Tryd.ntmps60
  cases bad
  · go_wp2
    go_ret
    exact ⟨rfl, Keep.refl _ _⟩
  · go_wp2
    go_ret
    exact ⟨rfl, Keep.refl _ _⟩
end Go.Proofs.YtdklogmmfnddiaaDoor
/-
  Reader.Span.
-/
namespace Go.Proofs.YtdklogmmfnddiaaDoor
open Go.ChangeShapes Go.WideShapes Go.ChangeAt Go.RowKit

def rdSpan (n : Int) (s : St) : Bs × St := if (s.1.length : Int) < n ∨ n < 0 then ([], ([], true)) else (s.1.take n.toNat, (s.1.drop n.toNat, s.2))
theorem RB.cut {w : World} {G : Nat → Prop} {b o n cap : Nat} {l : Bs} (h : RB w G (.slice (some ⟨b, o, none⟩) n cap) l) (m : Nat) (hm : m ≤ l.length) : RB w G (.slice (some ⟨b, o, none⟩) m m) (l.take m) := by
  obtain ⟨ao', cap', e, h1, h2, h3⟩ := h
  cases e
  have hl : (l.take m).length = m := by simp; omega
  refine ⟨_, m, by rw [hl], by omega, (fun h => by cases h), fun a ha => ?_⟩
  cases ha
  refine ⟨fun _ => rfl, fun i hi => ?_⟩
  have hi' : i < (l.map bv).length := by simp at hi ⊢; omega
  obtain ⟨q1, q2⟩ := (h3 _ rfl).2 i hi'
  refine ⟨q1, ?_⟩
  rw [q2]
  simp
set_option maxHeartbeats 400000 in
set_option maxRecDepth 100000 in
theorem span_any {G : Nat → Prop} {b : Nat} {s : St} {w : World} {n : Int} (h : Rd w b G s) (hb : ¬ G b) :
    Calls Tryd.prog 74 #[.pointer (some ⟨b, 0, none⟩), .int .i64 n] w fun e w' => ∃ v, e = .returned v ∧ RB w' G v (rdSpan n s).1 ∧ Rd w' b G (rdSpan n s).2 ∧ Keep [b] w w' := by
  obtain ⟨src, bad⟩ := s
  obtain ⟨v, hh, hr, hz⟩ := h
  obtain ⟨ao, cap, rfl⟩ := RS.shape hr
  have c0 : w.cell? ⟨b, 0, none⟩ = some (.slice ao src.length cap) := cellOf hh 0 _ rfl
  have c1 : w.cell? ⟨b, 1, none⟩ = some (.bool bad) := cellOf hh 1 _ rfl
  have f0 := freeOf hh 0
  have f1 := freeOf hh 1
  have HH : Hid _ := hh
  clear hh
  go_enter Tryd.func74, Tryd.ntmps74
  have hcap : src.length ≤ cap := by
    obtain ⟨_, _, e, h, _⟩ := hr
    cases e
    exact h
  by_cases h1 : (src.length : Int) < n
  · go_wp2_with fail
    go_ret
    exact ⟨_, rfl, by simp only [rdSpan, h1, true_or, if_true]; exact RB.nil _ _, ⟨.slice none 0 0, by simp only [rdSpan, h1, true_or, if_true]; exact heap_set (heap_set HH.out _) _, by simp only [rdSpan, h1, true_or, if_true]; exact RB.nil _ _, fun _ => rfl⟩, ((Keep.refl _ _).setCell (.inl (by simp)) _).setCell (.inl (by simp)) _⟩
  by_cases h2 : n < 0
  · go_wp2_with fail
    go_ret
    exact ⟨_, rfl, by simp only [rdSpan, h2, or_true, if_true]; exact RB.nil _ _, ⟨.slice none 0 0, by simp only [rdSpan, h2, or_true, if_true]; exact heap_set (heap_set HH.out _) _, by simp only [rdSpan, h2, or_true, if_true]; exact RB.nil _ _, fun _ => rfl⟩, ((Keep.refl _ _).setCell (.inl (by simp)) _).setCell (.inl (by simp)) _⟩
  obtain ⟨m, rfl⟩ := Int.eq_ofNat_of_zero_le (Int.not_lt.1 h2)
  have h3 : m ≤ src.length := by omega
  have e : rdSpan (m : Int) (src, bad) = (src.take m, (src.drop m, bad)) := by
    unfold rdSpan
    rw [if_neg (by simp only; omega)]
    simp
  have E : Hid _ := e
  clear e h1 h2
  cases ao with
  | none =>
    have hn : src = [] ∧ cap = 0 := by
      obtain ⟨_, _, e, _, h, _⟩ := hr
      cases e
      exact ⟨List.eq_nil_of_length_eq_zero (h rfl).1, (h rfl).2.1⟩
    obtain ⟨rfl, rfl⟩ := hn
    obtain rfl : m = 0 := by simpa using h3
    go_wp2_with fail
    go_ret
    have e := E.out
    simp only [List.take_nil, List.drop_nil] at e
    exact ⟨_, rfl, by rw [show rdSpan 0 ([], bad) = _ from e]; exact RB.nil _ _, ⟨.slice none 0 0, by rw [show rdSpan 0 ([], bad) = _ from e]; exact heap_set HH.out _, by rw [show rdSpan 0 ([], bad) = _ from e]; exact RB.nil _ _, fun _ => rfl⟩, (Keep.refl _ _).setCell (.inl (by simp)) _⟩
  | some a =>
    obtain ⟨bs, o, sp⟩ := a
    have hsp : 0 < src.length → sp = none := by
      obtain ⟨_, _, e, _, _, h⟩ := hr
      cases e
      exact fun h0 => (h _ rfl).1 (by simpa using h0)
    cases sp with
    | some s =>
      have h0 : src = [] := List.eq_nil_of_length_eq_zero (Nat.eq_zero_of_not_pos fun h0 => by cases hsp h0)
      subst h0
      obtain rfl : m = 0 := by simpa using h3
      have e := E.out
      simp only [List.take_nil, List.drop_nil] at e
      have e2 : Hid _ := e
      clear e
      by_cases hc : 0 = cap
      · subst hc
        go_wp2_with fail
        refine bodyPost_ret (v := .slice (some ⟨bs, o, some s⟩) 0 0) (by simp [results, Tryd.results74, go_sem]) rfl ⟨_, rfl, ?_, ⟨.slice (some ⟨bs, o, some s⟩) 0 0, ?_, ?_, fun e => absurd (hz.out (by rw [show rdSpan 0 ([], bad) = _ from e2.out] at e; exact e)) (by simp)⟩, (Keep.refl _ _).setCell (.inl (by simp)) _⟩
        · rw [show rdSpan 0 ([], bad) = _ from e2.out]; exact RB.empty _ _ _ _
        · rw [show rdSpan 0 ([], bad) = _ from e2.out]; exact heap_set HH.out _
        · rw [show rdSpan 0 ([], bad) = _ from e2.out]; exact RB.empty _ _ _ _
      · go_wp2_with fail
        refine bodyPost_ret (v := .slice (some ⟨bs, o, some s⟩) 0 0) (by simp [results, Tryd.results74, go_sem]) rfl ⟨_, rfl, ?_, ⟨.slice (some ⟨bs, o, some s⟩) 0 cap, ?_, ?_, fun e => absurd (hz.out (by rw [show rdSpan 0 ([], bad) = _ from e2.out] at e; exact e)) (by simp)⟩, (Keep.refl _ _).setCell (.inl (by simp)) _⟩
        · rw [show rdSpan 0 ([], bad) = _ from e2.out]; exact RB.empty _ _ _ _
        · rw [show rdSpan 0 ([], bad) = _ from e2.out]; exact heap_set HH.out _
        · rw [show rdSpan 0 ([], bad) = _ from e2.out]; exact RB.empty _ _ _ _
    | none =>
    have hs : ∀ x, SameOn G w (w.setCell ⟨b, 0, none⟩ x) := fun x k hk => Below.heap_setCell _ _ _ _ (fun e => hb (by simp only at e; rw [← e]; exact hk))
    by_cases hc : m = cap
    · subst hc
      have hl : src.drop m = [] := List.drop_eq_nil_of_le hcap
      have hl2 : src.length - m = 0 := by omega
      go_wp2_with fail
      refine bodyPost_ret (v := .slice (some ⟨bs, o, none⟩) m m) (by simp [results, Tryd.results74, go_sem]) rfl ⟨_, rfl, ?_, ⟨.slice (some ⟨bs, o, none⟩) 0 0, ?_, ?_, fun e => absurd (hz.out (by rw [E.out] at e; exact e)) (by simp)⟩, (Keep.refl _ _).setCell (.inl (by simp)) _⟩
      · rw [E.out]; exact (hr.cut m h3).keepF (hs _) (fun _ h => h)
      · rw [E.out]; exact heap_set HH.out _
      · rw [E.out]; simp only [hl]; exact RB.none0 _ _ _ _ _
    · go_wp2_with fail
      refine bodyPost_ret (v := .slice (some ⟨bs, o, none⟩) m m) (by simp [results, Tryd.results74, go_sem]) rfl ⟨_, rfl, ?_, ⟨.slice (some ⟨bs, o + m, none⟩) (src.length - m) (cap - m), ?_, ?_, fun e => absurd (hz.out (by rw [E.out] at e; exact e)) (by simp)⟩, (Keep.refl _ _).setCell (.inl (by simp)) _⟩
      · rw [E.out]; exact (hr.cut m h3).keepF (hs _) (fun _ h => h)
      · rw [E.out]; exact heap_set HH.out _
      · rw [E.out]; exact (hr.drop m _ _ h3 rfl rfl).keepF (hs _) (fun _ h => h)
end Go.Proofs.YtdklogmmfnddiaaDoor
