/-
  Reader.CompactNullableBytes, with what is nil and what is not.
-/
import Derived.Test.YtbddchglganmdaaDoorMB7
import Derived.Test.YtbddchglganmdaaDoorMB5
import Derived.Test.YtbddchglganmdaaDoorMB9
import Derived.Test.YtbddchglganmdaaDoorMB8
namespace Go.Proofs.YtbddchglganmdaaDoor
open Go.ChangeShapes Go.WideShapes Go.ChangeAt Go.RowKit

/-- the reader's octets are no nil slice -/
def SrcSome (w : World) (b : Nat) : Prop := ∃ a n c bd, w.heap[b]? = some (.cells #[.slice (some a) n c, bd] 173 (0, 0))
set_option maxHeartbeats 400000 in
set_option maxRecDepth 100000 in
theorem rduv_some {G : Nat → Prop} {b : Nat} {s : St} {w : World} (h : Rd w b G s) (_hG : There G w) (hb : ¬ G b) :
    Calls Tryd.prog 217 #[.pointer (some ⟨b, 0, none⟩)] w fun e w' => e = .returned (.int .u32 ((rdUv s).1 : Int)) ∧ Rd w' b G (rdUv s).2 ∧ Keep [b] w w' ∧ ((rdUv s).2.2 = false → SrcSome w' b) := by
  obtain ⟨src, bad⟩ := s
  obtain ⟨v, hh, hr⟩ := h
  obtain ⟨ao, cap, rfl⟩ := RS.shape hr
  have c0 : w.cell? ⟨b, 0, none⟩ = some (.slice ao src.length cap) := cellOf hh 0 _ rfl
  have c1 : w.cell? ⟨b, 1, none⟩ = some (.bool bad) := cellOf hh 1 _ rfl
  have f0 := freeOf hh 0
  have f1 := freeOf hh 1
  obtain ⟨hp1, hp2, hp3⟩ := uvP_lt src
  have UV := uvarint_any hr
  go_enter Tryd.func217, Tryd.ntmps217
  have HH : Hid _ := hh
  clear hh
  generalize hu : uvP src = u at *
  obtain ⟨val, n⟩ := u
  have HU : Hid _ := hu
  simp only at hp1 hp2 hp3 UV
  by_cases hn : n ≤ 0
  · go_wp2_with (go_at_call 240; refine UV.mono ?_; rintro e w1 ⟨rfl, rfl⟩)
    go_ret
    have e : rdUv (src, bad) = (0, ([], true)) := by unfold rdUv; simp only [HU.out, hn, if_true]
    exact ⟨by rw [e]; rfl, ⟨.slice none 0 0, by rw [e]; exact heap_set (heap_set HH.out _) _, by rw [e]; exact RB.nil _ _⟩, ((Keep.refl _ _).setCell (.inl (by simp)) _).setCell (.inl (by simp)) _, fun h => by rw [e] at h; cases h⟩
  · obtain ⟨m, rfl⟩ := Int.eq_ofNat_of_zero_le (show 0 ≤ n by omega)
    have e : rdUv (src, bad) = (val, (src.drop m, bad)) := by unfold rdUv; simp only [HU.out, if_neg hn]; simp
    have hpos : 0 < src.length := by omega
    obtain ⟨bs, o, rfl, hGb, -, hcap, -⟩ := hr.spot hpos
    have E : Hid _ := e
    clear e
    have hs : ∀ x, SameOn G w (w.setCell ⟨b, 0, none⟩ x) := fun x k hk => Below.heap_setCell _ _ _ _ (fun e => hb (by simp only at e; rw [← e]; exact hk))
    by_cases hm : m = cap
    · subst hm
      go_wp2_with (go_at_call 240; refine UV.mono ?_; rintro e w1 ⟨rfl, rfl⟩)
      refine bodyPost_ret (v := .int .u32 (val : Int)) (by simp [results, Tryd.results217, go_sem]) rfl ⟨by rw [E.out], ⟨.slice (some ⟨bs, o, none⟩) 0 0, ?_, ?_⟩, (Keep.refl _ _).setCell (.inl (by simp)) _, fun _ => ⟨_, _, _, _, heap_set HH.out _⟩⟩
      · rw [E.out]
        have hl0 : src.length - m = 0 := by omega
        exact heap_set HH.out _
      · rw [E.out]
        have hl : src.drop m = [] := List.drop_eq_nil_of_le (by omega)
        simp only [hl]
        exact RB.none0 _ _ _ _ _
    · go_wp2_with (go_at_call 240; refine UV.mono ?_; rintro e w1 ⟨rfl, rfl⟩)
      refine bodyPost_ret (v := .int .u32 (val : Int)) (by simp [results, Tryd.results217, go_sem]) rfl ⟨by rw [E.out], ⟨.slice (some ⟨bs, o + m, none⟩) (src.length - m) (cap - m), ?_, ?_⟩, (Keep.refl _ _).setCell (.inl (by simp)) _, fun _ => ⟨_, _, _, _, heap_set HH.out _⟩⟩
      · rw [E.out]
        exact heap_set HH.out _
      · rw [E.out]
        exact (hr.drop m _ _ (by omega) rfl rfl).keepF (hs _) (fun _ h => h)
set_option maxHeartbeats 400000 in
set_option maxRecDepth 100000 in
theorem span_some {G : Nat → Prop} {b : Nat} {s : St} {w : World} {n : Int} (h : Rd w b G s) (hb : ¬ G b) (hsm : s.2 = false → SrcSome w b) :
    Calls Tryd.prog 220 #[.pointer (some ⟨b, 0, none⟩), .int .i64 n] w fun e w' => ∃ v, e = .returned v ∧ RB w' G v (rdSpan n s).1 ∧ Rd w' b G (rdSpan n s).2 ∧ Keep [b] w w' ∧ ((rdSpan n s).2.2 = false → v ≠ .slice none 0 0) := by
  obtain ⟨src, bad⟩ := s
  obtain ⟨v, hh, hr⟩ := h
  obtain ⟨ao, cap, rfl⟩ := RS.shape hr
  have c0 : w.cell? ⟨b, 0, none⟩ = some (.slice ao src.length cap) := cellOf hh 0 _ rfl
  have c1 : w.cell? ⟨b, 1, none⟩ = some (.bool bad) := cellOf hh 1 _ rfl
  have f0 := freeOf hh 0
  have f1 := freeOf hh 1
  have HH : Hid _ := hh
  clear hh
  go_enter Tryd.func220, Tryd.ntmps220
  have hcap : src.length ≤ cap := by
    obtain ⟨_, _, e, h, _⟩ := hr
    cases e
    exact h
  by_cases h1 : (src.length : Int) < n
  · go_wp2_with fail
    go_ret
    exact ⟨_, rfl, by simp only [rdSpan, h1, true_or, if_true]; exact RB.nil _ _, ⟨.slice none 0 0, by simp only [rdSpan, h1, true_or, if_true]; exact heap_set (heap_set HH.out _) _, by simp only [rdSpan, h1, true_or, if_true]; exact RB.nil _ _⟩, ((Keep.refl _ _).setCell (.inl (by simp)) _).setCell (.inl (by simp)) _, fun h => by simp [rdSpan, h1] at h⟩
  by_cases h2 : n < 0
  · go_wp2_with fail
    go_ret
    exact ⟨_, rfl, by simp only [rdSpan, h2, or_true, if_true]; exact RB.nil _ _, ⟨.slice none 0 0, by simp only [rdSpan, h2, or_true, if_true]; exact heap_set (heap_set HH.out _) _, by simp only [rdSpan, h2, or_true, if_true]; exact RB.nil _ _⟩, ((Keep.refl _ _).setCell (.inl (by simp)) _).setCell (.inl (by simp)) _, fun h => by simp [rdSpan, h2] at h⟩
  obtain ⟨m, rfl⟩ := Int.eq_ofNat_of_zero_le (Int.not_lt.1 h2)
  have h3 : m ≤ src.length := by omega
  have e : rdSpan (m : Int) (src, bad) = (src.take m, (src.drop m, bad)) := by
    unfold rdSpan
    rw [if_neg (by simp only; omega)]
    simp
  have E : Hid _ := e
  clear e h1 h2
  cases ao with
  | none =>
    have hn : src = [] ∧ cap = 0 := by
      obtain ⟨_, _, e, _, h, _⟩ := hr
      cases e
      exact ⟨List.eq_nil_of_length_eq_zero (h rfl).1, (h rfl).2.1⟩
    obtain ⟨rfl, rfl⟩ := hn
    obtain rfl : m = 0 := by simpa using h3
    go_wp2_with fail
    go_ret
    have e := E.out
    simp only [List.take_nil, List.drop_nil] at e
    exact ⟨_, rfl, by rw [show rdSpan 0 ([], bad) = _ from e]; exact RB.nil _ _, ⟨.slice none 0 0, by rw [show rdSpan 0 ([], bad) = _ from e]; exact heap_set HH.out _, by rw [show rdSpan 0 ([], bad) = _ from e]; exact RB.nil _ _⟩, (Keep.refl _ _).setCell (.inl (by simp)) _, fun h => by
      rw [show rdSpan 0 ([], bad) = _ from e] at h
      obtain ⟨a, n, c, bd, h4⟩ := hsm h
      rw [HH.out] at h4
      cases h4⟩
  | some a =>
    obtain ⟨bs, o, sp⟩ := a
    have hsp : 0 < src.length → sp = none := by
      obtain ⟨_, _, e, _, _, h⟩ := hr
      cases e
      exact fun h0 => (h _ rfl).1 (by simpa using h0)
    cases sp with
    | some s =>
      have h0 : src = [] := List.eq_nil_of_length_eq_zero (Nat.eq_zero_of_not_pos fun h0 => by cases hsp h0)
      subst h0
      obtain rfl : m = 0 := by simpa using h3
      have e := E.out
      simp only [List.take_nil, List.drop_nil] at e
      have e2 : Hid _ := e
      clear e
      by_cases hc : 0 = cap
      · subst hc
        go_wp2_with fail
        refine bodyPost_ret (v := .slice (some ⟨bs, o, some s⟩) 0 0) (by simp [results, Tryd.results220, go_sem]) rfl ⟨_, rfl, ?_, ⟨.slice (some ⟨bs, o, some s⟩) 0 0, ?_, ?_⟩, (Keep.refl _ _).setCell (.inl (by simp)) _, fun _ h => by cases h⟩
        · rw [show rdSpan 0 ([], bad) = _ from e2.out]; exact RB.empty _ _ _ _
        · rw [show rdSpan 0 ([], bad) = _ from e2.out]; exact heap_set HH.out _
        · rw [show rdSpan 0 ([], bad) = _ from e2.out]; exact RB.empty _ _ _ _
      · go_wp2_with fail
        refine bodyPost_ret (v := .slice (some ⟨bs, o, some s⟩) 0 0) (by simp [results, Tryd.results220, go_sem]) rfl ⟨_, rfl, ?_, ⟨.slice (some ⟨bs, o, some s⟩) 0 cap, ?_, ?_⟩, (Keep.refl _ _).setCell (.inl (by simp)) _, fun _ h => by cases h⟩
        · rw [show rdSpan 0 ([], bad) = _ from e2.out]; exact RB.empty _ _ _ _
        · rw [show rdSpan 0 ([], bad) = _ from e2.out]; exact heap_set HH.out _
        · rw [show rdSpan 0 ([], bad) = _ from e2.out]; exact RB.empty _ _ _ _
    | none =>
    have hs : ∀ x, SameOn G w (w.setCell ⟨b, 0, none⟩ x) := fun x k hk => Below.heap_setCell _ _ _ _ (fun e => hb (by simp only at e; rw [← e]; exact hk))
    by_cases hc : m = cap
    · subst hc
      have hl : src.drop m = [] := List.drop_eq_nil_of_le hcap
      have hl2 : src.length - m = 0 := by omega
      go_wp2_with fail
      refine bodyPost_ret (v := .slice (some ⟨bs, o, none⟩) m m) (by simp [results, Tryd.results220, go_sem]) rfl ⟨_, rfl, ?_, ⟨.slice (some ⟨bs, o, none⟩) 0 0, ?_, ?_⟩, (Keep.refl _ _).setCell (.inl (by simp)) _, fun _ h => by cases h⟩
      · rw [E.out]; exact (hr.cut m h3).keepF (hs _) (fun _ h => h)
      · rw [E.out]; exact heap_set HH.out _
      · rw [E.out]; simp only [hl]; exact RB.none0 _ _ _ _ _
    · go_wp2_with fail
      refine bodyPost_ret (v := .slice (some ⟨bs, o, none⟩) m m) (by simp [results, Tryd.results220, go_sem]) rfl ⟨_, rfl, ?_, ⟨.slice (some ⟨bs, o + m, none⟩) (src.length - m) (cap - m), ?_, ?_⟩, (Keep.refl _ _).setCell (.inl (by simp)) _, fun _ h => by cases h⟩
      · rw [E.out]; exact (hr.cut m h3).keepF (hs _) (fun _ h => h)
      · rw [E.out]; exact heap_set HH.out _
      · rw [E.out]; exact (hr.drop m _ _ h3 rfl rfl).keepF (hs _) (fun _ h => h)
def rdCNB (s : St) : Option Bs × St := if (rdUv s).1 = 0 then (none, (rdUv s).2) else (some (rdSpan ((rdUv s).1 - 1) (rdUv s).2).1, (rdSpan ((rdUv s).1 - 1) (rdUv s).2).2)
/-- octets, or nil -/
def OS (w : World) (G : Nat → Prop) (v : Value) (o : Option Bs) : Prop := RB w G v (o.getD []) ∧ (v = .slice none 0 0 ↔ o = none)
end Go.Proofs.YtbddchglganmdaaDoor
/-
  HOW FAR A MESSAGE HAS BEEN READ: the reader, the message's block, and what stays.
-/
namespace Go.Proofs.YtbddchglganmdaaDoor
open Go.ChangeShapes Go.WideShapes Go.ChangeAt Go.RowKit

theorem World.heap_lt {w : World} {b : Nat} {o : Obj} (h : w.heap[b]? = some o) : b < w.heap.size := (Array.getElem?_eq_some_iff.1 h).1
/-- the call began in w; the reader's block is new -/
structure RdSt (w U : World) (b rb : Nat) (G : Nat → Prop) (s : St) (arr : Array Value) (t : TypeId) : Prop where
  rd : Rd U rb G s
  blk : U.heap[b]? = some (.cells arr t (0, 0))
  keep : Keep [b] w U
  there : There G w
  nb : ¬ G b
  lt : b < w.heap.size
  new : w.heap.size ≤ rb
namespace RdSt
variable {w U U' : World} {b rb j : Nat} {G : Nat → Prop} {s s' : St} {arr : Array Value} {t : TypeId} {v : Value}
theorem hG (h : RdSt w U b rb G s arr t) : There G U := h.there.mono h.keep.size
theorem nrb (h : RdSt w U b rb G s arr t) : ¬ G rb := fun e => by have := h.there _ e; have := h.new; omega
theorem call (h : RdSt w U b rb G s arr t) (r : Rd U' rb G s') (k : Keep [rb] U U') : RdSt w U' b rb G s' arr t := by
  have hn := h.new
  have hl := h.lt
  have hs := h.keep.size
  refine ⟨r, (k.block b (by omega) (by simp; omega)).trans h.blk, ?_, h.there, h.nb, hl, hn⟩
  exact ((h.keep.weaken (B := [b, rb]) (by simp)).trans (k.weaken (by simp))).fresh (by simp; omega)
theorem calm (h : RdSt w U b rb G s arr t) (k : Keep [] U U') : RdSt w U' b rb G s arr t := by
  have hl := h.lt
  have hs := h.keep.size
  exact ⟨h.rd.keepW h.hG h.rd.lt' k, (k.block b (by omega) (by simp)).trans h.blk, h.keep.trans (k.weaken (by simp)), h.there, h.nb, hl, h.new⟩
theorem set (h : RdSt w U b rb G s arr t) (j : Nat) (v : Value) : RdSt w (U.setCell ⟨b, j, none⟩ v) b rb G s (arr.setIfInBounds j v) t := by
  have hn := h.new
  have hl := h.lt
  have k : Keep [b] U (U.setCell ⟨b, j, none⟩ v) := (Keep.refl _ _).setCell (.inl (by simp)) _
  refine ⟨h.rd.keepA h.hG h.rd.lt' k (by intro i hi; simp at hi; subst hi; exact h.nb) (by simp; omega), heap_set h.blk v, h.keep.trans k, h.there, h.nb, hl, hn⟩
theorem cell (h : RdSt w U b rb G s arr t) (j : Nat) (v : Value) (hv : arr[j]? = some v) : U.cell? ⟨b, j, none⟩ = some v := cellOf h.blk j v hv
theorem free (h : RdSt w U b rb G s arr t) (j : Nat) : U.frozen? ⟨b, j, none⟩ = false := freeOf h.blk j
theorem mp {W Z : World} {v : Value} {l : List Tg} (h : RdSt w U b rb G s arr t) (m : MP W (New G U W) v l) (k : Keep [b] W Z) : MP Z (New G w Z) v l := by
  have hl := h.lt
  have hu := h.keep.size
  have hz := k.size
  refine m.keepF (fun i hi => k.block i hi.2 ?_) (fun i hi => ⟨hi.1.imp id (fun e => by omega), by have := hi.2; omega⟩)
  simp
  rintro rfl
  rcases hi.1 with e | e
  · exact h.nb e
  · omega
theorem ps {W Z : World} {v : Value} {o : Option Bs} (h : RdSt w U b rb G s arr t) (m : PS W (fun k => U.heap.size ≤ k ∧ k < W.heap.size) v o) (k : Keep [b, rb] W Z) : PS Z (New G w Z) v o := by
  have hl := h.lt
  have hu := h.keep.size
  have hz := k.size
  have hr := h.rd.lt'
  exact m.keepF (fun i hi => k.block i hi.2 (by have := hi.1; simp; omega)) (fun i hi => ⟨.inr (by have := hi.1; omega), by have := hi.2; omega⟩)
end RdSt
theorem PS.shape {w : World} {G : Nat → Prop} {v : Value} {o : Option Bs} (h : PS w G v o) : ∃ a, v = .pointer a := by
  rcases h with ⟨rfl, _⟩ | ⟨k, l, rfl, _⟩
  · exact ⟨_, rfl⟩
  · exact ⟨_, rfl⟩
end Go.Proofs.YtbddchglganmdaaDoor
/-
  How many tags may be read of so many octets, and how long they may be. Plain lemmas.
-/
namespace Go.Proofs.YtbddchglganmdaaDoor

theorem rdUv_len (s : St) : (rdUv s).2.1.length ≤ s.1.length ∧ ((rdUv s).1 ≠ 0 → (rdUv s).2.1.length + 1 ≤ s.1.length) := by
  have h := uvP_lt s.1
  unfold rdUv
  split
  · simp
  · rename_i hn
    simp only [List.length_drop]
    omega
theorem rdSpan_len (n : Int) (s : St) : (rdSpan n s).1.length ≤ s.1.length ∧ (rdSpan n s).2.1.length ≤ s.1.length := by
  unfold rdSpan
  split
  · simp
  · simp only [List.length_take, List.length_drop]
    omega
theorem insK_perm {α : Type} (x : Nat × α) : ∀ l : List (Nat × α), (insK x l).Perm (x :: l)
  | [] => List.Perm.refl _
  | y :: r => by
    unfold insK
    split
    · exact List.Perm.refl _
    · exact ((insK_perm x r).cons y).trans (List.Perm.swap x y r)
/-- the tags but for that of the number nought -/
def n0 (l : List Tg) : Nat := (l.filter fun x => decide (x.1 ≠ 0)).length
theorem n0_put (l : List Tg) (k : Nat) (x : Bs) : n0 (putK l k x) ≤ n0 l + (if k = 0 then 0 else 1) := by
  unfold n0 putK
  have h := ((insK_perm (k, x) (l.filter fun y => decide (y.1 ≠ k))).filter fun x => decide (x.1 ≠ 0)).length_eq
  rw [h, List.filter_cons]
  have hs : ((l.filter fun y => decide (y.1 ≠ k)).filter fun x => decide (x.1 ≠ 0)).length ≤ (l.filter fun x => decide (x.1 ≠ 0)).length := ((List.filter_sublist).filter _).length_le
  by_cases hk : k = 0
  · rw [if_neg (by simp [hk]), if_pos hk]
    exact Nat.le_trans hs (Nat.le_add_right _ _)
  · rw [if_pos (by simp [hk]), if_neg hk, List.length_cons]
    exact Nat.succ_le_succ hs
theorem n0_rising : ∀ {l : List Tg}, Rising l → l.length ≤ n0 l + 1
  | [], _ => by simp
  | y :: r, h => by
    obtain ⟨h1, _⟩ := List.pairwise_cons.1 h
    have e : r.filter (fun x => decide (x.1 ≠ 0)) = r := List.filter_eq_self.2 fun x hx => by have := h1 x hx; simp; omega
    unfold n0
    rw [List.filter_cons, e]
    split
    · simp
    · simp
theorem rdTagsN_len (B : Nat) : ∀ (n : Nat) (s : St) (l : List Tg), Rising l → (∀ x ∈ l, x.2.length ≤ B) → s.1.length ≤ B →
    n0 (rdTagsN n s l).1 ≤ n0 l + s.1.length ∧ Rising (rdTagsN n s l).1 ∧ ∀ x ∈ (rdTagsN n s l).1, x.2.length ≤ B
  | 0, s, l, h1, h2, _ => ⟨by simp [rdTagsN], h1, h2⟩
  | n + 1, s, l, h1, h2, h3 => by
    have a := rdUv_len s
    have b := rdUv_len (rdUv s).2
    have c := rdSpan_len ((rdUv (rdUv s).2).1 : Int) (rdUv (rdUv s).2).2
    have p := n0_put l (rdUv s).1 (rdSpan ((rdUv (rdUv s).2).1 : Int) (rdUv (rdUv s).2).2).1
    have ih := rdTagsN_len B n (rdSpan ((rdUv (rdUv s).2).1 : Int) (rdUv (rdUv s).2).2).2 (putK l (rdUv s).1 (rdSpan ((rdUv (rdUv s).2).1 : Int) (rdUv (rdUv s).2).2).1) (rising_putK h1 _ _)
      (fun x hx => by
        rcases mem_putK hx with rfl | hx
        · simp only; omega
        · exact h2 x hx) (by omega)
    simp only [rdTagsN]
    refine ⟨?_, ih.2⟩
    have := ih.1
    by_cases hk : (rdUv s).1 = 0
    · rw [if_pos hk] at p; omega
    · rw [if_neg hk] at p; have := a.2 hk; omega
theorem rdTags_len (s : St) : (rdTags s).1.length ≤ s.1.length + 1 ∧ ∀ x ∈ (rdTags s).1, x.2.length ≤ s.1.length := by
  have a := rdUv_len s
  have h := rdTagsN_len s.1.length (rdUv s).1 (rdUv s).2 [] rising_nil (by simp) a.1
  have r := n0_rising h.2.1
  refine ⟨?_, h.2.2⟩
  have := h.1
  have z : n0 [] = 0 := rfl
  show (rdTagsN (rdUv s).1 (rdUv s).2 []).1.length ≤ _
  omega
theorem rdN_len (k : Nat) (s : St) : (rdN k s).2.1.length ≤ s.1.length := by
  unfold rdN
  split
  · simp
  · simp
theorem rdI_len (k : Nat) (s : St) : (rdI k s).2.1.length ≤ s.1.length := rdN_len k s
theorem rdStr_len (s : St) : (rdStr s).1.length ≤ s.1.length ∧ (rdStr s).2.1.length ≤ s.1.length := by
  have a := rdI_len 2 s
  have b := rdSpan_len (rdI 2 s).1 (rdI 2 s).2
  unfold rdStr
  omega
theorem rdCStr_len (s : St) : (rdCStr s).1.length ≤ s.1.length ∧ (rdCStr s).2.1.length ≤ s.1.length := by
  have a := (rdUv_len s).1
  have b := rdSpan_len ((rdUv s).1 - 1) (rdUv s).2
  unfold rdCStr
  omega
theorem rdNStr_len (s : St) : (∀ x, (rdNStr s).1 = some x → x.length ≤ s.1.length) ∧ (rdNStr s).2.1.length ≤ s.1.length := by
  have a := rdI_len 2 s
  have b := rdStr_len s
  unfold rdNStr
  split
  · exact ⟨(fun x h => by cases h), a⟩
  · exact ⟨(fun x h => by cases h; exact b.1), b.2⟩
theorem rdCNStr_len (s : St) : (∀ x, (rdCNStr s).1 = some x → x.length ≤ s.1.length) ∧ (rdCNStr s).2.1.length ≤ s.1.length := by
  have a := (rdUv_len s).1
  have b := rdCStr_len s
  unfold rdCNStr
  split
  · exact ⟨(fun x h => by cases h), a⟩
  · exact ⟨(fun x h => by cases h; exact b.1), b.2⟩
theorem rdUuid_len (s : St) : (rdUuid s).2.1.length ≤ s.1.length := (rdSpan_len 16 s).2
end Go.Proofs.YtbddchglganmdaaDoor
/-
  Nullable texts and octets as trees; what has gone wrong stays wrong. Plain lemmas.
-/
namespace Go.Proofs.YtbddchglganmdaaDoor
open Go.ChangeShapes Go.WideShapes Go.ChangeAt Go.RowKit

def nstrT : Option Bs → T
  | none => .mk 0 [] true [] []
  | some l => .mk 0 l false [] []
def octT : Option Bs → T
  | none => .mk 0 [] true [] []
  | some l => .mk 0 l false [] []
theorem octT_eq (o : Option Bs) : octT o = .mk 0 (o.getD []) (decide (o = none)) [] [] := by cases o <;> rfl
theorem OS.keepF {w w' : World} {F G : Nat → Prop} {v : Value} {o : Option Bs} (h : OS w F v o) (hs : SameOn F w w') (hg : ∀ k, F k → G k) : OS w' G v o := ⟨h.1.keepF hs hg, h.2⟩
theorem rdN_bad (k : Nat) (s : St) (h : (rdN k s).2.2 = false) : s.2 = false := by
  unfold rdN at h
  split at h
  · cases h
  · exact h
theorem rdI_bad (k : Nat) (s : St) (h : (rdI k s).2.2 = false) : s.2 = false := rdN_bad k s h
theorem rdUv_bad (s : St) (h : (rdUv s).2.2 = false) : s.2 = false := by
  unfold rdUv at h
  split at h
  · cases h
  · exact h
theorem rdSpan_bad (n : Int) (s : St) (h : (rdSpan n s).2.2 = false) : s.2 = false := by
  unfold rdSpan at h
  split at h
  · cases h
  · exact h
theorem rdTagsN_bad : ∀ (n : Nat) (s : St) (l : List Tg), (rdTagsN n s l).2.2 = false → s.2 = false
  | 0, _, _, h => h
  | n + 1, _, _, h => rdUv_bad _ (rdUv_bad _ (rdSpan_bad _ _ (rdTagsN_bad n _ _ h)))
theorem rdTags_bad (s : St) (h : (rdTags s).2.2 = false) : s.2 = false := rdUv_bad _ (rdTagsN_bad _ _ _ h)
theorem rdCNB_len (s : St) : (∀ x, (rdCNB s).1 = some x → x.length ≤ s.1.length) ∧ (rdCNB s).2.1.length ≤ s.1.length := by
  have a := (rdUv_len s).1
  have b := rdSpan_len ((rdUv s).1 - 1) (rdUv s).2
  unfold rdCNB
  split
  · exact ⟨(fun x h => by cases h), a⟩
  · exact ⟨(fun x h => by cases h; exact Nat.le_trans b.1 a), Nat.le_trans b.2 a⟩
end Go.Proofs.YtbddchglganmdaaDoor
/-
  READING A MESSAGE AS A PLAIN FUNCTION OF ITS FIELDS' LIST, and how the struct that was read lies in memory.
-/
namespace Go.Proofs.YtbddchglganmdaaDoor
open Go.ChangeShapes Go.WideShapes Go.ChangeAt Go.RowKit

/-- a list's length, as it is read -/
def rdLen (s : St) : Int × St := if ((rdI 4 s).2.1.length : Int) < (rdI 4 s).1 then (0, ([], true)) else rdI 4 s
def rdCLen (s : St) : Int × St :=
  if ((rdUv s).2.1.length : Int) < IntKind.i32.wrap (IntKind.i32.wrap ((rdUv s).1 : Int) - 1) then (0, ([], true)) else (IntKind.i32.wrap (IntKind.i32.wrap ((rdUv s).1 : Int) - 1), (rdUv s).2)
/-- octets with a length -/
def rdBs (s : St) : Bs × St := rdSpan (rdI 4 s).1 (rdI 4 s).2
def rdTimes (g : St → T × St) : Nat → St → List T × St
  | 0, s => ([], s)
  | n + 1, s => ((rdTimes g n s).1 ++ [(g (rdTimes g n s).2).1], (g (rdTimes g n s).2).2)

/-- a part: its fields, then, in a flexible version, its tags -/
def rdPartOf (fs : St → List T × St) (flex : Bool) (s : St) : T × St :=
  if flex then (.mk 0 [] false (fs s).1 (rdTags (fs s).2).1, (rdTags (fs s).2).2) else (.mk 0 [] false (fs s).1 [], (fs s).2)
/-- a value of a kind -/
def rdK (kind : Int) (nul flex : Bool) (part : St → T × St) (s : St) : T × St :=
  if kind = 0 then (.mk (if (rdBool s).1 then 1 else 0) [] false [] [], (rdBool s).2)
  else if kind = 1 then (.mk (rdI 1 s).1 [] false [] [], (rdI 1 s).2)
  else if kind = 2 then (.mk (rdI 2 s).1 [] false [] [], (rdI 2 s).2)
  else if kind = 3 then (.mk (rdI 4 s).1 [] false [] [], (rdI 4 s).2)
  else if kind = 4 then (.mk (rdI 8 s).1 [] false [] [], (rdI 8 s).2)
  else if kind = 5 then (.mk ((rdN 2 s).1 : Int) [] false [] [], (rdN 2 s).2)
  else if kind = 6 then (.mk (rdI 8 s).1 [] false [] [], (rdI 8 s).2)
  else if kind = 7 then (.mk 0 (rdUuid s).1 false [] [], (rdUuid s).2)
  else if kind = 8 then
    if nul then (if flex then (nstrT (rdCNStr s).1, (rdCNStr s).2) else (nstrT (rdNStr s).1, (rdNStr s).2))
    else (if flex then (.mk 0 (rdCStr s).1 false [] [], (rdCStr s).2) else (.mk 0 (rdStr s).1 false [] [], (rdStr s).2))
  else if kind = 10 then part s
  else (T.zero, s)
def rdListOf (nul : Int) (flex : Bool) (v : Int) (g : St → T × St) (s : St) : T × St :=
  let n := if flex then rdCLen s else rdLen s
  (.mk 0 [] (if nul < 0 then decide (n.1 ≤ 0) else decide (nul ≤ v) && decide (n.1 < 0)) (rdTimes g n.1.toNat n.2).1 [], (rdTimes g n.1.toNat n.2).2)
mutual
/-- what a field is that the version lacks -/
def dflF : F → T
  | .mk k _ _ nul _ dfl _ sub =>
    if k = 7 then .mk 0 (List.replicate 16 0) false [] []
    else if k = 8 then .mk 0 [] (decide (0 ≤ nul)) [] []
    else if k = 9 ∨ k = 11 then .mk 0 [] true [] []
    else if k = 10 then (if 0 ≤ nul then .mk 0 [] true [] [] else .mk 0 [] false (dflFs sub) [])
    else .mk dfl [] false [] []
def dflFs : List F → List T
  | [] => []
  | f :: r => dflF f :: dflFs r
end
mutual
def rdF : F → Int → Bool → St → T × St
  | .mk k _ _ nul _ _ ofk sub, v, flex, s =>
    if k = 11 then rdListOf nul flex v (rdK ofk false flex (rdPartOf (rdFs sub v flex) flex)) s
    else rdK k (decide (0 ≤ nul) && decide (nul ≤ v)) flex (rdPartOf (rdFs sub v flex) flex) s
def rdFs : List F → Int → Bool → St → List T × St
  | [], _, _, s => ([], s)
  | f :: r, v, flex, s => if f.has v then ((rdF f v flex s).1 :: (rdFs r v flex (rdF f v flex s).2).1, (rdFs r v flex (rdF f v flex s).2).2) else (dflF f :: (rdFs r v flex s).1, (rdFs r v flex s).2)
end
def rdPart (fs : List F) (v : Int) (flex : Bool) (s : St) : T × St := rdPartOf (rdFs fs v flex) flex s

theorem rdFs_has {f : F} {r : List F} {v : Int} {flex : Bool} {s : St} (h : f.has v = true) : rdFs (f :: r) v flex s = ((rdF f v flex s).1 :: (rdFs r v flex (rdF f v flex s).2).1, (rdFs r v flex (rdF f v flex s).2).2) := by
  rw [rdFs, if_pos h]
theorem rdFs_lacks {f : F} {r : List F} {v : Int} {flex : Bool} {s : St} (h : f.has v = false) : rdFs (f :: r) v flex s = (dflF f :: (rdFs r v flex s).1, (rdFs r v flex s).2) := by
  rw [rdFs, if_neg (by simp [h])]
theorem ite_p {α : Type} {c : Prop} {_ : Decidable c} {a b : α} (P : α → Prop) (h1 : P a) (h2 : P b) : P (if c then a else b) := by
  by_cases h : c
  · rw [if_pos h]; exact h1
  · rw [if_neg h]; exact h2
theorem ite_imp {c : Prop} {_ : Decidable c} {A B A' B' : Prop} (h1 : A → A') (h2 : B → B') (h : if c then A else B) : if c then A' else B' := by
  by_cases hc : c
  · rw [if_pos hc] at h ⊢; exact h1 h
  · rw [if_neg hc] at h ⊢; exact h2 h
theorem rdTimes_len (g : St → T × St) : ∀ (n : Nat) (s : St), (rdTimes g n s).1.length = n
  | 0, _ => rfl
  | n + 1, s => by simp [rdTimes, rdTimes_len g n s]

/-- WHAT HAS GONE WRONG STAYS WRONG -/
def Bad (g : St → St) : Prop := ∀ s, s.2 = true → (g s).2 = true
theorem rdN_b (k : Nat) : Bad fun s => (rdN k s).2 := fun s h => by
  cases e : (rdN k s).2.2
  · exact absurd (rdN_bad k s e) (by simp [h])
  · rfl
theorem rdUv_b : Bad fun s => (rdUv s).2 := fun s h => by
  cases e : (rdUv s).2.2
  · exact absurd (rdUv_bad s e) (by simp [h])
  · rfl
theorem rdSpan_b (n : Int) : Bad fun s => (rdSpan n s).2 := fun s h => by
  cases e : (rdSpan n s).2.2
  · exact absurd (rdSpan_bad n s e) (by simp [h])
  · rfl
theorem rdTags_b : Bad fun s => (rdTags s).2 := fun s h => by
  cases e : (rdTags s).2.2
  · exact absurd (rdTags_bad s e) (by simp [h])
  · rfl
theorem rdI_b (k : Nat) : Bad fun s => (rdI k s).2 := rdN_b k
theorem rdLen_b : Bad fun s => (rdLen s).2 := fun s h => by
  simp only [rdLen]
  split
  · rfl
  · exact rdI_b 4 s h
theorem rdCLen_b : Bad fun s => (rdCLen s).2 := fun s h => by
  simp only [rdCLen]
  split
  · rfl
  · exact rdUv_b s h
theorem rdTimes_b {g : St → T × St} (hg : Bad fun s => (g s).2) : ∀ n, Bad fun s => (rdTimes g n s).2
  | 0, _, h => h
  | n + 1, s, h => hg _ (rdTimes_b hg n s h)
theorem rdTimes_from {g : St → T × St} (hg : Bad fun s => (g s).2) (s : St) (j : Nat) (h : (rdTimes g j s).2.2 = true) : ∀ n, j ≤ n → (rdTimes g n s).2.2 = true := fun n hn => by
  induction n with
  | zero => obtain rfl : j = 0 := by omega
            exact h
  | succ n ih =>
    rcases Nat.lt_or_ge n j with h1 | h1
    · obtain rfl : j = n + 1 := by omega
      exact h
    · exact hg _ (ih h1)
theorem rdPartOf_b {fs : St → List T × St} (h : Bad fun s => (fs s).2) (flex : Bool) : Bad fun s => (rdPartOf fs flex s).2 := fun s hs => by
  cases flex
  · exact h s hs
  · exact rdTags_b _ (h s hs)
theorem rdStr_b : Bad fun s => (rdStr s).2 := fun s h => rdSpan_b _ _ (rdI_b 2 s h)
theorem rdCStr_b : Bad fun s => (rdCStr s).2 := fun s h => rdSpan_b _ _ (rdUv_b s h)
theorem rdNStr_b : Bad fun s => (rdNStr s).2 := fun s h => by
  simp only [rdNStr]
  split
  · exact rdI_b 2 s h
  · exact rdStr_b s h
theorem rdCNStr_b : Bad fun s => (rdCNStr s).2 := fun s h => by
  simp only [rdCNStr]
  split
  · exact rdUv_b s h
  · exact rdCStr_b s h
def IsBad (x : T × St) : Prop := x.2.2 = true
theorem rdK_b (kind : Int) (nul flex : Bool) {part : St → T × St} (hp : Bad fun s => (part s).2) : Bad fun s => (rdK kind nul flex part s).2 := fun s h => by
  have Q : IsBad (rdK kind nul flex part s) := by
    unfold rdK
    refine ite_p IsBad (rdN_b 1 s h) ?_
    refine ite_p IsBad (rdI_b 1 s h) ?_
    refine ite_p IsBad (rdI_b 2 s h) ?_
    refine ite_p IsBad (rdI_b 4 s h) ?_
    refine ite_p IsBad (rdI_b 8 s h) ?_
    refine ite_p IsBad (rdN_b 2 s h) ?_
    refine ite_p IsBad (rdI_b 8 s h) ?_
    refine ite_p IsBad (rdSpan_b 16 s h) ?_
    refine ite_p IsBad (ite_p IsBad (ite_p IsBad (rdCNStr_b s h) (rdNStr_b s h)) (ite_p IsBad (rdCStr_b s h) (rdStr_b s h))) ?_
    exact ite_p IsBad (hp s h) h
  exact Q
theorem rdListOf_b (nul : Int) (flex : Bool) (v : Int) {g : St → T × St} (hg : Bad fun s => (g s).2) : Bad fun s => (rdListOf nul flex v g s).2 := fun s h => by
  cases flex
  · exact rdTimes_b hg _ _ (rdLen_b s h)
  · exact rdTimes_b hg _ _ (rdCLen_b s h)
mutual
theorem rdF_b : ∀ (f : F) (v : Int) (flex : Bool), Bad fun s => (rdF f v flex s).2
  | .mk k a b nul c d ofk sub, v, flex, s, h => by
    have hp := rdPartOf_b (rdFs_b sub v flex) flex
    simp only [rdF]
    split
    · exact rdListOf_b nul flex v (rdK_b ofk false flex hp) s h
    · exact rdK_b k _ flex hp s h
theorem rdFs_b : ∀ (l : List F) (v : Int) (flex : Bool), Bad fun s => (rdFs l v flex s).2
  | [], _, _, _, h => h
  | f :: r, v, flex, s, h => by
    simp only [rdFs]
    split
    · exact rdFs_b r v flex _ (rdF_b f v flex s h)
    · exact rdFs_b r v flex s h
end
theorem rdPart_b (fs : List F) (v : Int) (flex : Bool) : Bad fun s => (rdPart fs v flex s).2 := rdPartOf_b (rdFs_b fs v flex) flex

/-- HOW WHAT WAS READ LIES -/
def VK (W : World) (G : Nat → Prop) (kind nul : Int) (part : List Value → List T → Prop) (c : List Value) (t : T) : Prop :=
  if kind = 0 then ∃ b : Bool, c = [.bool b] ∧ t = .mk (if b then 1 else 0) [] false [] []
  else if kind = 1 then ∃ n : Int, c = [.int .i8 n] ∧ (-128 ≤ n ∧ n ≤ 127) ∧ t = .mk n [] false [] []
  else if kind = 2 then ∃ n : Int, c = [.int .i16 n] ∧ (-32768 ≤ n ∧ n ≤ 32767) ∧ t = .mk n [] false [] []
  else if kind = 3 then ∃ n : Int, c = [.int .i32 n] ∧ (-2147483648 ≤ n ∧ n ≤ 2147483647) ∧ t = .mk n [] false [] []
  else if kind = 4 then ∃ n : Int, c = [.int .i64 n] ∧ (-9223372036854775808 ≤ n ∧ n ≤ 9223372036854775807) ∧ t = .mk n [] false [] []
  else if kind = 5 then ∃ n : Int, c = [.int .u16 n] ∧ (0 ≤ n ∧ n ≤ 65535) ∧ t = .mk n [] false [] []
  else if kind = 7 then ∃ x : Bs, x.length = 16 ∧ c = x.map bv ∧ t = .mk 0 x false [] []
  else if kind = 8 then (if 0 ≤ nul then ∃ v o, c = [v] ∧ PS W G v o ∧ t = nstrT o else ∃ x : Bs, c = [str x] ∧ t = .mk 0 x false [] [])
  else if kind = 9 then ∃ v o, c = [v] ∧ OS W G v o ∧ t = octT o
  else if kind = 10 then ∃ cs v l u, c = cs ++ [v] ∧ part cs l ∧ MP W G v u ∧ t = .mk 0 [] false l u
  else False
/-- a slice that begins its block: n things whose cells are xs -/
def RW (W : World) (G : Nat → Prop) (v : Value) (n : Nat) (xs : List Value) : Prop :=
  (n = 0 ∧ xs = [] ∧ (v = .slice none 0 0 ∨ ∃ b, v = .slice (some ⟨b, 0, none⟩) 0 0)) ∨
  (0 < n ∧ ∃ row cap extra ty, v = .slice (some ⟨row, 0, none⟩) n cap ∧ n ≤ cap ∧ G row ∧ W.heap[row]? = some (.cells (xs ++ extra).toArray ty (0, 0)))
theorem RW.keepF {W W' : World} {F' G : Nat → Prop} {v : Value} {n : Nat} {xs : List Value} (hs : SameOn F' W W') (hg : ∀ k, F' k → G k) (h : RW W F' v n xs) : RW W' G v n xs := by
  rcases h with h | ⟨h0, row, cap, extra, ty, h1, h2, h3, h4⟩
  · exact .inl h
  · exact .inr ⟨h0, row, cap, extra, ty, h1, h2, hg _ h3, (hs _ h3).trans h4⟩
theorem RW.shape {W : World} {G : Nat → Prop} {v : Value} {n : Nat} {xs : List Value} (h : RW W G v n xs) : ∃ ao cap, v = .slice ao n cap ∧ n ≤ cap ∧ (ao = none → n = 0 ∧ cap = 0) := by
  rcases h with ⟨rfl, _, rfl | ⟨b, rfl⟩⟩ | ⟨h0, row, cap, extra, ty, rfl, h2, _, _⟩
  · exact ⟨none, 0, rfl, Nat.le_refl _, fun _ => ⟨rfl, rfl⟩⟩
  · exact ⟨_, 0, rfl, Nat.le_refl _, fun e => by cases e⟩
  · exact ⟨_, cap, rfl, h2, fun e => by cases e⟩
/-- a list: its elements' cells, one behind another -/
def VL (W : World) (G : Nat → Prop) (P : List Value → T → Prop) (m : Nat) (v : Value) (t : T) : Prop :=
  ∃ (null : Bool) (css : List (List Value)) (l : List T), css.length = l.length ∧ (∀ i (h1 : i < l.length) (h2 : i < css.length), css[i].length = m ∧ P css[i] l[i]) ∧ RW W G v css.length css.flatten ∧ (v = .slice none 0 0 ↔ null = true) ∧ t = .mk 0 [] null l []
def wdK (kind : Int) (sub : Nat) : Nat := if kind = 7 then 16 else if kind = 10 then sub + 1 else 1
mutual
/-- how many cells a field has -/
def wdF : F → Nat
  | .mk k _ _ _ _ _ _ sub => wdK k (wdFs sub)
def wdFs : List F → Nat
  | [] => 0
  | f :: r => wdF f + wdFs r
end
mutual
def VF (W : World) (G : Nat → Prop) : F → List Value → T → Prop
  | .mk k _ _ nul _ _ ofk sub, c, t =>
    if k = 11 then ∃ v, c = [v] ∧ VL W G (VK W G ofk (-1) (VFs W G sub)) (wdK ofk (wdFs sub)) v t
    else VK W G k nul (VFs W G sub) c t
def VFs (W : World) (G : Nat → Prop) : List F → List Value → List T → Prop
  | [], c, l => c = [] ∧ l = []
  | f :: r, c, l => ∃ c1 c2 t1 l2, c = c1 ++ c2 ∧ l = t1 :: l2 ∧ VF W G f c1 t1 ∧ VFs W G r c2 l2
end
/-- a message's struct: its version, its fields, its tags -/
def VM (W : World) (G : Nat → Prop) (b : Nat) (fs : List F) (ty : TypeId) (ver : Int) (t : T) : Prop :=
  ∃ cs v l u, W.heap[b]? = some (.cells (.int .i16 ver :: (cs ++ [v])).toArray ty (0, 0)) ∧ VFs W G fs cs l ∧ MP W G v u ∧ t = .mk 0 [] false l u

section
variable {W W' : World} {F' G : Nat → Prop}
theorem VK.keepF {kind nul : Int} {p q : List Value → List T → Prop} (hs : SameOn F' W W') (hg : ∀ k, F' k → G k) (hp : ∀ c l, p c l → q c l) {c : List Value} {t : T} (h : VK W F' kind nul p c t) : VK W' G kind nul q c t := by
  unfold VK at h ⊢
  refine ite_imp id (ite_imp id (ite_imp id (ite_imp id (ite_imp id (ite_imp id (ite_imp id (ite_imp (ite_imp ?_ id) (ite_imp ?_ (ite_imp ?_ id))))))))) h
  · rintro ⟨v, o, h1, h2, h3⟩
    exact ⟨v, o, h1, h2.keepF hs hg, h3⟩
  · rintro ⟨v, o, h1, h2, h3⟩
    exact ⟨v, o, h1, h2.keepF hs hg, h3⟩
  · rintro ⟨cs, v, l, u, h1, h2, h3, h4⟩
    exact ⟨cs, v, l, u, h1, hp _ _ h2, h3.keepF hs hg, h4⟩
theorem VL.keepF {p q : List Value → T → Prop} (hs : SameOn F' W W') (hg : ∀ k, F' k → G k) (hp : ∀ c t, p c t → q c t) {m : Nat} {v : Value} {t : T} (h : VL W F' p m v t) : VL W' G q m v t := by
  obtain ⟨null, css, l, h1, h2, h3, h4, h5⟩ := h
  exact ⟨null, css, l, h1, fun i a b => ⟨(h2 i a b).1, hp _ _ (h2 i a b).2⟩, h3.keepF hs hg, h4, h5⟩
mutual
theorem VF.keepF (hs : SameOn F' W W') (hg : ∀ k, F' k → G k) : ∀ (f : F) {c : List Value} {t : T}, VF W F' f c t → VF W' G f c t
  | .mk k a b nul d e ofk sub, c, t, h => by
    have hp := fun c l => VFs.keepF hs hg sub (c := c) (l := l)
    simp only [VF] at h ⊢
    split
    · rename_i hk
      rw [if_pos hk] at h
      obtain ⟨v, h1, h2⟩ := h
      exact ⟨v, h1, h2.keepF hs hg (fun c t => VK.keepF hs hg hp)⟩
    · rename_i hk
      rw [if_neg hk] at h
      exact VK.keepF hs hg hp h
theorem VFs.keepF (hs : SameOn F' W W') (hg : ∀ k, F' k → G k) : ∀ (fs : List F) {c : List Value} {l : List T}, VFs W F' fs c l → VFs W' G fs c l
  | [], _, _, h => h
  | f :: r, c, l, h => by
    obtain ⟨c1, c2, t1, l2, h1, h2, h3, h4⟩ := h
    exact ⟨c1, c2, t1, l2, h1, h2, VF.keepF hs hg f h3, VFs.keepF hs hg r h4⟩
end
end
end Go.Proofs.YtbddchglganmdaaDoor
/-
  Reader.ArrayLen, CompactArrayLen, Ok.
-/
namespace Go.Proofs.YtbddchglganmdaaDoor
open Go.ChangeShapes Go.WideShapes Go.ChangeAt Go.RowKit

set_option maxHeartbeats 400000 in
set_option maxRecDepth 100000 in
theorem ok_any {G : Nat → Prop} {b : Nat} {s : St} {w : World} (h : Rd w b G s) :
    Calls Tryd.prog 155 #[.pointer (some ⟨b, 0, none⟩)] w fun e w' => e = .returned (.bool (!s.2)) ∧ w = w' := by
  obtain ⟨v, hb, -⟩ := h
  have c1 := cellOf hb 1 _ rfl
  go_enter Tryd.func155, Tryd.ntmps155
  go_wp2_with fail
  go_ret
  exact ⟨rfl, rfl⟩
theorem Rd.nilled {w : World} {b : Nat} {G : Nat → Prop} {v : Value} {x : Bool} (h : w.heap[b]? = some (.cells #[v, .bool x] 173 (0, 0))) :
    Rd ((w.setCell ⟨b, 1, none⟩ (.bool true)).setCell ⟨b, 0, none⟩ (.slice none 0 0)) b G ([], true) ∧ Keep [b] w ((w.setCell ⟨b, 1, none⟩ (.bool true)).setCell ⟨b, 0, none⟩ (.slice none 0 0)) :=
  ⟨⟨_, heap_set (i := 0) (heap_set (i := 1) h (.bool true)) (.slice none 0 0), ⟨none, 0, rfl, Nat.le_refl _, fun _ => ⟨rfl, rfl, rfl⟩, fun a ha => by cases ha⟩⟩, ((Keep.refl _ _).setCell (.inl (by simp)) _).setCell (.inl (by simp)) _⟩
set_option maxHeartbeats 400000 in
set_option maxRecDepth 100000 in
theorem len_any {G : Nat → Prop} {b : Nat} {s : St} {w : World} (h : Rd w b G s) (hG : There G w) (hb : ¬ G b) :
    Calls Tryd.prog 154 #[.pointer (some ⟨b, 0, none⟩)] w fun e w' => e = .returned (.int .i32 (rdLen s).1) ∧ Rd w' b G (rdLen s).2 ∧ Keep [b] w w' := by
  have hR := rdI_range4 s
  by_cases hc : ((rdI 4 s).2.1.length : Int) < (rdI 4 s).1
  · simp only [rdLen, if_pos hc]
    go_enter Tryd.func154, Tryd.ntmps154
    go_wp2_with (go_at_call 152; go_loud (refine (int32_any h hG hb).mono ?_; rintro e w1 ⟨rfl, h1, k1⟩; obtain ⟨v1, hb1, hr1⟩ := h1; obtain ⟨ao, cap, rfl⟩ := RS.shape hr1; have c0 := cellOf hb1 0 _ rfl; have c1 := cellOf hb1 1 _ rfl; have f0 := freeOf hb1 0; have f1 := freeOf hb1 1; have NR := Rd.nilled (G := G) hb1; have HN : Hid _ := NR; clear NR h))
    go_ret
    exact ⟨rfl, HN.out.1, k1.trans HN.out.2⟩
  · simp only [rdLen, if_neg hc]
    go_enter Tryd.func154, Tryd.ntmps154
    go_wp2_with (go_at_call 152; go_loud (refine (int32_any h hG hb).mono ?_; rintro e w1 ⟨rfl, h1, k1⟩; have H1 : Hid _ := h1; obtain ⟨v1, hb1, hr1⟩ := h1; obtain ⟨ao, cap, rfl⟩ := RS.shape hr1; have c0 := cellOf hb1 0 _ rfl; clear h))
    go_ret
    exact ⟨rfl, H1.out, k1⟩
set_option maxHeartbeats 400000 in
set_option maxRecDepth 100000 in
theorem clen_any {G : Nat → Prop} {b : Nat} {s : St} {w : World} (h : Rd w b G s) (hG : There G w) (hb : ¬ G b) :
    Calls Tryd.prog 153 #[.pointer (some ⟨b, 0, none⟩)] w fun e w' => e = .returned (.int .i32 (rdCLen s).1) ∧ Rd w' b G (rdCLen s).2 ∧ Keep [b] w w' := by
  have hR2 : (rdUv s).1 < 4294967296 := rdUv_lt s
  have hK : ∃ K, IntKind.i32.wrap (IntKind.i32.wrap ((rdUv s).1 : Int) - 1) = K ∧ -2147483648 ≤ K ∧ K ≤ 2147483647 := ⟨_, rfl, by simp only [IntKind.wrap_i32]; omega, by simp only [IntKind.wrap_i32]; omega⟩
  obtain ⟨K, hK, hK1, hK2⟩ := hK
  have hK3 : wrap32 (wrap32 ((rdUv s).1 : Int) - 1) = K := by rw [← IntWalk.i32_left, ← IntWalk.i32_left]; exact hK
  by_cases hc : ((rdUv s).2.1.length : Int) < K
  · simp only [rdCLen, hK, if_pos hc]
    clear hK
    go_enter Tryd.func153, Tryd.ntmps153
    go_wp2_with (go_at_call 217; go_loud (refine (rduv_any h hG hb).mono ?_; rintro e w1 ⟨rfl, h1, k1⟩; obtain ⟨v1, hb1, hr1⟩ := h1; obtain ⟨ao, cap, rfl⟩ := RS.shape hr1; have c0 := cellOf hb1 0 _ rfl; have c1 := cellOf hb1 1 _ rfl; have f0 := freeOf hb1 0; have f1 := freeOf hb1 1; have NR := Rd.nilled (G := G) hb1; have HN : Hid _ := NR; clear NR h))
    go_ret
    exact ⟨rfl, HN.out.1, k1.trans HN.out.2⟩
  · simp only [rdCLen, hK, if_neg hc]
    clear hK
    go_enter Tryd.func153, Tryd.ntmps153
    go_wp2_with (go_at_call 217; go_loud (refine (rduv_any h hG hb).mono ?_; rintro e w1 ⟨rfl, h1, k1⟩; have H1 : Hid _ := h1; obtain ⟨v1, hb1, hr1⟩ := h1; obtain ⟨ao, cap, rfl⟩ := RS.shape hr1; have c0 := cellOf hb1 0 _ rfl; clear h))
    go_ret
    exact ⟨by subst hK3; rfl, H1.out, k1⟩
end Go.Proofs.YtbddchglganmdaaDoor
/-
  WHAT IS READ IS NO LONGER THAN WHAT IT IS READ FROM.
-/
namespace Go.Proofs.YtbddchglganmdaaDoor
open Go.RowKit

mutual
def small (N : Nat) : T → Prop
  | .mk _ s _ l u => s.length ≤ N ∧ l.length ≤ N ∧ u.length ≤ N ∧ (∀ x ∈ u, x.2.length ≤ N) ∧ smalls N l
def smalls (N : Nat) : List T → Prop
  | [] => True
  | t :: r => small N t ∧ smalls N r
end
theorem smalls_append (N : Nat) : ∀ (a b : List T), smalls N a → smalls N b → smalls N (a ++ b)
  | [], _, _, h => h
  | _ :: r, b, h, h' => ⟨h.1, smalls_append N r b h.2 h'⟩
theorem smalls_mem {N : Nat} : ∀ {l : List T}, smalls N l → ∀ t ∈ l, small N t
  | [], _, _, h => by cases h
  | x :: r, h, t, ht => by
    rcases List.mem_cons.1 ht with e | e
    · rw [e]; exact h.1
    · exact smalls_mem h.2 t e
theorem small_plain {N : Nat} {n : Int} {s : Bs} {b : Bool} (h : s.length ≤ N) : small N (.mk n s b [] []) := ⟨h, by simp, by simp, (fun x hx => by cases hx), trivial⟩
theorem small_nstr {N : Nat} {o : Option Bs} (h : ∀ x, o = some x → x.length ≤ N) : small N (nstrT o) := by
  cases o with
  | none => exact small_plain (by simp)
  | some x => exact small_plain (h x rfl)

/-- a reader that makes things no longer than what it reads -/
def Fine (N : Nat) (g : St → T × St) : Prop := ∀ s : St, s.1.length + 1 ≤ N → small N (g s).1 ∧ (g s).2.1.length ≤ s.1.length
theorem rdLen_len (s : St) : (rdLen s).1 ≤ (s.1.length : Int) ∧ (rdLen s).2.1.length ≤ s.1.length := by
  have h := rdI_len 4 s
  simp only [rdLen]
  split
  · simp
  · exact ⟨by omega, h⟩
theorem rdCLen_len (s : St) : (rdCLen s).1 ≤ (s.1.length : Int) ∧ (rdCLen s).2.1.length ≤ s.1.length := by
  have h := (rdUv_len s).1
  simp only [rdCLen]
  split
  · simp
  · exact ⟨by omega, h⟩
theorem rdTagsN_rest : ∀ (n : Nat) (s : St) (l : List Tg), (rdTagsN n s l).2.1.length ≤ s.1.length
  | 0, s, l => Nat.le_refl _
  | n + 1, s, l => by
    have a := (rdUv_len s).1
    have b := (rdUv_len (rdUv s).2).1
    have c := (rdSpan_len ((rdUv (rdUv s).2).1 : Int) (rdUv (rdUv s).2).2).2
    have h := rdTagsN_rest n (rdSpan ((rdUv (rdUv s).2).1 : Int) (rdUv (rdUv s).2).2).2 (putK l (rdUv s).1 (rdSpan ((rdUv (rdUv s).2).1 : Int) (rdUv (rdUv s).2).2).1)
    simp only [rdTagsN]
    omega
theorem rdTags_rest (s : St) : (rdTags s).2.1.length ≤ s.1.length := Nat.le_trans (rdTagsN_rest _ _ _) (rdUv_len s).1
theorem rdTimes_fine {N : Nat} {g : St → T × St} (hg : Fine N g) : ∀ (n : Nat) (s : St), s.1.length + 1 ≤ N → smalls N (rdTimes g n s).1 ∧ (rdTimes g n s).2.1.length ≤ s.1.length
  | 0, s, _ => ⟨trivial, Nat.le_refl _⟩
  | n + 1, s, h => by
    obtain ⟨h1, h2⟩ := rdTimes_fine hg n s h
    obtain ⟨h3, h4⟩ := hg (rdTimes g n s).2 (by omega)
    exact ⟨smalls_append _ _ _ h1 ⟨h3, trivial⟩, by simp only [rdTimes]; omega⟩
theorem rdPartOf_fine {N : Nat} {fs : St → List T × St} {k : Nat} (hk : k ≤ N) (hlen : ∀ s, (fs s).1.length = k) (h : ∀ s : St, s.1.length + 1 ≤ N → smalls N (fs s).1 ∧ (fs s).2.1.length ≤ s.1.length) (flex : Bool) : Fine N (rdPartOf fs flex) := fun s hs => by
  obtain ⟨h1, h2⟩ := h s hs
  cases flex
  · exact ⟨⟨by simp, by rw [hlen]; exact hk, by simp, (fun x hx => by cases hx), h1⟩, h2⟩
  · obtain ⟨h3, h4⟩ := rdTags_len (fs s).2
    have h5 : (rdTags (fs s).2).2.1.length ≤ (fs s).2.1.length := rdTags_rest _
    exact ⟨⟨by simp, by rw [hlen]; exact hk, by omega, (fun x hx => by have := h4 x hx; omega), h1⟩, by simp only [rdPartOf, if_true]; omega⟩
def IsFine (N : Nat) (s : St) (x : T × St) : Prop := small N x.1 ∧ x.2.1.length ≤ s.1.length
theorem rdK_fine {N : Nat} (hN : 16 ≤ N) (kind : Int) (nul flex : Bool) {part : St → T × St} (hp : Fine N part) : Fine N (rdK kind nul flex part) := fun s hs => by
  have Q : IsFine N s (rdK kind nul flex part s) := by
    unfold rdK
    refine ite_p (IsFine N s) ⟨small_plain (by simp), rdN_len 1 s⟩ ?_
    refine ite_p (IsFine N s) ⟨small_plain (by simp), rdI_len 1 s⟩ ?_
    refine ite_p (IsFine N s) ⟨small_plain (by simp), rdI_len 2 s⟩ ?_
    refine ite_p (IsFine N s) ⟨small_plain (by simp), rdI_len 4 s⟩ ?_
    refine ite_p (IsFine N s) ⟨small_plain (by simp), rdI_len 8 s⟩ ?_
    refine ite_p (IsFine N s) ⟨small_plain (by simp), rdN_len 2 s⟩ ?_
    refine ite_p (IsFine N s) ⟨small_plain (by simp), rdI_len 8 s⟩ ?_
    refine ite_p (IsFine N s) ⟨small_plain (by simp [rdUuid, pad16]; omega), rdUuid_len s⟩ ?_
    have h1 := rdCNStr_len s
    have h2 := rdNStr_len s
    have h3 := rdCStr_len s
    have h4 := rdStr_len s
    refine ite_p (IsFine N s) (ite_p (IsFine N s) (ite_p (IsFine N s) ⟨small_nstr fun x hx => by have := h1.1 x hx; omega, h1.2⟩ ⟨small_nstr fun x hx => by have := h2.1 x hx; omega, h2.2⟩) (ite_p (IsFine N s) ⟨small_plain (by omega), h3.2⟩ ⟨small_plain (by omega), h4.2⟩)) ?_
    exact ite_p (IsFine N s) (hp s hs) ⟨small_plain (by simp), Nat.le_refl _⟩
  exact Q
theorem rdListOf_fine {N : Nat} (nul : Int) (flex : Bool) (v : Int) {g : St → T × St} (hg : Fine N g) : Fine N (rdListOf nul flex v g) := fun s hs => by
  have key : ∀ r : Int × St, r.1 ≤ (s.1.length : Int) ∧ r.2.1.length ≤ s.1.length → ∀ b, small N (.mk 0 [] b (rdTimes g r.1.toNat r.2).1 []) ∧ (rdTimes g r.1.toNat r.2).2.1.length ≤ s.1.length := fun r hr b => by
    obtain ⟨h1, h2⟩ := rdTimes_fine hg r.1.toNat r.2 (by omega)
    exact ⟨⟨by simp, by rw [rdTimes_len]; omega, by simp, (fun x hx => by cases hx), h1⟩, by omega⟩
  cases flex
  · exact key _ (rdLen_len s) _
  · exact key _ (rdCLen_len s) _
theorem rdFs_len : ∀ (fs : List F) (v : Int) (flex : Bool) (s : St), (rdFs fs v flex s).1.length = fs.length
  | [], _, _, _ => rfl
  | f :: r, v, flex, s => by
    simp only [rdFs]
    split
    · simp [rdFs_len r]
    · simp [rdFs_len r]
mutual
/-- no part has more fields than that -/
def narrow (N : Nat) : F → Prop
  | .mk _ _ _ _ _ _ _ sub => sub.length ≤ N ∧ narrows N sub
def narrows (N : Nat) : List F → Prop
  | [] => True
  | f :: r => narrow N f ∧ narrows N r
end
theorem dflFs_len : ∀ fs : List F, (dflFs fs).length = fs.length
  | [] => rfl
  | f :: r => by simp [dflFs, dflFs_len r]
mutual
theorem dflF_small {N : Nat} (hN : 16 ≤ N) : ∀ f : F, narrow N f → small N (dflF f)
  | .mk k a b nul c d e sub, h => by
    simp only [dflF]
    repeat' split
    · exact small_plain (by simp; omega)
    · exact small_plain (by simp)
    · exact small_plain (by simp)
    · exact small_plain (by simp)
    · exact ⟨by simp, by rw [dflFs_len]; exact h.1, by simp, (fun x hx => by cases hx), dflFs_small hN sub h.2⟩
    · exact small_plain (by simp)
theorem dflFs_small {N : Nat} (hN : 16 ≤ N) : ∀ fs : List F, narrows N fs → smalls N (dflFs fs)
  | [], _ => trivial
  | f :: r, h => ⟨dflF_small hN f h.1, dflFs_small hN r h.2⟩
end
mutual
theorem rdF_fine {N : Nat} (hN : 16 ≤ N) : ∀ (f : F) (v : Int) (flex : Bool), narrow N f → Fine N (rdF f v flex)
  | .mk k a b nul c d ofk sub, v, flex, hn, s, hs => by
    have hp := rdPartOf_fine (flex := flex) hn.1 (rdFs_len sub v flex) (fun s hs => rdFs_fine hN sub v flex hn.2 s hs)
    simp only [rdF]
    split
    · exact rdListOf_fine nul flex v (rdK_fine hN ofk false flex hp) s hs
    · exact rdK_fine hN k _ flex hp s hs
theorem rdFs_fine {N : Nat} (hN : 16 ≤ N) : ∀ (l : List F) (v : Int) (flex : Bool), narrows N l → ∀ s : St, s.1.length + 1 ≤ N → smalls N (rdFs l v flex s).1 ∧ (rdFs l v flex s).2.1.length ≤ s.1.length
  | [], v, flex, _, s, hs => ⟨trivial, Nat.le_refl _⟩
  | f :: r, v, flex, h, s, hs => by
    simp only [rdFs]
    split
    · obtain ⟨h1, h2⟩ := rdF_fine hN f v flex h.1 s hs
      obtain ⟨h3, h4⟩ := rdFs_fine hN r v flex h.2 (rdF f v flex s).2 (by omega)
      exact ⟨⟨h1, h3⟩, by simp only; omega⟩
    · obtain ⟨h3, h4⟩ := rdFs_fine hN r v flex h.2 s hs
      exact ⟨⟨dflF_small hN f h.1, h3⟩, h4⟩
end
theorem rdPart_fine {N : Nat} (hN : 16 ≤ N) (fs : List F) (v : Int) (flex : Bool) (h : fs.length ≤ N) (h' : narrows N fs) : Fine N (rdPart fs v flex) :=
  rdPartOf_fine h (rdFs_len fs v flex) (fun s hs => rdFs_fine hN fs v flex h' s hs) flex
end Go.Proofs.YtbddchglganmdaaDoor
