/-
  spec.Fit at every message without tagged fields; impl.at.
-/
import Derived.Test.YtidebamgmbdnaaaMB20
import Derived.Test.YtidebamgmbdnaaaMB10
import Derived.Test.YtidebamgmbdnaaaMB13
import Derived.Test.YtidebamgmbdnaaaMB17
import Derived.Test.YtidebamgmbdnaaaMB16
namespace Go.Proofs.Ytidebamgmbdnaaa
open Go.ChangeShapes Go.WideShapes Go.ChangeAt Go.RowKit

theorem plain_noTags : ∀ {fs : List F}, plainFs fs = true → noTags fs = true
  | [], _ => rfl
  | .mk k a b nul tag dfl ofk sub :: r, h => by
    simp only [plainFs, plainF, Bool.and_eq_true, decide_eq_true_eq] at h
    simp only [noTags, Bool.and_eq_true, decide_eq_true_eq]
    exact ⟨h.1.1.1.1, plain_noTags h.2⟩
mutual
theorem fieldFit_ok (v : Int) : ∀ f : F, plainF f = true → FieldFit f v
  | .mk k a b nul tag dfl ofk sub, h => by
    simp only [plainF, Bool.and_eq_true, Bool.or_eq_true, decide_eq_true_eq] at h
    obtain ⟨⟨⟨ht, _⟩, ho⟩, hs⟩ := h
    have hS : FitSaid sub v := fit_step (plain_noTags hs) (fieldsFit_ok v sub hs)
    have one : ∀ g : F, g.kind ≠ 11 → g.sub = sub → FieldFit g v := fun g h11 hsub => by
      by_cases h8 : g.kind = 8 ∨ g.kind = 9
      · exact fit_text h8
      by_cases h10 : g.kind = 10
      · exact fit_part h10 (by rw [hsub]; exact hS)
      · exact fit_num (by omega) (by omega) h10 h11
    by_cases h11 : k = 11
    · exact fit_list h11 ho ht (one (oneT (.mk k a b nul tag dfl ofk sub)) ho rfl)
    · exact one _ h11 rfl
theorem fieldsFit_ok (v : Int) : ∀ fs : List F, plainFs fs = true → ∀ f ∈ fs, FieldFit f v
  | [], _, f, h => by cases h
  | g :: r, h, f, hf => by
    simp only [plainFs, Bool.and_eq_true] at h
    rcases List.mem_cons.1 hf with e | e
    · rw [e]; exact fieldFit_ok v g h.1
    · exact fieldsFit_ok v r h.2 f e
end
theorem fitSaid_ok {fs : List F} (h : plainFs fs = true) (v : Int) : FitSaid fs v := fit_step (plain_noTags h) (fieldsFit_ok v fs h)
set_option maxHeartbeats 1000000 in
set_option maxRecDepth 100000 in
theorem iat_any {G : Nat → Prop} {t : T} {c : List Value} {w : World} (ht : HT w G t c) (hG : There G w) (i : Nat) :
    Calls Try.prog 63 #[.agg c.toArray, .int .i64 i] w fun e w' => ∃ c', e = .returned (.agg c'.toArray) ∧ HT w' G (atT t i) c' ∧ Keep [] w w' := by
  obtain ⟨vs, vl, vu, rfl, hs, hl, hu, hn1, hn2, hn3, hn4⟩ := ht.parts
  by_cases hi : i < t.l.length
  · obtain ⟨b, o, cap, c, rfl, hcap, hGb, hc, hcell⟩ := hl.elem hi
    obtain ⟨vs', vl', vu', rfl, k1, k2, k3, _⟩ := hc.parts
    obtain ⟨az, ps, rfl⟩ := RS.shape k1
    obtain ⟨al, pl, rfl, _⟩ := HTs.shape k2
    obtain ⟨au, pu, rfl⟩ := HGs.shape k3
    clear k1 k2 k3
    have hlt : b < w.heap.size := hG b hGb
    have c0 : w.cell? ⟨b, o + i * 5, none⟩ = some (Value.int .i64 (t.l[i]).n) := hcell 0 (by simp)
    have c1 : w.cell? ⟨b, o + i * 5 + 1, none⟩ = some (.slice az (t.l[i]).s.length ps) := hcell 1 (by simp)
    have c2 : w.cell? ⟨b, o + i * 5 + 2, none⟩ = some (.bool (t.l[i]).null) := hcell 2 (by simp)
    have c3 : w.cell? ⟨b, o + i * 5 + 3, none⟩ = some (.slice al (t.l[i]).l.length pl) := hcell 3 (by simp)
    have c4 : w.cell? ⟨b, o + i * 5 + 4, none⟩ = some (.slice au (t.l[i]).u.length pu) := hcell 4 (by simp)
    clear hcell
    generalize hx : t.l[i] = x at *
    have HX : Hid (t.l[i] = x) := hx
    clear hx
    go_enter Try.func63, Try.ntmps63
    go_wp2
    refine bodyPost_ret (v := .agg #[.int .i64 x.n, .slice az x.s.length ps, .bool x.null, .slice al x.l.length pl, .slice au x.u.length pu]) (by simp [results, Try.results63, go_sem]) rfl ?_
    have hk : Keep [] w ((w.alloc (.cells #[.int .i64 t.n, vs, .bool t.null, .slice (some ⟨b, o, none⟩) t.l.length cap, vu] 39)).alloc (.cells #[.int .i64 x.n, .slice az x.s.length ps, .bool x.null, .slice al x.l.length pl, .slice au x.u.length pu] 39)) := ((Keep.refl _ _).alloc _).alloc _
    refine ⟨[_, _, _, _, _], rfl, ?_, hk⟩
    have e : atT t i = x := by rw [← HX.out]; simp [atT, hi]
    rw [e]
    exact hc.keepF (hG.same hk) (fun _ h => h)
  · have hat : atT t i = T.zero := by simp [atT, List.getElem?_eq_none (Nat.not_lt.1 hi)]
    have HAT : Hid (atT t i = T.zero) := hat
    obtain ⟨al, pl, rfl, _⟩ := hl.shape
    clear hat ht
    go_enter Try.func63, Try.ntmps63
    go_wp2
    refine bodyPost_ret (v := .agg #[.int .i64 0, .slice none 0 0, .bool false, .slice none 0 0, .slice none 0 0]) (by simp [results, Try.results63, go_sem]) rfl ⟨[_, _, _, _, _], rfl, ?_, ((Keep.refl _ _).alloc _).alloc _⟩
    rw [HAT.out]
    exact HT.zero _ _
end Go.Proofs.Ytidebamgmbdnaaa
/-
  A struct that is filled: its tags' loop.
-/
namespace Go.Proofs.Ytidebamgmbdnaaa
open Go.ChangeShapes Go.WideShapes Go.ChangeAt Go.RowKit

/-- the struct's block while its tags are set: the first n of l -/
def TI (w0 W : World) (b : Nat) (G : Nat → Prop) (c : List Value) (ty : TypeId) (l : List Tg) (n : Nat) : Prop :=
  ∃ (v : Value) (m : List (Nat × (Value × Bs))) (nn : Nat), W.heap[b]? = some (.cells (c ++ [v]).toArray ty (0, 0)) ∧ MO W v nn (m.map fun x => (x.1, x.2.1)) ∧ m.map (fun x => (x.1, x.2.2)) = l.take n ∧ (∀ x ∈ m, RB W G x.2.1 x.2.2) ∧ (∀ r ∈ mblk v, w0.heap.size ≤ r) ∧ nn ≤ n ∧ Keep [b] w0 W
section
variable {w0 W : World} {b n : Nat} {G : Nat → Prop} {c : List Value} {ty : TypeId} {l : List Tg}
theorem TI.start (hb : W.heap[b]? = some (.cells (c ++ [Value.map none]).toArray ty (0, 0))) (k : Keep [b] w0 W) : TI w0 W b G c ty l 0 :=
  ⟨.map none, [], 0, hb, MO.nil _ _, by simp, by simp, by simp [mblk], Nat.le_refl _, k⟩
theorem TI.k (h : TI w0 W b G c ty l n) : Keep [b] w0 W := by
  obtain ⟨v, m, nn, _, _, _, _, _, _, hk⟩ := h
  exact hk
theorem TI.set {W' : World} {i : Nat} {x : Value} {key : Nat} {y : Bs} (h : TI w0 W b G c ty l n) (hG : There G w0) (hGb : ¬ G b) (_hbw : b < w0.heap.size) (k : Keep [] W W') (hi : i = c.length) (hn : n < l.length) (hl : l[n] = (key, y)) (hr : Rising l) (hk : key < 4294967296) (hx : RB W' G x y) (hlen : l.length ≤ 17179869184) :
    Calls Try.prog 64 #[.pointer (some ⟨b, i, none⟩), .int .u32 (key : Int), x] W' fun e w' => e = .returned (.tuple #[]) ∧ TI w0 w' b G c ty l (n + 1) ∧ Keep [b] w0 w' := by
  obtain ⟨v, m, nn, hb, hmo, hml, hrb, hblk, hnn, hk0⟩ := h
  have hbW : b < W.heap.size := World.heap_lt' hb
  have hb' := (k.block b hbW (by simp)).trans hb
  have hmo' := hmo.kept (w' := W') (fun j hj => k.block j (hmo.lt j hj) (by simp))
  have TS := tset_any (x := x) hb' (i := i) (by subst hi; simp) hmo' hk (by omega)
  refine TS.mono ?_
  rintro e w4 ⟨rfl, v4, m4, c4, b4, k4⟩
  have hz := hk0.size
  have hz1 := k.size
  have hlow : ∀ j, j < w0.heap.size → j ≠ b → j ∉ b :: mblk v := fun j hj hjb h => by
    rcases List.mem_cons.1 h with h | h
    · exact hjb h
    · have := hblk j h; omega
  have hGs : ∀ j, G j → w4.heap[j]? = W'.heap[j]? := fun j hj => k4.block j (by have := hG j hj; omega) (hlow j (hG j hj) (fun e => hGb (e ▸ hj)))
  have hGW : ∀ j, G j → w4.heap[j]? = W.heap[j]? := fun j hj => (hGs j hj).trans (k.block j (by have := hG j hj; omega) (by simp))
  have K : Keep [b] w0 w4 := ((hk0.trans (k.weaken (by simp))).weaken (B := b :: mblk v) (by simp)).trans k4 |>.fresh (fun j h => by
    rcases List.mem_cons.1 h with h | h
    · exact .inl (by simp [h])
    · exact .inr (hblk j h))
  have hkeys : ∀ z ∈ m.map (fun x => (x.1, x.2.2)), z.1 < key := by
    intro z hz'
    rw [hml] at hz'
    obtain ⟨j, hj, rfl⟩ := List.getElem_of_mem hz'
    have hj' : j < n := by simp at hj; omega
    rw [List.getElem_take]
    have := List.pairwise_iff_getElem.1 hr j n (by omega) hn hj'
    rw [hl] at this
    exact this
  have e1 := putK_map (Prod.fst) m key (x, y)
  have e2 := putK_map (Prod.snd) m key (x, y)
  refine ⟨rfl, ⟨v4, putK m key (x, y), nn + 1, ?_, by rw [e1]; exact m4, ?_, ?_, ?_, by omega, K⟩, K⟩
  · rw [c4]
    subst hi
    simp [Array.setIfInBounds]
  · rw [e2, putK_end _ _ _ hkeys, hml, List.take_succ_eq_append_getElem hn, hl]
  · intro z hz'
    rcases mem_putK hz' with rfl | hz'
    · exact hx.keepF hGs (fun _ h => h)
    · exact (hrb z hz').keepF hGW (fun _ h => h)
  · intro r hr'
    rcases b4 r hr' with h | h
    · exact hblk r h
    · omega
theorem TI.fin (h : TI w0 W b G c ty l l.length) (hG : There G w0) (hl : l.length ≤ 8589934592) : ∃ v, W.heap[b]? = some (.cells (c ++ [v]).toArray ty (0, 0)) ∧ MP W (New G w0 W) v l ∧ Keep [b] w0 W := by
  obtain ⟨v, m, nn, hb, hmo, hml, hrb, hblk, hnn, hk0⟩ := h
  have hz := hk0.size
  refine ⟨v, hb, ⟨nn, m, by omega, hmo, fun j hj => ⟨.inr (hblk j hj), hmo.lt j hj⟩, by rw [hml, List.take_length], fun x hx => (hrb x hx).keepF (fun _ _ => rfl) (fun j hj => ⟨.inl hj, by have := hG j hj; omega⟩)⟩, hk0⟩
end
theorem wrapN_i32 (n : Int) : IntKind.i32.wrap n = wrapN 4 n := by
  rw [IntKind.wrap_i32]; unfold wrapN sgn; simp only [Nat.reduceMul, Nat.reducePow, Nat.reduceSub, Int.reducePow]; split <;> omega
theorem wrapN_i16 (n : Int) : IntKind.i16.wrap n = wrapN 2 n := by
  rw [wrap_i16']; unfold wrapN sgn; simp only [Nat.reduceMul, Nat.reducePow, Nat.reduceSub, Int.reducePow]; split <;> omega
theorem wrapN_i8 (n : Int) : IntKind.i8.wrap n = wrapN 1 n := by
  rw [wrap_i8']; unfold wrapN sgn; simp only [Nat.reduceMul, Nat.reducePow, Nat.reduceSub, Int.reducePow]; split <;> omega
end Go.Proofs.Ytidebamgmbdnaaa
/-
  A tree's fields.
-/
namespace Go.Proofs.Ytidebamgmbdnaaa
open Go.ChangeShapes Go.WideShapes Go.ChangeAt Go.RowKit

theorem fld0 (a b c d e : Value) (w : World) : Sem.run Try.prog (Instr.field 39 (.agg #[a, b, c, d, e]) 0) w = .ok a w := by kernel_rfl
theorem fld1 (a b c d e : Value) (w : World) : Sem.run Try.prog (Instr.field 39 (.agg #[a, b, c, d, e]) 1) w = .ok b w := by kernel_rfl
theorem fld2 (a b c d e : Value) (w : World) : Sem.run Try.prog (Instr.field 39 (.agg #[a, b, c, d, e]) 2) w = .ok c w := by kernel_rfl
theorem fld3 (a b c d e : Value) (w : World) : Sem.run Try.prog (Instr.field 39 (.agg #[a, b, c, d, e]) 3) w = .ok d w := by kernel_rfl
theorem tset_body : Try.f64.body.isNone = false := by kernel_rfl
theorem tset_name : (Try.f64.name == "runtime.NumGoroutine") = false := by kernel_rfl
theorem w32_mk (n : Int) : wrap32 n = wrapN 4 n := by rw [← IntWalk.i32_left]; exact wrapN_i32 n
theorem rng1 (n : Int) : -128 ≤ wrapN 1 n ∧ wrapN 1 n ≤ 127 := by rw [← wrapN_i8, wrap_i8']; split <;> omega
theorem rng2 (n : Int) : -32768 ≤ wrapN 2 n ∧ wrapN 2 n ≤ 32767 := by rw [← wrapN_i16, wrap_i16']; split <;> omega
theorem rng4 (n : Int) : -2147483648 ≤ wrapN 4 n ∧ wrapN 4 n ≤ 2147483647 := by rw [← w32_mk]; unfold wrap32; omega
theorem wrapN_64 {n : Int} (h1 : -9223372036854775808 ≤ n) (h2 : n ≤ 9223372036854775807) : wrapN 8 n = n := by
  unfold wrapN sgn; simp only [Nat.reduceMul, Nat.reducePow, Nat.reduceSub, Int.reducePow]; split <;> omega
theorem fl64 {n : Int} (h1 : -9223372036854775808 ≤ n) (h2 : n ≤ 9223372036854775807) : T.mk (wrapN 8 n) [] false [] [] = T.mk n [] false [] [] := by rw [wrapN_64 h1 h2]
end Go.Proofs.Ytidebamgmbdnaaa
/-
  WHAT IS MADE OF A TREE IS WRITTEN AS THE REFERENCE WRITES IT.
-/
namespace Go.Proofs.Ytidebamgmbdnaaa

mutual
theorem apF_mk {flex : Bool} {v : Int} : ∀ (f : F), wfF flex f = true → ∀ (t : T), apF f v flex (mkF f v t) = fieldP f v flex t
  | .mk k a b nul tag dfl ofk sub, hw, t => by
    simp only [wfF, Bool.and_eq_true, decide_eq_true_eq] at hw
    obtain ⟨⟨_, hws⟩, hk⟩ := hw
    have hpart : ∀ (t : T), apFs sub v flex (T.mk 0 [] false (mkFs sub 0 v t) (tdU sub t.u)).l ++ (if flex then apU (T.mk 0 [] false (mkFs sub 0 v t) (tdU sub t.u)).u else []) = partP sub v flex t := fun t => by
      rw [partP_untagged (wfFs_untagged hws)]
      have h := apFs_mk (flex := flex) (v := v) sub hws 0 t
      cases flex <;> simp [T.l, T.u, apU, h]
    rw [fieldP_eq]
    unfold fieldOf
    simp only [apF, mkF, F.sub]
    by_cases h11 : k = 11
    · rw [if_pos (show F.kind (.mk k a b nul tag dfl ofk sub) = 11 from h11)]
      rw [if_pos h11] at hk
      simp only [if_pos h11]
      have hk' : kindOk ofk = true ∨ ofk = 10 := by
        rcases Bool.or_eq_true _ _ ▸ hk with h | h
        · exact .inl h
        · simp only [Bool.and_eq_true, decide_eq_true_eq] at h
          exact .inr h.1
      generalize hnull : F.isNull (.mk k a b nul tag dfl ofk sub) v t = null
      have hq : (t.null && decide (0 ≤ nul) && decide (nul ≤ v)) = null := hnull
      have hnn : F.isNull (.mk k a b nul tag dfl ofk sub) v (.mk 0 [] null ((if null then [] else things t.l).map (tdK ofk (fun t => .mk 0 [] false (mkFs sub 0 v t) (tdU sub t.u)) false)) []) = null := by
        show (null && decide (0 ≤ nul) && decide (nul ≤ v)) = null
        cases null with
        | false => simp
        | true =>
          simp only [Bool.and_eq_true] at hq
          simp [hq.1.2, hq.2]
      rw [hnn]
      show countedP flex null ((if null then [] else things t.l).map _).length 4 ++ ((if null then [] else things t.l).map _).flatMap _ = countedP flex null (if null then [] else things t.l).length 4 ++ ((if null then [] else things t.l).flatMap fun x => valueP ofk (partP sub v flex) false flex x)
      rw [List.length_map, List.flatMap_map]
      congr 2
      funext x
      exact apK_td hk' x (hpart x)
    · rw [if_neg (show ¬ F.kind (.mk k a b nul tag dfl ofk sub) = 11 from h11)]
      rw [if_neg h11] at hk
      have h10 : ¬ (F.kind (.mk k a b nul tag dfl ofk sub) = 10 ∧ 0 ≤ F.nul (.mk k a b nul tag dfl ofk sub)) := fun h => by
        rw [if_pos (show k = 10 from h.1)] at hk
        have h1 : nul < 0 := by simpa using hk
        have h2 : 0 ≤ nul := h.2
        omega
      rw [if_neg h10]
      have hk' : kindOk k = true ∨ k = 10 := by
        by_cases hkk : k = 10
        · exact .inr hkk
        · rw [if_neg hkk] at hk; exact .inl hk
      simp only [if_neg h11]
      generalize hnull : F.isNull (.mk k a b nul tag dfl ofk sub) v t = null
      have hq : (t.null && decide (0 ≤ nul) && decide (nul ≤ v)) = null := hnull
      have key : apK k (fun t => apFs sub v flex t.l ++ (if flex then apU t.u else [])) (F.isNull (.mk k a b nul tag dfl ofk sub) v (tdK k (fun t => .mk 0 [] false (mkFs sub 0 v t) (tdU sub t.u)) null t)) flex (tdK k (fun t => .mk 0 [] false (mkFs sub 0 v t) (tdU sub t.u)) null t) = apK k (fun t => apFs sub v flex t.l ++ (if flex then apU t.u else [])) null flex (tdK k (fun t => .mk 0 [] false (mkFs sub 0 v t) (tdU sub t.u)) null t) := by
        by_cases h8 : k = 8
        · have e : F.isNull (.mk k a b nul tag dfl ofk sub) v (tdK k (fun t => .mk 0 [] false (mkFs sub 0 v t) (tdU sub t.u)) null t) = null := by
            show ((tdK k (fun t => .mk 0 [] false (mkFs sub 0 v t) (tdU sub t.u)) null t).null && decide (0 ≤ nul) && decide (nul ≤ v)) = null
            rw [tdK_null (fun _ => rfl), h8]
            cases null with
            | false => simp
            | true =>
              simp only [Bool.and_eq_true] at hq
              simp only [hq.1.2, hq.2]
              rfl
          rw [e]
        by_cases hk9 : k = 9
        · have e : F.isNull (.mk k a b nul tag dfl ofk sub) v (tdK k (fun t => .mk 0 [] false (mkFs sub 0 v t) (tdU sub t.u)) null t) = null := by
            show ((tdK k (fun t => .mk 0 [] false (mkFs sub 0 v t) (tdU sub t.u)) null t).null && decide (0 ≤ nul) && decide (nul ≤ v)) = null
            rw [tdK_null (fun _ => rfl), hk9]
            cases null with
            | false => simp
            | true =>
              simp only [Bool.and_eq_true] at hq
              simp only [hq.1.2, hq.2]
              rfl
          rw [e]
        · unfold apK
          simp only [if_neg h8, if_neg hk9]
      exact key.trans (apK_td hk' t (hpart t))
theorem apFs_mk {flex : Bool} {v : Int} : ∀ (fs : List F), wfFs flex fs = true → ∀ (i : Nat) (t : T), apFs fs v flex (mkFs fs i v t) = plainAt fs i v flex t
  | [], _, _, _ => rfl
  | f :: fs, hw, i, t => by
    simp only [wfFs, Bool.and_eq_true] at hw
    simp only [plainAt, mkFs, apFs]
    by_cases h : f.has v = true
    · simp only [h, if_true, apF_mk f hw.1, apFs_mk fs hw.2]
    · simp only [h, Bool.false_eq_true, if_false, apFs_mk fs hw.2]
end
/-- WHAT IS MADE IS WRITTEN AS THE REFERENCE WRITES IT -/
theorem apPart_mk {fs : List F} {v : Int} {flex : Bool} (hw : wfFs flex fs = true) (t : T) : apPart fs v flex (mkPart fs v t) = partP fs v flex t := by
  rw [partP_untagged (wfFs_untagged hw)]
  have h := apFs_mk (flex := flex) (v := v) fs hw 0 t
  unfold apPart mkPart
  cases flex <;> simp [T.l, T.u, apU, h]
end Go.Proofs.Ytidebamgmbdnaaa
/-
  A struct that is filled: a list's loop.
-/
namespace Go.Proofs.Ytidebamgmbdnaaa
open Go.ChangeShapes Go.WideShapes Go.ChangeAt Go.RowKit

/-- the struct's block while a list of N is built: the cells of its first n -/
def LI (U0 W : World) (b : Nat) (pre post : List Value) (ty E : TypeId) (sz N n : Nat) (xs : List Value) (g cap : Nat) : Prop :=
  W.heap[b]? = some (.cells (pre ++ .slice (some ⟨g, 0, none⟩) n cap :: post).toArray ty (0, 0)) ∧ W.ownsRow U0.heap.size E sz (.slice (some ⟨g, 0, none⟩) n cap) n xs ∧ (n = 0 → cap = N) ∧ Keep [b] U0 W
section
variable {U0 W : World} {b N n sz g cap : Nat} {pre post xs : List Value} {ty E : TypeId}
theorem LI.k (h : LI U0 W b pre post ty E sz N n xs g cap) : Keep [b] U0 W := h.2.2.2
theorem LI.ge (h : LI U0 W b pre post ty E sz N n xs g cap) : U0.heap.size ≤ g := (h.2.1.lt g rfl).1
theorem LI.next {v : Value} {i : Nat} (hb : W.heap[b]? = some (.cells (pre ++ v :: post).toArray ty (0, 0))) (hi : i = pre.length) (ho : W.ownsRow U0.heap.size E sz (.slice (some ⟨g, 0, none⟩) n cap) n xs) (hbU : b < U0.heap.size) (hc : n = 0 → cap = N) (k : Keep [b] U0 W) :
    LI U0 (W.setCell ⟨b, i, none⟩ (.slice (some ⟨g, 0, none⟩) n cap)) b pre post ty E sz N n xs g cap := by
  refine ⟨?_, ?_, hc, k.setCell (.inl (by simp)) _⟩
  · rw [heap_set (i := i) hb _]
    subst hi
    simp
  · obtain ⟨h1, ⟨h2, _⟩ | ⟨g', cap', cur, e, h3, h4, h5⟩⟩ := ho
    · cases h2
    · cases e
      refine ⟨h1, .inr ⟨g, cap, cur, rfl, h3, ?_, h5⟩⟩
      rw [← h4]
      exact Below.heap_setCell _ _ _ _ (fun e => by simp only at e; omega)
theorem LI.keep {W' : World} (h : LI U0 W b pre post ty E sz N n xs g cap) (hk : Keep [] W W') : W'.ownsRow U0.heap.size E sz (.slice (some ⟨g, 0, none⟩) n cap) n xs ∧ W'.heap[b]? = some (.cells (pre ++ .slice (some ⟨g, 0, none⟩) n cap :: post).toArray ty (0, 0)) := by
  obtain ⟨hb, ⟨h1, ⟨h2, _⟩ | ⟨g', cap', cur, e, h3, h4, h5⟩⟩, hc, k⟩ := h
  · cases h2
  · cases e
    exact ⟨⟨h1, .inr ⟨g, cap, cur, rfl, h3, (hk.block g (World.heap_lt' h4) (by simp)).trans h4, h5⟩⟩, (hk.block b (World.heap_lt' hb) (by simp)).trans hb⟩
theorem LI.mono {W' : World} (h : LI U0 W b pre post ty E sz N n xs g cap) (hk : Keep [] W W') : LI U0 W' b pre post ty E sz N n xs g cap :=
  ⟨(h.keep hk).2, (h.keep hk).1, h.2.2.1, h.k.trans (hk.weaken (by simp))⟩
/-- the cells as they read -/
theorem LI.rw (h : LI U0 W b pre post ty E sz N N xs g cap) : RW W (fun k => U0.heap.size ≤ k ∧ k < W.heap.size) (.slice (some ⟨g, 0, none⟩) N cap) N xs := by
  obtain ⟨hb, ⟨h1, ⟨h2, _⟩ | ⟨g', cap', cur, e, h3, h4, h5, h6, h7, h8⟩⟩, hc, k⟩ := h
  · cases h2
  · cases e
    by_cases h0 : N = 0
    · subst h0
      obtain rfl := hc rfl
      refine .inl ⟨rfl, List.eq_nil_of_length_eq_zero (by simpa using h1), .inr ⟨g, rfl⟩⟩
    · refine .inr ⟨by omega, g, cap, cur.toList.drop (N * sz), E, rfl, h5, ⟨h3, World.heap_lt' h4⟩, ?_⟩
      rw [h4, ← h8, List.take_append_drop]
end
/-- a list of texts -/
theorem vl_texts {W : World} {G G' : Nat → Prop} {v : Value} {l : List T} {P : List Value → List T → Prop} (h : RW W G v l.length (l.map fun y => str y.s)) (hv : v ≠ .slice none 0 0) : VL W G (VK W G' 8 (-1) P) 1 v (.mk 0 [] false (l.map fun y => .mk 0 y.s false [] []) []) := by
  refine ⟨false, l.map fun y => [str y.s], l.map fun y => .mk 0 y.s false [] [], by simp, fun i h1 h2 => ?_, ?_, ⟨fun e => absurd e hv, fun e => by cases e⟩, rfl⟩
  · simp only [List.getElem_map]
    exact ⟨rfl, ⟨_, rfl, rfl⟩⟩
  · have e : ∀ l : List T, (l.map fun y => [str y.s]).flatten = l.map fun y => str y.s := fun l => by
      induction l with
      | nil => rfl
      | cons a r ih => simp [ih]
    rw [e]
    simpa using h
theorem vl_null {W : World} {G : Nat → Prop} {P : List Value → T → Prop} {m : Nat} : VL W G P m (.slice none 0 0) (.mk 0 [] true [] []) :=
  ⟨true, [], [], rfl, fun i h => absurd h (by simp), .inl ⟨rfl, rfl, .inl rfl⟩, ⟨fun _ => rfl, fun _ => rfl⟩, rfl⟩
theorem fl_null {a b nul tag dfl ofk : Int} {sub : List F} {x : T} (h : x.null = true) : flF (.mk 11 a b nul tag dfl ofk sub) x = .mk 0 [] true [] [] := by
  simp [flF, h]
theorem fl_texts {a b nul tag dfl : Int} {sub : List F} {x : T} (h : x.null = false) (hn : ∀ y ∈ x.l, y.null = false) : flF (.mk 11 a b nul tag dfl 8 sub) x = .mk 0 [] false (x.l.map fun y => .mk 0 y.s false [] []) [] := by
  simp only [flF, if_true, h, Bool.false_eq_true, if_false]
  congr 1
  refine List.map_congr_left fun y hy => ?_
  simp [flK, hn y hy, nstrT]
/-- an element of a fitted list is not null -/
theorem fitF_elems {v : Int} {t : T} : ∀ (f : F), f.kind = 11 → ∀ y ∈ (fitF f v t).l, y.null = false
  | .mk k a b nul tag dfl ofk sub, hk, y, hy => by
    simp only [F.kind] at hk
    subst hk
    simp only [fitF, if_true, T.l, List.mem_map] at hy
    obtain ⟨z, _, rfl⟩ := hy
    unfold fitK
    split
    · rfl
    · split <;> rfl
theorem fitF_len : ∀ (f : F), f.kind = 11 → ∀ (v : Int) (t : T), (fitF f v t).l.length ≤ 32767
  | .mk k a b nul tag dfl ofk sub, hk, v, t => by
    simp only [F.kind] at hk
    subst hk
    simp only [fitF, if_true, T.l, List.length_map]
    exact things_len t.l
theorem info_str : (Try.prog.info? 9).map (fun i => (i.size, i.bytes)) = some (1, 16) := by kernel_rfl
theorem zero_str : (Try.prog.info? 9).bind (fun i => i.zero) = some (.string ⟨#[]⟩) := by kernel_rfl
end Go.Proofs.Ytidebamgmbdnaaa
/-
  What is made of a tree is small, what is fitted slim.
-/
namespace Go.Proofs.Ytidebamgmbdnaaa

theorem mkFs_len : ∀ (fs : List F) (i : Nat) (v : Int) (t : T), (mkFs fs i v t).length = fs.length
  | [], _, _, _ => rfl
  | f :: r, i, v, t => by simp [mkFs, mkFs_len r]
mutual
theorem mkF_small {N : Nat} (hN : 32767 ≤ N) : ∀ (f : F) (v : Int) (t : T), narrow N f → small N (mkF f v t)
  | .mk k a b nul tag dfl ofk sub, v, t, hn => by
    have hp : ∀ t : T, small N (.mk 0 [] false (mkFs sub 0 v t) (tdU sub t.u)) := fun t =>
      ⟨by simp, by rw [mkFs_len]; exact hn.1, by have := tdU_len sub t.u; omega, fun x hx => by have := tdU_small sub t.u x hx; omega, mkFs_small hN sub 0 v t hn.2⟩
    unfold mkF
    split
    · refine ⟨by simp, ?_, by simp, (fun x hx => by cases hx), smalls_map (tdK_small hN hp false) _⟩
      rw [List.length_map]
      split
      · simp
      · have := things_len t.l; omega
    · exact tdK_small hN hp _ t
theorem mkFs_small {N : Nat} (hN : 32767 ≤ N) : ∀ (fs : List F) (i : Nat) (v : Int) (t : T), narrows N fs → smalls N (mkFs fs i v t)
  | [], _, _, _, _ => trivial
  | f :: r, i, v, t, hn => ⟨mkF_small hN f v _ hn.1, mkFs_small hN r (i + 1) v t hn.2⟩
end
theorem mkPart_small {N : Nat} (hN : 32767 ≤ N) {fs : List F} (hn : narrows N fs) (hl : fs.length ≤ N) (v : Int) (t : T) : small N (mkPart fs v t) :=
  ⟨by simp, by rw [mkFs_len]; exact hl, by have := tdU_len fs t.u; omega, fun x hx => by have := tdU_small fs t.u x hx; omega, mkFs_small hN fs 0 v t hn⟩
theorem fitFs_len' : ∀ (fs : List F) (i : Nat) (v : Int) (t : T), (fitFs fs i v t).length = fs.length
  | [], _, _, _ => rfl
  | f :: r, i, v, t => by simp [fitFs, fitFs_len' r]
theorem slims_map {α : Type} {g : α → T} (h : ∀ x, slim (g x)) : ∀ l : List α, slims (l.map g)
  | [] => trivial
  | x :: r => ⟨h x, slims_map h r⟩
theorem slim_plain {n : Int} {s : Bs} {b : Bool} : slim (.mk n s b [] []) := ⟨by simp, by simp, trivial⟩
theorem fitK_slim {kind : Int} {null : Bool} {p : T → T} (hp : ∀ t, slim (p t)) (t : T) : slim (fitK kind null p t) := by
  unfold fitK
  split
  · exact slim_plain
  · split
    · have h := hp t
      generalize p t = y at h
      cases y
      exact h
    · exact slim_plain
mutual
theorem fitF_slim : ∀ (f : F) (v : Int) (t : T), narrow 1000000 f → slim (fitF f v t)
  | .mk k a b nul tag dfl ofk sub, v, t, hn => by
    have hp : ∀ t : T, slim (.mk 0 [] false (fitFs sub 0 v t) (tdU sub t.u)) := fun t =>
      ⟨by rw [fitFs_len']; exact hn.1, by have := tdU_len sub t.u; omega, fitFs_slim sub 0 v t hn.2⟩
    unfold fitF
    split
    · refine ⟨?_, by simp, slims_map (fun x => fitK_slim hp x) _⟩
      rw [List.length_map]
      have := things_len t.l; omega
    · exact fitK_slim hp t
theorem fitFs_slim : ∀ (fs : List F) (i : Nat) (v : Int) (t : T), narrows 1000000 fs → slims (fitFs fs i v t)
  | [], _, _, _, _ => trivial
  | f :: r, i, v, t, hn => ⟨fitF_slim f v _ hn.1, fitFs_slim r (i + 1) v t hn.2⟩
end
theorem fitPart_slim {fs : List F} (hn : narrows 1000000 fs) (hl : fs.length ≤ 1000000) (v : Int) (t : T) : slim (fitPart fs v t) :=
  ⟨by rw [fitFs_len']; exact hl, by have := tdU_len fs t.u; omega, fitFs_slim fs 0 v t hn⟩
/-- what is made of a fitted tree is written as the reference writes it -/
theorem apPart_fit {fs : List F} {v : Int} {flex : Bool} (hw : wfFs flex fs = true) (hp : plainFs fs = true) (t : T) : apPart fs v flex (flPart fs (fitPart fs v t)) = partP fs v flex t := by
  rw [fl_fit hp, apPart_mk hw]
end Go.Proofs.Ytidebamgmbdnaaa
