/-
  spec.Fit at every message without tagged fields; impl.at.
-/
import Derived.Test.YtidebamgmbdnaaaMB20
import Derived.Test.YtidebamgmbdnaaaMB10
import Derived.Test.YtidebamgmbdnaaaMB13
import Derived.Test.YtidebamgmbdnaaaMB17
import Derived.Test.YtidebamgmbdnaaaMB16
namespace Go.Proofs.Ytidebamgmbdnaaa
open Go.ChangeShapes Go.WideShapes Go.ChangeAt Go.RowKit

theorem plain_noTags : ∀ {fs : List F}, plainFs fs = true → noTags fs = true
  | [], _ => rfl
  | .mk k a b nul tag dfl ofk sub :: r, h => by
    simp only [plainFs, plainF, Bool.and_eq_true, decide_eq_true_eq] at h
    simp only [noTags, Bool.and_eq_true, decide_eq_true_eq]
    exact ⟨h.1.1.1.1, plain_noTags h.2⟩
mutual
theorem fieldFit_ok (v : Int) : ∀ f : F, plainF f = true → FieldFit f v
  | .mk k a b nul tag dfl ofk sub, h => by
    simp only [plainF, Bool.and_eq_true, Bool.or_eq_true, decide_eq_true_eq] at h
    obtain ⟨⟨⟨ht, _⟩, ho⟩, hs⟩ := h
    have hS : FitSaid sub v := fit_step (plain_noTags hs) (fieldsFit_ok v sub hs)
    have one : ∀ g : F, g.kind ≠ 11 → g.sub = sub → FieldFit g v := fun g h11 hsub => by
      by_cases h8 : g.kind = 8 ∨ g.kind = 9
      · exact fit_text h8
      by_cases h10 : g.kind = 10
      · exact fit_part h10 (by rw [hsub]; exact hS)
      · exact fit_num (by omega) (by omega) h10 h11
    by_cases h11 : k = 11
    · exact fit_list h11 ho ht (one (oneT (.mk k a b nul tag dfl ofk sub)) ho rfl)
    · exact one _ h11 rfl
theorem fieldsFit_ok (v : Int) : ∀ fs : List F, plainFs fs = true → ∀ f ∈ fs, FieldFit f v
  | [], _, f, h => by cases h
  | g :: r, h, f, hf => by
    simp only [plainFs, Bool.and_eq_true] at h
    rcases List.mem_cons.1 hf with e | e
    · rw [e]; exact fieldFit_ok v g h.1
    · exact fieldsFit_ok v r h.2 f e
end
theorem fitSaid_ok {fs : List F} (h : plainFs fs = true) (v : Int) : FitSaid fs v := fit_step (plain_noTags h) (fieldsFit_ok v fs h)
set_option maxHeartbeats 1000000 in
set_option maxRecDepth 100000 in
theorem iat_any {G : Nat → Prop} {t : T} {c : List Value} {w : World} (ht : HT w G t c) (hG : There G w) (i : Nat) :
    Calls Try.prog 63 #[.agg c.toArray, .int .i64 i] w fun e w' => ∃ c', e = .returned (.agg c'.toArray) ∧ HT w' G (atT t i) c' ∧ Keep [] w w' := by
  obtain ⟨vs, vl, vu, rfl, hs, hl, hu, hn1, hn2, hn3, hn4⟩ := ht.parts
  by_cases hi : i < t.l.length
  · obtain ⟨b, o, cap, c, rfl, hcap, hGb, hc, hcell⟩ := hl.elem hi
    obtain ⟨vs', vl', vu', rfl, k1, k2, k3, _⟩ := hc.parts
    obtain ⟨az, ps, rfl⟩ := RS.shape k1
    obtain ⟨al, pl, rfl, _⟩ := HTs.shape k2
    obtain ⟨au, pu, rfl⟩ := HGs.shape k3
    clear k1 k2 k3
    have hlt : b < w.heap.size := hG b hGb
    have c0 : w.cell? ⟨b, o + i * 5, none⟩ = some (Value.int .i64 (t.l[i]).n) := hcell 0 (by simp)
    have c1 : w.cell? ⟨b, o + i * 5 + 1, none⟩ = some (.slice az (t.l[i]).s.length ps) := hcell 1 (by simp)
    have c2 : w.cell? ⟨b, o + i * 5 + 2, none⟩ = some (.bool (t.l[i]).null) := hcell 2 (by simp)
    have c3 : w.cell? ⟨b, o + i * 5 + 3, none⟩ = some (.slice al (t.l[i]).l.length pl) := hcell 3 (by simp)
    have c4 : w.cell? ⟨b, o + i * 5 + 4, none⟩ = some (.slice au (t.l[i]).u.length pu) := hcell 4 (by simp)
    clear hcell
    generalize hx : t.l[i] = x at *
    have HX : Hid (t.l[i] = x) := hx
    clear hx
    go_enter Try.func63, Try.ntmps63
    go_wp2
    refine bodyPost_ret (v := .agg #[.int .i64 x.n, .slice az x.s.length ps, .bool x.null, .slice al x.l.length pl, .slice au x.u.length pu]) (by simp [results, Try.results63, go_sem]) rfl ?_
    have hk : Keep [] w ((w.alloc (.cells #[.int .i64 t.n, vs, .bool t.null, .slice (some ⟨b, o, none⟩) t.l.length cap, vu] 39)).alloc (.cells #[.int .i64 x.n, .slice az x.s.length ps, .bool x.null, .slice al x.l.length pl, .slice au x.u.length pu] 39)) := ((Keep.refl _ _).alloc _).alloc _
    refine ⟨[_, _, _, _, _], rfl, ?_, hk⟩
    have e : atT t i = x := by rw [← HX.out]; simp [atT, hi]
    rw [e]
    exact hc.keepF (hG.same hk) (fun _ h => h)
  · have hat : atT t i = T.zero := by simp [atT, List.getElem?_eq_none (Nat.not_lt.1 hi)]
    have HAT : Hid (atT t i = T.zero) := hat
    obtain ⟨al, pl, rfl, _⟩ := hl.shape
    clear hat ht
    go_enter Try.func63, Try.ntmps63
    go_wp2
    refine bodyPost_ret (v := .agg #[.int .i64 0, .slice none 0 0, .bool false, .slice none 0 0, .slice none 0 0]) (by simp [results, Try.results63, go_sem]) rfl ⟨[_, _, _, _, _], rfl, ?_, ((Keep.refl _ _).alloc _).alloc _⟩
    rw [HAT.out]
    exact HT.zero _ _
end Go.Proofs.Ytidebamgmbdnaaa
/-
  A struct that is filled: its tags' loop.
-/
namespace Go.Proofs.Ytidebamgmbdnaaa
open Go.ChangeShapes Go.WideShapes Go.ChangeAt Go.RowKit

/-- the struct's block while its tags are set: the first n of l -/
def TI (w0 W : World) (b : Nat) (G : Nat → Prop) (c : List Value) (ty : TypeId) (l : List Tg) (n : Nat) : Prop :=
  ∃ (v : Value) (m : List (Nat × (Value × Bs))) (nn : Nat), W.heap[b]? = some (.cells (c ++ [v]).toArray ty (0, 0)) ∧ MO W v nn (m.map fun x => (x.1, x.2.1)) ∧ m.map (fun x => (x.1, x.2.2)) = l.take n ∧ (∀ x ∈ m, RB W G x.2.1 x.2.2) ∧ (∀ r ∈ mblk v, w0.heap.size ≤ r) ∧ nn ≤ n ∧ Keep [b] w0 W
section
variable {w0 W : World} {b n : Nat} {G : Nat → Prop} {c : List Value} {ty : TypeId} {l : List Tg}
theorem TI.start (hb : W.heap[b]? = some (.cells (c ++ [Value.map none]).toArray ty (0, 0))) (k : Keep [b] w0 W) : TI w0 W b G c ty l 0 :=
  ⟨.map none, [], 0, hb, MO.nil _ _, by simp, by simp, by simp [mblk], Nat.le_refl _, k⟩
theorem TI.k (h : TI w0 W b G c ty l n) : Keep [b] w0 W := by
  obtain ⟨v, m, nn, _, _, _, _, _, _, hk⟩ := h
  exact hk
theorem TI.set {W' : World} {i : Nat} {x : Value} {key : Nat} {y : Bs} (h : TI w0 W b G c ty l n) (hG : There G w0) (hGb : ¬ G b) (_hbw : b < w0.heap.size) (k : Keep [] W W') (hi : i = c.length) (hn : n < l.length) (hl : l[n] = (key, y)) (hr : Rising l) (hk : key < 4294967296) (hx : RB W' G x y) (hlen : l.length ≤ 17179869184) :
    Calls Try.prog 64 #[.pointer (some ⟨b, i, none⟩), .int .u32 (key : Int), x] W' fun e w' => e = .returned (.tuple #[]) ∧ TI w0 w' b G c ty l (n + 1) ∧ Keep [b] w0 w' := by
  obtain ⟨v, m, nn, hb, hmo, hml, hrb, hblk, hnn, hk0⟩ := h
  have hbW : b < W.heap.size := World.heap_lt' hb
  have hb' := (k.block b hbW (by simp)).trans hb
  have hmo' := hmo.kept (w' := W') (fun j hj => k.block j (hmo.lt j hj) (by simp))
  have TS := tset_any (x := x) hb' (i := i) (by subst hi; simp) hmo' hk (by omega)
  refine TS.mono ?_
  rintro e w4 ⟨rfl, v4, m4, c4, b4, k4⟩
  have hz := hk0.size
  have hz1 := k.size
  have hlow : ∀ j, j < w0.heap.size → j ≠ b → j ∉ b :: mblk v := fun j hj hjb h => by
    rcases List.mem_cons.1 h with h | h
    · exact hjb h
    · have := hblk j h; omega
  have hGs : ∀ j, G j → w4.heap[j]? = W'.heap[j]? := fun j hj => k4.block j (by have := hG j hj; omega) (hlow j (hG j hj) (fun e => hGb (e ▸ hj)))
  have hGW : ∀ j, G j → w4.heap[j]? = W.heap[j]? := fun j hj => (hGs j hj).trans (k.block j (by have := hG j hj; omega) (by simp))
  have K : Keep [b] w0 w4 := ((hk0.trans (k.weaken (by simp))).weaken (B := b :: mblk v) (by simp)).trans k4 |>.fresh (fun j h => by
    rcases List.mem_cons.1 h with h | h
    · exact .inl (by simp [h])
    · exact .inr (hblk j h))
  have hkeys : ∀ z ∈ m.map (fun x => (x.1, x.2.2)), z.1 < key := by
    intro z hz'
    rw [hml] at hz'
    obtain ⟨j, hj, rfl⟩ := List.getElem_of_mem hz'
    have hj' : j < n := by simp at hj; omega
    rw [List.getElem_take]
    have := List.pairwise_iff_getElem.1 hr j n (by omega) hn hj'
    rw [hl] at this
    exact this
  have e1 := putK_map (Prod.fst) m key (x, y)
  have e2 := putK_map (Prod.snd) m key (x, y)
  refine ⟨rfl, ⟨v4, putK m key (x, y), nn + 1, ?_, by rw [e1]; exact m4, ?_, ?_, ?_, by omega, K⟩, K⟩
  · rw [c4]
    subst hi
    simp [Array.setIfInBounds]
  · rw [e2, putK_end _ _ _ hkeys, hml, List.take_succ_eq_append_getElem hn, hl]
  · intro z hz'
    rcases mem_putK hz' with rfl | hz'
    · exact hx.keepF hGs (fun _ h => h)
    · exact (hrb z hz').keepF hGW (fun _ h => h)
  · intro r hr'
    rcases b4 r hr' with h | h
    · exact hblk r h
    · omega
theorem TI.fin (h : TI w0 W b G c ty l l.length) (hG : There G w0) (hl : l.length ≤ 8589934592) : ∃ v, W.heap[b]? = some (.cells (c ++ [v]).toArray ty (0, 0)) ∧ MP W (New G w0 W) v l ∧ Keep [b] w0 W := by
  obtain ⟨v, m, nn, hb, hmo, hml, hrb, hblk, hnn, hk0⟩ := h
  have hz := hk0.size
  refine ⟨v, hb, ⟨nn, m, by omega, hmo, fun j hj => ⟨.inr (hblk j hj), hmo.lt j hj⟩, by rw [hml, List.take_length], fun x hx => (hrb x hx).keepF (fun _ _ => rfl) (fun j hj => ⟨.inl hj, by have := hG j hj; omega⟩)⟩, hk0⟩
end
theorem wrapN_i32 (n : Int) : IntKind.i32.wrap n = wrapN 4 n := by
  rw [IntKind.wrap_i32]; unfold wrapN sgn; simp only [Nat.reduceMul, Nat.reducePow, Nat.reduceSub, Int.reducePow]; split <;> omega
theorem wrapN_i16 (n : Int) : IntKind.i16.wrap n = wrapN 2 n := by
  rw [wrap_i16']; unfold wrapN sgn; simp only [Nat.reduceMul, Nat.reducePow, Nat.reduceSub, Int.reducePow]; split <;> omega
theorem wrapN_i8 (n : Int) : IntKind.i8.wrap n = wrapN 1 n := by
  rw [wrap_i8']; unfold wrapN sgn; simp only [Nat.reduceMul, Nat.reducePow, Nat.reduceSub, Int.reducePow]; split <;> omega
end Go.Proofs.Ytidebamgmbdnaaa
/-
  A tree's fields.
-/
namespace Go.Proofs.Ytidebamgmbdnaaa
open Go.ChangeShapes Go.WideShapes Go.ChangeAt Go.RowKit

theorem fld0 (a b c d e : Value) (w : World) : Sem.run Try.prog (Instr.field 39 (.agg #[a, b, c, d, e]) 0) w = .ok a w := by kernel_rfl
theorem fld1 (a b c d e : Value) (w : World) : Sem.run Try.prog (Instr.field 39 (.agg #[a, b, c, d, e]) 1) w = .ok b w := by kernel_rfl
theorem fld2 (a b c d e : Value) (w : World) : Sem.run Try.prog (Instr.field 39 (.agg #[a, b, c, d, e]) 2) w = .ok c w := by kernel_rfl
theorem fld3 (a b c d e : Value) (w : World) : Sem.run Try.prog (Instr.field 39 (.agg #[a, b, c, d, e]) 3) w = .ok d w := by kernel_rfl
theorem tset_body : Try.f64.body.isNone = false := by kernel_rfl
theorem tset_name : (Try.f64.name == "runtime.NumGoroutine") = false := by kernel_rfl
theorem w32_mk (n : Int) : wrap32 n = wrapN 4 n := by rw [← IntWalk.i32_left]; exact wrapN_i32 n
theorem rng1 (n : Int) : -128 ≤ wrapN 1 n ∧ wrapN 1 n ≤ 127 := by rw [← wrapN_i8, wrap_i8']; split <;> omega
theorem rng2 (n : Int) : -32768 ≤ wrapN 2 n ∧ wrapN 2 n ≤ 32767 := by rw [← wrapN_i16, wrap_i16']; split <;> omega
theorem rng4 (n : Int) : -2147483648 ≤ wrapN 4 n ∧ wrapN 4 n ≤ 2147483647 := by rw [← w32_mk]; unfold wrap32; omega
theorem wrapN_64 {n : Int} (h1 : -9223372036854775808 ≤ n) (h2 : n ≤ 9223372036854775807) : wrapN 8 n = n := by
  unfold wrapN sgn; simp only [Nat.reduceMul, Nat.reducePow, Nat.reduceSub, Int.reducePow]; split <;> omega
theorem fl64 {n : Int} (h1 : -9223372036854775808 ≤ n) (h2 : n ≤ 9223372036854775807) : T.mk (wrapN 8 n) [] false [] [] = T.mk n [] false [] [] := by rw [wrapN_64 h1 h2]
end Go.Proofs.Ytidebamgmbdnaaa
/-
  WHAT IS MADE OF A TREE IS WRITTEN AS THE REFERENCE WRITES IT.
-/
namespace Go.Proofs.Ytidebamgmbdnaaa

mutual
theorem apF_mk {flex : Bool} {v : Int} : ∀ (f : F), wfF flex f = true → ∀ (t : T), apF f v flex (mkF f v t) = fieldP f v flex t
  | .mk k a b nul tag dfl ofk sub, hw, t => by
    simp only [wfF, Bool.and_eq_true, decide_eq_true_eq] at hw
    obtain ⟨⟨_, hws⟩, hk⟩ := hw
    have hpart : ∀ (t : T), apFs sub v flex (T.mk 0 [] false (mkFs sub 0 v t) (tdU sub t.u)).l ++ (if flex then apU (T.mk 0 [] false (mkFs sub 0 v t) (tdU sub t.u)).u else []) = partP sub v flex t := fun t => by
      rw [partP_untagged (wfFs_untagged hws)]
      have h := apFs_mk (flex := flex) (v := v) sub hws 0 t
      cases flex <;> simp [T.l, T.u, apU, h]
    rw [fieldP_eq]
    unfold fieldOf
    simp only [apF, mkF, F.sub]
    by_cases h11 : k = 11
    · rw [if_pos (show F.kind (.mk k a b nul tag dfl ofk sub) = 11 from h11)]
      rw [if_pos h11] at hk
      simp only [if_pos h11]
      have hk' : kindOk ofk = true ∨ ofk = 10 := by
        rcases Bool.or_eq_true _ _ ▸ hk with h | h
        · exact .inl h
        · simp only [Bool.and_eq_true, decide_eq_true_eq] at h
          exact .inr h.1
      generalize hnull : F.isNull (.mk k a b nul tag dfl ofk sub) v t = null
      have hq : (t.null && decide (0 ≤ nul) && decide (nul ≤ v)) = null := hnull
      have hnn : F.isNull (.mk k a b nul tag dfl ofk sub) v (.mk 0 [] null ((if null then [] else things t.l).map (tdK ofk (fun t => .mk 0 [] false (mkFs sub 0 v t) (tdU sub t.u)) false)) []) = null := by
        show (null && decide (0 ≤ nul) && decide (nul ≤ v)) = null
        cases null with
        | false => simp
        | true =>
          simp only [Bool.and_eq_true] at hq
          simp [hq.1.2, hq.2]
      rw [hnn]
      show countedP flex null ((if null then [] else things t.l).map _).length 4 ++ ((if null then [] else things t.l).map _).flatMap _ = countedP flex null (if null then [] else things t.l).length 4 ++ ((if null then [] else things t.l).flatMap fun x => valueP ofk (partP sub v flex) false flex x)
      rw [List.length_map, List.flatMap_map]
      congr 2
      funext x
      exact apK_td hk' x (hpart x)
    · rw [if_neg (show ¬ F.kind (.mk k a b nul tag dfl ofk sub) = 11 from h11)]
      rw [if_neg h11] at hk
      have h10 : ¬ (F.kind (.mk k a b nul tag dfl ofk sub) = 10 ∧ 0 ≤ F.nul (.mk k a b nul tag dfl ofk sub)) := fun h => by
        rw [if_pos (show k = 10 from h.1)] at hk
        have h1 : nul < 0 := by simpa using hk
        have h2 : 0 ≤ nul := h.2
        omega
      rw [if_neg h10]
      have hk' : kindOk k = true ∨ k = 10 := by
        by_cases hkk : k = 10
        · exact .inr hkk
        · rw [if_neg hkk] at hk; exact .inl hk
      simp only [if_neg h11]
      generalize hnull : F.isNull (.mk k a b nul tag dfl ofk sub) v t = null
      have hq : (t.null && decide (0 ≤ nul) && decide (nul ≤ v)) = null := hnull
      have key : apK k (fun t => apFs sub v flex t.l ++ (if flex then apU t.u else [])) (F.isNull (.mk k a b nul tag dfl ofk sub) v (tdK k (fun t => .mk 0 [] false (mkFs sub 0 v t) (tdU sub t.u)) null t)) flex (tdK k (fun t => .mk 0 [] false (mkFs sub 0 v t) (tdU sub t.u)) null t) = apK k (fun t => apFs sub v flex t.l ++ (if flex then apU t.u else [])) null flex (tdK k (fun t => .mk 0 [] false (mkFs sub 0 v t) (tdU sub t.u)) null t) := by
        by_cases h8 : k = 8
        · have e : F.isNull (.mk k a b nul tag dfl ofk sub) v (tdK k (fun t => .mk 0 [] false (mkFs sub 0 v t) (tdU sub t.u)) null t) = null := by
            show ((tdK k (fun t => .mk 0 [] false (mkFs sub 0 v t) (tdU sub t.u)) null t).null && decide (0 ≤ nul) && decide (nul ≤ v)) = null
            rw [tdK_null (fun _ => rfl), h8]
            cases null with
            | false => simp
            | true =>
              simp only [Bool.and_eq_true] at hq
              simp only [hq.1.2, hq.2]
              rfl
          rw [e]
        by_cases hk9 : k = 9
        · have e : F.isNull (.mk k a b nul tag dfl ofk sub) v (tdK k (fun t => .mk 0 [] false (mkFs sub 0 v t) (tdU sub t.u)) null t) = null := by
            show ((tdK k (fun t => .mk 0 [] false (mkFs sub 0 v t) (tdU sub t.u)) null t).null && decide (0 ≤ nul) && decide (nul ≤ v)) = null
            rw [tdK_null (fun _ => rfl), hk9]
            cases null with
            | false => simp
            | true =>
              simp only [Bool.and_eq_true] at hq
              simp only [hq.1.2, hq.2]
              rfl
          rw [e]
        · unfold apK
          simp only [if_neg h8, if_neg hk9]
      exact key.trans (apK_td hk' t (hpart t))
theorem apFs_mk {flex : Bool} {v : Int} : ∀ (fs : List F), wfFs flex fs = true → ∀ (i : Nat) (t : T), apFs fs v flex (mkFs fs i v t) = plainAt fs i v flex t
  | [], _, _, _ => rfl
  | f :: fs, hw, i, t => by
    simp only [wfFs, Bool.and_eq_true] at hw
    simp only [plainAt, mkFs, apFs]
    by_cases h : f.has v = true
    · simp only [h, if_true, apF_mk f hw.1, apFs_mk fs hw.2]
    · simp only [h, Bool.false_eq_true, if_false, apFs_mk fs hw.2]
end
/-- WHAT IS MADE IS WRITTEN AS THE REFERENCE WRITES IT -/
theorem apPart_mk {fs : List F} {v : Int} {flex : Bool} (hw : wfFs flex fs = true) (t : T) : apPart fs v flex (mkPart fs v t) = partP fs v flex t := by
  rw [partP_untagged (wfFs_untagged hw)]
  have h := apFs_mk (flex := flex) (v := v) fs hw 0 t
  unfold apPart mkPart
  cases flex <;> simp [T.l, T.u, apU, h]
end Go.Proofs.Ytidebamgmbdnaaa
/-
  What is made of a tree is small, what is fitted slim.
-/
namespace Go.Proofs.Ytidebamgmbdnaaa

theorem mkFs_len : ∀ (fs : List F) (i : Nat) (v : Int) (t : T), (mkFs fs i v t).length = fs.length
  | [], _, _, _ => rfl
  | f :: r, i, v, t => by simp [mkFs, mkFs_len r]
mutual
theorem mkF_small {N : Nat} (hN : 32767 ≤ N) : ∀ (f : F) (v : Int) (t : T), narrow N f → small N (mkF f v t)
  | .mk k a b nul tag dfl ofk sub, v, t, hn => by
    have hp : ∀ t : T, small N (.mk 0 [] false (mkFs sub 0 v t) (tdU sub t.u)) := fun t =>
      ⟨by simp, by rw [mkFs_len]; exact hn.1, by have := tdU_len sub t.u; omega, fun x hx => by have := tdU_small sub t.u x hx; omega, mkFs_small hN sub 0 v t hn.2⟩
    unfold mkF
    split
    · refine ⟨by simp, ?_, by simp, (fun x hx => by cases hx), smalls_map (tdK_small hN hp false) _⟩
      rw [List.length_map]
      split
      · simp
      · have := things_len t.l; omega
    · exact tdK_small hN hp _ t
theorem mkFs_small {N : Nat} (hN : 32767 ≤ N) : ∀ (fs : List F) (i : Nat) (v : Int) (t : T), narrows N fs → smalls N (mkFs fs i v t)
  | [], _, _, _, _ => trivial
  | f :: r, i, v, t, hn => ⟨mkF_small hN f v _ hn.1, mkFs_small hN r (i + 1) v t hn.2⟩
end
theorem mkPart_small {N : Nat} (hN : 32767 ≤ N) {fs : List F} (hn : narrows N fs) (hl : fs.length ≤ N) (v : Int) (t : T) : small N (mkPart fs v t) :=
  ⟨by simp, by rw [mkFs_len]; exact hl, by have := tdU_len fs t.u; omega, fun x hx => by have := tdU_small fs t.u x hx; omega, mkFs_small hN fs 0 v t hn⟩
theorem fitFs_len' : ∀ (fs : List F) (i : Nat) (v : Int) (t : T), (fitFs fs i v t).length = fs.length
  | [], _, _, _ => rfl
  | f :: r, i, v, t => by simp [fitFs, fitFs_len' r]
theorem slims_map {α : Type} {g : α → T} (h : ∀ x, slim (g x)) : ∀ l : List α, slims (l.map g)
  | [] => trivial
  | x :: r => ⟨h x, slims_map h r⟩
theorem slim_plain {n : Int} {s : Bs} {b : Bool} : slim (.mk n s b [] []) := ⟨by simp, by simp, trivial⟩
theorem fitK_slim {kind : Int} {null : Bool} {p : T → T} (hp : ∀ t, slim (p t)) (t : T) : slim (fitK kind null p t) := by
  unfold fitK
  split
  · exact slim_plain
  · split
    · have h := hp t
      generalize p t = y at h
      cases y
      exact h
    · exact slim_plain
mutual
theorem fitF_slim : ∀ (f : F) (v : Int) (t : T), narrow 1000000 f → slim (fitF f v t)
  | .mk k a b nul tag dfl ofk sub, v, t, hn => by
    have hp : ∀ t : T, slim (.mk 0 [] false (fitFs sub 0 v t) (tdU sub t.u)) := fun t =>
      ⟨by rw [fitFs_len']; exact hn.1, by have := tdU_len sub t.u; omega, fitFs_slim sub 0 v t hn.2⟩
    unfold fitF
    split
    · refine ⟨?_, by simp, slims_map (fun x => fitK_slim hp x) _⟩
      rw [List.length_map]
      have := things_len t.l; omega
    · exact fitK_slim hp t
theorem fitFs_slim : ∀ (fs : List F) (i : Nat) (v : Int) (t : T), narrows 1000000 fs → slims (fitFs fs i v t)
  | [], _, _, _, _ => trivial
  | f :: r, i, v, t, hn => ⟨fitF_slim f v _ hn.1, fitFs_slim r (i + 1) v t hn.2⟩
end
theorem fitPart_slim {fs : List F} (hn : narrows 1000000 fs) (hl : fs.length ≤ 1000000) (v : Int) (t : T) : slim (fitPart fs v t) :=
  ⟨by rw [fitFs_len']; exact hl, by have := tdU_len fs t.u; omega, fitFs_slim fs 0 v t hn⟩
/-- what is made of a fitted tree is written as the reference writes it -/
theorem apPart_fit {fs : List F} {v : Int} {flex : Bool} (hw : wfFs flex fs = true) (hp : plainFs fs = true) (t : T) : apPart fs v flex (flPart fs (fitPart fs v t)) = partP fs v flex t := by
  rw [fl_fit hp, apPart_mk hw]
end Go.Proofs.Ytidebamgmbdnaaa
