/-
  spec.Fit: what a part says, as far as it can be set.
-/
import Derived.Test.YtidebamgmbdnaaaMB17
import Derived.Test.YtidebamgmbdnaaaMB4
namespace Go.Proofs.Ytidebamgmbdnaaa
open Go.ChangeShapes Go.WideShapes Go.ChangeAt Go.RowKit

theorem tset5 {w : World} {b o : Nat} {c : Array Value} {t : TypeId} {z0 : Nat × Nat} {z s n l u : Value} (h : w.heap[b]? = some (.cells c t z0)) :
    (((((w.setCell ⟨b, o, none⟩ z).setCell ⟨b, o + 1, none⟩ s).setCell ⟨b, o + 2, none⟩ n).setCell ⟨b, o + 3, none⟩ l).setCell ⟨b, o + 4, none⟩ u).heap[b]? = some (.cells (((((c.setIfInBounds o z).setIfInBounds (o + 1) s).setIfInBounds (o + 2) n).setIfInBounds (o + 3) l).setIfInBounds (o + 4) u) t z0) ∧
    Keep [b] w (((((w.setCell ⟨b, o, none⟩ z).setCell ⟨b, o + 1, none⟩ s).setCell ⟨b, o + 2, none⟩ n).setCell ⟨b, o + 3, none⟩ l).setCell ⟨b, o + 4, none⟩ u) :=
  ⟨heap_set (heap_set (heap_set (heap_set (heap_set h z) s) n) l) u, (((((Keep.refl _ _).setCell (.inl (by simp)) _).setCell (.inl (by simp)) _).setCell (.inl (by simp)) _).setCell (.inl (by simp)) _).setCell (.inl (by simp)) _⟩
theorem threeB {w w1 : World} {o1 o2 o3 : Obj} (h : Keep [] (((w.alloc o1).alloc o2).alloc o3) w1) : w1.heap[w.heap.size]? = some o1 ∧ w1.heap[w.heap.size + 1]? = some o2 ∧ w1.heap[w.heap.size + 1 + 1]? = some o3 := by
  have h2 := twoBoxes ((keep_box (A := []) (w := (w.alloc o1).alloc o2) o3).trans h)
  refine ⟨h2.1, h2.2, ?_⟩
  have h3 := oneBox h
  simpa using h3
theorem fitF_eq (f : F) (v : Int) (t : T) : fitF f v t = if f.kind = 11 then .mk 0 [] (f.isNull v t || (decide (0 ≤ f.tag) && t.l.isEmpty)) ((things t.l).map (fitK f.ofk false (fitPart f.sub v))) [] else fitK f.kind (f.isNull v t) (fitPart f.sub v) t := by
  cases f
  unfold fitF
  rfl
/-- a list's thing, as a field -/
def oneT (f : F) : F := .mk f.ofk f.frm f.to (-1) (-1) f.dfl f.ofk f.sub
theorem isNullT (f : F) (v : Int) (t : T) : (oneT f).isNull v t = false := by
  show (t.null && decide ((0 : Int) ≤ -1) && decide ((-1 : Int) ≤ v)) = false
  simp
theorem fitF_one {f : F} (h : f.ofk ≠ 11) (v : Int) (x : T) : fitF (oneT f) v x = fitK f.ofk false (fitPart f.sub v) x := by
  rw [fitF_eq, if_neg (show ¬ (oneT f).kind = 11 from h), isNullT]
  rfl
theorem HF.oneT {w : World} {G : Nat → Prop} {f : F} {v : Value} (h : HFs w G v f.sub) : HF w G (oneT f) [.int .i64 f.ofk, .int .i64 f.frm, .int .i64 f.to, .int .i64 (-1), .int .i64 (-1), .int .i64 f.dfl, .int .i64 f.ofk, v] := by
  obtain ⟨cs, h1, h2, h3, h4⟩ := h
  exact .mk _ _ _ _ _ _ _ _ v cs h3 h1 h2 h4
theorem HT.setNull {w : World} {G : Nat → Prop} {t : T} {a b d e : Value} {x : Bool} (y : Bool) (h : HT w G t [a, b, .bool x, d, e]) : HT w G (.mk t.n t.s y t.l t.u) [a, b, .bool y, d, e] := by
  cases h with
  | mk n s null l u vs vl vu cs hs hn hlen hl hr hu => exact .mk n s y l u _ _ _ cs hs hn hlen hl hr hu
/-- what spec.Fit promises of these fields -/
def FitSaid (fs : List F) (v : Int) : Prop :=
  ∀ (G : Nat → Prop) (vs : Value) (t : T) (c : List Value) (w : World), HFs w G vs fs → HT w G t c → There G w →
    Calls Try.prog 15 #[vs, .int .i64 v, .agg c.toArray] w fun e w' => ∃ c', e = .returned (.agg c'.toArray) ∧ HT w' (New G w w') (fitPart fs v t) c' ∧ Keep [] w w'
/-- what spec.fitted promises of a field -/
def FieldFit (f : F) (v : Int) : Prop :=
  ∀ (G : Nat → Prop) (cf : List Value) (t : T) (c : List Value) (w : World), HF w G f cf → HT w G t c → There G w →
    Calls Try.prog 35 #[.agg cf.toArray, .int .i64 v, .agg c.toArray] w fun e w' => ∃ c', e = .returned (.agg c'.toArray) ∧ HT w' (New G w w') (fitF f v t) c' ∧ Keep [] w w'
section
variable {f : F} {v : Int}

set_option maxHeartbeats 4000000 in
set_option maxRecDepth 100000 in
theorem fit_num (h8 : ¬ f.kind = 8) (h9 : ¬ f.kind = 9) (h10 : ¬ f.kind = 10) (h11 : ¬ f.kind = 11) : FieldFit f v := by
  intro G cf t c w hf ht hG
  rw [fitF_eq]
  have NUX := fun W (hW : Keep [] w W) => null_any (hf.keepF (hG.same hW) (fun _ h => h)) (ht.keepF (hG.same hW) (fun _ h => h)) v
  obtain ⟨aS, pS, rfl, hsub⟩ := hf.cells
  obtain ⟨az, ps, al, pl, au, pu, rfl, hs, hl, hu, hn1, hn2, hn3, -⟩ := id ht.cells
  have kw : Keep [] w (((w.alloc (.cells #[.int .i64 f.kind, .int .i64 f.frm, .int .i64 f.to, .int .i64 f.nul, .int .i64 f.tag, .int .i64 f.dfl, .int .i64 f.ofk, .slice aS f.sub.length pS] 50)).alloc (.cells #[.int .i64 t.n, .slice az t.s.length ps, .bool t.null, .slice al t.l.length pl, .slice au t.u.length pu] 26)).alloc (.cells #[.int .i64 0, .slice none 0 0, .bool false, .slice none 0 0, .slice none 0 0] 26)) := ((keep_box _).alloc _).alloc _
  have NU : Hid _ := NUX _ kw
  clear NUX
  rw [if_neg h11]
  simp only [fitK, if_neg (show ¬ (f.kind = 8 ∨ f.kind = 9) by omega), if_neg h10]
  generalize f.isNull v t = nu at *
  have HS : Hid _ := hs
  clear hf ht hs hl hu hsub
  go_enter Try.func35, Try.ntmps35
  go_wp2_with (go_at_call 71; go_loud (refine Calls.mono NU.out ?_; rintro e w1 ⟨rfl, k1⟩; obtain ⟨hbF, hbT, hbR⟩ := threeB k1; have HBR : Hid _ := hbR; have K1 : Keep [] w w1 := kw.trans k1; have f0 := cellOf hbF 0 _ rfl; have f1 := cellOf hbF 1 _ rfl; have f2 := cellOf hbF 2 _ rfl; have f3 := cellOf hbF 3 _ rfl; have f4 := cellOf hbF 4 _ rfl; have f5 := cellOf hbF 5 _ rfl; have f6 := cellOf hbF 6 _ rfl; have f7 := cellOf hbF 7 _ rfl; have t0 := cellOf hbT 0 _ rfl; have t1 := cellOf hbT 1 _ rfl; have t2 := cellOf hbT 2 _ rfl; have t3 := cellOf hbT 3 _ rfl; have t4 := cellOf hbT 4 _ rfl; have r0 := cellOf hbR 0 _ rfl; have r1 := cellOf hbR 1 _ rfl; have r2 := cellOf hbR 2 _ rfl; have r3 := cellOf hbR 3 _ rfl; have r4 := cellOf hbR 4 _ rfl; have q0 := freeOf hbR 0; have q1 := freeOf hbR 1; have q2 := freeOf hbR 2; have q3 := freeOf hbR 3; have q4 := freeOf hbR 4; clear hbF hbT hbR))
  have hr : (((((w1.setCell ⟨w.heap.size + 1 + 1, 0, none⟩ (.int .i64 t.n)).setCell ⟨w.heap.size + 1 + 1, 1, none⟩ (.slice az t.s.length ps)).setCell ⟨w.heap.size + 1 + 1, 2, none⟩ (.bool false)).setCell ⟨w.heap.size + 1 + 1, 3, none⟩ (.slice none 0 0)).setCell ⟨w.heap.size + 1 + 1, 4, none⟩ (.slice none 0 0)).heap[w.heap.size + 1 + 1]? = some (.cells #[.int .i64 t.n, .slice az t.s.length ps, .bool false, .slice none 0 0, .slice none 0 0] 26 (0, 0)) := (tset5 (o := 0) HBR.out).1
  have kr : Keep [w.heap.size + 1 + 1] w1 (((((w1.setCell ⟨w.heap.size + 1 + 1, 0, none⟩ (.int .i64 t.n)).setCell ⟨w.heap.size + 1 + 1, 1, none⟩ (.slice az t.s.length ps)).setCell ⟨w.heap.size + 1 + 1, 2, none⟩ (.bool false)).setCell ⟨w.heap.size + 1 + 1, 3, none⟩ (.slice none 0 0)).setCell ⟨w.heap.size + 1 + 1, 4, none⟩ (.slice none 0 0)) := (tset5 (o := 0) HBR.out).2
  clear r0 q0 r1 q1 r2 q2 r3 q3 r4 q4
  generalize (((((w1.setCell ⟨w.heap.size + 1 + 1, 0, none⟩ (.int .i64 t.n)).setCell ⟨w.heap.size + 1 + 1, 1, none⟩ (.slice az t.s.length ps)).setCell ⟨w.heap.size + 1 + 1, 2, none⟩ (.bool false)).setCell ⟨w.heap.size + 1 + 1, 3, none⟩ (.slice none 0 0)).setCell ⟨w.heap.size + 1 + 1, 4, none⟩ (.slice none 0 0)) = ws at *
  have r0 : ws.cell? ⟨w.heap.size + 1 + 1, 0, none⟩ = some (.int .i64 t.n) := cellOf hr 0 _ rfl
  have r1 : ws.cell? ⟨w.heap.size + 1 + 1, 1, none⟩ = some (.slice az t.s.length ps) := cellOf hr 1 _ rfl
  have r2 : ws.cell? ⟨w.heap.size + 1 + 1, 2, none⟩ = some (.bool false) := cellOf hr 2 _ rfl
  have r3 : ws.cell? ⟨w.heap.size + 1 + 1, 3, none⟩ = some (.slice none 0 0) := cellOf hr 3 _ rfl
  have r4 : ws.cell? ⟨w.heap.size + 1 + 1, 4, none⟩ = some (.slice none 0 0) := cellOf hr 4 _ rfl
  have KS : Keep [w.heap.size + 1 + 1] w ws := (K1.weaken (by simp)).trans kr
  have hsz := KS.size
  refine bodyPost_ret (v := .agg #[.int .i64 t.n, .slice az t.s.length ps, .bool false, .slice none 0 0, .slice none 0 0]) (by simp [results, Try.results35, go_sem, r0, r1, r2, r3, r4]) rfl ⟨[.int .i64 t.n, .slice az t.s.length ps, .bool false, .slice none 0 0, .slice none 0 0], rfl, ?_, KS.fresh (by simp; omega)⟩
  exact HT.ofL t.n t.s false [] [] (HS.out.keepF (sameOn_of KS hG (fun k hk => by have := hG k hk; simp; omega)) (fun k hk => ⟨.inl hk, by have := hG k hk; omega⟩)) (HTs.nil _ _) (HGs.nil _ _) hn1 hn2 hn3 (by decide)
set_option maxHeartbeats 4000000 in
set_option maxRecDepth 100000 in
theorem fit_text (hk : f.kind = 8 ∨ f.kind = 9) : FieldFit f v := by
  intro G cf t c w hf ht hG
  rw [fitF_eq]
  have NUX := fun W (hW : Keep [] w W) => null_any (hf.keepF (hG.same hW) (fun _ h => h)) (ht.keepF (hG.same hW) (fun _ h => h)) v
  obtain ⟨aS, pS, rfl, hsub⟩ := hf.cells
  obtain ⟨az, ps, al, pl, au, pu, rfl, hs, hl, hu, hn1, hn2, hn3, -⟩ := id ht.cells
  have kw : Keep [] w (((w.alloc (.cells #[.int .i64 f.kind, .int .i64 f.frm, .int .i64 f.to, .int .i64 f.nul, .int .i64 f.tag, .int .i64 f.dfl, .int .i64 f.ofk, .slice aS f.sub.length pS] 50)).alloc (.cells #[.int .i64 t.n, .slice az t.s.length ps, .bool t.null, .slice al t.l.length pl, .slice au t.u.length pu] 26)).alloc (.cells #[.int .i64 0, .slice none 0 0, .bool false, .slice none 0 0, .slice none 0 0] 26)) := ((keep_box _).alloc _).alloc _
  have NU : Hid _ := NUX _ kw
  clear NUX
  rw [if_neg (by omega)]
  simp only [fitK, if_pos hk]
  generalize f.isNull v t = nu at *
  have hw : (whole t.s).length ≤ 32767 := by simp [whole]; omega
  have HS := fun W (hW : Keep [] w W) => whole_any (hs.keepF (hG.same hW) (fun _ h => h)) (by omega)
  clear hf ht hs hl hu hsub
  generalize f.kind = kd at *
  rcases hk with hk | hk
  all_goals subst hk
  all_goals (
    go_enter Try.func35, Try.ntmps35
    go_wp2_with (first
      | (go_at_call 71; go_loud (refine Calls.mono NU.out ?_; rintro e w1 ⟨rfl, k1⟩; obtain ⟨hbF, hbT, hbR⟩ := threeB k1; have HBR : Hid _ := hbR; have K1 : Keep [] w w1 := kw.trans k1; have f0 := cellOf hbF 0 _ rfl; have f1 := cellOf hbF 1 _ rfl; have f2 := cellOf hbF 2 _ rfl; have f3 := cellOf hbF 3 _ rfl; have f4 := cellOf hbF 4 _ rfl; have f5 := cellOf hbF 5 _ rfl; have f6 := cellOf hbF 6 _ rfl; have f7 := cellOf hbF 7 _ rfl; have t0 := cellOf hbT 0 _ rfl; have t1 := cellOf hbT 1 _ rfl; have t2 := cellOf hbT 2 _ rfl; have t3 := cellOf hbT 3 _ rfl; have t4 := cellOf hbT 4 _ rfl; have r0 := cellOf hbR 0 _ rfl; have r1 := cellOf hbR 1 _ rfl; have r2 := cellOf hbR 2 _ rfl; have r3 := cellOf hbR 3 _ rfl; have r4 := cellOf hbR 4 _ rfl; have q0 := freeOf hbR 0; have q1 := freeOf hbR 1; have q2 := freeOf hbR 2; have q3 := freeOf hbR 3; have q4 := freeOf hbR 4; clear hbF hbT hbR))
      | (go_at_call 38; go_loud (refine (HS _ K1).mono ?_; rintro e w2 ⟨d, rfl, hd, rfl⟩; obtain ⟨ad, pd, rfl⟩ := RS.shape hd; have HD : Hid _ := hd; clear hd)))
    have hr : (((((w1.setCell ⟨w.heap.size + 1 + 1, 0, none⟩ (.int .i64 0)).setCell ⟨w.heap.size + 1 + 1, 1, none⟩ (.slice ad (whole t.s).length pd)).setCell ⟨w.heap.size + 1 + 1, 2, none⟩ (.bool nu)).setCell ⟨w.heap.size + 1 + 1, 3, none⟩ (.slice none 0 0)).setCell ⟨w.heap.size + 1 + 1, 4, none⟩ (.slice none 0 0)).heap[w.heap.size + 1 + 1]? = some (.cells #[.int .i64 0, .slice ad (whole t.s).length pd, .bool nu, .slice none 0 0, .slice none 0 0] 26 (0, 0)) := (tset5 (o := 0) HBR.out).1
    have kr : Keep [w.heap.size + 1 + 1] w1 (((((w1.setCell ⟨w.heap.size + 1 + 1, 0, none⟩ (.int .i64 0)).setCell ⟨w.heap.size + 1 + 1, 1, none⟩ (.slice ad (whole t.s).length pd)).setCell ⟨w.heap.size + 1 + 1, 2, none⟩ (.bool nu)).setCell ⟨w.heap.size + 1 + 1, 3, none⟩ (.slice none 0 0)).setCell ⟨w.heap.size + 1 + 1, 4, none⟩ (.slice none 0 0)) := (tset5 (o := 0) HBR.out).2
    clear r0 q0 r1 q1 r2 q2 r3 q3 r4 q4
    generalize (((((w1.setCell ⟨w.heap.size + 1 + 1, 0, none⟩ (.int .i64 0)).setCell ⟨w.heap.size + 1 + 1, 1, none⟩ (.slice ad (whole t.s).length pd)).setCell ⟨w.heap.size + 1 + 1, 2, none⟩ (.bool nu)).setCell ⟨w.heap.size + 1 + 1, 3, none⟩ (.slice none 0 0)).setCell ⟨w.heap.size + 1 + 1, 4, none⟩ (.slice none 0 0)) = ws at *
    have r0 : ws.cell? ⟨w.heap.size + 1 + 1, 0, none⟩ = some (.int .i64 0) := cellOf hr 0 _ rfl
    have r1 : ws.cell? ⟨w.heap.size + 1 + 1, 1, none⟩ = some (.slice ad (whole t.s).length pd) := cellOf hr 1 _ rfl
    have r2 : ws.cell? ⟨w.heap.size + 1 + 1, 2, none⟩ = some (.bool nu) := cellOf hr 2 _ rfl
    have r3 : ws.cell? ⟨w.heap.size + 1 + 1, 3, none⟩ = some (.slice none 0 0) := cellOf hr 3 _ rfl
    have r4 : ws.cell? ⟨w.heap.size + 1 + 1, 4, none⟩ = some (.slice none 0 0) := cellOf hr 4 _ rfl
    have KS : Keep [w.heap.size + 1 + 1] w ws := (K1.weaken (by simp)).trans kr
    have hsz := KS.size
    refine bodyPost_ret (v := .agg #[.int .i64 0, .slice ad (whole t.s).length pd, .bool nu, .slice none 0 0, .slice none 0 0]) (by simp [results, Try.results35, go_sem, r0, r1, r2, r3, r4]) rfl ⟨[.int .i64 0, .slice ad (whole t.s).length pd, .bool nu, .slice none 0 0, .slice none 0 0], rfl, ?_, KS.fresh (by simp; omega)⟩
    exact HT.ofL 0 (whole t.s) nu [] [] (HD.out.keepF (fun k hk => kr.block k (Nat.lt_of_lt_of_le (hG k hk) K1.size) (by have := hG k hk; simp; omega)) (fun k hk => ⟨.inl hk, by have := hG k hk; omega⟩)) (HTs.nil _ _) (HGs.nil _ _) (by decide) (by decide) (by omega) (by decide))
set_option maxHeartbeats 4000000 in
set_option maxRecDepth 100000 in
theorem fit_part (hk : f.kind = 10) (hF : FitSaid f.sub v) : FieldFit f v := by
  intro G cf t c w hf ht hG
  rw [fitF_eq]
  have NUX := fun W (hW : Keep [] w W) => null_any (hf.keepF (hG.same hW) (fun _ h => h)) (ht.keepF (hG.same hW) (fun _ h => h)) v
  obtain ⟨aS, pS, rfl, hsub⟩ := hf.cells
  obtain ⟨az, ps, al, pl, au, pu, rfl, hs, hl, hu, hn1, hn2, hn3, -⟩ := id ht.cells
  have kw : Keep [] w (((w.alloc (.cells #[.int .i64 f.kind, .int .i64 f.frm, .int .i64 f.to, .int .i64 f.nul, .int .i64 f.tag, .int .i64 f.dfl, .int .i64 f.ofk, .slice aS f.sub.length pS] 50)).alloc (.cells #[.int .i64 t.n, .slice az t.s.length ps, .bool t.null, .slice al t.l.length pl, .slice au t.u.length pu] 26)).alloc (.cells #[.int .i64 0, .slice none 0 0, .bool false, .slice none 0 0, .slice none 0 0] 26)) := ((keep_box _).alloc _).alloc _
  have NU : Hid _ := NUX _ kw
  clear NUX
  rw [if_neg (by omega)]
  simp only [fitK, if_neg (show ¬ (f.kind = 8 ∨ f.kind = 9) by omega), if_pos hk]
  generalize f.isNull v t = nu at *
  have FS := fun W (hW : Keep [] w W) => hF G _ t _ W (hsub.keepF (hG.same hW) (fun _ h => h)) (ht.keepF (hG.same hW) (fun _ h => h)) (hG.keep hW)
  clear hf ht hs hl hu hsub
  generalize f.kind = kd at *
  subst hk
  generalize fitPart f.sub v t = P at *
  go_enter Try.func35, Try.ntmps35
  go_wp2_with (first
    | (go_at_call 71; go_loud (refine Calls.mono NU.out ?_; rintro e w1 ⟨rfl, k1⟩; obtain ⟨hbF, hbT, hbR⟩ := threeB k1; have HBR : Hid _ := hbR; have K1 : Keep [] w w1 := kw.trans k1; have f0 := cellOf hbF 0 _ rfl; have f1 := cellOf hbF 1 _ rfl; have f2 := cellOf hbF 2 _ rfl; have f3 := cellOf hbF 3 _ rfl; have f4 := cellOf hbF 4 _ rfl; have f5 := cellOf hbF 5 _ rfl; have f6 := cellOf hbF 6 _ rfl; have f7 := cellOf hbF 7 _ rfl; have t0 := cellOf hbT 0 _ rfl; have t1 := cellOf hbT 1 _ rfl; have t2 := cellOf hbT 2 _ rfl; have t3 := cellOf hbT 3 _ rfl; have t4 := cellOf hbT 4 _ rfl; have r0 := cellOf hbR 0 _ rfl; have r1 := cellOf hbR 1 _ rfl; have r2 := cellOf hbR 2 _ rfl; have r3 := cellOf hbR 3 _ rfl; have r4 := cellOf hbR 4 _ rfl; have q0 := freeOf hbR 0; have q1 := freeOf hbR 1; have q2 := freeOf hbR 2; have q3 := freeOf hbR 3; have q4 := freeOf hbR 4; clear hbF hbT hbR))
    | (go_at_call 15; go_loud (refine (FS _ K1).mono ?_; rintro e w2 ⟨d, rfl, hd, k2⟩; obtain ⟨b1, p1, b3, p3, b4, p4, rfl, -⟩ := id hd.cells; have HD : Hid _ := hd; have hbR2 := (k2.block _ (World.heap_lt HBR.out) (by simp)).trans HBR.out; have K2 := K1.trans k2; have HBR2 : Hid _ := hbR2; have hlt2 := World.heap_lt hbR2; clear hd r0 r1 r2 r3 r4 q0 q1 q2 q3 q4; have r0 := cellOf hbR2 0 _ rfl; have r1 := cellOf hbR2 1 _ rfl; have r2 := cellOf hbR2 2 _ rfl; have r3 := cellOf hbR2 3 _ rfl; have r4 := cellOf hbR2 4 _ rfl; have q0 := freeOf hbR2 0; have q1 := freeOf hbR2 1; have q2 := freeOf hbR2 2; have q3 := freeOf hbR2 3; have q4 := freeOf hbR2 4; clear hbR2)))
  have hr0 : (((((w2.setCell ⟨w.heap.size + 1 + 1, 0, none⟩ (.int .i64 P.n)).setCell ⟨w.heap.size + 1 + 1, 1, none⟩ (.slice b1 P.s.length p1)).setCell ⟨w.heap.size + 1 + 1, 2, none⟩ (.bool nu)).setCell ⟨w.heap.size + 1 + 1, 3, none⟩ (.slice b3 P.l.length p3)).setCell ⟨w.heap.size + 1 + 1, 4, none⟩ (.slice b4 P.u.length p4)).heap[w.heap.size + 1 + 1]? = some (.cells #[.int .i64 P.n, .slice b1 P.s.length p1, .bool nu, .slice b3 P.l.length p3, .slice b4 P.u.length p4] 26 (0, 0)) := (tset5 (o := 0) HBR2.out).1
  have kr0 : Keep [w.heap.size + 1 + 1] w2 (((((w2.setCell ⟨w.heap.size + 1 + 1, 0, none⟩ (.int .i64 P.n)).setCell ⟨w.heap.size + 1 + 1, 1, none⟩ (.slice b1 P.s.length p1)).setCell ⟨w.heap.size + 1 + 1, 2, none⟩ (.bool nu)).setCell ⟨w.heap.size + 1 + 1, 3, none⟩ (.slice b3 P.l.length p3)).setCell ⟨w.heap.size + 1 + 1, 4, none⟩ (.slice b4 P.u.length p4)) := (tset5 (o := 0) HBR2.out).2
  have hr : ((((((w2.setCell ⟨w.heap.size + 1 + 1, 0, none⟩ (.int .i64 P.n)).setCell ⟨w.heap.size + 1 + 1, 1, none⟩ (.slice b1 P.s.length p1)).setCell ⟨w.heap.size + 1 + 1, 2, none⟩ (.bool nu)).setCell ⟨w.heap.size + 1 + 1, 3, none⟩ (.slice b3 P.l.length p3)).setCell ⟨w.heap.size + 1 + 1, 4, none⟩ (.slice b4 P.u.length p4)).alloc (.cells #[.int .i64 P.n, .slice b1 P.s.length p1, .bool nu, .slice b3 P.l.length p3, .slice b4 P.u.length p4] 26)).heap[w.heap.size + 1 + 1]? = some (.cells #[.int .i64 P.n, .slice b1 P.s.length p1, .bool nu, .slice b3 P.l.length p3, .slice b4 P.u.length p4] 26 (0, 0)) := ((keep_box (A := []) _).block _ (World.heap_lt hr0) (by simp)).trans hr0
  have kr : Keep [w.heap.size + 1 + 1] w2 ((((((w2.setCell ⟨w.heap.size + 1 + 1, 0, none⟩ (.int .i64 P.n)).setCell ⟨w.heap.size + 1 + 1, 1, none⟩ (.slice b1 P.s.length p1)).setCell ⟨w.heap.size + 1 + 1, 2, none⟩ (.bool nu)).setCell ⟨w.heap.size + 1 + 1, 3, none⟩ (.slice b3 P.l.length p3)).setCell ⟨w.heap.size + 1 + 1, 4, none⟩ (.slice b4 P.u.length p4)).alloc (.cells #[.int .i64 P.n, .slice b1 P.s.length p1, .bool nu, .slice b3 P.l.length p3, .slice b4 P.u.length p4] 26)) := kr0.trans (keep_box _)
  clear hr0 kr0
  clear r0 q0 r1 q1 r2 q2 r3 q3 r4 q4
  generalize ((((((w2.setCell ⟨w.heap.size + 1 + 1, 0, none⟩ (.int .i64 P.n)).setCell ⟨w.heap.size + 1 + 1, 1, none⟩ (.slice b1 P.s.length p1)).setCell ⟨w.heap.size + 1 + 1, 2, none⟩ (.bool nu)).setCell ⟨w.heap.size + 1 + 1, 3, none⟩ (.slice b3 P.l.length p3)).setCell ⟨w.heap.size + 1 + 1, 4, none⟩ (.slice b4 P.u.length p4)).alloc (.cells #[.int .i64 P.n, .slice b1 P.s.length p1, .bool nu, .slice b3 P.l.length p3, .slice b4 P.u.length p4] 26)) = ws at *
  have r0 : ws.cell? ⟨w.heap.size + 1 + 1, 0, none⟩ = some (.int .i64 P.n) := cellOf hr 0 _ rfl
  have r1 : ws.cell? ⟨w.heap.size + 1 + 1, 1, none⟩ = some (.slice b1 P.s.length p1) := cellOf hr 1 _ rfl
  have r2 : ws.cell? ⟨w.heap.size + 1 + 1, 2, none⟩ = some (.bool nu) := cellOf hr 2 _ rfl
  have r3 : ws.cell? ⟨w.heap.size + 1 + 1, 3, none⟩ = some (.slice b3 P.l.length p3) := cellOf hr 3 _ rfl
  have r4 : ws.cell? ⟨w.heap.size + 1 + 1, 4, none⟩ = some (.slice b4 P.u.length p4) := cellOf hr 4 _ rfl
  have KS : Keep [w.heap.size + 1 + 1] w ws := (K2.weaken (by simp)).trans kr
  have hsz := KS.size
  refine bodyPost_ret (v := .agg #[.int .i64 P.n, .slice b1 P.s.length p1, .bool nu, .slice b3 P.l.length p3, .slice b4 P.u.length p4]) (by simp [results, Try.results35, go_sem, r0, r1, r2, r3, r4]) rfl ⟨[.int .i64 P.n, .slice b1 P.s.length p1, .bool nu, .slice b3 P.l.length p3, .slice b4 P.u.length p4], rfl, ?_, KS.fresh (by simp; omega)⟩
  have hz3 := kr.size
  exact HT.setNull nu (HD.out.keepF (fun k hk => kr.block k hk.2 (by
      rcases hk.1 with h | h
      · have := hG k h; simp; omega
      · have := K1.size; have := World.heap_lt HBR.out; simp; omega)) (fun k hk => ⟨hk.1.imp id (fun h => by have := K1.size; omega), by have := hk.2; omega⟩))
end
end Go.Proofs.Ytidebamgmbdnaaa
