/-
  EnvelopeResponse: its doors.
-/
import Derived.Test.YtedconnhligkeaaDoorTlEnv
import Derived.Test.YtedconnhligkeaaDoorTagsQ
namespace Go.Proofs.YtedconnhligkeaaDoor
open Go.ChangeShapes Go.WideShapes Go.ChangeAt Go.RowKit

theorem env_new (w : World) : Calls Tryd.prog 21 #[] w fun e w' => e = .returned (.pointer (some ⟨w.heap.size, 0, none⟩)) ∧ w.alloc (.cells #[.int .i16 0, .slice none 0 0, .int .i16 0, .map none] 65) = w' := by
  go_enter Tryd.func21, Tryd.ntmps21
  go_wp2_with (go_at_call 32; refine (env_default _ _).mono ?_; rintro e w1 ⟨rfl, rfl⟩)
  go_ret
  exact ⟨rfl, rfl⟩
theorem env_max (w : World) (x : Value) : Calls Tryd.prog 22 #[x] w fun e w' => e = .returned (.int .i16 0) ∧ w = w' := by
  go_enter Tryd.func22, Tryd.ntmps22
  go_wp2
  go_ret
  exact ⟨rfl, rfl⟩
theorem env_Max (w : World) : Calls Tryd.prog 11 #[] w fun e w' => e = .returned (.int .i64 0) ∧ Keep [] w w' := by
  go_enter Tryd.func11, Tryd.ntmps11
  go_wp2_with (first
    | (go_at_call 21; refine (env_new _).mono ?_; rintro e w1 ⟨rfl, rfl⟩)
    | (go_at_call 22; refine (env_max _ _).mono ?_; rintro e w2 ⟨rfl, rfl⟩))
  go_ret
  exact ⟨rfl, keep_box _⟩
theorem env_setv {w : World} {b : Nat} {v : Int} {x : Value} (h : w.cell? ⟨b, 0, none⟩ = some x) (hf : w.frozen? ⟨b, 0, none⟩ = false) : Calls Tryd.prog 23 #[.pointer (some ⟨b, 0, none⟩), .int .i16 v] w fun e w' => e = .returned (.tuple #[]) ∧ w.setCell ⟨b, 0, none⟩ (.int .i16 v) = w' := by
  go_enter Tryd.func23, Tryd.ntmps23
  go_wp2
  refine bodyPost_end (v := .tuple #[]) (by simp [results, Tryd.results23, go_sem]) rfl ⟨rfl, rfl⟩
theorem env_ReadFrom {G : Nat → Prop} {b : Nat} {p : Addr} {l : Bs} {src : Value} {w : World} {ver : Int} (hb : w.heap[b]? = some (.cells #[.int .i16 ver, .slice none 0 0, .int .i16 0, .map none] 65 (0, 0))) (hl : RB w G src l) (hG : There G w) (hGb : ¬ G b) (hg : Gl w p) (hp : b ≠ 1) (hver : 0 ≤ ver) :
    Calls Tryd.prog 24 #[.pointer (some ⟨b, 0, none⟩), src] w fun e w' => e = .returned (errV p (envRT ver l).2.2) ∧ ∃ tv, ∃ pv1, w'.heap[b]? = some (.cells #[.int .i16 ver, pv1, .int .i16 (envR2 ver l).1, tv] 65 (0, 0)) ∧ MP w' (New G w w') tv (envRT ver l).1 ∧ ((envRT ver l).2.2 = false → OS w' (New G w w') pv1 (envR1 ver l).1) ∧ Keep [b] w w' := by
  go_enter Tryd.func24, Tryd.ntmps24
  go_wp2_with (go_at_call 33; refine (env_read hb hl hG hGb hg hp hver false).mono ?_; rintro e w1 ⟨rfl, h1⟩)
  go_ret
  exact ⟨rfl, h1⟩
theorem env_UnsafeReadFrom {G : Nat → Prop} {b : Nat} {p : Addr} {l : Bs} {src : Value} {w : World} {ver : Int} (hb : w.heap[b]? = some (.cells #[.int .i16 ver, .slice none 0 0, .int .i16 0, .map none] 65 (0, 0))) (hl : RB w G src l) (hG : There G w) (hGb : ¬ G b) (hg : Gl w p) (hp : b ≠ 1) (hver : 0 ≤ ver) :
    Calls Tryd.prog 26 #[.pointer (some ⟨b, 0, none⟩), src] w fun e w' => e = .returned (errV p (envRT ver l).2.2) ∧ ∃ tv, ∃ pv1, w'.heap[b]? = some (.cells #[.int .i16 ver, pv1, .int .i16 (envR2 ver l).1, tv] 65 (0, 0)) ∧ MP w' (New G w w') tv (envRT ver l).1 ∧ ((envRT ver l).2.2 = false → OS w' (New G w w') pv1 (envR1 ver l).1) ∧ Keep [b] w w' := by
  go_enter Tryd.func26, Tryd.ntmps26
  go_wp2_with (go_at_call 33; refine (env_read hb hl hG hGb hg hp hver true).mono ?_; rintro e w1 ⟨rfl, h1⟩)
  go_ret
  exact ⟨rfl, h1⟩
/-- what is told -/
def envT (ver : Int) (l : Bs) : T := .mk 0 [] false [octT (envR1 ver l).1, .mk (envR2 ver l).1 [] false [] []] (envRT ver l).1
theorem env_len (ver : Int) (l : Bs) : (envRT ver l).1.length ≤ l.length + 1 ∧ (∀ x ∈ (envRT ver l).1, x.2.length ≤ l.length) ∧ (∀ x, (envR1 ver l).1 = some x → x.length ≤ l.length) := by
  have a1 : (envR1 ver l).2.1.length ≤ l.length ∧ (∀ x, (envR1 ver l).1 = some x → x.length ≤ l.length) := by
    have q1 := rdCNB_len (l, false)
    have q2 := rdCNB_len (l, false)
    have q0 : ((l, false) : St).1.length ≤ l.length := Nat.le_refl _
    unfold envR1
    (repeat' split) <;> first | exact ⟨Nat.le_trans q1.2 q0, fun x h => Nat.le_trans (q1.1 x h) q0⟩ | exact ⟨Nat.le_trans q2.2 q0, fun x h => Nat.le_trans (q2.1 x h) q0⟩
  have b1 := a1.2
  replace a1 := a1.1
  have a2 : (envR2 ver l).2.1.length ≤ l.length := by
    have q1 := rdI_len 2 (envR1 ver l).2
    have q0 := a1
    unfold envR2
    (repeat' split) <;> first | exact Nat.le_trans q1 q0 | exact q0
  have q1 := rdTags_len (envR2 ver l).2
  unfold envRT
  exact ⟨by omega, fun x hx => Nat.le_trans (q1.2 x hx) a2, b1⟩
theorem env_rg2 (ver : Int) (l : Bs) : -32768 ≤ (envR2 ver l).1 ∧ (envR2 ver l).1 ≤ 32767 := by
  unfold envR2
  exact rdI_range2 _
set_option maxHeartbeats 1000000 in
set_option maxRecDepth 100000 in
theorem env_Tell {G : Nat → Prop} {p : Addr} {l : Bs} {src : Value} {w : World} {v : Int} (hv : 0 ≤ v ∧ v ≤ 0) (hl : RB w G src l) (hll : l.length ≤ 1000) (hG : There G w) (hg : Gl w p) :
    Calls Tryd.prog 12 #[.int .i64 v, src] w fun e w' => ∃ c, e = .returned (.tuple #[.agg c.toArray, .bool (!(envRT v l).2.2)]) ∧ HT w' (New (fun _ => False) w w') (if (envRT v l).2.2 then T.zero else envT v l) c ∧ Keep [] w w' := by
  obtain ⟨ao, cap, rfl⟩ := RS.shape hl
  have hp1 : 1 < w.heap.size := World.block_lt_of_cell? w _ hg
  have hwr : IntKind.i16.wrap v = v := by rw [wrap_i16']; split <;> omega
  have hlen := env_len v l
  cases hbad : (envRT v l).2.2
  · rw [if_neg Bool.false_ne_true]
    go_enter Tryd.func12, Tryd.ntmps12
    have k0 : Keep [] w ((w.alloc (.cells #[.int .i64 0, .slice none 0 0, .bool false, .slice none 0 0, .slice none 0 0] 27)).alloc (.cells #[.int .i16 v, .slice none 0 0, .int .i16 0, .map none] 65)) := (keep_box (A := []) _).alloc _
    have h0 : ((w.alloc (.cells #[.int .i64 0, .slice none 0 0, .bool false, .slice none 0 0, .slice none 0 0] 27)).alloc (.cells #[.int .i16 v, .slice none 0 0, .int .i16 0, .map none] 65)).heap[w.heap.size]? = some (.cells #[.int .i64 0, .slice none 0 0, .bool false, .slice none 0 0, .slice none 0 0] 27) := ((keep_box (A := []) _).block w.heap.size (by simp) (by simp)).trans (heap_alloc_new w (.cells #[.int .i64 0, .slice none 0 0, .bool false, .slice none 0 0, .slice none 0 0] 27))
    have h1 : ((w.alloc (.cells #[.int .i64 0, .slice none 0 0, .bool false, .slice none 0 0, .slice none 0 0] 27)).alloc (.cells #[.int .i16 v, .slice none 0 0, .int .i16 0, .map none] 65)).heap[w.heap.size + 1]? = some (.cells #[.int .i16 v, .slice none 0 0, .int .i16 0, .map none] 65) := by
      have h := heap_alloc_new (w.alloc (.cells #[.int .i64 0, .slice none 0 0, .bool false, .slice none 0 0, .slice none 0 0] 27)) (.cells #[.int .i16 v, .slice none 0 0, .int .i16 0, .map none] 65)
      simpa using h
    have hz0 : ((w.alloc (.cells #[.int .i64 0, .slice none 0 0, .bool false, .slice none 0 0, .slice none 0 0] 27)).alloc (.cells #[.int .i16 v, .slice none 0 0, .int .i16 0, .map none] 65)).heap.size = w.heap.size + 2 := by simp
    have hu0 : ((w.alloc (.cells #[.int .i64 0, .slice none 0 0, .bool false, .slice none 0 0, .slice none 0 0] 27)).alloc (.cells #[.int .i16 0, .slice none 0 0, .int .i16 0, .map none] 65)).heap[w.heap.size + 1]? = some (.cells #[.int .i16 0, .slice none 0 0, .int .i16 0, .map none] 65) := by
      have h := heap_alloc_new (w.alloc (.cells #[.int .i64 0, .slice none 0 0, .bool false, .slice none 0 0, .slice none 0 0] 27)) (.cells #[.int .i16 0, .slice none 0 0, .int .i16 0, .map none] 65)
      simpa using h
    have hc0 := cellOf hu0 0 (.int .i16 0) rfl
    have hf0 := freeOf hu0 0
    clear hu0
    have SV := env_setv (v := v) hc0 hf0
    go_upto_region 3 with (first
      | (go_at_call 21; refine (env_new _).mono ?_; rintro e w1 ⟨rfl, rfl⟩)
      | (go_at_call 23; go_loud (refine SV.mono ?_; rintro e w1 ⟨rfl, rfl⟩)))
    clear SV hc0 hf0
    generalize ((w.alloc (.cells #[.int .i64 0, .slice none 0 0, .bool false, .slice none 0 0, .slice none 0 0] 27)).alloc (.cells #[.int .i16 v, .slice none 0 0, .int .i16 0, .map none] 65)) = W0 at *
    have H0 : Hid _ := h0
    have H1 : Hid _ := h1
    clear h0 h1
    go_wp2_with (first
      | (at_builtin; go_loud (refine app_ob rfl (.const (.slice none 0 0)) (.tmp 13) rfl W0.heap.size (.slice none 0 0) [] rfl (OB.nil _ _) _ l G rfl (hl.keepF (hG.same k0) (fun _ h => h)) (by simp; omega) (Nat.le_refl _) ?_; intro v2 w2 hown hgr; have k2 : Keep [] W0 w2 := (Keep.refl _ _).grown hgr (by simp [Value.ownBlock]); have K2 := k0.trans k2; have hz2 := k2.size; have b2 := (k2.block (w.heap.size + 1) (by omega) (by simp)).trans H1.out; have hB2 : RB w2 (fun k => W0.heap.size ≤ k ∧ k < w2.heap.size) v2 l := hown.rb; have RF := env_ReadFrom b2 hB2 (fun k h => h.2) (by omega) (hg.keep K2 List.not_mem_nil) (by omega) hv.1; clear b2))
      | (go_at_call 24; go_loud (refine RF.mono ?_; rintro e w3 ⟨rfl, tv, pv1, b3, mp3, ps1, k3⟩; rw [hbad, errV_false]; have hz3 := k3.size; have r3 := (k3.block (w.heap.size) (by omega) (by simp)).trans ((k2.block (w.heap.size) (by omega) (by simp)).trans H0.out); have TL := env_tell b3 mp3 (fun k h => h.2) (ps1 hbad) (fun x hx => by have := hlen.2.2 x hx; omega) (env_rg2 _ _) (fun x hx => by have := hlen.2.1 x hx; omega) (by omega); have R3 : Hid _ := r3; clear r3 b3))
      | (go_at_call 25; go_loud (refine TL.mono ?_; rintro e w4 ⟨c, rfl, hc, k4⟩; obtain ⟨az, ps, al, pl, au, pu, rfl, -⟩ := id hc.cells; simp only [T.n, T.s, T.null, T.l, T.u, List.length_nil, List.length_cons, Nat.zero_add] at hc ⊢; have hz4 := k4.size; have r4 := (k4.block (w.heap.size) (by omega) List.not_mem_nil).trans R3.out; have p0 : w4.cell? ⟨w.heap.size, 0, none⟩ = some (.int .i64 0) := cellOf r4 0 _ rfl; have pf0 := freeOf r4 0; have p1 : w4.cell? ⟨w.heap.size, 1, none⟩ = some (.slice none 0 0) := cellOf r4 1 _ rfl; have pf1 := freeOf r4 1; have p2 : w4.cell? ⟨w.heap.size, 2, none⟩ = some (.bool false) := cellOf r4 2 _ rfl; have pf2 := freeOf r4 2; have p3 : w4.cell? ⟨w.heap.size, 3, none⟩ = some (.slice none 0 0) := cellOf r4 3 _ rfl; have pf3 := freeOf r4 3; have p4 : w4.cell? ⟨w.heap.size, 4, none⟩ = some (.slice none 0 0) := cellOf r4 4 _ rfl; have pf4 := freeOf r4 4; have R4 : Hid _ := r4; clear r4)))
    have hr : (((((w4.setCell ⟨w.heap.size, 0, none⟩ (.int .i64 0)).setCell ⟨w.heap.size, 1, none⟩ (.slice az 0 ps)).setCell ⟨w.heap.size, 2, none⟩ (.bool false)).setCell ⟨w.heap.size, 3, none⟩ (.slice al 2 pl)).setCell ⟨w.heap.size, 4, none⟩ (.slice au (envRT v l).1.length pu)).heap[w.heap.size]? = some (.cells #[.int .i64 0, .slice az 0 ps, .bool false, .slice al 2 pl, .slice au (envRT v l).1.length pu] 27 (0, 0)) := (set5 (o := 0) R4.out).1
    have kr : Keep [w.heap.size] w4 (((((w4.setCell ⟨w.heap.size, 0, none⟩ (.int .i64 0)).setCell ⟨w.heap.size, 1, none⟩ (.slice az 0 ps)).setCell ⟨w.heap.size, 2, none⟩ (.bool false)).setCell ⟨w.heap.size, 3, none⟩ (.slice al 2 pl)).setCell ⟨w.heap.size, 4, none⟩ (.slice au (envRT v l).1.length pu)) := (set5 (o := 0) R4.out).2
    clear p0 pf0 p1 pf1 p2 pf2 p3 pf3 p4 pf4
    generalize (((((w4.setCell ⟨w.heap.size, 0, none⟩ (.int .i64 0)).setCell ⟨w.heap.size, 1, none⟩ (.slice az 0 ps)).setCell ⟨w.heap.size, 2, none⟩ (.bool false)).setCell ⟨w.heap.size, 3, none⟩ (.slice al 2 pl)).setCell ⟨w.heap.size, 4, none⟩ (.slice au (envRT v l).1.length pu)) = W7 at *
    have r0 : W7.cell? ⟨w.heap.size, 0, none⟩ = some (.int .i64 0) := cellOf hr 0 _ rfl
    have r1 : W7.cell? ⟨w.heap.size, 1, none⟩ = some (.slice az 0 ps) := cellOf hr 1 _ rfl
    have r2 : W7.cell? ⟨w.heap.size, 2, none⟩ = some (.bool false) := cellOf hr 2 _ rfl
    have r3 : W7.cell? ⟨w.heap.size, 3, none⟩ = some (.slice al 2 pl) := cellOf hr 3 _ rfl
    have r4 : W7.cell? ⟨w.heap.size, 4, none⟩ = some (.slice au (envRT v l).1.length pu) := cellOf hr 4 _ rfl
    have K7 : Keep [] w W7 := (((K2.weaken (B := [w.heap.size, w.heap.size + 1]) (by simp)).trans ((k3.weaken (by simp)).trans ((k4.weaken (by simp)).trans (kr.weaken (by simp)))))).fresh (by simp)
    refine bodyPost_ret (v := .tuple #[.agg #[.int .i64 0, .slice az 0 ps, .bool false, .slice al 2 pl, .slice au (envRT v l).1.length pu], .bool true]) (by simp [results, Tryd.results12, go_sem, r0, r1, r2, r3, r4]) rfl ⟨[.int .i64 0, .slice az 0 ps, .bool false, .slice al 2 pl, .slice au (envRT v l).1.length pu], rfl, ?_, K7⟩
    have hzr := kr.size
    have hc7 := hc.keepF (w' := W7) (G := New (fun _ => False) w W7) (fun k hk => kr.block k hk.2 (by have := hk.1; simp; omega)) (fun k hk => ⟨.inr (by have := hk.1; omega), Nat.lt_of_lt_of_le hk.2 kr.size⟩)
    exact hc7
  · rw [if_pos rfl]
    go_enter Tryd.func12, Tryd.ntmps12
    have k0 : Keep [] w ((w.alloc (.cells #[.int .i64 0, .slice none 0 0, .bool false, .slice none 0 0, .slice none 0 0] 27)).alloc (.cells #[.int .i16 v, .slice none 0 0, .int .i16 0, .map none] 65)) := (keep_box (A := []) _).alloc _
    have h0 : ((w.alloc (.cells #[.int .i64 0, .slice none 0 0, .bool false, .slice none 0 0, .slice none 0 0] 27)).alloc (.cells #[.int .i16 v, .slice none 0 0, .int .i16 0, .map none] 65)).heap[w.heap.size]? = some (.cells #[.int .i64 0, .slice none 0 0, .bool false, .slice none 0 0, .slice none 0 0] 27) := ((keep_box (A := []) _).block w.heap.size (by simp) (by simp)).trans (heap_alloc_new w (.cells #[.int .i64 0, .slice none 0 0, .bool false, .slice none 0 0, .slice none 0 0] 27))
    have h1 : ((w.alloc (.cells #[.int .i64 0, .slice none 0 0, .bool false, .slice none 0 0, .slice none 0 0] 27)).alloc (.cells #[.int .i16 v, .slice none 0 0, .int .i16 0, .map none] 65)).heap[w.heap.size + 1]? = some (.cells #[.int .i16 v, .slice none 0 0, .int .i16 0, .map none] 65) := by
      have h := heap_alloc_new (w.alloc (.cells #[.int .i64 0, .slice none 0 0, .bool false, .slice none 0 0, .slice none 0 0] 27)) (.cells #[.int .i16 v, .slice none 0 0, .int .i16 0, .map none] 65)
      simpa using h
    have hz0 : ((w.alloc (.cells #[.int .i64 0, .slice none 0 0, .bool false, .slice none 0 0, .slice none 0 0] 27)).alloc (.cells #[.int .i16 v, .slice none 0 0, .int .i16 0, .map none] 65)).heap.size = w.heap.size + 2 := by simp
    have hu0 : ((w.alloc (.cells #[.int .i64 0, .slice none 0 0, .bool false, .slice none 0 0, .slice none 0 0] 27)).alloc (.cells #[.int .i16 0, .slice none 0 0, .int .i16 0, .map none] 65)).heap[w.heap.size + 1]? = some (.cells #[.int .i16 0, .slice none 0 0, .int .i16 0, .map none] 65) := by
      have h := heap_alloc_new (w.alloc (.cells #[.int .i64 0, .slice none 0 0, .bool false, .slice none 0 0, .slice none 0 0] 27)) (.cells #[.int .i16 0, .slice none 0 0, .int .i16 0, .map none] 65)
      simpa using h
    have hc0 := cellOf hu0 0 (.int .i16 0) rfl
    have hf0 := freeOf hu0 0
    clear hu0
    have SV := env_setv (v := v) hc0 hf0
    go_upto_region 3 with (first
      | (go_at_call 21; refine (env_new _).mono ?_; rintro e w1 ⟨rfl, rfl⟩)
      | (go_at_call 23; go_loud (refine SV.mono ?_; rintro e w1 ⟨rfl, rfl⟩)))
    clear SV hc0 hf0
    generalize ((w.alloc (.cells #[.int .i64 0, .slice none 0 0, .bool false, .slice none 0 0, .slice none 0 0] 27)).alloc (.cells #[.int .i16 v, .slice none 0 0, .int .i16 0, .map none] 65)) = W0 at *
    have H0 : Hid _ := h0
    have H1 : Hid _ := h1
    clear h0 h1
    go_wp2_with (first
      | (at_builtin; go_loud (refine app_ob rfl (.const (.slice none 0 0)) (.tmp 13) rfl W0.heap.size (.slice none 0 0) [] rfl (OB.nil _ _) _ l G rfl (hl.keepF (hG.same k0) (fun _ h => h)) (by simp; omega) (Nat.le_refl _) ?_; intro v2 w2 hown hgr; have k2 : Keep [] W0 w2 := (Keep.refl _ _).grown hgr (by simp [Value.ownBlock]); have K2 := k0.trans k2; have hz2 := k2.size; have b2 := (k2.block (w.heap.size + 1) (by omega) (by simp)).trans H1.out; have hB2 : RB w2 (fun k => W0.heap.size ≤ k ∧ k < w2.heap.size) v2 l := hown.rb; have RF := env_ReadFrom b2 hB2 (fun k h => h.2) (by omega) (hg.keep K2 List.not_mem_nil) (by omega) hv.1; clear b2))
      | (go_at_call 24; go_loud (refine RF.mono ?_; rintro e w3 ⟨rfl, tv, pv1, b3, mp3, ps1, k3⟩; rw [hbad, errV_true]; have hz3 := k3.size; have r3 := (k3.block (w.heap.size) (by omega) (by simp)).trans ((k2.block (w.heap.size) (by omega) (by simp)).trans H0.out); have p0 : w3.cell? ⟨w.heap.size, 0, none⟩ = some (.int .i64 0) := cellOf r3 0 _ rfl; have pf0 := freeOf r3 0; have p1 : w3.cell? ⟨w.heap.size, 1, none⟩ = some (.slice none 0 0) := cellOf r3 1 _ rfl; have pf1 := freeOf r3 1; have p2 : w3.cell? ⟨w.heap.size, 2, none⟩ = some (.bool false) := cellOf r3 2 _ rfl; have pf2 := freeOf r3 2; have p3 : w3.cell? ⟨w.heap.size, 3, none⟩ = some (.slice none 0 0) := cellOf r3 3 _ rfl; have pf3 := freeOf r3 3; have p4 : w3.cell? ⟨w.heap.size, 4, none⟩ = some (.slice none 0 0) := cellOf r3 4 _ rfl; have pf4 := freeOf r3 4; have R3 : Hid _ := r3; clear r3 b3)))
    have hr : (((((w3.setCell ⟨w.heap.size, 0, none⟩ (.int .i64 0)).setCell ⟨w.heap.size, 1, none⟩ (.slice none 0 0)).setCell ⟨w.heap.size, 2, none⟩ (.bool false)).setCell ⟨w.heap.size, 3, none⟩ (.slice none 0 0)).setCell ⟨w.heap.size, 4, none⟩ (.slice none 0 0)).heap[w.heap.size]? = some (.cells #[.int .i64 0, .slice none 0 0, .bool false, .slice none 0 0, .slice none 0 0] 27 (0, 0)) := (set5 (o := 0) R3.out).1
    have kr : Keep [w.heap.size] w3 (((((w3.setCell ⟨w.heap.size, 0, none⟩ (.int .i64 0)).setCell ⟨w.heap.size, 1, none⟩ (.slice none 0 0)).setCell ⟨w.heap.size, 2, none⟩ (.bool false)).setCell ⟨w.heap.size, 3, none⟩ (.slice none 0 0)).setCell ⟨w.heap.size, 4, none⟩ (.slice none 0 0)) := (set5 (o := 0) R3.out).2
    clear p0 pf0 p1 pf1 p2 pf2 p3 pf3 p4 pf4
    generalize (((((w3.setCell ⟨w.heap.size, 0, none⟩ (.int .i64 0)).setCell ⟨w.heap.size, 1, none⟩ (.slice none 0 0)).setCell ⟨w.heap.size, 2, none⟩ (.bool false)).setCell ⟨w.heap.size, 3, none⟩ (.slice none 0 0)).setCell ⟨w.heap.size, 4, none⟩ (.slice none 0 0)) = W7 at *
    have r0 : W7.cell? ⟨w.heap.size, 0, none⟩ = some (.int .i64 0) := cellOf hr 0 _ rfl
    have r1 : W7.cell? ⟨w.heap.size, 1, none⟩ = some (.slice none 0 0) := cellOf hr 1 _ rfl
    have r2 : W7.cell? ⟨w.heap.size, 2, none⟩ = some (.bool false) := cellOf hr 2 _ rfl
    have r3 : W7.cell? ⟨w.heap.size, 3, none⟩ = some (.slice none 0 0) := cellOf hr 3 _ rfl
    have r4 : W7.cell? ⟨w.heap.size, 4, none⟩ = some (.slice none 0 0) := cellOf hr 4 _ rfl
    have K7 : Keep [] w W7 := (((K2.weaken (B := [w.heap.size, w.heap.size + 1]) (by simp)).trans ((k3.weaken (by simp)).trans (kr.weaken (by simp))))).fresh (by simp)
    refine bodyPost_ret (v := .tuple #[.agg #[.int .i64 0, .slice none 0 0, .bool false, .slice none 0 0, .slice none 0 0], .bool false]) (by simp [results, Tryd.results12, go_sem, r0, r1, r2, r3, r4]) rfl ⟨[.int .i64 0, .slice none 0 0, .bool false, .slice none 0 0, .slice none 0 0], rfl, HT.zero _ _, K7⟩
set_option maxHeartbeats 1000000 in
set_option maxRecDepth 100000 in
theorem env_Unsafe {G : Nat → Prop} {p : Addr} {l : Bs} {src : Value} {w : World} {v : Int} (hv : 0 ≤ v ∧ v ≤ 0) (hl : RB w G src l) (hll : l.length ≤ 1000) (hG : There G w) (hg : Gl w p) :
    Calls Tryd.prog 13 #[.int .i64 v, src] w fun e w' => ∃ c, e = .returned (.tuple #[.agg c.toArray, .bool (!(envRT v l).2.2)]) ∧ HT w' (New (fun _ => False) w w') (if (envRT v l).2.2 then T.zero else envT v l) c ∧ Keep [] w w' := by
  obtain ⟨ao, cap, rfl⟩ := RS.shape hl
  have hp1 : 1 < w.heap.size := World.block_lt_of_cell? w _ hg
  have hwr : IntKind.i16.wrap v = v := by rw [wrap_i16']; split <;> omega
  have hlen := env_len v l
  cases hbad : (envRT v l).2.2
  · rw [if_neg Bool.false_ne_true]
    go_enter Tryd.func13, Tryd.ntmps13
    have k0 : Keep [] w ((w.alloc (.cells #[.int .i64 0, .slice none 0 0, .bool false, .slice none 0 0, .slice none 0 0] 27)).alloc (.cells #[.int .i16 v, .slice none 0 0, .int .i16 0, .map none] 65)) := (keep_box (A := []) _).alloc _
    have h0 : ((w.alloc (.cells #[.int .i64 0, .slice none 0 0, .bool false, .slice none 0 0, .slice none 0 0] 27)).alloc (.cells #[.int .i16 v, .slice none 0 0, .int .i16 0, .map none] 65)).heap[w.heap.size]? = some (.cells #[.int .i64 0, .slice none 0 0, .bool false, .slice none 0 0, .slice none 0 0] 27) := ((keep_box (A := []) _).block w.heap.size (by simp) (by simp)).trans (heap_alloc_new w (.cells #[.int .i64 0, .slice none 0 0, .bool false, .slice none 0 0, .slice none 0 0] 27))
    have h1 : ((w.alloc (.cells #[.int .i64 0, .slice none 0 0, .bool false, .slice none 0 0, .slice none 0 0] 27)).alloc (.cells #[.int .i16 v, .slice none 0 0, .int .i16 0, .map none] 65)).heap[w.heap.size + 1]? = some (.cells #[.int .i16 v, .slice none 0 0, .int .i16 0, .map none] 65) := by
      have h := heap_alloc_new (w.alloc (.cells #[.int .i64 0, .slice none 0 0, .bool false, .slice none 0 0, .slice none 0 0] 27)) (.cells #[.int .i16 v, .slice none 0 0, .int .i16 0, .map none] 65)
      simpa using h
    have hz0 : ((w.alloc (.cells #[.int .i64 0, .slice none 0 0, .bool false, .slice none 0 0, .slice none 0 0] 27)).alloc (.cells #[.int .i16 v, .slice none 0 0, .int .i16 0, .map none] 65)).heap.size = w.heap.size + 2 := by simp
    have hu0 : ((w.alloc (.cells #[.int .i64 0, .slice none 0 0, .bool false, .slice none 0 0, .slice none 0 0] 27)).alloc (.cells #[.int .i16 0, .slice none 0 0, .int .i16 0, .map none] 65)).heap[w.heap.size + 1]? = some (.cells #[.int .i16 0, .slice none 0 0, .int .i16 0, .map none] 65) := by
      have h := heap_alloc_new (w.alloc (.cells #[.int .i64 0, .slice none 0 0, .bool false, .slice none 0 0, .slice none 0 0] 27)) (.cells #[.int .i16 0, .slice none 0 0, .int .i16 0, .map none] 65)
      simpa using h
    have hc0 := cellOf hu0 0 (.int .i16 0) rfl
    have hf0 := freeOf hu0 0
    clear hu0
    have SV := env_setv (v := v) hc0 hf0
    go_upto_region 3 with (first
      | (go_at_call 21; refine (env_new _).mono ?_; rintro e w1 ⟨rfl, rfl⟩)
      | (go_at_call 23; go_loud (refine SV.mono ?_; rintro e w1 ⟨rfl, rfl⟩)))
    clear SV hc0 hf0
    generalize ((w.alloc (.cells #[.int .i64 0, .slice none 0 0, .bool false, .slice none 0 0, .slice none 0 0] 27)).alloc (.cells #[.int .i16 v, .slice none 0 0, .int .i16 0, .map none] 65)) = W0 at *
    have H0 : Hid _ := h0
    have H1 : Hid _ := h1
    clear h0 h1
    go_wp2_with (first
      | (at_builtin; go_loud (refine app_ob rfl (.const (.slice none 0 0)) (.tmp 13) rfl W0.heap.size (.slice none 0 0) [] rfl (OB.nil _ _) _ l G rfl (hl.keepF (hG.same k0) (fun _ h => h)) (by simp; omega) (Nat.le_refl _) ?_; intro v2 w2 hown hgr; have k2 : Keep [] W0 w2 := (Keep.refl _ _).grown hgr (by simp [Value.ownBlock]); have K2 := k0.trans k2; have hz2 := k2.size; have b2 := (k2.block (w.heap.size + 1) (by omega) (by simp)).trans H1.out; have hB2 : RB w2 (fun k => W0.heap.size ≤ k ∧ k < w2.heap.size) v2 l := hown.rb; have RF := env_UnsafeReadFrom b2 hB2 (fun k h => h.2) (by omega) (hg.keep K2 List.not_mem_nil) (by omega) hv.1; clear b2))
      | (go_at_call 26; go_loud (refine RF.mono ?_; rintro e w3 ⟨rfl, tv, pv1, b3, mp3, ps1, k3⟩; rw [hbad, errV_false]; have hz3 := k3.size; have r3 := (k3.block (w.heap.size) (by omega) (by simp)).trans ((k2.block (w.heap.size) (by omega) (by simp)).trans H0.out); have TL := env_tell b3 mp3 (fun k h => h.2) (ps1 hbad) (fun x hx => by have := hlen.2.2 x hx; omega) (env_rg2 _ _) (fun x hx => by have := hlen.2.1 x hx; omega) (by omega); have R3 : Hid _ := r3; clear r3 b3))
      | (go_at_call 25; go_loud (refine TL.mono ?_; rintro e w4 ⟨c, rfl, hc, k4⟩; obtain ⟨az, ps, al, pl, au, pu, rfl, -⟩ := id hc.cells; simp only [T.n, T.s, T.null, T.l, T.u, List.length_nil, List.length_cons, Nat.zero_add] at hc ⊢; have hz4 := k4.size; have r4 := (k4.block (w.heap.size) (by omega) List.not_mem_nil).trans R3.out; have p0 : w4.cell? ⟨w.heap.size, 0, none⟩ = some (.int .i64 0) := cellOf r4 0 _ rfl; have pf0 := freeOf r4 0; have p1 : w4.cell? ⟨w.heap.size, 1, none⟩ = some (.slice none 0 0) := cellOf r4 1 _ rfl; have pf1 := freeOf r4 1; have p2 : w4.cell? ⟨w.heap.size, 2, none⟩ = some (.bool false) := cellOf r4 2 _ rfl; have pf2 := freeOf r4 2; have p3 : w4.cell? ⟨w.heap.size, 3, none⟩ = some (.slice none 0 0) := cellOf r4 3 _ rfl; have pf3 := freeOf r4 3; have p4 : w4.cell? ⟨w.heap.size, 4, none⟩ = some (.slice none 0 0) := cellOf r4 4 _ rfl; have pf4 := freeOf r4 4; have R4 : Hid _ := r4; clear r4)))
    have hr : (((((w4.setCell ⟨w.heap.size, 0, none⟩ (.int .i64 0)).setCell ⟨w.heap.size, 1, none⟩ (.slice az 0 ps)).setCell ⟨w.heap.size, 2, none⟩ (.bool false)).setCell ⟨w.heap.size, 3, none⟩ (.slice al 2 pl)).setCell ⟨w.heap.size, 4, none⟩ (.slice au (envRT v l).1.length pu)).heap[w.heap.size]? = some (.cells #[.int .i64 0, .slice az 0 ps, .bool false, .slice al 2 pl, .slice au (envRT v l).1.length pu] 27 (0, 0)) := (set5 (o := 0) R4.out).1
    have kr : Keep [w.heap.size] w4 (((((w4.setCell ⟨w.heap.size, 0, none⟩ (.int .i64 0)).setCell ⟨w.heap.size, 1, none⟩ (.slice az 0 ps)).setCell ⟨w.heap.size, 2, none⟩ (.bool false)).setCell ⟨w.heap.size, 3, none⟩ (.slice al 2 pl)).setCell ⟨w.heap.size, 4, none⟩ (.slice au (envRT v l).1.length pu)) := (set5 (o := 0) R4.out).2
    clear p0 pf0 p1 pf1 p2 pf2 p3 pf3 p4 pf4
    generalize (((((w4.setCell ⟨w.heap.size, 0, none⟩ (.int .i64 0)).setCell ⟨w.heap.size, 1, none⟩ (.slice az 0 ps)).setCell ⟨w.heap.size, 2, none⟩ (.bool false)).setCell ⟨w.heap.size, 3, none⟩ (.slice al 2 pl)).setCell ⟨w.heap.size, 4, none⟩ (.slice au (envRT v l).1.length pu)) = W7 at *
    have r0 : W7.cell? ⟨w.heap.size, 0, none⟩ = some (.int .i64 0) := cellOf hr 0 _ rfl
    have r1 : W7.cell? ⟨w.heap.size, 1, none⟩ = some (.slice az 0 ps) := cellOf hr 1 _ rfl
    have r2 : W7.cell? ⟨w.heap.size, 2, none⟩ = some (.bool false) := cellOf hr 2 _ rfl
    have r3 : W7.cell? ⟨w.heap.size, 3, none⟩ = some (.slice al 2 pl) := cellOf hr 3 _ rfl
    have r4 : W7.cell? ⟨w.heap.size, 4, none⟩ = some (.slice au (envRT v l).1.length pu) := cellOf hr 4 _ rfl
    have K7 : Keep [] w W7 := (((K2.weaken (B := [w.heap.size, w.heap.size + 1]) (by simp)).trans ((k3.weaken (by simp)).trans ((k4.weaken (by simp)).trans (kr.weaken (by simp)))))).fresh (by simp)
    refine bodyPost_ret (v := .tuple #[.agg #[.int .i64 0, .slice az 0 ps, .bool false, .slice al 2 pl, .slice au (envRT v l).1.length pu], .bool true]) (by simp [results, Tryd.results13, go_sem, r0, r1, r2, r3, r4]) rfl ⟨[.int .i64 0, .slice az 0 ps, .bool false, .slice al 2 pl, .slice au (envRT v l).1.length pu], rfl, ?_, K7⟩
    have hzr := kr.size
    have hc7 := hc.keepF (w' := W7) (G := New (fun _ => False) w W7) (fun k hk => kr.block k hk.2 (by have := hk.1; simp; omega)) (fun k hk => ⟨.inr (by have := hk.1; omega), Nat.lt_of_lt_of_le hk.2 kr.size⟩)
    exact hc7
  · rw [if_pos rfl]
    go_enter Tryd.func13, Tryd.ntmps13
    have k0 : Keep [] w ((w.alloc (.cells #[.int .i64 0, .slice none 0 0, .bool false, .slice none 0 0, .slice none 0 0] 27)).alloc (.cells #[.int .i16 v, .slice none 0 0, .int .i16 0, .map none] 65)) := (keep_box (A := []) _).alloc _
    have h0 : ((w.alloc (.cells #[.int .i64 0, .slice none 0 0, .bool false, .slice none 0 0, .slice none 0 0] 27)).alloc (.cells #[.int .i16 v, .slice none 0 0, .int .i16 0, .map none] 65)).heap[w.heap.size]? = some (.cells #[.int .i64 0, .slice none 0 0, .bool false, .slice none 0 0, .slice none 0 0] 27) := ((keep_box (A := []) _).block w.heap.size (by simp) (by simp)).trans (heap_alloc_new w (.cells #[.int .i64 0, .slice none 0 0, .bool false, .slice none 0 0, .slice none 0 0] 27))
    have h1 : ((w.alloc (.cells #[.int .i64 0, .slice none 0 0, .bool false, .slice none 0 0, .slice none 0 0] 27)).alloc (.cells #[.int .i16 v, .slice none 0 0, .int .i16 0, .map none] 65)).heap[w.heap.size + 1]? = some (.cells #[.int .i16 v, .slice none 0 0, .int .i16 0, .map none] 65) := by
      have h := heap_alloc_new (w.alloc (.cells #[.int .i64 0, .slice none 0 0, .bool false, .slice none 0 0, .slice none 0 0] 27)) (.cells #[.int .i16 v, .slice none 0 0, .int .i16 0, .map none] 65)
      simpa using h
    have hz0 : ((w.alloc (.cells #[.int .i64 0, .slice none 0 0, .bool false, .slice none 0 0, .slice none 0 0] 27)).alloc (.cells #[.int .i16 v, .slice none 0 0, .int .i16 0, .map none] 65)).heap.size = w.heap.size + 2 := by simp
    have hu0 : ((w.alloc (.cells #[.int .i64 0, .slice none 0 0, .bool false, .slice none 0 0, .slice none 0 0] 27)).alloc (.cells #[.int .i16 0, .slice none 0 0, .int .i16 0, .map none] 65)).heap[w.heap.size + 1]? = some (.cells #[.int .i16 0, .slice none 0 0, .int .i16 0, .map none] 65) := by
      have h := heap_alloc_new (w.alloc (.cells #[.int .i64 0, .slice none 0 0, .bool false, .slice none 0 0, .slice none 0 0] 27)) (.cells #[.int .i16 0, .slice none 0 0, .int .i16 0, .map none] 65)
      simpa using h
    have hc0 := cellOf hu0 0 (.int .i16 0) rfl
    have hf0 := freeOf hu0 0
    clear hu0
    have SV := env_setv (v := v) hc0 hf0
    go_upto_region 3 with (first
      | (go_at_call 21; refine (env_new _).mono ?_; rintro e w1 ⟨rfl, rfl⟩)
      | (go_at_call 23; go_loud (refine SV.mono ?_; rintro e w1 ⟨rfl, rfl⟩)))
    clear SV hc0 hf0
    generalize ((w.alloc (.cells #[.int .i64 0, .slice none 0 0, .bool false, .slice none 0 0, .slice none 0 0] 27)).alloc (.cells #[.int .i16 v, .slice none 0 0, .int .i16 0, .map none] 65)) = W0 at *
    have H0 : Hid _ := h0
    have H1 : Hid _ := h1
    clear h0 h1
    go_wp2_with (first
      | (at_builtin; go_loud (refine app_ob rfl (.const (.slice none 0 0)) (.tmp 13) rfl W0.heap.size (.slice none 0 0) [] rfl (OB.nil _ _) _ l G rfl (hl.keepF (hG.same k0) (fun _ h => h)) (by simp; omega) (Nat.le_refl _) ?_; intro v2 w2 hown hgr; have k2 : Keep [] W0 w2 := (Keep.refl _ _).grown hgr (by simp [Value.ownBlock]); have K2 := k0.trans k2; have hz2 := k2.size; have b2 := (k2.block (w.heap.size + 1) (by omega) (by simp)).trans H1.out; have hB2 : RB w2 (fun k => W0.heap.size ≤ k ∧ k < w2.heap.size) v2 l := hown.rb; have RF := env_UnsafeReadFrom b2 hB2 (fun k h => h.2) (by omega) (hg.keep K2 List.not_mem_nil) (by omega) hv.1; clear b2))
      | (go_at_call 26; go_loud (refine RF.mono ?_; rintro e w3 ⟨rfl, tv, pv1, b3, mp3, ps1, k3⟩; rw [hbad, errV_true]; have hz3 := k3.size; have r3 := (k3.block (w.heap.size) (by omega) (by simp)).trans ((k2.block (w.heap.size) (by omega) (by simp)).trans H0.out); have p0 : w3.cell? ⟨w.heap.size, 0, none⟩ = some (.int .i64 0) := cellOf r3 0 _ rfl; have pf0 := freeOf r3 0; have p1 : w3.cell? ⟨w.heap.size, 1, none⟩ = some (.slice none 0 0) := cellOf r3 1 _ rfl; have pf1 := freeOf r3 1; have p2 : w3.cell? ⟨w.heap.size, 2, none⟩ = some (.bool false) := cellOf r3 2 _ rfl; have pf2 := freeOf r3 2; have p3 : w3.cell? ⟨w.heap.size, 3, none⟩ = some (.slice none 0 0) := cellOf r3 3 _ rfl; have pf3 := freeOf r3 3; have p4 : w3.cell? ⟨w.heap.size, 4, none⟩ = some (.slice none 0 0) := cellOf r3 4 _ rfl; have pf4 := freeOf r3 4; have R3 : Hid _ := r3; clear r3 b3)))
    have hr : (((((w3.setCell ⟨w.heap.size, 0, none⟩ (.int .i64 0)).setCell ⟨w.heap.size, 1, none⟩ (.slice none 0 0)).setCell ⟨w.heap.size, 2, none⟩ (.bool false)).setCell ⟨w.heap.size, 3, none⟩ (.slice none 0 0)).setCell ⟨w.heap.size, 4, none⟩ (.slice none 0 0)).heap[w.heap.size]? = some (.cells #[.int .i64 0, .slice none 0 0, .bool false, .slice none 0 0, .slice none 0 0] 27 (0, 0)) := (set5 (o := 0) R3.out).1
    have kr : Keep [w.heap.size] w3 (((((w3.setCell ⟨w.heap.size, 0, none⟩ (.int .i64 0)).setCell ⟨w.heap.size, 1, none⟩ (.slice none 0 0)).setCell ⟨w.heap.size, 2, none⟩ (.bool false)).setCell ⟨w.heap.size, 3, none⟩ (.slice none 0 0)).setCell ⟨w.heap.size, 4, none⟩ (.slice none 0 0)) := (set5 (o := 0) R3.out).2
    clear p0 pf0 p1 pf1 p2 pf2 p3 pf3 p4 pf4
    generalize (((((w3.setCell ⟨w.heap.size, 0, none⟩ (.int .i64 0)).setCell ⟨w.heap.size, 1, none⟩ (.slice none 0 0)).setCell ⟨w.heap.size, 2, none⟩ (.bool false)).setCell ⟨w.heap.size, 3, none⟩ (.slice none 0 0)).setCell ⟨w.heap.size, 4, none⟩ (.slice none 0 0)) = W7 at *
    have r0 : W7.cell? ⟨w.heap.size, 0, none⟩ = some (.int .i64 0) := cellOf hr 0 _ rfl
    have r1 : W7.cell? ⟨w.heap.size, 1, none⟩ = some (.slice none 0 0) := cellOf hr 1 _ rfl
    have r2 : W7.cell? ⟨w.heap.size, 2, none⟩ = some (.bool false) := cellOf hr 2 _ rfl
    have r3 : W7.cell? ⟨w.heap.size, 3, none⟩ = some (.slice none 0 0) := cellOf hr 3 _ rfl
    have r4 : W7.cell? ⟨w.heap.size, 4, none⟩ = some (.slice none 0 0) := cellOf hr 4 _ rfl
    have K7 : Keep [] w W7 := (((K2.weaken (B := [w.heap.size, w.heap.size + 1]) (by simp)).trans ((k3.weaken (by simp)).trans (kr.weaken (by simp))))).fresh (by simp)
    refine bodyPost_ret (v := .tuple #[.agg #[.int .i64 0, .slice none 0 0, .bool false, .slice none 0 0, .slice none 0 0], .bool false]) (by simp [results, Tryd.results13, go_sem, r0, r1, r2, r3, r4]) rfl ⟨[.int .i64 0, .slice none 0 0, .bool false, .slice none 0 0, .slice none 0 0], rfl, HT.zero _ _, K7⟩
end Go.Proofs.YtedconnhligkeaaDoor
