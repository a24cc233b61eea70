/-
  ControlledShutdownRequest: its doors for reading and telling.
-/
import Derived.Test.YtdklogmmfnddiaaDoorMCsd2
import Derived.Test.YtdklogmmfnddiaaDoorMCsd3
import Derived.Test.YtdklogmmfnddiaaDoorMCsd4
import Derived.Test.YtdklogmmfnddiaaDoorMCsd5
import Derived.Test.YtdklogmmfnddiaaDoorMB19
import Derived.Deep.Cut
namespace Go.Proofs.YtdklogmmfnddiaaDoor
open Go.ChangeShapes Go.WideShapes Go.ChangeAt Go.RowKit

theorem csd_readFrom {G : Nat → Prop} {b : Nat} {p : Addr} {l : Bs} {src : Value} {w : World} {ver : Int} (hb : w.heap[b]? = some (.cells #[.int .i16 ver, .int .i32 0, .int .i64 (-1), .map none] 78 (0, 0))) (hl : RB w G src l) (hG : There G w) (hGb : ¬ G b) (hg : Gl w p) (hp : b ≠ 1) (hv0 : 0 ≤ ver) :
    Calls Tryd.prog 41 #[.pointer (some ⟨b, 0, none⟩), src, .bool false] w fun e w' => e = .returned (errV p (rdPart q_ControlledShutdownRequest ver (decide ((3 : Int) ≤ ver)) (l, false)).2.2) ∧ Keep [b] w w' ∧ ((rdPart q_ControlledShutdownRequest ver (decide ((3 : Int) ≤ ver)) (l, false)).2.2 = false → VM w' (New G w w') b q_ControlledShutdownRequest 78 ver (rdPart q_ControlledShutdownRequest ver (decide ((3 : Int) ≤ ver)) (l, false)).1) := by
  by_cases b3 : (3 : Int) ≤ ver
  · rw [show decide ((3 : Int) ≤ ver) = true from decide_eq_true (by omega)]
    exact csd_read_2n hb hl hG hGb hg hp hv0 (by omega) (by omega) false
  ·
    by_cases b2 : (2 : Int) ≤ ver
    · rw [show decide ((3 : Int) ≤ ver) = false from decide_eq_false (by omega)]
      exact csd_read_1n hb hl hG hGb hg hp hv0 (by omega) (by omega) false
    · rw [show decide ((3 : Int) ≤ ver) = false from decide_eq_false (by omega)]
      exact csd_read_0n hb hl hG hGb hg hp hv0 (by omega) (by omega) false
theorem csd_ReadFrom {G : Nat → Prop} {b : Nat} {p : Addr} {l : Bs} {src : Value} {w : World} {ver : Int} (hb : w.heap[b]? = some (.cells #[.int .i16 ver, .int .i32 0, .int .i64 (-1), .map none] 78 (0, 0))) (hl : RB w G src l) (hG : There G w) (hGb : ¬ G b) (hg : Gl w p) (hp : b ≠ 1) (hv0 : 0 ≤ ver) :
    Calls Tryd.prog 22 #[.pointer (some ⟨b, 0, none⟩), src] w fun e w' => e = .returned (errV p (rdPart q_ControlledShutdownRequest ver (decide ((3 : Int) ≤ ver)) (l, false)).2.2) ∧ Keep [b] w w' ∧ ((rdPart q_ControlledShutdownRequest ver (decide ((3 : Int) ≤ ver)) (l, false)).2.2 = false → VM w' (New G w w') b q_ControlledShutdownRequest 78 ver (rdPart q_ControlledShutdownRequest ver (decide ((3 : Int) ≤ ver)) (l, false)).1) := by
  have RF := csd_readFrom hb hl hG hGb hg hp hv0
  clear hb
  go_enter Tryd.func22, Tryd.ntmps22
  go_wp2_with (go_at_call 41; refine RF.mono ?_; rintro e w1 ⟨rfl, h1⟩)
  go_ret
  exact ⟨rfl, h1⟩
theorem csd_new (w : World) : Calls Tryd.prog 19 #[] w fun e w' => e = .returned (.pointer (some ⟨w.heap.size, 0, none⟩)) ∧ (w.alloc (.cells #[.int .i16 0, .int .i32 0, .int .i64 (-1), .map none] 78)) = w' := by
  have DF := csd_default0 (b := w.heap.size) (heap_alloc_new w _)
  go_enter Tryd.func19, Tryd.ntmps19
  go_wp2_with (go_at_call 23; go_loud (refine DF.mono ?_; rintro e w1 ⟨rfl, rfl⟩))
  go_ret
  exact ⟨rfl, by simp [go_sem]⟩
theorem csd_max (w : World) (x : Value) : Calls Tryd.prog 20 #[x] w fun e w' => e = .returned (.int .i16 3) ∧ w = w' := by
  go_enter Tryd.func20, Tryd.ntmps20
  go_wp2
  go_ret
  exact ⟨rfl, rfl⟩
theorem csd_Max (w : World) : Calls Tryd.prog 6 #[] w fun e w' => e = .returned (.int .i64 3) ∧ Keep [] w w' := by
  go_enter Tryd.func6, Tryd.ntmps6
  go_wp2_with (first
    | (go_at_call 19; refine (csd_new _).mono ?_; rintro e w1 ⟨rfl, rfl⟩)
    | (go_at_call 20; refine (csd_max _ _).mono ?_; rintro e w2 ⟨rfl, rfl⟩))
  go_ret
  exact ⟨rfl, keep_box _⟩
theorem csd_setv {w : World} {b : Nat} {v : Int} {x : Value} (h : w.cell? ⟨b, 0, none⟩ = some x) (hf : w.frozen? ⟨b, 0, none⟩ = false) : Calls Tryd.prog 21 #[.pointer (some ⟨b, 0, none⟩), .int .i16 v] w fun e w' => e = .returned (.tuple #[]) ∧ w.setCell ⟨b, 0, none⟩ (.int .i16 v) = w' := by
  go_enter Tryd.func21, Tryd.ntmps21
  go_wp2
  refine bodyPost_end (v := .tuple #[]) (by simp [results, Tryd.results21, go_sem]) rfl ⟨rfl, rfl⟩
end Go.Proofs.YtdklogmmfnddiaaDoor
/-
  ControlledShutdownRequest: read, set to its defaults, told.
-/
namespace Go.Proofs.YtdklogmmfnddiaaDoor
open Go.ChangeShapes Go.WideShapes Go.ChangeAt Go.RowKit

theorem csd_dfl {w : World} {b : Nat} {v : Value} (h : w.cell? ⟨b, 2, none⟩ = some v) (hf : w.frozen? ⟨b, 2, none⟩ = false) : Calls Tryd.prog 23 #[.pointer (some ⟨b, 0, none⟩)] w fun e w' => e = .returned (.tuple #[]) ∧ w.setCell ⟨b, 2, none⟩ (.int .i64 (-1)) = w' := by
  go_enter Tryd.func23, Tryd.ntmps23
  go_wp2
  refine bodyPost_end (v := .tuple #[]) (by simp [results, Tryd.results23, go_sem]) rfl ⟨rfl, rfl⟩
theorem csd_dvm {w : World} {G : Nat → Prop} {b : Nat} {ty : TypeId} {ver : Int} {t : T} (h : VM w G b q_ControlledShutdownRequest ty ver t) (hG : ¬ G b) (hs : small 1000000 t) :
    ∃ t' x, w.cell? ⟨b, 2, none⟩ = some x ∧ w.frozen? ⟨b, 2, none⟩ = false ∧ VM (w.setCell ⟨b, 2, none⟩ (.int .i64 (-1))) G b q_ControlledShutdownRequest ty ver t' ∧ (atT t' 1).n = -1 ∧ small 1000000 t' := by
  obtain ⟨cs, v, l, u, hb, hf, hm, rfl⟩ := h
  unfold q_ControlledShutdownRequest at hf
  obtain ⟨c0, r0, t0, l0, rfl, rfl, hf0, hr0⟩ := hf
  obtain ⟨c1, r1, t1, l1, rfl, rfl, hf1, hr1⟩ := hr0
  obtain ⟨rfl, rfl⟩ := hr1
  obtain ⟨n0, rfl, rg0, rfl⟩ := vf_i32_inv hf0
  obtain ⟨n1, rfl, rg1, rfl⟩ := vf_i64_inv hf1
  have hsm : SameOn G w (w.setCell ⟨b, 2, none⟩ (.int .i64 (-1))) := fun k hk => Below.heap_setCell _ _ _ _ (fun e => hG (by simp only at e; rw [← e]; exact hk))
  refine ⟨.mk 0 [] false [.mk n0 [] false [] [], .mk (-1) [] false [] []] u, _, cellOf hb 2 _ rfl, freeOf hb 2, ⟨[.int .i32 n0, .int .i64 (-1)], v, _, u, ?_, ?_, hm.keepF hsm (fun _ h => h), rfl⟩, rfl, ?_⟩
  · rw [heap_set hb (.int .i64 (-1))]
    rfl
  · unfold q_ControlledShutdownRequest
    exact ⟨[.int .i32 n0], [.int .i64 (-1)], _, _, rfl, rfl, ⟨n0, rfl, rg0, rfl⟩, [.int .i64 (-1)], [], _, _, rfl, rfl, ⟨-1, rfl, by decide, rfl⟩, rfl, rfl⟩
  · simp only [small] at hs ⊢
    exact ⟨hs.1, by simp, hs.2.2.1, hs.2.2.2.1, small_plain (by simp), small_plain (by simp), trivial⟩
set_option maxHeartbeats 1600000 in
set_option maxRecDepth 100000 in
theorem csd_Dft {G : Nat → Prop} {p : Addr} {l : Bs} {src : Value} {w : World} {v : Int} {t : T} {rest : Bs} (hv : 0 ≤ v ∧ v ≤ 3) (hl : RB w G src l) (hll : l.length ≤ 36000000000000) (hG : There G w) (hg : Gl w p) (hrd : rdPart q_ControlledShutdownRequest v (decide ((3 : Int) ≤ v)) (l, false) = (t, (rest, false))) (hsm : small 1000000 t) :
    Calls Tryd.prog 9 #[.int .i64 v, src] w fun e w' => ∃ c t', e = .returned (.tuple #[.agg c.toArray, .bool true]) ∧ HT w' (New (fun _ => False) w w') t' c ∧ (atT t' 1).n = -1 ∧ small 1000000 t' ∧ Keep [] w w' := by
  obtain ⟨ao, cap, rfl⟩ := RS.shape hl
  have hp1 : 1 < w.heap.size := World.block_lt_of_cell? w _ hg
  have hwr : IntKind.i16.wrap v = v := by rw [wrap_i16']; split <;> omega
  have HRD : Hid _ := hrd
  clear hrd
  go_enter Tryd.func9, Tryd.ntmps9
  have k0 : Keep [] w ((w.alloc (.cells #[.int .i64 0, .slice none 0 0, .bool false, .slice none 0 0, .slice none 0 0] 37)).alloc (.cells #[.int .i16 v, .int .i32 0, .int .i64 (-1), .map none] 78)) := (keep_box (A := []) _).alloc _
  have h0 : ((w.alloc (.cells #[.int .i64 0, .slice none 0 0, .bool false, .slice none 0 0, .slice none 0 0] 37)).alloc (.cells #[.int .i16 v, .int .i32 0, .int .i64 (-1), .map none] 78)).heap[w.heap.size]? = some (.cells #[.int .i64 0, .slice none 0 0, .bool false, .slice none 0 0, .slice none 0 0] 37 (0, 0)) := ((keep_box (A := []) _).block w.heap.size (by simp) (by simp)).trans (heap_alloc_new w (.cells #[.int .i64 0, .slice none 0 0, .bool false, .slice none 0 0, .slice none 0 0] 37))
  have h1 : ((w.alloc (.cells #[.int .i64 0, .slice none 0 0, .bool false, .slice none 0 0, .slice none 0 0] 37)).alloc (.cells #[.int .i16 v, .int .i32 0, .int .i64 (-1), .map none] 78)).heap[w.heap.size + 1]? = some (.cells #[.int .i16 v, .int .i32 0, .int .i64 (-1), .map none] 78 (0, 0)) := by
    have h := heap_alloc_new (w.alloc (.cells #[.int .i64 0, .slice none 0 0, .bool false, .slice none 0 0, .slice none 0 0] 37)) (.cells #[.int .i16 v, .int .i32 0, .int .i64 (-1), .map none] 78)
    simpa using h
  have hz0 : ((w.alloc (.cells #[.int .i64 0, .slice none 0 0, .bool false, .slice none 0 0, .slice none 0 0] 37)).alloc (.cells #[.int .i16 v, .int .i32 0, .int .i64 (-1), .map none] 78)).heap.size = w.heap.size + 2 := by simp
  have hu0 : ((w.alloc (.cells #[.int .i64 0, .slice none 0 0, .bool false, .slice none 0 0, .slice none 0 0] 37)).alloc (.cells #[.int .i16 0, .int .i32 0, .int .i64 (-1), .map none] 78)).heap[w.heap.size + 1]? = some (.cells #[.int .i16 0, .int .i32 0, .int .i64 (-1), .map none] 78 (0, 0)) := by
    have h := heap_alloc_new (w.alloc (.cells #[.int .i64 0, .slice none 0 0, .bool false, .slice none 0 0, .slice none 0 0] 37)) (.cells #[.int .i16 0, .int .i32 0, .int .i64 (-1), .map none] 78)
    simpa using h
  have hc0 := cellOf hu0 0 (.int .i16 0) rfl
  have hf0 := freeOf hu0 0
  clear hu0
  have SV := csd_setv (v := v) hc0 hf0
  go_upto_region 3 with (first
    | (go_at_call 19; refine (csd_new _).mono ?_; rintro e w1 ⟨rfl, rfl⟩)
    | (go_at_call 21; go_loud (refine SV.mono ?_; rintro e w1 ⟨rfl, rfl⟩)))
  clear SV hc0 hf0
  generalize ((w.alloc (.cells #[.int .i64 0, .slice none 0 0, .bool false, .slice none 0 0, .slice none 0 0] 37)).alloc (.cells #[.int .i16 v, .int .i32 0, .int .i64 (-1), .map none] 78)) = W0 at *
  have H0 : Hid _ := h0
  have H1 : Hid _ := h1
  clear h0 h1
  go_wp2_with (first
    | (go_at_call 23; go_loud (refine Calls.mono DF.out ?_; rintro e w3s ⟨rfl, rfl⟩))
    | (go_at_call 24; go_loud (refine Calls.mono TL.out ?_; rintro e w4 ⟨c, rfl, hc, k4⟩; obtain ⟨az, ps, al, pl, au, pu, rfl, -⟩ := id hc.cells; have hz4 := k4.size; have r4 := (k4.block (w.heap.size) (by omega) List.not_mem_nil).trans R3.out; have p0 : w4.cell? ⟨w.heap.size, 0, none⟩ = some (.int .i64 0) := cellOf r4 0 _ rfl; have pf0 := freeOf r4 0; have p1 : w4.cell? ⟨w.heap.size, 1, none⟩ = some (.slice none 0 0) := cellOf r4 1 _ rfl; have pf1 := freeOf r4 1; have p2 : w4.cell? ⟨w.heap.size, 2, none⟩ = some (.bool false) := cellOf r4 2 _ rfl; have pf2 := freeOf r4 2; have p3 : w4.cell? ⟨w.heap.size, 3, none⟩ = some (.slice none 0 0) := cellOf r4 3 _ rfl; have pf3 := freeOf r4 3; have p4 : w4.cell? ⟨w.heap.size, 4, none⟩ = some (.slice none 0 0) := cellOf r4 4 _ rfl; have pf4 := freeOf r4 4; have R4 : Hid _ := r4; clear r4))
    | (go_at_call 22; go_loud (refine Calls.mono RF.out ?_; rw [HRD.out]; rintro e w3 ⟨rfl, k3, b3⟩; rw [errV_false]; have hz3 := k3.size; have r3 := (k3.block (w.heap.size) (by omega) (by simp)).trans ((k2.block (w.heap.size) (by omega) (by simp)).trans H0.out); obtain ⟨t2, xq, dc, df, vm2, hn2, hs2⟩ := csd_dvm (b3 rfl) (fun h => by have := h.1; omega) hsm; have DF : Hid _ := csd_dfl dc df; have kS : Keep [w.heap.size + 1] w3 (w3.setCell ⟨w.heap.size + 1, 2, none⟩ (.int .i64 (-1))) := (Keep.refl _ _).setCell (.inl (by simp)) _; have hzS := kS.size; obtain ⟨cc, pt3, cv3, vk3⟩ := VM.seen vm2 (fun k h => Nat.lt_of_lt_of_le h.2 kS.size) (Keep.refl _ _); have TL : Hid _ := csd_tell pt3 vk3 (fun k h => Nat.lt_of_lt_of_le h.2 kS.size) hs2; have R3 : Hid _ := (kS.block (w.heap.size) (by omega) (by simp)).trans r3; have HN : Hid _ := hn2; have HM2 : Hid _ := hs2; clear dc df vm2 hn2 hs2 r3 b3 pt3 cv3 vk3 RF))
    | (at_builtin; go_loud (refine app_ob rfl (.const (.slice none 0 0)) (.tmp 13) rfl W0.heap.size (.slice none 0 0) [] rfl (OB.nil _ _) _ l G rfl (hl.keepF (hG.same k0) (fun _ h => h)) (by simp; omega) (Nat.le_refl _) ?_; intro v2 w2 hown hgr; have k2 : Keep [] W0 w2 := (Keep.refl _ _).grown hgr (by simp [Value.ownBlock]); have K2 := k0.trans k2; have hz2 := k2.size; have b2 := (k2.block (w.heap.size + 1) (by omega) (by simp)).trans H1.out; have hB2 : RB w2 (fun k => W0.heap.size ≤ k ∧ k < w2.heap.size) v2 l := hown.rb; have RF : Hid _ := csd_ReadFrom b2 hB2 (fun k h => h.2) (by omega) (hg.keep K2 List.not_mem_nil) (by omega) hv.1; clear b2)))
  have hr : (((((w4.setCell ⟨w.heap.size, 0, none⟩ (.int .i64 t2.n)).setCell ⟨w.heap.size, 1, none⟩ (.slice az t2.s.length ps)).setCell ⟨w.heap.size, 2, none⟩ (.bool t2.null)).setCell ⟨w.heap.size, 3, none⟩ (.slice al t2.l.length pl)).setCell ⟨w.heap.size, 4, none⟩ (.slice au t2.u.length pu)).heap[w.heap.size]? = some (.cells #[.int .i64 t2.n, .slice az t2.s.length ps, .bool t2.null, .slice al t2.l.length pl, .slice au t2.u.length pu] 37 (0, 0)) := (set5 (o := 0) R4.out).1
  have kr : Keep [w.heap.size] w4 (((((w4.setCell ⟨w.heap.size, 0, none⟩ (.int .i64 t2.n)).setCell ⟨w.heap.size, 1, none⟩ (.slice az t2.s.length ps)).setCell ⟨w.heap.size, 2, none⟩ (.bool t2.null)).setCell ⟨w.heap.size, 3, none⟩ (.slice al t2.l.length pl)).setCell ⟨w.heap.size, 4, none⟩ (.slice au t2.u.length pu)) := (set5 (o := 0) R4.out).2
  clear p0 pf0 p1 pf1 p2 pf2 p3 pf3 p4 pf4
  generalize (((((w4.setCell ⟨w.heap.size, 0, none⟩ (.int .i64 t2.n)).setCell ⟨w.heap.size, 1, none⟩ (.slice az t2.s.length ps)).setCell ⟨w.heap.size, 2, none⟩ (.bool t2.null)).setCell ⟨w.heap.size, 3, none⟩ (.slice al t2.l.length pl)).setCell ⟨w.heap.size, 4, none⟩ (.slice au t2.u.length pu)) = W7 at *
  have r0 : W7.cell? ⟨w.heap.size, 0, none⟩ = some (.int .i64 t2.n) := cellOf hr 0 _ rfl
  have r1 : W7.cell? ⟨w.heap.size, 1, none⟩ = some (.slice az t2.s.length ps) := cellOf hr 1 _ rfl
  have r2 : W7.cell? ⟨w.heap.size, 2, none⟩ = some (.bool t2.null) := cellOf hr 2 _ rfl
  have r3 : W7.cell? ⟨w.heap.size, 3, none⟩ = some (.slice al t2.l.length pl) := cellOf hr 3 _ rfl
  have r4 : W7.cell? ⟨w.heap.size, 4, none⟩ = some (.slice au t2.u.length pu) := cellOf hr 4 _ rfl
  have K7 : Keep [] w W7 := (((K2.weaken (B := [w.heap.size, w.heap.size + 1]) (by simp)).trans ((k3.weaken (by simp)).trans ((kS.weaken (by simp)).trans ((k4.weaken (by simp)).trans (kr.weaken (by simp))))))).fresh (by simp)
  refine bodyPost_ret (v := .tuple #[.agg #[.int .i64 t2.n, .slice az t2.s.length ps, .bool t2.null, .slice al t2.l.length pl, .slice au t2.u.length pu], .bool true]) (by simp [results, Tryd.results9, go_sem, r0, r1, r2, r3, r4]) rfl ⟨[.int .i64 t2.n, .slice az t2.s.length ps, .bool t2.null, .slice al t2.l.length pl, .slice au t2.u.length pu], t2, rfl, ?_, HN.out, HM2.out, K7⟩
  exact hc.keepF (w' := W7) (G := New (fun _ => False) w W7) (fun k hk => kr.block k hk.2 (by have := hk.1; simp; omega)) (fun k hk => ⟨.inr (by have := hk.1; omega), Nat.lt_of_lt_of_le hk.2 kr.size⟩)
end Go.Proofs.YtdklogmmfnddiaaDoor
