/-
  PushTelemetryRequest: telling.
-/
import Derived.Test.YtdklogmmfnddiaaDoorMB18
import Derived.Test.YtdklogmmfnddiaaDoorMB14
import Derived.Test.YtdklogmmfnddiaaDoorMPtr1
import Derived.Test.YtdklogmmfnddiaaDoorMB17
import Derived.Deep.CutBlock
import Derived.Deep.DeepCutAuto
namespace Go.Proofs.YtdklogmmfnddiaaDoor
open Go.ChangeShapes Go.WideShapes Go.ChangeAt Go.RowKit

set_option maxHeartbeats 800000 in
set_option maxRecDepth 100000 in
theorem ptr_tag {W0 W : World} {tb : Nat} {n s nul l x : Value} {d : List Tg} {J : Nat → Prop} {key : Nat} {val : Bs} {G : Nat → Prop} (h : TSt W0 tb n s nul l d J W) (hx : RB W G x val) (hk : key < 4294967296) (hval : val.length ≤ 1000000) (hd : d.length ≤ 1000000000000) (htb : tb < W0.heap.size) :
    Calls Tryd.prog 52 #[.int .u32 (key : Int), x, .pointer (some ⟨tb, 0, none⟩)] W fun e W' => e = .returned (.tuple #[]) ∧ ∃ J', TSt W0 tb n s nul l (d ++ [(key, val)]) J' W' ∧ (∀ j, J' j → J j ∨ W.heap.size ≤ j) ∧ Chg J W W' := by
  obtain ⟨u, h1, h2, hJ, hW, h5⟩ := h
  obtain ⟨ax, cx, rfl⟩ := RS.shape hx
  have h2' := h2
  obtain ⟨vs0, _, _, _, _, hr0⟩ := h2'
  have hu : ∀ k, u.ownBlock = some k → W0.heap.size ≤ k ∧ k < W.heap.size := fun k e => hr0.lt k e
  have c4 : W.cell? ⟨tb, 4, none⟩ = some u := cellOf h1 4 _ rfl
  have f4 := freeOf h1 4
  have htl : tb < W.heap.size := by omega
  obtain ⟨j0, hj, hy0, hy1, hy2⟩ := info_agg info_ig zero_ig
  have H1 : Hid _ := h1
  have hxd : RB W.drew G (.slice ax val.length cx) val := hx
  obtain ⟨ao, cp, rfl⟩ := owns_shape hr0
  clear h1 hr0
  go_enter Tryd.func52, Tryd.ntmps52
  go_region_law (first
    | (refine app_step (by rfl) (.const (.slice none 0 0)) (.tmp 8) (by rfl) W.heap.size (.slice none 0 0) [] (by rfl) (OB.nil _ _) _ val G (by rfl) hxd (by simp; omega) (Nat.le_refl _) ?_; intro v2 w2 hob hg2; obtain ⟨a2, p2, rfl⟩ := hob.len; have k2 : Keep [] W w2 := (Keep.refl _ _).drew.grown hg2 (by simp [Value.ownBlock]); have hz2 := k2.size; have c4b := (k2.cell (p := ⟨tb, 4, none⟩) htl (by simp)).trans c4; have htl2 : tb < w2.heap.size := (by omega))
    | (obtain ⟨cs, e1, e2, e3, e6, e4⟩ := h2.keepF (w' := w2.alloc (.cells #[.int .u32 (key : Int), .slice a2 ([] ++ val).length p2] 63)) (G' := fun k => W0.heap.size ≤ k ∧ k < (w2.alloc (.cells #[.int .u32 (key : Int), .slice a2 ([] ++ val).length p2] 63)).heap.size) (fun k hk' => (k2.alloc _).block k hk'.2 (by simp)) (fun k hk' => ⟨hk'.1, by simp; have := hk'.2; omega⟩) (fun k e => (k2.alloc _).block k (hu k e).2 (by simp)); refine step_append_lies _ (by rfl) (.tmp 6) (.tmp 11) _ (by rfl) W0.heap.size 63 j0 _ 2 32 Tryd.underlying35 hj hy0 hy1 hy2 rfl (by omega) (.slice ao d.length cp) _ _ (by rfl) e4 ⟨w2.heap.size, 0, none⟩ 1 1 [.int .u32 (key : Int), .slice a2 ([] ++ val).length p2] (by rfl) (by rfl) (World.news_of_block (cs := #[.int .u32 (key : Int), .slice a2 ([] ++ val).length p2]) (heap_alloc_new w2 _)) (by intro y hy; simp at hy; rcases hy with rfl | rfl <;> rfl) (by omega) (by unfold maxLen; omega) (by omega) (by simp; omega) (w2.heap.size + 1) (by simp) ?_; intro g cap w3 hown1 hgr hat hlt3; have x3 := (hgr.block tb (by simp; omega) (fun e => by have := hu tb e.symm; omega)).trans (((k2.alloc (.cells #[.int .u32 (key : Int), .slice a2 ([] ++ val).length p2] 63)).block tb htl List.not_mem_nil).trans H1.out); have z4 := cellOf x3 4 _ rfl; have f4' := freeOf x3 4; have X3 : Hid _ := x3; clear x3))
  all_goals (refine bodyPost_end (v := .tuple #[]) (by simp [results, Tryd.results52, go_sem]) rfl ⟨rfl, ?_⟩)
  all_goals exact TSt.push (x := (key, val)) htb hW h5 H1.out hJ hu (k2.alloc _) e1 e2 e3 (hob.rb.keepF (w' := w2.alloc (.cells #[.int .u32 (key : Int), .slice a2 ([] ++ val).length p2] 63)) (fun k hk' => (keep_box (A := []) _).block k hk'.2 (by simp)) (fun k hk' => ⟨hk'.1, by simp; have := hk'.2; omega⟩)) ⟨hk, by simp only; omega⟩ (by omega) hown1 hgr (hat.imp id (fun h => by simp; omega))

theorem ptr_body : Tryd.f32.body.isNone = false := by kernel_rfl
theorem ptr_name : (Tryd.f32.name == "runtime.NumGoroutine") = false := by kernel_rfl
theorem ptr_make (u : World) : (Instr.makeSlice 34 (.int .i64 5) (.int .i64 5)).run Tryd.prog u = .ok (.slice (some ⟨u.heap.size, 0, none⟩) 5 5) (u.alloc (.cells #[.int .i64 0, .slice none 0 0, .bool false, .slice none 0 0, .slice none 0 0, .int .i64 0, .slice none 0 0, .bool false, .slice none 0 0, .slice none 0 0, .int .i64 0, .slice none 0 0, .bool false, .slice none 0 0, .slice none 0 0, .int .i64 0, .slice none 0 0, .bool false, .slice none 0 0, .slice none 0 0, .int .i64 0, .slice none 0 0, .bool false, .slice none 0 0, .slice none 0 0] 37)) := by kernel_rfl
set_option maxHeartbeats 20000000 in
set_option maxRecDepth 100000 in
theorem ptr_tell {G : Nat → Prop} {b : Nat} {c : List Value} {t : T} {w : World} (hp : Pt w b 1 c) (hv : VK w G 10 (-1) (VFs w G q_PushTelemetryRequest) c t) (hG : There G w) (hs : small 1000000 t) :
    Calls Tryd.prog 32 #[.pointer (some ⟨b, 0, none⟩)] w fun e w' => ∃ c', e = .returned (.agg c'.toArray) ∧ HT w' (fun k => w.heap.size ≤ k ∧ k < w'.heap.size) t c' ∧ Keep [] w w' := by
  obtain ⟨cs, tv, l, tags, rfl, hf, hmp, rfl⟩ : ∃ cs v l u, c = cs ++ [v] ∧ VFs w G q_PushTelemetryRequest cs l ∧ MP w G v u ∧ t = .mk 0 [] false l u := hv
  simp only [small] at hs
  obtain ⟨_, _, ht2, ht1, hsl⟩ := hs
  unfold q_PushTelemetryRequest at hf
  obtain ⟨c0, cr0, t0, l0, rfl, rfl, hf0, hr0⟩ := hf
  have hf := hr0
  obtain ⟨c1, cr1, t1, l1, rfl, rfl, hf1, hr1⟩ := hf
  have hf := hr1
  obtain ⟨c2, cr2, t2, l2, rfl, rfl, hf2, hr2⟩ := hf
  have hf := hr2
  obtain ⟨c3, cr3, t3, l3, rfl, rfl, hf3, hr3⟩ := hf
  have hf := hr3
  obtain ⟨c4, cr4, t4, l4, rfl, rfl, hf4, hr4⟩ := hf
  have hf := hr4
  obtain ⟨rfl, rfl⟩ := hf
  clear hr0
  clear hr1
  clear hr2
  clear hr3
  clear hr4
  have hs0 : small 1000000 t0 := smalls_mem hsl _ (by simp)
  obtain ⟨n0, rl0, rfl, rfl⟩ := vf_uuid_inv hf0
  obtain ⟨u0_0, u0_1, u0_2, u0_3, u0_4, u0_5, u0_6, u0_7, u0_8, u0_9, u0_10, u0_11, u0_12, u0_13, u0_14, u0_15, rfl⟩ := sixteen_of rl0
  have hs1 : small 1000000 t1 := smalls_mem hsl _ (by simp)
  obtain ⟨n1, rfl, rg1, rfl⟩ := vf_i32_inv hf1
  have hs2 : small 1000000 t2 := smalls_mem hsl _ (by simp)
  obtain ⟨n2, rfl, hb2⟩ := vf_bool_inv hf2
  have HB2 : Hid _ := hb2
  clear hb2
  have hs3 : small 1000000 t3 := smalls_mem hsl _ (by simp)
  obtain ⟨n3, rfl, rg3, rfl⟩ := vf_i8_inv hf3
  have hs4 : small 1000000 t4 := smalls_mem hsl _ (by simp)
  obtain ⟨n4, o4, rfl, ps4, rfl⟩ := vf_oct_inv hf4
  clear hf0 hf1 hf2 hf3 hf4 hsl
  simp only [List.cons_append, List.nil_append, List.map_cons, List.map_nil] at hp
  have hpl := hp.lt
  have hmk := ptr_make
  go_enter Tryd.func32, Tryd.ntmps32
  go_upto_region 2 with fail
  clear hmk
  obtain ⟨w0, hw0⟩ : ∃ x, x = (w.alloc (.cells #[.int .i64 0, .slice none 0 0, .bool false, .slice none 0 0, .slice none 0 0] 37)) := ⟨_, rfl⟩
  have hz0 : w0.heap.size = w.heap.size + 1 := by rw [hw0]; simp
  have KW : Keep [] w w0 := by rw [hw0]; exact keep_box _
  have hr0 : w0.heap[w.heap.size]? = some (.cells #[.int .i64 0, .slice none 0 0, .bool false, .slice none 0 0, .slice none 0 0] 37 (0, 0)) := by rw [hw0]; exact heap_alloc_new w _
  have s0 : TlSt w0 (((w.alloc (.cells #[.int .i64 0, .slice none 0 0, .bool false, .slice none 0 0, .slice none 0 0] 37)).alloc (.cells #[.int .i64 0, .slice none 0 0, .bool false, .slice none 0 0, .slice none 0 0, .int .i64 0, .slice none 0 0, .bool false, .slice none 0 0, .slice none 0 0, .int .i64 0, .slice none 0 0, .bool false, .slice none 0 0, .slice none 0 0, .int .i64 0, .slice none 0 0, .bool false, .slice none 0 0, .slice none 0 0, .int .i64 0, .slice none 0 0, .bool false, .slice none 0 0, .slice none 0 0] 37)).alloc (.cells #[.int .i64 0, .slice none 0 0, .bool false, .slice (some ⟨w.heap.size + 1, 0, none⟩) 5 5, .slice none 0 0] 37)) (w.heap.size + 1 + 1) (w.heap.size + 1) 5 [] [.int .i64 0, .slice none 0 0, .bool false, .slice none 0 0, .slice none 0 0, .int .i64 0, .slice none 0 0, .bool false, .slice none 0 0, .slice none 0 0, .int .i64 0, .slice none 0 0, .bool false, .slice none 0 0, .slice none 0 0, .int .i64 0, .slice none 0 0, .bool false, .slice none 0 0, .slice none 0 0, .int .i64 0, .slice none 0 0, .bool false, .slice none 0 0, .slice none 0 0] := by rw [← hw0]; exact TlSt.start hz0
  have hp0 := hp.keep KW (by simp)
  have hG0 : There G w0 := hG.mono KW.size
  clear hw0
  generalize (((w.alloc (.cells #[.int .i64 0, .slice none 0 0, .bool false, .slice none 0 0, .slice none 0 0] 37)).alloc (.cells #[.int .i64 0, .slice none 0 0, .bool false, .slice none 0 0, .slice none 0 0, .int .i64 0, .slice none 0 0, .bool false, .slice none 0 0, .slice none 0 0, .int .i64 0, .slice none 0 0, .bool false, .slice none 0 0, .slice none 0 0, .int .i64 0, .slice none 0 0, .bool false, .slice none 0 0, .slice none 0 0, .int .i64 0, .slice none 0 0, .bool false, .slice none 0 0, .slice none 0 0] 37)).alloc (.cells #[.int .i64 0, .slice none 0 0, .bool false, .slice (some ⟨w.heap.size + 1, 0, none⟩) 5 5, .slice none 0 0] 37)) = U0 at *
  go_upto_region 2 with fail
  go_cut [] (fun wx => TlSt w0 wx (w.heap.size + 1 + 1) (w.heap.size + 1) 5 [(.mk 0 [u0_0, u0_1, u0_2, u0_3, u0_4, u0_5, u0_6, u0_7, u0_8, u0_9, u0_10, u0_11, u0_12, u0_13, u0_14, u0_15] false [] [])] [.int .i64 0, .slice none 0 0, .bool false, .slice none 0 0, .slice none 0 0, .int .i64 0, .slice none 0 0, .bool false, .slice none 0 0, .slice none 0 0, .int .i64 0, .slice none 0 0, .bool false, .slice none 0 0, .slice none 0 0, .int .i64 0, .slice none 0 0, .bool false, .slice none 0 0, .slice none 0 0])
  case first =>
    have d3 := s0.d3
    obtain ⟨lt1, lt2⟩ := s0.lts
    obtain ⟨e0, g0⟩ := s0.at_ (o := 0) (j := 0) rfl rfl
    obtain ⟨e1, g1⟩ := s0.at_ (o := 1) (j := 1) rfl rfl
    obtain ⟨e2, g2⟩ := s0.at_ (o := 2) (j := 2) rfl rfl
    obtain ⟨e3, g3⟩ := s0.at_ (o := 3) (j := 3) rfl rfl
    obtain ⟨e4, g4⟩ := s0.at_ (o := 4) (j := 4) rfl rfl
    have RU := Pt.rb (hp0.keep s0.keep (by simp)) (o := 1) (j := 0) (x := [u0_0, u0_1, u0_2, u0_3, u0_4, u0_5, u0_6, u0_7, u0_8, u0_9, u0_10, u0_11, u0_12, u0_13, u0_14, u0_15]) rfl rfl (by simp)
    go_region_law (refine app_step (by rfl) (.const (.slice none 0 0)) (.tmp 11) (by rfl) U0.heap.size (.slice none 0 0) [] (by rfl) (OB.nil _ _) _ [u0_0, u0_1, u0_2, u0_3, u0_4, u0_5, u0_6, u0_7, u0_8, u0_9, u0_10, u0_11, u0_12, u0_13, u0_14, u0_15] (fun k => k = b) (by rfl) (by exact RU) (by simp) (by exact Nat.le_refl _) ?_; intro vI wtI hobI hgI; obtain ⟨atI, ptI, rfl⟩ := hobI.len; have kxI : Keep [] U0 wtI := (by first | exact ((Keep.refl _ _).drew).grown hgI (by simp [Value.ownBlock]) | exact ((Keep.refl _ _).drew.drew).grown hgI (by simp [Value.ownBlock]) | exact ((Keep.refl _ _).drew.drew.drew).grown hgI (by simp [Value.ownBlock]) | exact ((Keep.refl _ _).drew.drew.drew.drew).grown hgI (by simp [Value.ownBlock])); have st := s0.calm kxI; have d3 := st.d3; obtain ⟨e0, g0⟩ := st.at_ (o := 0) (j := 0) rfl rfl; obtain ⟨e1, g1⟩ := st.at_ (o := 1) (j := 1) rfl rfl; obtain ⟨e2, g2⟩ := st.at_ (o := 2) (j := 2) rfl rfl; obtain ⟨e3, g3⟩ := st.at_ (o := 3) (j := 3) rfl rfl; obtain ⟨e4, g4⟩ := st.at_ (o := 4) (j := 4) rfl rfl;)
    all_goals (try go_wp2_with fail)
    all_goals go_meet
    all_goals (have Q := st.put (o0 := 0) (o1 := 1) (o2 := 2) (o3 := 3) (o4 := 4) rfl rfl rfl rfl rfl (HT.of 0 [u0_0, u0_1, u0_2, u0_3, u0_4, u0_5, u0_6, u0_7, u0_8, u0_9, u0_10, u0_11, u0_12, u0_13, u0_14, u0_15] false [] [] (hobI.rb.keepF (fun _ _ => rfl) (s0.ntNew (W := wtI))) (HTs.nil _ _) (HGs.nil _ _) (by decide) (by decide) (by simp) (by decide)); exact (by first | exact Q | exact Q.drew | exact Q.drew.drew | exact Q.drew.drew.drew | exact Q.drew.drew.drew.drew))
  case rest =>
    have s1 := hcut
    clear hcut s0
    obtain ⟨U1, rfl⟩ : ∃ x : World, x = wc := ⟨_, rfl⟩
    go_upto_region 3 with fail
    go_cut [] (fun wx => TlSt w0 wx (w.heap.size + 1 + 1) (w.heap.size + 1) 5 [(.mk 0 [u0_0, u0_1, u0_2, u0_3, u0_4, u0_5, u0_6, u0_7, u0_8, u0_9, u0_10, u0_11, u0_12, u0_13, u0_14, u0_15] false [] []), (.mk n1 [] false [] [])] [.int .i64 0, .slice none 0 0, .bool false, .slice none 0 0, .slice none 0 0, .int .i64 0, .slice none 0 0, .bool false, .slice none 0 0, .slice none 0 0, .int .i64 0, .slice none 0 0, .bool false, .slice none 0 0, .slice none 0 0])
    case first =>
      have d3 := s1.d3
      obtain ⟨lt1, lt2⟩ := s1.lts
      obtain ⟨e0, g0⟩ := s1.at_ (o := 5) (j := 0) rfl rfl
      obtain ⟨e1, g1⟩ := s1.at_ (o := 6) (j := 1) rfl rfl
      obtain ⟨e2, g2⟩ := s1.at_ (o := 7) (j := 2) rfl rfl
      obtain ⟨e3, g3⟩ := s1.at_ (o := 8) (j := 3) rfl rfl
      obtain ⟨e4, g4⟩ := s1.at_ (o := 9) (j := 4) rfl rfl
      have cf := (hp0.keep s1.keep (by simp)).cell (o := 17) (j := 16) rfl rfl
      go_region
      all_goals (try go_wp2_with fail)
      all_goals go_meet
      all_goals (have Q := s1.put (o0 := 5) (o1 := 6) (o2 := 7) (o3 := 8) (o4 := 9) rfl rfl rfl rfl rfl (HT.of n1 [] false [] [] (RB.nil _ _) (HTs.nil _ _) (HGs.nil _ _) (by omega) (by omega) (by decide) (by decide)); exact (by first | exact Q | exact Q.drew | exact Q.drew.drew | exact Q.drew.drew.drew | exact Q.drew.drew.drew.drew))
    case rest =>
      have s2 := hcut
      clear hcut s1
      obtain ⟨U2, rfl⟩ : ∃ x : World, x = wc := ⟨_, rfl⟩
      go_upto_region 4 with fail
      go_cut [] (fun wx => TlSt w0 wx (w.heap.size + 1 + 1) (w.heap.size + 1) 5 [(.mk 0 [u0_0, u0_1, u0_2, u0_3, u0_4, u0_5, u0_6, u0_7, u0_8, u0_9, u0_10, u0_11, u0_12, u0_13, u0_14, u0_15] false [] []), (.mk n1 [] false [] []), (t2)] [.int .i64 0, .slice none 0 0, .bool false, .slice none 0 0, .slice none 0 0, .int .i64 0, .slice none 0 0, .bool false, .slice none 0 0, .slice none 0 0])
      case first =>
        have d3 := s2.d3
        obtain ⟨lt1, lt2⟩ := s2.lts
        obtain ⟨e0, g0⟩ := s2.at_ (o := 10) (j := 0) rfl rfl
        obtain ⟨e1, g1⟩ := s2.at_ (o := 11) (j := 1) rfl rfl
        obtain ⟨e2, g2⟩ := s2.at_ (o := 12) (j := 2) rfl rfl
        obtain ⟨e3, g3⟩ := s2.at_ (o := 13) (j := 3) rfl rfl
        obtain ⟨e4, g4⟩ := s2.at_ (o := 14) (j := 4) rfl rfl
        have cf := (hp0.keep s2.keep (by simp)).cell (o := 18) (j := 17) rfl rfl
        go_region_law (refine step_call (by rfl) 50 #[.tmp 29] #[4] (by rfl) #[.bool n2] (by simp [go_sem]) _ (by rfl) btree_body btree_name (btree_any n2 _) ?_; rintro e wt ⟨cc, rfl, hct, kt⟩; rw [← HB2.out] at hct; refine ⟨_, rfl, ?_⟩; obtain ⟨at_, pt, bt, qt, ct, rt, rfl, _⟩ := id hct.cells; have kx : Keep [] U2 wt := (by first | exact (Keep.refl _ _).drew.trans kt | exact (Keep.refl _ _).drew.drew.trans kt | exact (Keep.refl _ _).drew.drew.drew.trans kt | exact (Keep.refl _ _).drew.drew.drew.drew.trans kt | exact (Keep.refl _ _).drew.drew.drew.drew.drew.trans kt | exact (Keep.refl _ _).drew.drew.drew.drew.drew.drew.trans kt); have st := s2.calm kx; have d3 := st.d3; obtain ⟨e0, g0⟩ := st.at_ (o := 10) (j := 0) rfl rfl; obtain ⟨e1, g1⟩ := st.at_ (o := 11) (j := 1) rfl rfl; obtain ⟨e2, g2⟩ := st.at_ (o := 12) (j := 2) rfl rfl; obtain ⟨e3, g3⟩ := st.at_ (o := 13) (j := 3) rfl rfl; obtain ⟨e4, g4⟩ := st.at_ (o := 14) (j := 4) rfl rfl;)
        all_goals (try go_wp2_with fail)
        all_goals go_meet
        all_goals (have Q := st.put (o0 := 10) (o1 := 11) (o2 := 12) (o3 := 13) (o4 := 14) rfl rfl rfl rfl rfl (hct.keepF (fun _ _ => rfl) (s2.ntNew (W := wt))); exact (by first | exact Q | exact Q.drew | exact Q.drew.drew | exact Q.drew.drew.drew | exact Q.drew.drew.drew.drew))
      case rest =>
        have s3 := hcut
        clear hcut s2
        obtain ⟨U3, rfl⟩ : ∃ x : World, x = wc := ⟨_, rfl⟩
        go_upto_region 5 with fail
        go_cut [] (fun wx => TlSt w0 wx (w.heap.size + 1 + 1) (w.heap.size + 1) 5 [(.mk 0 [u0_0, u0_1, u0_2, u0_3, u0_4, u0_5, u0_6, u0_7, u0_8, u0_9, u0_10, u0_11, u0_12, u0_13, u0_14, u0_15] false [] []), (.mk n1 [] false [] []), (t2), (.mk n3 [] false [] [])] [.int .i64 0, .slice none 0 0, .bool false, .slice none 0 0, .slice none 0 0])
        case first =>
          have d3 := s3.d3
          obtain ⟨lt1, lt2⟩ := s3.lts
          obtain ⟨e0, g0⟩ := s3.at_ (o := 15) (j := 0) rfl rfl
          obtain ⟨e1, g1⟩ := s3.at_ (o := 16) (j := 1) rfl rfl
          obtain ⟨e2, g2⟩ := s3.at_ (o := 17) (j := 2) rfl rfl
          obtain ⟨e3, g3⟩ := s3.at_ (o := 18) (j := 3) rfl rfl
          obtain ⟨e4, g4⟩ := s3.at_ (o := 19) (j := 4) rfl rfl
          have cf := (hp0.keep s3.keep (by simp)).cell (o := 19) (j := 18) rfl rfl
          go_region
          all_goals (try go_wp2_with fail)
          all_goals go_meet
          all_goals (have Q := s3.put (o0 := 15) (o1 := 16) (o2 := 17) (o3 := 18) (o4 := 19) rfl rfl rfl rfl rfl (HT.of n3 [] false [] [] (RB.nil _ _) (HTs.nil _ _) (HGs.nil _ _) (by omega) (by omega) (by decide) (by decide)); exact (by first | exact Q | exact Q.drew | exact Q.drew.drew | exact Q.drew.drew.drew | exact Q.drew.drew.drew.drew))
        case rest =>
          have s4 := hcut
          clear hcut s3
          obtain ⟨U4, rfl⟩ : ∃ x : World, x = wc := ⟨_, rfl⟩
          go_upto_region 6 with fail
          go_cut [] (fun wx => TlSt w0 wx (w.heap.size + 1 + 1) (w.heap.size + 1) 5 [(.mk 0 [u0_0, u0_1, u0_2, u0_3, u0_4, u0_5, u0_6, u0_7, u0_8, u0_9, u0_10, u0_11, u0_12, u0_13, u0_14, u0_15] false [] []), (.mk n1 [] false [] []), (t2), (.mk n3 [] false [] []), (octT o4)] [])
          case first =>
            have d3 := s4.d3
            obtain ⟨lt1, lt2⟩ := s4.lts
            obtain ⟨e0, g0⟩ := s4.at_ (o := 20) (j := 0) rfl rfl
            obtain ⟨e1, g1⟩ := s4.at_ (o := 21) (j := 1) rfl rfl
            obtain ⟨e2, g2⟩ := s4.at_ (o := 22) (j := 2) rfl rfl
            obtain ⟨e3, g3⟩ := s4.at_ (o := 23) (j := 3) rfl rfl
            obtain ⟨e4, g4⟩ := s4.at_ (o := 24) (j := 4) rfl rfl
            have cf := (hp0.keep s4.keep (by simp)).cell (o := 20) (j := 19) rfl rfl
            have TX := fun U (hU : Keep [] U4 U) => oct_any (ps4.keepF (hG.same ((KW.trans s4.keep).trans hU)) (fun _ h => h)) (hG.mono ((KW.trans s4.keep).trans hU).size) (small_oct hs4)
            go_region_law (refine step_call (by rfl) 51 #[.tmp 46] #[22] (by rfl) #[n4] (by simp [go_sem]) _ (by rfl) oct_body oct_name (TX _ (by first | exact (Keep.refl _ _).drew | exact (Keep.refl _ _).drew.drew | exact (Keep.refl _ _).drew.drew.drew | exact (Keep.refl _ _).drew.drew.drew.drew | exact (Keep.refl _ _).drew.drew.drew.drew.drew | exact (Keep.refl _ _).drew.drew.drew.drew.drew.drew)) ?_; rintro e wt ⟨cc, rfl, hct, kt⟩; refine ⟨_, rfl, ?_⟩; obtain ⟨at_, pt, bt, qt, ct, rt, rfl, _⟩ := id hct.cells; have kx : Keep [] U4 wt := (by first | exact (Keep.refl _ _).drew.trans kt | exact (Keep.refl _ _).drew.drew.trans kt | exact (Keep.refl _ _).drew.drew.drew.trans kt | exact (Keep.refl _ _).drew.drew.drew.drew.trans kt | exact (Keep.refl _ _).drew.drew.drew.drew.drew.trans kt | exact (Keep.refl _ _).drew.drew.drew.drew.drew.drew.trans kt); have st := s4.calm kx; have d3 := st.d3; obtain ⟨e0, g0⟩ := st.at_ (o := 20) (j := 0) rfl rfl; obtain ⟨e1, g1⟩ := st.at_ (o := 21) (j := 1) rfl rfl; obtain ⟨e2, g2⟩ := st.at_ (o := 22) (j := 2) rfl rfl; obtain ⟨e3, g3⟩ := st.at_ (o := 23) (j := 3) rfl rfl; obtain ⟨e4, g4⟩ := st.at_ (o := 24) (j := 4) rfl rfl;)
            all_goals (try go_wp2_with fail)
            all_goals go_meet
            all_goals (have Q := st.put (o0 := 20) (o1 := 21) (o2 := 22) (o3 := 23) (o4 := 24) rfl rfl rfl rfl rfl (hct.keepF (fun _ _ => rfl) (s4.ntNew (W := wt))); exact (by first | exact Q | exact Q.drew | exact Q.drew.drew | exact Q.drew.drew.drew | exact Q.drew.drew.drew.drew))
          case rest =>
            have s5 := hcut
            clear hcut s4
            obtain ⟨U5, rfl⟩ : ∃ x : World, x = wc := ⟨_, rfl⟩
            obtain ⟨arr, ty, hb1, hb2⟩ := (hp0.keep s5.keep (by simp)).whole (o := 21) (j := 20) rfl rfl
            have KU := KW.trans s5.keep
            have hmn : MP U5 G tv tags := hmp.keepF (hG.same KU) (fun _ h => h)
            have EACH := tell_each (i := 21) (fn := 52) s5.tree hb1 hb2 hmn (hG.mono KU.size) (by omega) (fun h => by have := hG _ h; omega) ht1 ht2 (enters_of Tryd.func52 (by kernel_rfl) rfl) (fun h hx hk hv hd => ptr_tag h hx hk hv hd (World.heap_lt s5.tree))
            have hris := hmp.rising
            have zE : w.heap.size + 1 + 1 + 1 ≤ U5.heap.size := World.heap_lt s5.tree
            have HR0 : Hid _ := hr0
            clear hb1 hb2 hmn hr0
            go_wp2_with (first
              | (go_at_call 42; go_loud (refine EACH.mono ?_; rintro e We ⟨rfl, u, q2, hog, ke⟩; obtain ⟨_, _, _, _, _, hrow⟩ := id hog; obtain ⟨au, pu, rfl⟩ := owns_shape hrow; have hze := ke.size; have q4 : We.cell? ⟨w.heap.size + 1 + 1, 4, none⟩ = some (.slice au tags.length pu) := cellOf q2 4 _ rfl; have hgs : HGs We (fun k => w.heap.size ≤ k ∧ k < We.heap.size) (.slice au tags.length pu) tags := hog.hgs (fun k hk => ⟨by omega, hk.2⟩) (fun k h1 h2 => ⟨by omega, h2⟩); have SO := sorted_any hgs (fun k hk => hk.2) hris.1; have Q2 : Hid _ := q2; clear q2))
              | (go_at_call 44; go_loud (refine SO.mono ?_; rintro e Ws ⟨rfl, ks⟩; have hzs := ks.size; have g2 := (ks.block (w.heap.size + 1 + 1) (World.heap_lt Q2.out) (by simp)).trans Q2.out; have g0 := (ks.block (w.heap.size) (by omega) (by simp)).trans ((ke.block (w.heap.size) (by omega) (by simp; omega)).trans ((s5.keep.block (w.heap.size) (by omega) (by simp)).trans HR0.out)); have a0 : Ws.cell? ⟨w.heap.size + 1 + 1, 0, none⟩ = some (.int .i64 0) := cellOf g2 0 _ rfl; have a1 : Ws.cell? ⟨w.heap.size + 1 + 1, 1, none⟩ = some (.slice none 0 0) := cellOf g2 1 _ rfl; have a2 : Ws.cell? ⟨w.heap.size + 1 + 1, 2, none⟩ = some (.bool false) := cellOf g2 2 _ rfl; have a3 : Ws.cell? ⟨w.heap.size + 1 + 1, 3, none⟩ = some (.slice (some ⟨w.heap.size + 1, 0, none⟩) 5 5) := cellOf g2 3 _ rfl; have a4 : Ws.cell? ⟨w.heap.size + 1 + 1, 4, none⟩ = some (.slice au tags.length pu) := cellOf g2 4 _ rfl;  have p0 : Ws.cell? ⟨w.heap.size, 0, none⟩ = some (.int .i64 0) := cellOf g0 0 _ rfl; have pf0 := freeOf g0 0; have p1 : Ws.cell? ⟨w.heap.size, 1, none⟩ = some (.slice none 0 0) := cellOf g0 1 _ rfl; have pf1 := freeOf g0 1; have p2 : Ws.cell? ⟨w.heap.size, 2, none⟩ = some (.bool false) := cellOf g0 2 _ rfl; have pf2 := freeOf g0 2; have p3 : Ws.cell? ⟨w.heap.size, 3, none⟩ = some (.slice none 0 0) := cellOf g0 3 _ rfl; have pf3 := freeOf g0 3; have p4 : Ws.cell? ⟨w.heap.size, 4, none⟩ = some (.slice none 0 0) := cellOf g0 4 _ rfl; have pf4 := freeOf g0 4;  have G0 : Hid _ := g0; clear g0 g2 q4)))
            have hr : (((((Ws.setCell ⟨w.heap.size, 0, none⟩ (.int .i64 0)).setCell ⟨w.heap.size, 1, none⟩ (.slice none 0 0)).setCell ⟨w.heap.size, 2, none⟩ (.bool false)).setCell ⟨w.heap.size, 3, none⟩ (.slice (some ⟨w.heap.size + 1, 0, none⟩) 5 5)).setCell ⟨w.heap.size, 4, none⟩ (.slice au tags.length pu)).heap[w.heap.size]? = some (.cells #[.int .i64 0, .slice none 0 0, .bool false, .slice (some ⟨w.heap.size + 1, 0, none⟩) 5 5, .slice au tags.length pu] 37 (0, 0)) := (set5 (o := 0) G0.out).1
            have kr : Keep [w.heap.size] Ws (((((Ws.setCell ⟨w.heap.size, 0, none⟩ (.int .i64 0)).setCell ⟨w.heap.size, 1, none⟩ (.slice none 0 0)).setCell ⟨w.heap.size, 2, none⟩ (.bool false)).setCell ⟨w.heap.size, 3, none⟩ (.slice (some ⟨w.heap.size + 1, 0, none⟩) 5 5)).setCell ⟨w.heap.size, 4, none⟩ (.slice au tags.length pu)) := (set5 (o := 0) G0.out).2
            clear a0 a1 a2 a3 a4 p0 p1 p2 p3 p4 pf0 pf1 pf2 pf3 pf4
            generalize (((((Ws.setCell ⟨w.heap.size, 0, none⟩ (.int .i64 0)).setCell ⟨w.heap.size, 1, none⟩ (.slice none 0 0)).setCell ⟨w.heap.size, 2, none⟩ (.bool false)).setCell ⟨w.heap.size, 3, none⟩ (.slice (some ⟨w.heap.size + 1, 0, none⟩) 5 5)).setCell ⟨w.heap.size, 4, none⟩ (.slice au tags.length pu)) = Wr at *
            have r0 : Wr.cell? ⟨w.heap.size, 0, none⟩ = some (.int .i64 0) := cellOf hr 0 _ rfl
            have r1 : Wr.cell? ⟨w.heap.size, 1, none⟩ = some (.slice none 0 0) := cellOf hr 1 _ rfl
            have r2 : Wr.cell? ⟨w.heap.size, 2, none⟩ = some (.bool false) := cellOf hr 2 _ rfl
            have r3 : Wr.cell? ⟨w.heap.size, 3, none⟩ = some (.slice (some ⟨w.heap.size + 1, 0, none⟩) 5 5) := cellOf hr 3 _ rfl
            have r4 : Wr.cell? ⟨w.heap.size, 4, none⟩ = some (.slice au tags.length pu) := cellOf hr 4 _ rfl
            have hzr := kr.size
            obtain ⟨css, c1, c2, c3⟩ := s5.row
            have hlb := World.heap_lt c3
            have kA : ∀ k, k < U5.heap.size → k ≠ w.heap.size + 1 + 1 → w.heap.size < k → Wr.heap[k]? = U5.heap[k]? := fun k h1 h2 h3 => (kr.block k (by omega) (by simp; omega)).trans ((ks.block k (by omega) (by simp)).trans (ke.block k h1 (by simp; omega)))
            have hA := (kA (w.heap.size + 1) hlb (by omega) (by omega)).trans c3
            have hgr : HGs Wr (fun k => w.heap.size ≤ k ∧ k < Wr.heap.size) (.slice au tags.length pu) tags := by
              have h1 := hog.hgs (G' := fun k => w.heap.size + 1 + 1 < k ∧ k < We.heap.size) (fun k hk => ⟨by omega, hk.2⟩) (fun k h1 h2 => ⟨by omega, h2⟩)
              exact h1.keepF (fun k hk => (kr.block k (by omega) (by simp; omega)).trans (ks.block k hk.2 (by simp))) (fun k hk => ⟨by omega, by omega⟩)
            have KR : Keep [] w Wr := Keep.fresh (B := []) ((KU.weaken (B := [w.heap.size, w.heap.size + 1 + 1]) (by simp)).trans ((ke.weaken (by simp)).trans ((ks.weaken (by simp)).trans (kr.weaken (by simp))))) (by simp; omega)
            refine bodyPost_ret (v := .agg #[.int .i64 0, .slice none 0 0, .bool false, .slice (some ⟨w.heap.size + 1, 0, none⟩) 5 5, .slice au tags.length pu]) (by simp [results, Tryd.results32, go_sem, r0, r1, r2, r3, r4]) rfl ⟨[.int .i64 0, .slice none 0 0, .bool false, .slice (some ⟨w.heap.size + 1, 0, none⟩) 5 5, .slice au tags.length pu], rfl, ?_, KR⟩
            have hlt := World.heap_lt hA
            refine HT.of 0 [] false _ tags (RB.nil _ _) ?_ hgr (by decide) (by decide) (by decide) (by simp)
            exact HTs.block (w := Wr) (cs := css) hA (by simp) ⟨by omega, hlt⟩ rfl c1 (fun i a c => (c2 i a c).keepF (fun k hk => kA k hk.2.1 hk.2.2.1 (by have := hk.1; omega)) (fun k hk => ⟨by have := hk.1; omega, by have := hk.2.1; omega⟩)) (by simp)
end Go.Proofs.YtdklogmmfnddiaaDoor
