/-
  DescribeDelegationTokenResponse: telling.
-/
import Derived.Test.YtdklogmmfnddiaaGreatDoorMDdt10
import Derived.Test.YtdklogmmfnddiaaGreatDoorMB18
import Derived.Test.YtdklogmmfnddiaaGreatDoorMB15
import Derived.Test.YtdklogmmfnddiaaGreatDoorMDdt1
import Derived.Deep.CutBlock
import Derived.Deep.DeepCutAuto
namespace Go.Proofs.YtdklogmmfnddiaaGreatDoor
open Go.ChangeShapes Go.WideShapes Go.ChangeAt Go.RowKit

set_option maxHeartbeats 800000 in
set_option maxRecDepth 100000 in
theorem ddtb_tag {W0 W : World} {tb : Nat} {n s nul l x : Value} {d : List Tg} {J : Nat → Prop} {key : Nat} {val : Bs} {G : Nat → Prop} (h : TSt W0 tb n s nul l d J W) (hx : RB W G x val) (hk : key < 4294967296) (hval : val.length ≤ 1000000) (hd : d.length ≤ 1000000000000) (htb : tb < W0.heap.size) :
    Calls Tryz.prog 106 #[.int .u32 (key : Int), x, .pointer (some ⟨tb, 0, none⟩)] W fun e W' => e = .returned (.tuple #[]) ∧ ∃ J', TSt W0 tb n s nul l (d ++ [(key, val)]) J' W' ∧ (∀ j, J' j → J j ∨ W.heap.size ≤ j) ∧ Chg J W W' := by
  obtain ⟨u, h1, h2, hJ, hW, h5⟩ := h
  obtain ⟨ax, cx, rfl⟩ := RS.shape hx
  have h2' := h2
  obtain ⟨vs0, _, _, _, _, hr0⟩ := h2'
  have hu : ∀ k, u.ownBlock = some k → W0.heap.size ≤ k ∧ k < W.heap.size := fun k e => hr0.lt k e
  have c4 : W.cell? ⟨tb, 4, none⟩ = some u := cellOf h1 4 _ rfl
  have f4 := freeOf h1 4
  have htl : tb < W.heap.size := by omega
  obtain ⟨j0, hj, hy0, hy1, hy2⟩ := info_agg info_ig zero_ig
  have H1 : Hid _ := h1
  have hxd : RB W.drew G (.slice ax val.length cx) val := hx
  obtain ⟨ao, cp, rfl⟩ := owns_shape hr0
  clear h1 hr0
  go_enter Tryz.func106, Tryz.ntmps106
  go_region_law (first
    | (refine app_step (by rfl) (.const (.slice none 0 0)) (.tmp 8) (by rfl) W.heap.size (.slice none 0 0) [] (by rfl) (OB.nil _ _) _ val G (by rfl) hxd (by simp; omega) (Nat.le_refl _) ?_; intro v2 w2 hob hg2; obtain ⟨a2, p2, rfl⟩ := hob.len; have k2 : Keep [] W w2 := (Keep.refl _ _).drew.grown hg2 (by simp [Value.ownBlock]); have hz2 := k2.size; have c4b := (k2.cell (p := ⟨tb, 4, none⟩) htl (by simp)).trans c4; have htl2 : tb < w2.heap.size := (by omega))
    | (obtain ⟨cs, e1, e2, e3, e6, e4⟩ := h2.keepF (w' := w2.alloc (.cells #[.int .u32 (key : Int), .slice a2 ([] ++ val).length p2] 69)) (G' := fun k => W0.heap.size ≤ k ∧ k < (w2.alloc (.cells #[.int .u32 (key : Int), .slice a2 ([] ++ val).length p2] 69)).heap.size) (fun k hk' => (k2.alloc _).block k hk'.2 (by simp)) (fun k hk' => ⟨hk'.1, by simp; have := hk'.2; omega⟩) (fun k e => (k2.alloc _).block k (hu k e).2 (by simp)); refine step_append_lies _ (by rfl) (.tmp 6) (.tmp 11) _ (by rfl) W0.heap.size 69 j0 _ 2 32 Tryz.underlying35 hj hy0 hy1 hy2 rfl (by omega) (.slice ao d.length cp) _ _ (by rfl) e4 ⟨w2.heap.size, 0, none⟩ 1 1 [.int .u32 (key : Int), .slice a2 ([] ++ val).length p2] (by rfl) (by rfl) (World.news_of_block (cs := #[.int .u32 (key : Int), .slice a2 ([] ++ val).length p2]) (heap_alloc_new w2 _)) (by intro y hy; simp at hy; rcases hy with rfl | rfl <;> rfl) (by omega) (by unfold maxLen; omega) (by omega) (by simp; omega) (w2.heap.size + 1) (by simp) ?_; intro g cap w3 hown1 hgr hat hlt3; have x3 := (hgr.block tb (by simp; omega) (fun e => by have := hu tb e.symm; omega)).trans (((k2.alloc (.cells #[.int .u32 (key : Int), .slice a2 ([] ++ val).length p2] 69)).block tb htl List.not_mem_nil).trans H1.out); have z4 := cellOf x3 4 _ rfl; have f4' := freeOf x3 4; have X3 : Hid _ := x3; clear x3))
  all_goals (refine bodyPost_end (v := .tuple #[]) (by simp [results, Tryz.results106, go_sem]) rfl ⟨rfl, ?_⟩)
  all_goals exact TSt.push (x := (key, val)) htb hW h5 H1.out hJ hu (k2.alloc _) e1 e2 e3 (hob.rb.keepF (w' := w2.alloc (.cells #[.int .u32 (key : Int), .slice a2 ([] ++ val).length p2] 69)) (fun k hk' => (keep_box (A := []) _).block k hk'.2 (by simp)) (fun k hk' => ⟨hk'.1, by simp; have := hk'.2; omega⟩)) ⟨hk, by simp only; omega⟩ (by omega) hown1 hgr (hat.imp id (fun h => by simp; omega))

theorem ddtb_body : Tryz.f74.body.isNone = false := by kernel_rfl
theorem ddtb_name : (Tryz.f74.name == "runtime.NumGoroutine") = false := by kernel_rfl
theorem ddtb_make (u : World) : (Instr.makeSlice 34 (.int .i64 10) (.int .i64 10)).run Tryz.prog u = .ok (.slice (some ⟨u.heap.size, 0, none⟩) 10 10) (u.alloc (.cells #[.int .i64 0, .slice none 0 0, .bool false, .slice none 0 0, .slice none 0 0, .int .i64 0, .slice none 0 0, .bool false, .slice none 0 0, .slice none 0 0, .int .i64 0, .slice none 0 0, .bool false, .slice none 0 0, .slice none 0 0, .int .i64 0, .slice none 0 0, .bool false, .slice none 0 0, .slice none 0 0, .int .i64 0, .slice none 0 0, .bool false, .slice none 0 0, .slice none 0 0, .int .i64 0, .slice none 0 0, .bool false, .slice none 0 0, .slice none 0 0, .int .i64 0, .slice none 0 0, .bool false, .slice none 0 0, .slice none 0 0, .int .i64 0, .slice none 0 0, .bool false, .slice none 0 0, .slice none 0 0, .int .i64 0, .slice none 0 0, .bool false, .slice none 0 0, .slice none 0 0, .int .i64 0, .slice none 0 0, .bool false, .slice none 0 0, .slice none 0 0] 37)) := by kernel_rfl
set_option maxHeartbeats 20000000 in
set_option maxRecDepth 100000 in
theorem ddtb_tell {G : Nat → Prop} {b o : Nat} {c : List Value} {t : T} {w : World} (hp : Pt w b o c) (hv : VK w G 10 (-1) (VFs w G q_DescribeDelegationTokenResponseTokenDetail) c t) (hG : There G w) (hs : small 1000000 t) :
    Calls Tryz.prog 74 #[.pointer (some ⟨b, o, none⟩)] w fun e w' => ∃ c', e = .returned (.agg c'.toArray) ∧ HT w' (fun k => w.heap.size ≤ k ∧ k < w'.heap.size) t c' ∧ Keep [] w w' := by
  obtain ⟨cs, tv, l, tags, rfl, hf, hmp, rfl⟩ : ∃ cs v l u, c = cs ++ [v] ∧ VFs w G q_DescribeDelegationTokenResponseTokenDetail cs l ∧ MP w G v u ∧ t = .mk 0 [] false l u := hv
  simp only [small] at hs
  obtain ⟨_, _, ht2, ht1, hsl⟩ := hs
  unfold q_DescribeDelegationTokenResponseTokenDetail at hf
  obtain ⟨c0, cr0, t0, l0, rfl, rfl, hf0, hr0⟩ := hf
  have hf := hr0
  obtain ⟨c1, cr1, t1, l1, rfl, rfl, hf1, hr1⟩ := hf
  have hf := hr1
  obtain ⟨c2, cr2, t2, l2, rfl, rfl, hf2, hr2⟩ := hf
  have hf := hr2
  obtain ⟨c3, cr3, t3, l3, rfl, rfl, hf3, hr3⟩ := hf
  have hf := hr3
  obtain ⟨c4, cr4, t4, l4, rfl, rfl, hf4, hr4⟩ := hf
  have hf := hr4
  obtain ⟨c5, cr5, t5, l5, rfl, rfl, hf5, hr5⟩ := hf
  have hf := hr5
  obtain ⟨c6, cr6, t6, l6, rfl, rfl, hf6, hr6⟩ := hf
  have hf := hr6
  obtain ⟨c7, cr7, t7, l7, rfl, rfl, hf7, hr7⟩ := hf
  have hf := hr7
  obtain ⟨c8, cr8, t8, l8, rfl, rfl, hf8, hr8⟩ := hf
  have hf := hr8
  obtain ⟨c9, cr9, t9, l9, rfl, rfl, hf9, hr9⟩ := hf
  have hf := hr9
  obtain ⟨rfl, rfl⟩ := hf
  clear hr0
  clear hr1
  clear hr2
  clear hr3
  clear hr4
  clear hr5
  clear hr6
  clear hr7
  clear hr8
  clear hr9
  have hs0 : small 1000000 t0 := smalls_mem hsl _ (by simp)
  obtain ⟨n0, rfl, rfl⟩ := vf_str_inv (by decide) hf0
  have hs1 : small 1000000 t1 := smalls_mem hsl _ (by simp)
  obtain ⟨n1, rfl, rfl⟩ := vf_str_inv (by decide) hf1
  have hs2 : small 1000000 t2 := smalls_mem hsl _ (by simp)
  obtain ⟨n2, rfl, rfl⟩ := vf_str_inv (by decide) hf2
  have hs3 : small 1000000 t3 := smalls_mem hsl _ (by simp)
  obtain ⟨n3, rfl, rfl⟩ := vf_str_inv (by decide) hf3
  have hs4 : small 1000000 t4 := smalls_mem hsl _ (by simp)
  obtain ⟨n4, rfl, rg4, rfl⟩ := vf_i64_inv hf4
  have hs5 : small 1000000 t5 := smalls_mem hsl _ (by simp)
  obtain ⟨n5, rfl, rg5, rfl⟩ := vf_i64_inv hf5
  have hs6 : small 1000000 t6 := smalls_mem hsl _ (by simp)
  obtain ⟨n6, rfl, rg6, rfl⟩ := vf_i64_inv hf6
  have hs7 : small 1000000 t7 := smalls_mem hsl _ (by simp)
  obtain ⟨n7, rfl, rfl⟩ := vf_str_inv (by decide) hf7
  have hs8 : small 1000000 t8 := smalls_mem hsl _ (by simp)
  obtain ⟨n8, o8, rfl, ps8, rfl⟩ := vf_oct_inv hf8
  have hs9 : small 1000000 t9 := smalls_mem hsl _ (by simp)
  obtain ⟨n9, rfl, vl9⟩ := vf_list_inv hf9
  clear hf0 hf1 hf2 hf3 hf4 hf5 hf6 hf7 hf8 hf9 hsl
  simp only [List.cons_append, List.nil_append] at hp
  have hpl := hp.lt
  have hmk := ddtb_make
  go_enter Tryz.func74, Tryz.ntmps74
  go_upto_region 2 with fail
  clear hmk
  obtain ⟨w0, hw0⟩ : ∃ x, x = (w.alloc (.cells #[.int .i64 0, .slice none 0 0, .bool false, .slice none 0 0, .slice none 0 0] 37)) := ⟨_, rfl⟩
  have hz0 : w0.heap.size = w.heap.size + 1 := by rw [hw0]; simp
  have KW : Keep [] w w0 := by rw [hw0]; exact keep_box _
  have hr0 : w0.heap[w.heap.size]? = some (.cells #[.int .i64 0, .slice none 0 0, .bool false, .slice none 0 0, .slice none 0 0] 37 (0, 0)) := by rw [hw0]; exact heap_alloc_new w _
  have s0 : TlSt w0 (((w.alloc (.cells #[.int .i64 0, .slice none 0 0, .bool false, .slice none 0 0, .slice none 0 0] 37)).alloc (.cells #[.int .i64 0, .slice none 0 0, .bool false, .slice none 0 0, .slice none 0 0, .int .i64 0, .slice none 0 0, .bool false, .slice none 0 0, .slice none 0 0, .int .i64 0, .slice none 0 0, .bool false, .slice none 0 0, .slice none 0 0, .int .i64 0, .slice none 0 0, .bool false, .slice none 0 0, .slice none 0 0, .int .i64 0, .slice none 0 0, .bool false, .slice none 0 0, .slice none 0 0, .int .i64 0, .slice none 0 0, .bool false, .slice none 0 0, .slice none 0 0, .int .i64 0, .slice none 0 0, .bool false, .slice none 0 0, .slice none 0 0, .int .i64 0, .slice none 0 0, .bool false, .slice none 0 0, .slice none 0 0, .int .i64 0, .slice none 0 0, .bool false, .slice none 0 0, .slice none 0 0, .int .i64 0, .slice none 0 0, .bool false, .slice none 0 0, .slice none 0 0] 37)).alloc (.cells #[.int .i64 0, .slice none 0 0, .bool false, .slice (some ⟨w.heap.size + 1, 0, none⟩) 10 10, .slice none 0 0] 37)) (w.heap.size + 1 + 1) (w.heap.size + 1) 10 [] [.int .i64 0, .slice none 0 0, .bool false, .slice none 0 0, .slice none 0 0, .int .i64 0, .slice none 0 0, .bool false, .slice none 0 0, .slice none 0 0, .int .i64 0, .slice none 0 0, .bool false, .slice none 0 0, .slice none 0 0, .int .i64 0, .slice none 0 0, .bool false, .slice none 0 0, .slice none 0 0, .int .i64 0, .slice none 0 0, .bool false, .slice none 0 0, .slice none 0 0, .int .i64 0, .slice none 0 0, .bool false, .slice none 0 0, .slice none 0 0, .int .i64 0, .slice none 0 0, .bool false, .slice none 0 0, .slice none 0 0, .int .i64 0, .slice none 0 0, .bool false, .slice none 0 0, .slice none 0 0, .int .i64 0, .slice none 0 0, .bool false, .slice none 0 0, .slice none 0 0, .int .i64 0, .slice none 0 0, .bool false, .slice none 0 0, .slice none 0 0] := by rw [← hw0]; exact TlSt.start hz0
  have hp0 := hp.keep KW (by simp)
  have hG0 : There G w0 := hG.mono KW.size
  clear hw0
  generalize (((w.alloc (.cells #[.int .i64 0, .slice none 0 0, .bool false, .slice none 0 0, .slice none 0 0] 37)).alloc (.cells #[.int .i64 0, .slice none 0 0, .bool false, .slice none 0 0, .slice none 0 0, .int .i64 0, .slice none 0 0, .bool false, .slice none 0 0, .slice none 0 0, .int .i64 0, .slice none 0 0, .bool false, .slice none 0 0, .slice none 0 0, .int .i64 0, .slice none 0 0, .bool false, .slice none 0 0, .slice none 0 0, .int .i64 0, .slice none 0 0, .bool false, .slice none 0 0, .slice none 0 0, .int .i64 0, .slice none 0 0, .bool false, .slice none 0 0, .slice none 0 0, .int .i64 0, .slice none 0 0, .bool false, .slice none 0 0, .slice none 0 0, .int .i64 0, .slice none 0 0, .bool false, .slice none 0 0, .slice none 0 0, .int .i64 0, .slice none 0 0, .bool false, .slice none 0 0, .slice none 0 0, .int .i64 0, .slice none 0 0, .bool false, .slice none 0 0, .slice none 0 0] 37)).alloc (.cells #[.int .i64 0, .slice none 0 0, .bool false, .slice (some ⟨w.heap.size + 1, 0, none⟩) 10 10, .slice none 0 0] 37)) = U0 at *
  go_upto_region 2 with fail
  go_cut [] (fun wx => TlSt w0 wx (w.heap.size + 1 + 1) (w.heap.size + 1) 10 [(.mk 0 n0 false [] [])] [.int .i64 0, .slice none 0 0, .bool false, .slice none 0 0, .slice none 0 0, .int .i64 0, .slice none 0 0, .bool false, .slice none 0 0, .slice none 0 0, .int .i64 0, .slice none 0 0, .bool false, .slice none 0 0, .slice none 0 0, .int .i64 0, .slice none 0 0, .bool false, .slice none 0 0, .slice none 0 0, .int .i64 0, .slice none 0 0, .bool false, .slice none 0 0, .slice none 0 0, .int .i64 0, .slice none 0 0, .bool false, .slice none 0 0, .slice none 0 0, .int .i64 0, .slice none 0 0, .bool false, .slice none 0 0, .slice none 0 0, .int .i64 0, .slice none 0 0, .bool false, .slice none 0 0, .slice none 0 0, .int .i64 0, .slice none 0 0, .bool false, .slice none 0 0, .slice none 0 0])
  case first =>
    have d3 := s0.d3
    obtain ⟨lt1, lt2⟩ := s0.lts
    obtain ⟨e0, g0⟩ := s0.at_ (o := 0) (j := 0) rfl rfl
    obtain ⟨e1, g1⟩ := s0.at_ (o := 1) (j := 1) rfl rfl
    obtain ⟨e2, g2⟩ := s0.at_ (o := 2) (j := 2) rfl rfl
    obtain ⟨e3, g3⟩ := s0.at_ (o := 3) (j := 3) rfl rfl
    obtain ⟨e4, g4⟩ := s0.at_ (o := 4) (j := 4) rfl rfl
    have cf := (hp0.keep s0.keep (by simp)).cell (o := o) (j := 0) rfl rfl
    have hl0 : n0.length ≤ 1000000 := hs0.1
    have hcv := fun w => run_bytes_of_string (P := Tryz.prog) w 9 22 5 ⟨n0.toArray⟩ Tryz.underlying9 Tryz.underlying22 Tryz.underlying5
    go_region
    all_goals (try go_wp2_with fail)
    all_goals go_meet
    all_goals (have Q := fun cap hc fr => s0.putText2 (o0 := 0) (o1 := 1) (o2 := 2) (o3 := 3) (o4 := 4) rfl rfl rfl rfl rfl n0 hl0 cap 5 hc fr)
    all_goals exact Q _ (grownCap_ge _ _ _ _) _
  case rest =>
    have s1 := hcut
    clear hcut s0
    obtain ⟨U1, rfl⟩ : ∃ x : World, x = wc := ⟨_, rfl⟩
    go_upto_region 3 with fail
    go_cut [] (fun wx => TlSt w0 wx (w.heap.size + 1 + 1) (w.heap.size + 1) 10 [(.mk 0 n0 false [] []), (.mk 0 n1 false [] [])] [.int .i64 0, .slice none 0 0, .bool false, .slice none 0 0, .slice none 0 0, .int .i64 0, .slice none 0 0, .bool false, .slice none 0 0, .slice none 0 0, .int .i64 0, .slice none 0 0, .bool false, .slice none 0 0, .slice none 0 0, .int .i64 0, .slice none 0 0, .bool false, .slice none 0 0, .slice none 0 0, .int .i64 0, .slice none 0 0, .bool false, .slice none 0 0, .slice none 0 0, .int .i64 0, .slice none 0 0, .bool false, .slice none 0 0, .slice none 0 0, .int .i64 0, .slice none 0 0, .bool false, .slice none 0 0, .slice none 0 0, .int .i64 0, .slice none 0 0, .bool false, .slice none 0 0, .slice none 0 0])
    case first =>
      have d3 := s1.d3
      obtain ⟨lt1, lt2⟩ := s1.lts
      obtain ⟨e0, g0⟩ := s1.at_ (o := 5) (j := 0) rfl rfl
      obtain ⟨e1, g1⟩ := s1.at_ (o := 6) (j := 1) rfl rfl
      obtain ⟨e2, g2⟩ := s1.at_ (o := 7) (j := 2) rfl rfl
      obtain ⟨e3, g3⟩ := s1.at_ (o := 8) (j := 3) rfl rfl
      obtain ⟨e4, g4⟩ := s1.at_ (o := 9) (j := 4) rfl rfl
      have cf := (hp0.keep s1.keep (by simp)).cell (o := o + 1) (j := 1) rfl rfl
      have hl1 : n1.length ≤ 1000000 := hs1.1
      have hcv := fun w => run_bytes_of_string (P := Tryz.prog) w 9 22 5 ⟨n1.toArray⟩ Tryz.underlying9 Tryz.underlying22 Tryz.underlying5
      go_region
      all_goals (try go_wp2_with fail)
      all_goals go_meet
      all_goals (have Q := fun cap hc fr => s1.putText2 (o0 := 5) (o1 := 6) (o2 := 7) (o3 := 8) (o4 := 9) rfl rfl rfl rfl rfl n1 hl1 cap 5 hc fr)
      all_goals exact Q _ (grownCap_ge _ _ _ _) _
    case rest =>
      have s2 := hcut
      clear hcut s1
      obtain ⟨U2, rfl⟩ : ∃ x : World, x = wc := ⟨_, rfl⟩
      go_upto_region 4 with fail
      go_cut [] (fun wx => TlSt w0 wx (w.heap.size + 1 + 1) (w.heap.size + 1) 10 [(.mk 0 n0 false [] []), (.mk 0 n1 false [] []), (.mk 0 n2 false [] [])] [.int .i64 0, .slice none 0 0, .bool false, .slice none 0 0, .slice none 0 0, .int .i64 0, .slice none 0 0, .bool false, .slice none 0 0, .slice none 0 0, .int .i64 0, .slice none 0 0, .bool false, .slice none 0 0, .slice none 0 0, .int .i64 0, .slice none 0 0, .bool false, .slice none 0 0, .slice none 0 0, .int .i64 0, .slice none 0 0, .bool false, .slice none 0 0, .slice none 0 0, .int .i64 0, .slice none 0 0, .bool false, .slice none 0 0, .slice none 0 0, .int .i64 0, .slice none 0 0, .bool false, .slice none 0 0, .slice none 0 0])
      case first =>
        have d3 := s2.d3
        obtain ⟨lt1, lt2⟩ := s2.lts
        obtain ⟨e0, g0⟩ := s2.at_ (o := 10) (j := 0) rfl rfl
        obtain ⟨e1, g1⟩ := s2.at_ (o := 11) (j := 1) rfl rfl
        obtain ⟨e2, g2⟩ := s2.at_ (o := 12) (j := 2) rfl rfl
        obtain ⟨e3, g3⟩ := s2.at_ (o := 13) (j := 3) rfl rfl
        obtain ⟨e4, g4⟩ := s2.at_ (o := 14) (j := 4) rfl rfl
        have cf := (hp0.keep s2.keep (by simp)).cell (o := o + 2) (j := 2) rfl rfl
        have hl2 : n2.length ≤ 1000000 := hs2.1
        have hcv := fun w => run_bytes_of_string (P := Tryz.prog) w 9 22 5 ⟨n2.toArray⟩ Tryz.underlying9 Tryz.underlying22 Tryz.underlying5
        go_region
        all_goals (try go_wp2_with fail)
        all_goals go_meet
        all_goals (have Q := fun cap hc fr => s2.putText2 (o0 := 10) (o1 := 11) (o2 := 12) (o3 := 13) (o4 := 14) rfl rfl rfl rfl rfl n2 hl2 cap 5 hc fr)
        all_goals exact Q _ (grownCap_ge _ _ _ _) _
      case rest =>
        have s3 := hcut
        clear hcut s2
        obtain ⟨U3, rfl⟩ : ∃ x : World, x = wc := ⟨_, rfl⟩
        go_upto_region 5 with fail
        go_cut [] (fun wx => TlSt w0 wx (w.heap.size + 1 + 1) (w.heap.size + 1) 10 [(.mk 0 n0 false [] []), (.mk 0 n1 false [] []), (.mk 0 n2 false [] []), (.mk 0 n3 false [] [])] [.int .i64 0, .slice none 0 0, .bool false, .slice none 0 0, .slice none 0 0, .int .i64 0, .slice none 0 0, .bool false, .slice none 0 0, .slice none 0 0, .int .i64 0, .slice none 0 0, .bool false, .slice none 0 0, .slice none 0 0, .int .i64 0, .slice none 0 0, .bool false, .slice none 0 0, .slice none 0 0, .int .i64 0, .slice none 0 0, .bool false, .slice none 0 0, .slice none 0 0, .int .i64 0, .slice none 0 0, .bool false, .slice none 0 0, .slice none 0 0])
        case first =>
          have d3 := s3.d3
          obtain ⟨lt1, lt2⟩ := s3.lts
          obtain ⟨e0, g0⟩ := s3.at_ (o := 15) (j := 0) rfl rfl
          obtain ⟨e1, g1⟩ := s3.at_ (o := 16) (j := 1) rfl rfl
          obtain ⟨e2, g2⟩ := s3.at_ (o := 17) (j := 2) rfl rfl
          obtain ⟨e3, g3⟩ := s3.at_ (o := 18) (j := 3) rfl rfl
          obtain ⟨e4, g4⟩ := s3.at_ (o := 19) (j := 4) rfl rfl
          have cf := (hp0.keep s3.keep (by simp)).cell (o := o + 3) (j := 3) rfl rfl
          have hl3 : n3.length ≤ 1000000 := hs3.1
          have hcv := fun w => run_bytes_of_string (P := Tryz.prog) w 9 22 5 ⟨n3.toArray⟩ Tryz.underlying9 Tryz.underlying22 Tryz.underlying5
          go_region
          all_goals (try go_wp2_with fail)
          all_goals go_meet
          all_goals (have Q := fun cap hc fr => s3.putText2 (o0 := 15) (o1 := 16) (o2 := 17) (o3 := 18) (o4 := 19) rfl rfl rfl rfl rfl n3 hl3 cap 5 hc fr)
          all_goals exact Q _ (grownCap_ge _ _ _ _) _
        case rest =>
          have s4 := hcut
          clear hcut s3
          obtain ⟨U4, rfl⟩ : ∃ x : World, x = wc := ⟨_, rfl⟩
          go_upto_region 6 with fail
          go_cut [] (fun wx => TlSt w0 wx (w.heap.size + 1 + 1) (w.heap.size + 1) 10 [(.mk 0 n0 false [] []), (.mk 0 n1 false [] []), (.mk 0 n2 false [] []), (.mk 0 n3 false [] []), (.mk n4 [] false [] [])] [.int .i64 0, .slice none 0 0, .bool false, .slice none 0 0, .slice none 0 0, .int .i64 0, .slice none 0 0, .bool false, .slice none 0 0, .slice none 0 0, .int .i64 0, .slice none 0 0, .bool false, .slice none 0 0, .slice none 0 0, .int .i64 0, .slice none 0 0, .bool false, .slice none 0 0, .slice none 0 0, .int .i64 0, .slice none 0 0, .bool false, .slice none 0 0, .slice none 0 0])
          case first =>
            have d3 := s4.d3
            obtain ⟨lt1, lt2⟩ := s4.lts
            obtain ⟨e0, g0⟩ := s4.at_ (o := 20) (j := 0) rfl rfl
            obtain ⟨e1, g1⟩ := s4.at_ (o := 21) (j := 1) rfl rfl
            obtain ⟨e2, g2⟩ := s4.at_ (o := 22) (j := 2) rfl rfl
            obtain ⟨e3, g3⟩ := s4.at_ (o := 23) (j := 3) rfl rfl
            obtain ⟨e4, g4⟩ := s4.at_ (o := 24) (j := 4) rfl rfl
            have cf := (hp0.keep s4.keep (by simp)).cell (o := o + 4) (j := 4) rfl rfl
            go_region
            all_goals (try go_wp2_with fail)
            all_goals go_meet
            all_goals (have Q := s4.put (o0 := 20) (o1 := 21) (o2 := 22) (o3 := 23) (o4 := 24) rfl rfl rfl rfl rfl (HT.of n4 [] false [] [] (RB.nil _ _) (HTs.nil _ _) (HGs.nil _ _) (by omega) (by omega) (by decide) (by decide)); exact (by first | exact Q | exact Q.drew | exact Q.drew.drew | exact Q.drew.drew.drew | exact Q.drew.drew.drew.drew))
          case rest =>
            have s5 := hcut
            clear hcut s4
            obtain ⟨U5, rfl⟩ : ∃ x : World, x = wc := ⟨_, rfl⟩
            go_upto_region 7 with fail
            go_cut [] (fun wx => TlSt w0 wx (w.heap.size + 1 + 1) (w.heap.size + 1) 10 [(.mk 0 n0 false [] []), (.mk 0 n1 false [] []), (.mk 0 n2 false [] []), (.mk 0 n3 false [] []), (.mk n4 [] false [] []), (.mk n5 [] false [] [])] [.int .i64 0, .slice none 0 0, .bool false, .slice none 0 0, .slice none 0 0, .int .i64 0, .slice none 0 0, .bool false, .slice none 0 0, .slice none 0 0, .int .i64 0, .slice none 0 0, .bool false, .slice none 0 0, .slice none 0 0, .int .i64 0, .slice none 0 0, .bool false, .slice none 0 0, .slice none 0 0])
            case first =>
              have d3 := s5.d3
              obtain ⟨lt1, lt2⟩ := s5.lts
              obtain ⟨e0, g0⟩ := s5.at_ (o := 25) (j := 0) rfl rfl
              obtain ⟨e1, g1⟩ := s5.at_ (o := 26) (j := 1) rfl rfl
              obtain ⟨e2, g2⟩ := s5.at_ (o := 27) (j := 2) rfl rfl
              obtain ⟨e3, g3⟩ := s5.at_ (o := 28) (j := 3) rfl rfl
              obtain ⟨e4, g4⟩ := s5.at_ (o := 29) (j := 4) rfl rfl
              have cf := (hp0.keep s5.keep (by simp)).cell (o := o + 5) (j := 5) rfl rfl
              go_region
              all_goals (try go_wp2_with fail)
              all_goals go_meet
              all_goals (have Q := s5.put (o0 := 25) (o1 := 26) (o2 := 27) (o3 := 28) (o4 := 29) rfl rfl rfl rfl rfl (HT.of n5 [] false [] [] (RB.nil _ _) (HTs.nil _ _) (HGs.nil _ _) (by omega) (by omega) (by decide) (by decide)); exact (by first | exact Q | exact Q.drew | exact Q.drew.drew | exact Q.drew.drew.drew | exact Q.drew.drew.drew.drew))
            case rest =>
              have s6 := hcut
              clear hcut s5
              obtain ⟨U6, rfl⟩ : ∃ x : World, x = wc := ⟨_, rfl⟩
              go_upto_region 8 with fail
              go_cut [] (fun wx => TlSt w0 wx (w.heap.size + 1 + 1) (w.heap.size + 1) 10 [(.mk 0 n0 false [] []), (.mk 0 n1 false [] []), (.mk 0 n2 false [] []), (.mk 0 n3 false [] []), (.mk n4 [] false [] []), (.mk n5 [] false [] []), (.mk n6 [] false [] [])] [.int .i64 0, .slice none 0 0, .bool false, .slice none 0 0, .slice none 0 0, .int .i64 0, .slice none 0 0, .bool false, .slice none 0 0, .slice none 0 0, .int .i64 0, .slice none 0 0, .bool false, .slice none 0 0, .slice none 0 0])
              case first =>
                have d3 := s6.d3
                obtain ⟨lt1, lt2⟩ := s6.lts
                obtain ⟨e0, g0⟩ := s6.at_ (o := 30) (j := 0) rfl rfl
                obtain ⟨e1, g1⟩ := s6.at_ (o := 31) (j := 1) rfl rfl
                obtain ⟨e2, g2⟩ := s6.at_ (o := 32) (j := 2) rfl rfl
                obtain ⟨e3, g3⟩ := s6.at_ (o := 33) (j := 3) rfl rfl
                obtain ⟨e4, g4⟩ := s6.at_ (o := 34) (j := 4) rfl rfl
                have cf := (hp0.keep s6.keep (by simp)).cell (o := o + 6) (j := 6) rfl rfl
                go_region
                all_goals (try go_wp2_with fail)
                all_goals go_meet
                all_goals (have Q := s6.put (o0 := 30) (o1 := 31) (o2 := 32) (o3 := 33) (o4 := 34) rfl rfl rfl rfl rfl (HT.of n6 [] false [] [] (RB.nil _ _) (HTs.nil _ _) (HGs.nil _ _) (by omega) (by omega) (by decide) (by decide)); exact (by first | exact Q | exact Q.drew | exact Q.drew.drew | exact Q.drew.drew.drew | exact Q.drew.drew.drew.drew))
              case rest =>
                have s7 := hcut
                clear hcut s6
                obtain ⟨U7, rfl⟩ : ∃ x : World, x = wc := ⟨_, rfl⟩
                go_upto_region 9 with fail
                go_cut [] (fun wx => TlSt w0 wx (w.heap.size + 1 + 1) (w.heap.size + 1) 10 [(.mk 0 n0 false [] []), (.mk 0 n1 false [] []), (.mk 0 n2 false [] []), (.mk 0 n3 false [] []), (.mk n4 [] false [] []), (.mk n5 [] false [] []), (.mk n6 [] false [] []), (.mk 0 n7 false [] [])] [.int .i64 0, .slice none 0 0, .bool false, .slice none 0 0, .slice none 0 0, .int .i64 0, .slice none 0 0, .bool false, .slice none 0 0, .slice none 0 0])
                case first =>
                  have d3 := s7.d3
                  obtain ⟨lt1, lt2⟩ := s7.lts
                  obtain ⟨e0, g0⟩ := s7.at_ (o := 35) (j := 0) rfl rfl
                  obtain ⟨e1, g1⟩ := s7.at_ (o := 36) (j := 1) rfl rfl
                  obtain ⟨e2, g2⟩ := s7.at_ (o := 37) (j := 2) rfl rfl
                  obtain ⟨e3, g3⟩ := s7.at_ (o := 38) (j := 3) rfl rfl
                  obtain ⟨e4, g4⟩ := s7.at_ (o := 39) (j := 4) rfl rfl
                  have cf := (hp0.keep s7.keep (by simp)).cell (o := o + 7) (j := 7) rfl rfl
                  have hl7 : n7.length ≤ 1000000 := hs7.1
                  have hcv := fun w => run_bytes_of_string (P := Tryz.prog) w 9 22 5 ⟨n7.toArray⟩ Tryz.underlying9 Tryz.underlying22 Tryz.underlying5
                  go_region
                  all_goals (try go_wp2_with fail)
                  all_goals go_meet
                  all_goals (have Q := fun cap hc fr => s7.putText2 (o0 := 35) (o1 := 36) (o2 := 37) (o3 := 38) (o4 := 39) rfl rfl rfl rfl rfl n7 hl7 cap 5 hc fr)
                  all_goals exact Q _ (grownCap_ge _ _ _ _) _
                case rest =>
                  have s8 := hcut
                  clear hcut s7
                  obtain ⟨U8, rfl⟩ : ∃ x : World, x = wc := ⟨_, rfl⟩
                  go_upto_region 10 with fail
                  go_cut [] (fun wx => TlSt w0 wx (w.heap.size + 1 + 1) (w.heap.size + 1) 10 [(.mk 0 n0 false [] []), (.mk 0 n1 false [] []), (.mk 0 n2 false [] []), (.mk 0 n3 false [] []), (.mk n4 [] false [] []), (.mk n5 [] false [] []), (.mk n6 [] false [] []), (.mk 0 n7 false [] []), (octT o8)] [.int .i64 0, .slice none 0 0, .bool false, .slice none 0 0, .slice none 0 0])
                  case first =>
                    have d3 := s8.d3
                    obtain ⟨lt1, lt2⟩ := s8.lts
                    obtain ⟨e0, g0⟩ := s8.at_ (o := 40) (j := 0) rfl rfl
                    obtain ⟨e1, g1⟩ := s8.at_ (o := 41) (j := 1) rfl rfl
                    obtain ⟨e2, g2⟩ := s8.at_ (o := 42) (j := 2) rfl rfl
                    obtain ⟨e3, g3⟩ := s8.at_ (o := 43) (j := 3) rfl rfl
                    obtain ⟨e4, g4⟩ := s8.at_ (o := 44) (j := 4) rfl rfl
                    have cf := (hp0.keep s8.keep (by simp)).cell (o := o + 8) (j := 8) rfl rfl
                    have TX := fun U (hU : Keep [] U8 U) => oct_any (ps8.keepF (hG.same ((KW.trans s8.keep).trans hU)) (fun _ h => h)) (hG.mono ((KW.trans s8.keep).trans hU).size) (small_oct hs8)
                    go_region_law (refine step_call (by rfl) 99 #[.tmp 81] #[22] (by rfl) #[n8] (by simp [go_sem]) _ (by rfl) oct_body oct_name (TX _ (by first | exact (Keep.refl _ _).drew | exact (Keep.refl _ _).drew.drew | exact (Keep.refl _ _).drew.drew.drew | exact (Keep.refl _ _).drew.drew.drew.drew | exact (Keep.refl _ _).drew.drew.drew.drew.drew | exact (Keep.refl _ _).drew.drew.drew.drew.drew.drew)) ?_; rintro e wt ⟨cc, rfl, hct, kt⟩; refine ⟨_, rfl, ?_⟩; obtain ⟨at_, pt, bt, qt, ct, rt, rfl, _⟩ := id hct.cells; have kx : Keep [] U8 wt := (by first | exact (Keep.refl _ _).drew.trans kt | exact (Keep.refl _ _).drew.drew.trans kt | exact (Keep.refl _ _).drew.drew.drew.trans kt | exact (Keep.refl _ _).drew.drew.drew.drew.trans kt | exact (Keep.refl _ _).drew.drew.drew.drew.drew.trans kt | exact (Keep.refl _ _).drew.drew.drew.drew.drew.drew.trans kt); have st := s8.calm kx; have d3 := st.d3; obtain ⟨e0, g0⟩ := st.at_ (o := 40) (j := 0) rfl rfl; obtain ⟨e1, g1⟩ := st.at_ (o := 41) (j := 1) rfl rfl; obtain ⟨e2, g2⟩ := st.at_ (o := 42) (j := 2) rfl rfl; obtain ⟨e3, g3⟩ := st.at_ (o := 43) (j := 3) rfl rfl; obtain ⟨e4, g4⟩ := st.at_ (o := 44) (j := 4) rfl rfl;)
                    all_goals (try go_wp2_with fail)
                    all_goals go_meet
                    all_goals (have Q := st.put (o0 := 40) (o1 := 41) (o2 := 42) (o3 := 43) (o4 := 44) rfl rfl rfl rfl rfl (hct.keepF (fun _ _ => rfl) (s8.ntNew (W := wt))); exact (by first | exact Q | exact Q.drew | exact Q.drew.drew | exact Q.drew.drew.drew | exact Q.drew.drew.drew.drew))
                  case rest =>
                    have s9 := hcut
                    clear hcut s8
                    obtain ⟨U9, rfl⟩ : ∃ x : World, x = wc := ⟨_, rfl⟩
                    obtain ⟨nu9, css9, lx9, eq9, ev9, hrw9, hnil9, rfl⟩ := vl9
                    have hrs9 := hrw9.shape
                    obtain ⟨ao9, cp9, rfl, hcp9, hcn9⟩ := hrs9
                    rw [eq9] at hrw9 hcp9 hcn9 hnil9 hp0
                    have HEQ9 : Hid _ := eq9
                    clear eq9
                    have EQN : ∀ u, (Sem.run Tryz.prog (binOp .eql 121 (.slice ao9 lx9.length cp9) (.slice none 0 0)) u) = .ok (.bool nu9) u := by
                      intro u
                      cases ao9 with
                      | none =>
                        obtain ⟨z1, z2⟩ := hcn9 rfl
                        rw [show nu9 = true from hnil9.1 (by rw [z1, z2]), z1, z2]
                        exact Lib.run_eql_slice_nil u 121 146 none 0 0 0 0 Tryz.underlying121
                      | some a =>
                        have hf : nu9 = false := by
                          cases hn : nu9 with
                          | true => exact absurd (hnil9.2 hn) (by simp)
                          | false => rfl
                        rw [hf]
                        exact Lib.run_eql_slice_nil u 121 146 (some a) lx9.length cp9 0 0 Tryz.underlying121
                    obtain ⟨_, hll9, _, _, hsl9⟩ := hs9
                    go_upto_region 11 with fail
                    go_cut [] (fun wx => TlCur w0 wx (w.heap.size + 1 + 1) (w.heap.size + 1) 10 [(.mk 0 n0 false [] []), (.mk 0 n1 false [] []), (.mk 0 n2 false [] []), (.mk 0 n3 false [] []), (.mk n4 [] false [] []), (.mk n5 [] false [] []), (.mk n6 [] false [] []), (.mk 0 n7 false [] []), (octT o8)] nu9 (.slice none 0 0) [] [])
                    case first =>
                      have d3 := s9.d3
                      obtain ⟨lt1, lt2⟩ := s9.lts
                      obtain ⟨e0, g0⟩ := s9.at_ (o := 45) (j := 0) rfl rfl
                      obtain ⟨e1, g1⟩ := s9.at_ (o := 46) (j := 1) rfl rfl
                      obtain ⟨e2, g2⟩ := s9.at_ (o := 47) (j := 2) rfl rfl
                      obtain ⟨e3, g3⟩ := s9.at_ (o := 48) (j := 3) rfl rfl
                      obtain ⟨e4, g4⟩ := s9.at_ (o := 49) (j := 4) rfl rfl
                      have cf := (hp0.keep s9.keep (by simp)).cell (o := o + 9) (j := 9) rfl rfl
                      go_region
                      all_goals (try go_wp2_with fail)
                      all_goals go_meet
                      all_goals (have Q := s9.open (o := 47) rfl nu9; exact (by first | exact Q | exact Q.drew | exact Q.drew.drew | exact Q.drew.drew.drew | exact Q.drew.drew.drew.drew))
                    case rest =>
                      have s10 := hcut
                      clear hcut EQN s9
                      obtain ⟨U10, rfl⟩ : ∃ x : World, x = wc := ⟨_, rfl⟩
                      have cf := (hp0.keep s10.keep (by simp)).cell (o := o + 9) (j := 9) rfl rfl
                      go_wp2_with fail
                      go_loopw [98, 4] (fun k _ wr => ∃ (j : Nat) (lv : Value), k = .int .i64 (j : Int) ∧ j ≤ lx9.length ∧ TlCur w0 wr (w.heap.size + 1 + 1) (w.heap.size + 1) 10 [(.mk 0 n0 false [] []), (.mk 0 n1 false [] []), (.mk 0 n2 false [] []), (.mk 0 n3 false [] []), (.mk n4 [] false [] []), (.mk n5 [] false [] []), (.mk n6 [] false [] []), (.mk 0 n7 false [] []), (octT o8)] nu9 lv (lx9.take j) []) (fun k _ _ => lx9.length - (intOf k).toNat)
                      case atStart => exact ⟨0, _, rfl, Nat.zero_le _, s10⟩
                      case round =>
                        obtain ⟨j, lv, rfl, hj, sc⟩ := hrel
                        clear cf
                        by_cases hlt : j < lx9.length
                        · have hjc : j < css9.length := by rw [HEQ9.out]; exact hlt
                          obtain ⟨row, cap, hsl, hcap, hGr, hpt⟩ := hrw9.part (m := 3) HEQ9.out (fun c hc => by obtain ⟨q, hq, rfl⟩ := List.getElem_of_mem hc; exact (ev9 q (by rw [← HEQ9.out]; exact hq) hq).1) hjc
                          have hsl2 := hsl
                          simp only [Value.slice.injEq] at hsl
                          obtain ⟨rfl, _, rfl⟩ := hsl
                          clear hsl2
                          have KR := KW.trans sc.keep
                          have hvj := (ev9 j hlt hjc).2
                          have hsj := smalls_mem hsl9 _ (List.getElem_mem hlt)
                          generalize hcj : css9[j] = cj at *
                          generalize htj : lx9[j] = tj at *
                          have HTJ : Hid (lx9[j] = tj) := htj
                          clear htj hcj
                          have TP := fun V (hV : Keep [] w V) => ddta_tell (hpt.keep hV (by simp)) (VK.keepF (hG.same hV) (fun _ h => h) (fun c l => VFs.keepF (hG.same hV) (fun _ h => h) q_DescribeDelegationTokenResponseTokenDetailRenewer) hvj) (hG.mono hV.size) hsj
                          have hlen : (lx9.take j).length = j := by simp; omega
                          have HLEN : Hid _ := hlen
                          clear hlen
                          go_upto_region 15 with fail
                          go_region
                          · have kb : Keep [] wr ((wr.alloc (Obj.cells #[Value.bool false] 4)).drew) := (keep_box _).drew
                            have sx := sc.calm kb
                            have KX := KW.trans sx.keep
                            generalize ((wr.alloc (Obj.cells #[Value.bool false] 4)).drew) = wx at *
                            have d3 := sx.d3
                            obtain ⟨y3, y4⟩ := sx.l3 (o := 48) rfl
                            obtain ⟨lt1, lt2⟩ := sx.lts
                            have cf := (hp0.keep sx.keep (by simp)).cell (o := o + 9) (j := 9) rfl rfl
                            have hbl := (hp0.keep sx.keep (by simp)).lt
                            obtain ⟨i0, hi, hz0, hz1, hz2⟩ := info_agg info_it zero_it
                            go_upto_region 18 with fail
                            refine wp_region_B3 18 (by kernel_rfl) d3 y3 cf (fun hB => ?_)
                            refine wpAnyB_take (i := 0) (v := ?_) [0, 1, 16, 17, 18] rfl (by kernel_rfl) (by kernel_rfl) (by kernel_rfl) (by kernel_rfl) (fun _ _ _ h => h) hB (Or.inl ⟨by rfl, ?_⟩) ?_
                            rotate_left
                            · intro wq hq; obtain ⟨q1, q2, q3⟩ := hq; go_simp <;> with_reducible rfl
                            try simp only [Act.put, List.setIfInBounds_toArray, List.set_cons_zero, List.set_cons_succ]
                            refine wpAnyB_take (i := 1) (v := ?_) [1, 16, 17, 18] rfl (by kernel_rfl) (by kernel_rfl) (by kernel_rfl) (by kernel_rfl) (fun _ _ _ h => h) hB (Or.inl ⟨by rfl, ?_⟩) ?_
                            rotate_left
                            · intro wq hq; obtain ⟨q1, q2, q3⟩ := hq; go_simp <;> with_reducible rfl
                            try simp only [Act.put, List.setIfInBounds_toArray, List.set_cons_zero, List.set_cons_succ]
                            refine wpAnyB_take (i := 2) (v := ?_) [2, 3, 4, 5, 6, 15, 18] rfl (by kernel_rfl) (by kernel_rfl) (by kernel_rfl) (by kernel_rfl) (fun _ _ _ h => h) hB (Or.inl ⟨by rfl, ?_⟩) ?_
                            rotate_left
                            · intro wq hq; obtain ⟨q1, q2, q3⟩ := hq; go_simp <;> with_reducible rfl
                            try simp only [Act.put, List.setIfInBounds_toArray, List.set_cons_zero, List.set_cons_succ]
                            refine wpAnyB_take (i := 3) (v := ?_) [3, 4, 5, 6, 15, 18] rfl (by kernel_rfl) (by kernel_rfl) (by kernel_rfl) (by kernel_rfl) (fun _ _ _ h => h) hB (Or.inl ⟨by rfl, ?_⟩) ?_
                            rotate_left
                            · intro wq hq; obtain ⟨q1, q2, q3⟩ := hq; go_simp <;> with_reducible rfl
                            try simp only [Act.put, List.setIfInBounds_toArray, List.set_cons_zero, List.set_cons_succ]
                            refine wpAnyB_take (i := 4) (v := ?_) [4, 5, 6, 15, 18] rfl (by kernel_rfl) (by kernel_rfl) (by kernel_rfl) (by kernel_rfl) (fun _ _ _ h => h) hB (Or.inl ⟨by rfl, ?_⟩) ?_
                            rotate_left
                            · intro wq hq; obtain ⟨q1, q2, q3⟩ := hq; go_simp <;> with_reducible rfl
                            try simp only [Act.put, List.setIfInBounds_toArray, List.set_cons_zero, List.set_cons_succ]
                            refine wpAnyB_take (i := 5) (v := ?_) [5, 6, 15, 18] rfl (by kernel_rfl) (by kernel_rfl) (by kernel_rfl) (by kernel_rfl) (fun _ _ _ h => h) hB (Or.inl ⟨by rfl, ?_⟩) ?_
                            rotate_left
                            · intro wq hq; obtain ⟨q1, q2, q3⟩ := hq; go_simp <;> with_reducible rfl
                            try simp only [Act.put, List.setIfInBounds_toArray, List.set_cons_zero, List.set_cons_succ]
                            refine wpAnyB_take (i := 6) (v := ?_) [6, 15, 18] rfl (by kernel_rfl) (by kernel_rfl) (by kernel_rfl) (by kernel_rfl) (fun _ _ _ h => h) hB (Or.inl ⟨by rfl, ?_⟩) ?_
                            rotate_left
                            · intro wq hq; obtain ⟨q1, q2, q3⟩ := hq; go_simp <;> with_reducible rfl
                            try simp only [Act.put, List.setIfInBounds_toArray, List.set_cons_zero, List.set_cons_succ]
                            refine wpAnyB_take (i := 7) (v := ?_) [7, 8, 9, 10, 12, 13, 14, 15, 18] rfl (by kernel_rfl) (by kernel_rfl) (by kernel_rfl) (by kernel_rfl) (fun _ _ _ h => h) hB (Or.inl ⟨by rfl, ?_⟩) ?_
                            rotate_left
                            · intro wq hq; obtain ⟨q1, q2, q3⟩ := hq; go_simp <;> with_reducible rfl
                            try simp only [Act.put, List.setIfInBounds_toArray, List.set_cons_zero, List.set_cons_succ]
                            refine wpAnyB_take (i := 8) (v := ?_) [8, 9, 10, 12, 13, 14, 15, 18] rfl (by kernel_rfl) (by kernel_rfl) (by kernel_rfl) (by kernel_rfl) (fun _ _ _ h => h) hB (Or.inl ⟨by rfl, ?_⟩) ?_
                            rotate_left
                            · intro wq hq; obtain ⟨q1, q2, q3⟩ := hq; go_simp <;> with_reducible rfl
                            try simp only [Act.put, List.setIfInBounds_toArray, List.set_cons_zero, List.set_cons_succ]
                            refine wpAnyB_take (i := 9) (v := ?_) [9, 10, 12, 13, 14, 15, 18] rfl (by kernel_rfl) (by kernel_rfl) (by kernel_rfl) (by kernel_rfl) (fun _ _ _ h => h) hB (Or.inl ⟨by rfl, ?_⟩) ?_
                            rotate_left
                            · intro wq hq; obtain ⟨q1, q2, q3⟩ := hq; go_simp <;> with_reducible rfl
                            try simp only [Act.put, List.setIfInBounds_toArray, List.set_cons_zero, List.set_cons_succ]
                            refine wpAnyB_take (i := 10) (v := ?_) [10, 12, 13, 14, 15, 18] rfl (by kernel_rfl) (by kernel_rfl) (by kernel_rfl) (by kernel_rfl) (fun _ _ _ h => h) hB (Or.inl ⟨by rfl, ?_⟩) ?_
                            rotate_left
                            · intro wq hq; obtain ⟨q1, q2, q3⟩ := hq; go_simp <;> with_reducible rfl
                            try simp only [Act.put, List.setIfInBounds_toArray, List.set_cons_zero, List.set_cons_succ]
                            refine wpAnyB_take (i := 11) (v := ?_) [11, 12, 13, 14, 15, 18] rfl (by kernel_rfl) (by kernel_rfl) (by kernel_rfl) (by kernel_rfl) (fun _ _ _ h => h) hB (Or.inl ⟨by rfl, ?_⟩) ?_
                            rotate_left
                            · intro wq hq; obtain ⟨q1, q2, q3⟩ := hq; go_simp <;> with_reducible rfl
                            try simp only [Act.put, List.setIfInBounds_toArray, List.set_cons_zero, List.set_cons_succ]
                            refine wpAnyB_take (i := 12) (v := ?_) [12, 13, 14, 15, 18] rfl (by kernel_rfl) (by kernel_rfl) (by kernel_rfl) (by kernel_rfl) (fun _ _ _ h => h) hB (Or.inl ⟨by rfl, ?_⟩) ?_
                            rotate_left
                            · intro wq hq; obtain ⟨q1, q2, q3⟩ := hq; go_simp <;> with_reducible rfl
                            try simp only [Act.put, List.setIfInBounds_toArray, List.set_cons_zero, List.set_cons_succ]
                            refine wpAnyB_one (k := 13) rfl (by kernel_rfl) (fun K hK => ?_)
                            refine step_call (by rfl) 105 #[.tmp 133] #[144] (by rfl) #[.pointer (some ⟨row, j * 3, none⟩)] (by simp [go_sem]) _ (by rfl) ddta_body ddta_name (TP _ KX.drew) ?_
                            rintro e w2 ⟨c2, rfl, hc2, k2⟩
                            refine ⟨_, rfl, ?_⟩
                            obtain ⟨a1, p1, a2, p2, a3, p3, rfl, _⟩ := id hc2.cells
                            have kx : Keep [] wx w2 := (Keep.refl _ _).drew.trans k2
                            have sy := sx.calm kx
                            obtain ⟨lt1, lt2⟩ := sy.lts
                            refine hK.out _ _ (fun _ => ⟨kx.cs d3, kx.cs y3, kx.cs cf⟩) (fun _ => ?_)
                            clear hK K
                            try simp only [Act.put, List.setIfInBounds_toArray, List.set_cons_zero, List.set_cons_succ]
                            refine wpAnyB_one (k := 14) rfl (by kernel_rfl) (fun K hK => ?_)
                            go_simp
                            have kz := kx.alloc (.cells #[.int .i64 tj.n, .slice a1 tj.s.length p1, .bool tj.null, .slice a2 tj.l.length p2, .slice a3 tj.u.length p3] 37)
                            refine hK.out _ _ (fun _ => ⟨kz.cs d3, kz.cs y3, kz.cs cf⟩) (fun _ => ?_)
                            clear hK K
                            try simp only [Act.put, List.setIfInBounds_toArray, List.set_cons_zero, List.set_cons_succ]
                            refine wpAnyB_one (k := 15) rfl (by kernel_rfl) (fun K hK => ?_)
                            obtain ⟨cs, e1, e2, e3, e4⟩ := (sy.calm (keep_box (.cells #[.int .i64 tj.n, .slice a1 tj.s.length p1, .bool tj.null, .slice a2 tj.l.length p2, .slice a3 tj.u.length p3] 37))).lst
                            refine step_append_lies _ (by rfl) (.tmp 127) (.tmp 135) _ (by rfl) w0.heap.size 37 i0 _ 5 88 Tryz.underlying34 hi hz0 hz1 hz2 rfl (by omega) lv _ cs.flatten (by rfl) e4 ⟨w2.heap.size, 0, none⟩ 1 1 [.int .i64 tj.n, .slice a1 tj.s.length p1, .bool tj.null, .slice a2 tj.l.length p2, .slice a3 tj.u.length p3] (by rfl) (by rfl) (World.news_of_block (cs := #[.int .i64 tj.n, .slice a1 tj.s.length p1, .bool tj.null, .slice a2 tj.l.length p2, .slice a3 tj.u.length p3]) (heap_alloc_new w2 _)) hc2.one (by omega) (by unfold maxLen; rw [HLEN.out]; omega) (by rw [HLEN.out]; omega) (by have := sy.keep.size; simp; omega) (w2.heap.size + 1) (by simp) ?_
                            intro g cap w3 hown hgr hat hlt3
                            obtain ⟨y5, y6⟩ := (sy.calm (keep_box (.cells #[.int .i64 tj.n, .slice a1 tj.s.length p1, .bool tj.null, .slice a2 tj.l.length p2, .slice a3 tj.u.length p3] 37))).row3 (o := 48) rfl hgr
                            have d5 := (sy.calm (keep_box (.cells #[.int .i64 tj.n, .slice a1 tj.s.length p1, .bool tj.null, .slice a2 tj.l.length p2, .slice a3 tj.u.length p3] 37))).d3G hgr
                            have cf5 := ((hp0.keep (sx.keep.trans kz) (by simp)).grownC hgr (fun e => by have := sx.ownGe e; omega)).cell (o := o + 9) (j := 9) rfl rfl
                            refine hK.out _ _ (fun _ => ⟨d5, y5, cf5⟩) (fun _ => ?_)
                            clear hK K
                            try simp only [Act.put, List.setIfInBounds_toArray, List.set_cons_zero, List.set_cons_succ]
                            refine wpAnyB_one (k := 16) rfl (by kernel_rfl) (fun K hK => ?_)
                            go_simp
                            refine hK.out _ _ (fun _ => ⟨d5, y5, cf5⟩) (fun _ => ?_)
                            clear hK K
                            try simp only [Act.put, List.setIfInBounds_toArray, List.set_cons_zero, List.set_cons_succ]
                            refine wpAnyB_one (k := 17) rfl (by kernel_rfl) (fun K hK => ?_)
                            go_simp
                            refine hK.out _ _ (fun _ => ⟨d5, y5, cf5⟩) (fun _ => ?_)
                            clear hK K
                            try simp only [Act.put, List.setIfInBounds_toArray, List.set_cons_zero, List.set_cons_succ]
                            refine wpAnyB_one (k := 18) rfl (by kernel_rfl) (fun K hK => ?_)
                            go_simp
                            refine hK.out _ _ (fun h => absurd rfl h) (fun _ => ?_)
                            clear hK K
                            refine wpAnyB_done (by kernel_rfl) ?_ _
                            all_goals (try go_wp2_with fail)
                            all_goals go_roundw
                            case rel =>
                              have Q := sx.push (o := 48) rfl (kx.alloc (.cells #[.int .i64 tj.n, .slice a1 tj.s.length p1, .bool tj.null, .slice a2 tj.l.length p2, .slice a3 tj.u.length p3] 37)) e1 e2 (hc2.keepF (fun k hk => (keep_box (A := []) _).block k hk.2 (by simp)) (fun k hk => ⟨hk.1, by have := hk.2; simp; omega⟩)) (by rw [HLEN.out]; omega) hown hgr (hat.imp id (fun e => by simp; omega))
                              rw [HLEN.out] at Q
                              have eT : lx9.take (j + 1) = lx9.take j ++ [tj] := by rw [List.take_succ_eq_append_getElem hlt, HTJ.out]
                              rw [← eT] at Q
                              first | exact ⟨j + 1, _, by go_num, by omega, Q⟩ | exact ⟨j + 1, _, by go_num, by omega, Q.drew⟩ | exact ⟨j + 1, _, by go_num, by omega, Q.drew.drew⟩
                            case measure => simp [intOf]; omega
                          · have kb : Keep [] wr ((wr.alloc (Obj.cells #[Value.bool true] 4)).drew) := (keep_box _).drew
                            have sx := sc.calm kb
                            have KX := KW.trans sx.keep
                            generalize ((wr.alloc (Obj.cells #[Value.bool true] 4)).drew) = wx at *
                            have d3 := sx.d3
                            obtain ⟨y3, y4⟩ := sx.l3 (o := 48) rfl
                            obtain ⟨lt1, lt2⟩ := sx.lts
                            have cf := (hp0.keep sx.keep (by simp)).cell (o := o + 9) (j := 9) rfl rfl
                            have hbl := (hp0.keep sx.keep (by simp)).lt
                            obtain ⟨i0, hi, hz0, hz1, hz2⟩ := info_agg info_it zero_it
                            go_upto_region 16 with fail
                            obtain ⟨xs0, hrow0⟩ := sx.lst.row
                            obtain ⟨al, pl, rfl⟩ := owns_shape hrow0
                            clear hrow0
                            rw [HLEN.out] at sx y3
                            refine wp_region_B3 17 (by kernel_rfl) d3 y3 cf (fun hB => ?_)
                            refine wpAnyB_take (i := 0) (v := ?_) [0, 1, 15, 16, 17] rfl (by kernel_rfl) (by kernel_rfl) (by kernel_rfl) (by kernel_rfl) (fun _ _ _ h => h) hB (Or.inl ⟨by rfl, ?_⟩) ?_
                            rotate_left
                            · intro wq hq; obtain ⟨q1, q2, q3⟩ := hq; go_simp <;> with_reducible rfl
                            try simp only [Act.put, List.setIfInBounds_toArray, List.set_cons_zero, List.set_cons_succ]
                            refine wpAnyB_take (i := 1) (v := ?_) [1, 15, 16, 17] rfl (by kernel_rfl) (by kernel_rfl) (by kernel_rfl) (by kernel_rfl) (fun _ _ _ h => h) hB (Or.inl ⟨by rfl, ?_⟩) ?_
                            rotate_left
                            · intro wq hq; obtain ⟨q1, q2, q3⟩ := hq; go_simp <;> with_reducible rfl
                            try simp only [Act.put, List.setIfInBounds_toArray, List.set_cons_zero, List.set_cons_succ]
                            refine wpAnyB_take (i := 2) (v := ?_) [2, 3, 4, 14, 17] rfl (by kernel_rfl) (by kernel_rfl) (by kernel_rfl) (by kernel_rfl) (fun _ _ _ h => h) hB (Or.inl ⟨by rfl, ?_⟩) ?_
                            rotate_left
                            · intro wq hq; obtain ⟨q1, q2, q3⟩ := hq; go_simp <;> with_reducible rfl
                            try simp only [Act.put, List.setIfInBounds_toArray, List.set_cons_zero, List.set_cons_succ]
                            refine wpAnyB_take (i := 3) (v := ?_) [3, 4, 14, 17] rfl (by kernel_rfl) (by kernel_rfl) (by kernel_rfl) (by kernel_rfl) (fun _ _ _ h => h) hB (Or.inl ⟨by rfl, ?_⟩) ?_
                            rotate_left
                            · intro wq hq; obtain ⟨q1, q2, q3⟩ := hq; go_simp <;> with_reducible rfl
                            try simp only [Act.put, List.setIfInBounds_toArray, List.set_cons_zero, List.set_cons_succ]
                            refine wpAnyB_take (i := 4) (v := ?_) [4, 14, 17] rfl (by kernel_rfl) (by kernel_rfl) (by kernel_rfl) (by kernel_rfl) (fun _ _ _ h => h) hB (Or.inl ⟨by rfl, ?_⟩) ?_
                            rotate_left
                            · intro wq hq; obtain ⟨q1, q2, q3⟩ := hq; go_simp <;> with_reducible rfl
                            try simp only [Act.put, List.setIfInBounds_toArray, List.set_cons_zero, List.set_cons_succ]
                            refine wpAnyB_take (i := 5) (v := ?_) [5, 15, 16, 17] rfl (by kernel_rfl) (by kernel_rfl) (by kernel_rfl) (by kernel_rfl) (fun _ _ _ h => h) hB (Or.inl ⟨by rfl, ?_⟩) ?_
                            rotate_left
                            · intro wq hq; obtain ⟨q1, q2, q3⟩ := hq; go_simp <;> with_reducible rfl
                            try simp only [Act.put, List.setIfInBounds_toArray, List.set_cons_zero, List.set_cons_succ]
                            refine wpAnyB_take (i := 6) (v := ?_) [6, 15, 16, 17] rfl (by kernel_rfl) (by kernel_rfl) (by kernel_rfl) (by kernel_rfl) (fun _ _ _ h => h) hB (Or.inl ⟨by rfl, ?_⟩) ?_
                            rotate_left
                            · intro wq hq; obtain ⟨q1, q2, q3⟩ := hq; go_simp <;> with_reducible rfl
                            try simp only [Act.put, List.setIfInBounds_toArray, List.set_cons_zero, List.set_cons_succ]
                            refine wpAnyB_take (i := 7) (v := ?_) [7, 15, 16, 17] rfl (by kernel_rfl) (by kernel_rfl) (by kernel_rfl) (by kernel_rfl) (fun _ _ _ h => h) hB (Or.inl ⟨by rfl, ?_⟩) ?_
                            rotate_left
                            · intro wq hq; obtain ⟨q1, q2, q3⟩ := hq; go_simp <;> with_reducible rfl
                            try simp only [Act.put, List.setIfInBounds_toArray, List.set_cons_zero, List.set_cons_succ]
                            refine wpAnyB_take (i := 8) (v := ?_) [8, 15, 16, 17] rfl (by kernel_rfl) (by kernel_rfl) (by kernel_rfl) (by kernel_rfl) (fun _ _ _ h => h) hB (Or.inl ⟨by rfl, ?_⟩) ?_
                            rotate_left
                            · intro wq hq; obtain ⟨q1, q2, q3⟩ := hq; go_simp <;> with_reducible rfl
                            try simp only [Act.put, List.setIfInBounds_toArray, List.set_cons_zero, List.set_cons_succ]
                            refine wpAnyB_take (i := 9) (v := ?_) [9, 15, 16, 17] rfl (by kernel_rfl) (by kernel_rfl) (by kernel_rfl) (by kernel_rfl) (fun _ _ _ h => h) hB (Or.inl ⟨by rfl, ?_⟩) ?_
                            rotate_left
                            · intro wq hq; obtain ⟨q1, q2, q3⟩ := hq; go_simp <;> with_reducible rfl
                            try simp only [Act.put, List.setIfInBounds_toArray, List.set_cons_zero, List.set_cons_succ]
                            refine wpAnyB_take (i := 10) (v := ?_) [10, 15, 16, 17] rfl (by kernel_rfl) (by kernel_rfl) (by kernel_rfl) (by kernel_rfl) (fun _ _ _ h => h) hB (Or.inl ⟨by rfl, ?_⟩) ?_
                            rotate_left
                            · intro wq hq; obtain ⟨q1, q2, q3⟩ := hq; go_simp <;> with_reducible rfl
                            try simp only [Act.put, List.setIfInBounds_toArray, List.set_cons_zero, List.set_cons_succ]
                            refine wpAnyB_take (i := 12) (v := ?_) [12, 15, 16, 17] rfl (by kernel_rfl) (by kernel_rfl) (by kernel_rfl) (by kernel_rfl) (fun _ _ _ h => h) hB (Or.inl ⟨by rfl, ?_⟩) ?_
                            rotate_left
                            · intro wq hq; obtain ⟨q1, q2, q3⟩ := hq; go_simp <;> with_reducible rfl
                            try simp only [Act.put, List.setIfInBounds_toArray, List.set_cons_zero, List.set_cons_succ]
                            refine wpAnyB_two (i := 11) (j := 13) rfl rfl (by kernel_rfl) (fun K hK => ?_) (fun K hK => ?_)
                            case refine_1 =>
                              (refine step_call (by rfl) 105 #[.tmp 113] #[144] (by rfl) #[.pointer (some ⟨row, j * 3, none⟩)] (by simp [go_sem]) _ (by rfl) ddta_body ddta_name (TP _ (by first | exact KX.drew)) ?_; rintro e w2 ⟨c2, rfl, hc2, k2⟩; refine ⟨_, rfl, ?_⟩; obtain ⟨a1, p1, a2, p2, a3, p3, rfl, _⟩ := id hc2.cells; have kx : Keep [] wx w2 := (by first | exact (Keep.refl _ _).drew.trans k2); have hcx : HT w2 (fun k => wx.heap.size ≤ k ∧ k < w2.heap.size) tj [.int .i64 tj.n, .slice a1 tj.s.length p1, .bool tj.null, .slice a2 tj.l.length p2, .slice a3 tj.u.length p3] := hc2.keepF (fun _ _ => rfl) (fun k hk => by have a1 := hk.1; have a2 := hk.2; simp at a1; exact ⟨by omega, a2⟩); have sy := sx.calm kx; have d3 := sy.d3; obtain ⟨lt1, lt2⟩ := sy.lts; obtain ⟨y3, y4⟩ := sy.l3 (o := 48) rfl)
                              refine hK.out _ _ (fun _ => ⟨d3, y3, kx.cs cf⟩) (fun _ => ?_)
                              clear hK K
                              try simp only [Act.put, List.setIfInBounds_toArray, List.set_cons_zero, List.set_cons_succ]
                              refine wpAnyB_one (k := 13) rfl (by kernel_rfl) (fun K hK => ?_)
                              go_simp
                              refine hK.out _ _ (fun _ => ⟨(keep_box (A := []) _).cs d3, (keep_box (A := []) _).cs y3, (keep_box (A := []) _).cs (kx.cs cf)⟩) (fun _ => ?_)
                              clear hK K
                              try simp only [Act.put, List.setIfInBounds_toArray, List.set_cons_zero, List.set_cons_succ]
                              refine wpAnyB_one (k := 14) rfl (by kernel_rfl) (fun K hK => ?_)
                              (have _u0 := sy; obtain ⟨cs, e1, e2, e3, e4⟩ := (sy.calm (keep_box (.cells #[.int .i64 0, .slice none 0 0, .bool false, .slice none 0 0, .slice none 0 0] 37))).lst; refine step_append_lies _ (by rfl) (.tmp 107) (.tmp 116) _ (by rfl) w0.heap.size 37 i0 _ 5 88 Tryz.underlying34 hi hz0 hz1 hz2 rfl (by omega) (.slice al j pl) _ cs.flatten (by rfl) e4 ⟨w2.heap.size, 0, none⟩ 1 1 [.int .i64 0, .slice none 0 0, .bool false, .slice none 0 0, .slice none 0 0] (by rfl) (by rfl) (World.news_of_block (cs := #[.int .i64 0, .slice none 0 0, .bool false, .slice none 0 0, .slice none 0 0]) (heap_alloc_new w2 _)) (by simp [Value.oneCell']) (by omega) (by unfold maxLen; rw [HLEN.out]; omega) (by rw [HLEN.out]; omega) (sy.calm (keep_box (.cells #[.int .i64 0, .slice none 0 0, .bool false, .slice none 0 0, .slice none 0 0] 37))).keep.size (w2.heap.size + 1) (by simp) ?_; intro g cap w3 hown hgr hat hlt3; obtain ⟨y3, y4⟩ := (sy.calm (keep_box (.cells #[.int .i64 0, .slice none 0 0, .bool false, .slice none 0 0, .slice none 0 0] 37))).row3 (o := 48) rfl hgr; have d3 := (sy.calm (keep_box (.cells #[.int .i64 0, .slice none 0 0, .bool false, .slice none 0 0, .slice none 0 0] 37))).d3G hgr; have kU : Keep [] wx (w2.alloc (.cells #[.int .i64 0, .slice none 0 0, .bool false, .slice none 0 0, .slice none 0 0] 37)) := kx.alloc _; have cf5 := ((hp0.keep (sx.keep.trans kU) (by simp)).grownC hgr (fun e => by have := sx.ownGe e; omega)).cell (o := o + 9) (j := 9) rfl rfl; have hU : HT (w2.alloc (.cells #[.int .i64 0, .slice none 0 0, .bool false, .slice none 0 0, .slice none 0 0] 37)) (fun k => wx.heap.size ≤ k ∧ k < (w2.alloc (.cells #[.int .i64 0, .slice none 0 0, .bool false, .slice none 0 0, .slice none 0 0] 37)).heap.size) tj [.int .i64 tj.n, .slice a1 tj.s.length p1, .bool tj.null, .slice a2 tj.l.length p2, .slice a3 tj.u.length p3] := hcx.keepF (fun k hk => (keep_box (A := []) _).block k hk.2 (by simp)) (fun k hk => ⟨hk.1, by have := hk.2; simp; omega⟩); have hat2 : (Value.slice al j pl).ownBlock = some g ∨ g = (w2.alloc (.cells #[.int .i64 0, .slice none 0 0, .bool false, .slice none 0 0, .slice none 0 0] 37)).heap.size := hat.imp id (fun e => (by simp; exact e)); rw [HLEN.out] at hown; obtain ⟨⟨cur, hV2, z0, z1, z2, z3, z4⟩, PS⟩ := sx.pushSet (x := tj) (v0 := .int .i64 tj.n) (v1 := .slice a1 tj.s.length p1) (v2 := .bool tj.null) (v3 := .slice a2 tj.l.length p2) (v4 := .slice a3 tj.u.length p3) (o := 48) rfl HLEN.out kU e1 e2 (by omega) hown hgr hat2; have HPS : Hid _ := PS hU; have HV2 : Hid _ := hV2; have HZ : Hid _ := And.intro z0 (And.intro z1 (And.intro z2 (And.intro z3 z4))); clear PS hV2 z0 z1 z2 z3 z4 e1 e2 e3 e4 hown hgr hat hat2 hU kU)
                              refine hK.out _ _ (fun _ => ⟨d3, y3, cf5⟩) (fun _ => ?_)
                              clear hK K
                              try simp only [Act.put, List.setIfInBounds_toArray, List.set_cons_zero, List.set_cons_succ]
                              refine wpAnyB_one (k := 15) rfl (by kernel_rfl) (fun K hK => ?_)
                              go_simp
                              refine hK.out _ _ (fun _ => ⟨d3, y3, cf5⟩) (fun _ => ?_)
                              clear hK K
                              try simp only [Act.put, List.setIfInBounds_toArray, List.set_cons_zero, List.set_cons_succ]
                              refine wpAnyB_one (k := 16) rfl (by kernel_rfl) (fun K hK => ?_)
                              go_simp
                              refine hK.out _ _ (fun _ => ⟨d3, y3, cf5⟩) (fun _ => ?_)
                              clear hK K
                              try simp only [Act.put, List.setIfInBounds_toArray, List.set_cons_zero, List.set_cons_succ]
                              refine wpAnyB_one (k := 17) rfl (by kernel_rfl) (fun K hK => ?_)
                              go_simp
                              refine hK.out _ _ (fun h => absurd rfl h) (fun _ => ?_)
                              clear hK K
                              refine wpAnyB_done (by kernel_rfl) ?_ _
                              obtain ⟨z0, z1, z2, z3, z4⟩ := HZ.out
                              have q0 := cellOf HV2.out (j * 5) _ z0
                              have qf0 := freeOf HV2.out (j * 5)
                              have q1 := cellOf HV2.out (j * 5 + 1) _ z1
                              have qf1 := freeOf HV2.out (j * 5 + 1)
                              have q2 := cellOf HV2.out (j * 5 + 2) _ z2
                              have qf2 := freeOf HV2.out (j * 5 + 2)
                              have q3 := cellOf HV2.out (j * 5 + 3) _ z3
                              have qf3 := freeOf HV2.out (j * 5 + 3)
                              have q4 := cellOf HV2.out (j * 5 + 4) _ z4
                              have qf4 := freeOf HV2.out (j * 5 + 4)
                              clear z0 z1 z2 z3 z4
                              go_upto_region 17 with fail
                              go_wp2_with fail
                              go_roundw
                              case rel =>
                                have Q := HPS.out
                                have eT : lx9.take (j + 1) = lx9.take j ++ [tj] := by rw [List.take_succ_eq_append_getElem hlt, HTJ.out]
                                rw [← eT] at Q
                                first | exact ⟨j + 1, _, by go_num, by omega, Q⟩ | exact ⟨j + 1, _, by go_num, by omega, Q.drew⟩ | exact ⟨j + 1, _, by go_num, by omega, Q.drew.drew⟩
                              case measure => simp [intOf]; omega
                            case refine_2 =>
                              go_simp
                              refine hK.out _ _ (fun _ => ⟨(keep_box (A := []) _).cs d3, (keep_box (A := []) _).cs y3, (keep_box (A := []) _).cs cf⟩) (fun _ => ?_)
                              clear hK K
                              try simp only [Act.put, List.setIfInBounds_toArray, List.set_cons_zero, List.set_cons_succ]
                              refine wpAnyB_one (k := 11) rfl (by kernel_rfl) (fun K hK => ?_)
                              (refine step_call (by rfl) 105 #[.tmp 113] #[144] (by rfl) #[.pointer (some ⟨row, j * 3, none⟩)] (by simp [go_sem]) _ (by rfl) ddta_body ddta_name (TP _ (by first | exact KX.drew.alloc _)) ?_; rintro e w2 ⟨c2, rfl, hc2, k2⟩; refine ⟨_, rfl, ?_⟩; obtain ⟨a1, p1, a2, p2, a3, p3, rfl, _⟩ := id hc2.cells; have kx : Keep [] wx w2 := (by first | exact ((Keep.refl _ _).drew.alloc _).trans k2); have hzb : w2.heap[wx.heap.size]? = some (.cells #[.int .i64 0, .slice none 0 0, .bool false, .slice none 0 0, .slice none 0 0] 37) := (k2.block wx.heap.size (by simp) (by simp)).trans (heap_alloc_new wx.drew _); have hcx : HT w2 (fun k => wx.heap.size ≤ k ∧ k < w2.heap.size) tj [.int .i64 tj.n, .slice a1 tj.s.length p1, .bool tj.null, .slice a2 tj.l.length p2, .slice a3 tj.u.length p3] := hc2.keepF (fun _ _ => rfl) (fun k hk => by have a1 := hk.1; have a2 := hk.2; simp at a1; exact ⟨by omega, a2⟩); have sy := sx.calm kx; have d3 := sy.d3; obtain ⟨lt1, lt2⟩ := sy.lts; obtain ⟨y3, y4⟩ := sy.l3 (o := 48) rfl)
                              refine hK.out _ _ (fun _ => ⟨d3, y3, kx.cs cf⟩) (fun _ => ?_)
                              clear hK K
                              try simp only [Act.put, List.setIfInBounds_toArray, List.set_cons_zero, List.set_cons_succ]
                              refine wpAnyB_one (k := 14) rfl (by kernel_rfl) (fun K hK => ?_)
                              (have _u0 := sy; obtain ⟨cs, e1, e2, e3, e4⟩ := (sy).lst; refine step_append_lies _ (by rfl) (.tmp 107) (.tmp 116) _ (by rfl) w0.heap.size 37 i0 _ 5 88 Tryz.underlying34 hi hz0 hz1 hz2 rfl (by omega) (.slice al j pl) _ cs.flatten (by rfl) e4 ⟨wx.heap.size, 0, none⟩ 1 1 [.int .i64 0, .slice none 0 0, .bool false, .slice none 0 0, .slice none 0 0] (by rfl) (by rfl) (World.news_of_block (cs := #[.int .i64 0, .slice none 0 0, .bool false, .slice none 0 0, .slice none 0 0]) hzb) (by simp [Value.oneCell']) (by omega) (by unfold maxLen; rw [HLEN.out]; omega) (by rw [HLEN.out]; omega) (sy).keep.size (w2.heap.size) (by simp) ?_; intro g cap w3 hown hgr hat hlt3; obtain ⟨y3, y4⟩ := (sy).row3 (o := 48) rfl hgr; have d3 := (sy).d3G hgr; have kU : Keep [] wx w2 := kx; have cf5 := ((hp0.keep (sx.keep.trans kU) (by simp)).grownC hgr (fun e => by have := sx.ownGe e; omega)).cell (o := o + 9) (j := 9) rfl rfl; have hU : HT w2 (fun k => wx.heap.size ≤ k ∧ k < w2.heap.size) tj [.int .i64 tj.n, .slice a1 tj.s.length p1, .bool tj.null, .slice a2 tj.l.length p2, .slice a3 tj.u.length p3] := hcx; have hat2 : (Value.slice al j pl).ownBlock = some g ∨ g = w2.heap.size := hat.imp id (fun e => (e)); rw [HLEN.out] at hown; obtain ⟨⟨cur, hV2, z0, z1, z2, z3, z4⟩, PS⟩ := sx.pushSet (x := tj) (v0 := .int .i64 tj.n) (v1 := .slice a1 tj.s.length p1) (v2 := .bool tj.null) (v3 := .slice a2 tj.l.length p2) (v4 := .slice a3 tj.u.length p3) (o := 48) rfl HLEN.out kU e1 e2 (by omega) hown hgr hat2; have HPS : Hid _ := PS hU; have HV2 : Hid _ := hV2; have HZ : Hid _ := And.intro z0 (And.intro z1 (And.intro z2 (And.intro z3 z4))); clear PS hV2 z0 z1 z2 z3 z4 e1 e2 e3 e4 hown hgr hat hat2 hU kU)
                              refine hK.out _ _ (fun _ => ⟨d3, y3, cf5⟩) (fun _ => ?_)
                              clear hK K
                              try simp only [Act.put, List.setIfInBounds_toArray, List.set_cons_zero, List.set_cons_succ]
                              refine wpAnyB_one (k := 15) rfl (by kernel_rfl) (fun K hK => ?_)
                              go_simp
                              refine hK.out _ _ (fun _ => ⟨d3, y3, cf5⟩) (fun _ => ?_)
                              clear hK K
                              try simp only [Act.put, List.setIfInBounds_toArray, List.set_cons_zero, List.set_cons_succ]
                              refine wpAnyB_one (k := 16) rfl (by kernel_rfl) (fun K hK => ?_)
                              go_simp
                              refine hK.out _ _ (fun _ => ⟨d3, y3, cf5⟩) (fun _ => ?_)
                              clear hK K
                              try simp only [Act.put, List.setIfInBounds_toArray, List.set_cons_zero, List.set_cons_succ]
                              refine wpAnyB_one (k := 17) rfl (by kernel_rfl) (fun K hK => ?_)
                              go_simp
                              refine hK.out _ _ (fun h => absurd rfl h) (fun _ => ?_)
                              clear hK K
                              refine wpAnyB_done (by kernel_rfl) ?_ _
                              obtain ⟨z0, z1, z2, z3, z4⟩ := HZ.out
                              have q0 := cellOf HV2.out (j * 5) _ z0
                              have qf0 := freeOf HV2.out (j * 5)
                              have q1 := cellOf HV2.out (j * 5 + 1) _ z1
                              have qf1 := freeOf HV2.out (j * 5 + 1)
                              have q2 := cellOf HV2.out (j * 5 + 2) _ z2
                              have qf2 := freeOf HV2.out (j * 5 + 2)
                              have q3 := cellOf HV2.out (j * 5 + 3) _ z3
                              have qf3 := freeOf HV2.out (j * 5 + 3)
                              have q4 := cellOf HV2.out (j * 5 + 4) _ z4
                              have qf4 := freeOf HV2.out (j * 5 + 4)
                              clear z0 z1 z2 z3 z4
                              go_upto_region 17 with fail
                              go_wp2_with fail
                              go_roundw
                              case rel =>
                                have Q := HPS.out
                                have eT : lx9.take (j + 1) = lx9.take j ++ [tj] := by rw [List.take_succ_eq_append_getElem hlt, HTJ.out]
                                rw [← eT] at Q
                                first | exact ⟨j + 1, _, by go_num, by omega, Q⟩ | exact ⟨j + 1, _, by go_num, by omega, Q.drew⟩ | exact ⟨j + 1, _, by go_num, by omega, Q.drew.drew⟩
                              case measure => simp [intOf]; omega
                        · have hnl : lx9.take j = lx9 := List.take_of_length_le (by omega)
                          rw [hnl] at sc
                          have scl := sc.close
                          clear sc hnl s10
                          have s11 := scl
                          clear scl
                          obtain ⟨U11, rfl⟩ : ∃ x : World, x = wr := ⟨_, rfl⟩
                          obtain ⟨arr, ty, hb1, hb2⟩ := (hp0.keep s11.keep (by simp)).whole (o := o + 10) (j := 10) rfl rfl
                          have KU := KW.trans s11.keep
                          have hmn : MP U11 G tv tags := hmp.keepF (hG.same KU) (fun _ h => h)
                          have EACH := tell_each (i := o + 10) (fn := 106) s11.tree hb1 hb2 hmn (hG.mono KU.size) (by omega) (fun h => by have := hG _ h; omega) ht1 ht2 (enters_of Tryz.func106 (by kernel_rfl) rfl) (fun h hx hk hv hd => ddtb_tag h hx hk hv hd (World.heap_lt s11.tree))
                          have hris := hmp.rising
                          have zE : w.heap.size + 1 + 1 + 1 ≤ U11.heap.size := World.heap_lt s11.tree
                          have HR0 : Hid _ := hr0
                          clear hb1 hb2 hmn hr0
                          go_wp2_with (first
                            | (go_at_call 55; go_loud (refine EACH.mono ?_; rintro e We ⟨rfl, u, q2, hog, ke⟩; obtain ⟨_, _, _, _, _, hrow⟩ := id hog; obtain ⟨au, pu, rfl⟩ := owns_shape hrow; have hze := ke.size; have q4 : We.cell? ⟨w.heap.size + 1 + 1, 4, none⟩ = some (.slice au tags.length pu) := cellOf q2 4 _ rfl; have hgs : HGs We (fun k => w.heap.size ≤ k ∧ k < We.heap.size) (.slice au tags.length pu) tags := hog.hgs (fun k hk => ⟨by omega, hk.2⟩) (fun k h1 h2 => ⟨by omega, h2⟩); have SO := sorted_any hgs (fun k hk => hk.2) hris.1; have Q2 : Hid _ := q2; clear q2))
                            | (go_at_call 57; go_loud (refine SO.mono ?_; rintro e Ws ⟨rfl, ks⟩; have hzs := ks.size; have g2 := (ks.block (w.heap.size + 1 + 1) (World.heap_lt Q2.out) (by simp)).trans Q2.out; have g0 := (ks.block (w.heap.size) (by omega) (by simp)).trans ((ke.block (w.heap.size) (by omega) (by simp; omega)).trans ((s11.keep.block (w.heap.size) (by omega) (by simp)).trans HR0.out)); have a0 : Ws.cell? ⟨w.heap.size + 1 + 1, 0, none⟩ = some (.int .i64 0) := cellOf g2 0 _ rfl; have a1 : Ws.cell? ⟨w.heap.size + 1 + 1, 1, none⟩ = some (.slice none 0 0) := cellOf g2 1 _ rfl; have a2 : Ws.cell? ⟨w.heap.size + 1 + 1, 2, none⟩ = some (.bool false) := cellOf g2 2 _ rfl; have a3 : Ws.cell? ⟨w.heap.size + 1 + 1, 3, none⟩ = some (.slice (some ⟨w.heap.size + 1, 0, none⟩) 10 10) := cellOf g2 3 _ rfl; have a4 : Ws.cell? ⟨w.heap.size + 1 + 1, 4, none⟩ = some (.slice au tags.length pu) := cellOf g2 4 _ rfl;  have p0 : Ws.cell? ⟨w.heap.size, 0, none⟩ = some (.int .i64 0) := cellOf g0 0 _ rfl; have pf0 := freeOf g0 0; have p1 : Ws.cell? ⟨w.heap.size, 1, none⟩ = some (.slice none 0 0) := cellOf g0 1 _ rfl; have pf1 := freeOf g0 1; have p2 : Ws.cell? ⟨w.heap.size, 2, none⟩ = some (.bool false) := cellOf g0 2 _ rfl; have pf2 := freeOf g0 2; have p3 : Ws.cell? ⟨w.heap.size, 3, none⟩ = some (.slice none 0 0) := cellOf g0 3 _ rfl; have pf3 := freeOf g0 3; have p4 : Ws.cell? ⟨w.heap.size, 4, none⟩ = some (.slice none 0 0) := cellOf g0 4 _ rfl; have pf4 := freeOf g0 4;  have G0 : Hid _ := g0; clear g0 g2 q4)))
                          have hr : (((((Ws.setCell ⟨w.heap.size, 0, none⟩ (.int .i64 0)).setCell ⟨w.heap.size, 1, none⟩ (.slice none 0 0)).setCell ⟨w.heap.size, 2, none⟩ (.bool false)).setCell ⟨w.heap.size, 3, none⟩ (.slice (some ⟨w.heap.size + 1, 0, none⟩) 10 10)).setCell ⟨w.heap.size, 4, none⟩ (.slice au tags.length pu)).heap[w.heap.size]? = some (.cells #[.int .i64 0, .slice none 0 0, .bool false, .slice (some ⟨w.heap.size + 1, 0, none⟩) 10 10, .slice au tags.length pu] 37 (0, 0)) := (set5 (o := 0) G0.out).1
                          have kr : Keep [w.heap.size] Ws (((((Ws.setCell ⟨w.heap.size, 0, none⟩ (.int .i64 0)).setCell ⟨w.heap.size, 1, none⟩ (.slice none 0 0)).setCell ⟨w.heap.size, 2, none⟩ (.bool false)).setCell ⟨w.heap.size, 3, none⟩ (.slice (some ⟨w.heap.size + 1, 0, none⟩) 10 10)).setCell ⟨w.heap.size, 4, none⟩ (.slice au tags.length pu)) := (set5 (o := 0) G0.out).2
                          clear a0 a1 a2 a3 a4 p0 p1 p2 p3 p4 pf0 pf1 pf2 pf3 pf4
                          generalize (((((Ws.setCell ⟨w.heap.size, 0, none⟩ (.int .i64 0)).setCell ⟨w.heap.size, 1, none⟩ (.slice none 0 0)).setCell ⟨w.heap.size, 2, none⟩ (.bool false)).setCell ⟨w.heap.size, 3, none⟩ (.slice (some ⟨w.heap.size + 1, 0, none⟩) 10 10)).setCell ⟨w.heap.size, 4, none⟩ (.slice au tags.length pu)) = Wr at *
                          have r0 : Wr.cell? ⟨w.heap.size, 0, none⟩ = some (.int .i64 0) := cellOf hr 0 _ rfl
                          have r1 : Wr.cell? ⟨w.heap.size, 1, none⟩ = some (.slice none 0 0) := cellOf hr 1 _ rfl
                          have r2 : Wr.cell? ⟨w.heap.size, 2, none⟩ = some (.bool false) := cellOf hr 2 _ rfl
                          have r3 : Wr.cell? ⟨w.heap.size, 3, none⟩ = some (.slice (some ⟨w.heap.size + 1, 0, none⟩) 10 10) := cellOf hr 3 _ rfl
                          have r4 : Wr.cell? ⟨w.heap.size, 4, none⟩ = some (.slice au tags.length pu) := cellOf hr 4 _ rfl
                          have hzr := kr.size
                          obtain ⟨css, c1, c2, c3⟩ := s11.row
                          have hlb := World.heap_lt c3
                          have kA : ∀ k, k < U11.heap.size → k ≠ w.heap.size + 1 + 1 → w.heap.size < k → Wr.heap[k]? = U11.heap[k]? := fun k h1 h2 h3 => (kr.block k (by omega) (by simp; omega)).trans ((ks.block k (by omega) (by simp)).trans (ke.block k h1 (by simp; omega)))
                          have hA := (kA (w.heap.size + 1) hlb (by omega) (by omega)).trans c3
                          have hgr : HGs Wr (fun k => w.heap.size ≤ k ∧ k < Wr.heap.size) (.slice au tags.length pu) tags := by
                            have h1 := hog.hgs (G' := fun k => w.heap.size + 1 + 1 < k ∧ k < We.heap.size) (fun k hk => ⟨by omega, hk.2⟩) (fun k h1 h2 => ⟨by omega, h2⟩)
                            exact h1.keepF (fun k hk => (kr.block k (by omega) (by simp; omega)).trans (ks.block k hk.2 (by simp))) (fun k hk => ⟨by omega, by omega⟩)
                          have KR : Keep [] w Wr := Keep.fresh (B := []) ((KU.weaken (B := [w.heap.size, w.heap.size + 1 + 1]) (by simp)).trans ((ke.weaken (by simp)).trans ((ks.weaken (by simp)).trans (kr.weaken (by simp))))) (by simp; omega)
                          refine bodyPost_ret (v := .agg #[.int .i64 0, .slice none 0 0, .bool false, .slice (some ⟨w.heap.size + 1, 0, none⟩) 10 10, .slice au tags.length pu]) (by simp [results, Tryz.results74, go_sem, r0, r1, r2, r3, r4]) rfl ⟨[.int .i64 0, .slice none 0 0, .bool false, .slice (some ⟨w.heap.size + 1, 0, none⟩) 10 10, .slice au tags.length pu], rfl, ?_, KR⟩
                          have hlt := World.heap_lt hA
                          refine HT.of 0 [] false _ tags (RB.nil _ _) ?_ hgr (by decide) (by decide) (by decide) (by simp)
                          exact HTs.block (w := Wr) (cs := css) hA (by simp) ⟨by omega, hlt⟩ rfl c1 (fun i a c => (c2 i a c).keepF (fun k hk => kA k hk.2.1 hk.2.2.1 (by have := hk.1; omega)) (fun k hk => ⟨by have := hk.1; omega, by have := hk.2.1; omega⟩)) (by simp)
end Go.Proofs.YtdklogmmfnddiaaGreatDoor
