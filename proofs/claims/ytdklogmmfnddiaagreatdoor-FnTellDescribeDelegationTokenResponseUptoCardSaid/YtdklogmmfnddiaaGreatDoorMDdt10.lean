/-
  DescribeDelegationTokenResponse: telling.
-/
import Derived.Test.YtdklogmmfnddiaaGreatDoorMB18
import Derived.Test.YtdklogmmfnddiaaGreatDoorMB15
import Derived.Test.YtdklogmmfnddiaaGreatDoorMDdt1
import Derived.Deep.CutBlock
import Derived.Deep.DeepCutAuto
namespace Go.Proofs.YtdklogmmfnddiaaGreatDoor
open Go.ChangeShapes Go.WideShapes Go.ChangeAt Go.RowKit

set_option maxHeartbeats 800000 in
set_option maxRecDepth 100000 in
theorem ddta_tag {W0 W : World} {tb : Nat} {n s nul l x : Value} {d : List Tg} {J : Nat → Prop} {key : Nat} {val : Bs} {G : Nat → Prop} (h : TSt W0 tb n s nul l d J W) (hx : RB W G x val) (hk : key < 4294967296) (hval : val.length ≤ 1000000) (hd : d.length ≤ 1000000000000) (htb : tb < W0.heap.size) :
    Calls Tryz.prog 119 #[.int .u32 (key : Int), x, .pointer (some ⟨tb, 0, none⟩)] W fun e W' => e = .returned (.tuple #[]) ∧ ∃ J', TSt W0 tb n s nul l (d ++ [(key, val)]) J' W' ∧ (∀ j, J' j → J j ∨ W.heap.size ≤ j) ∧ Chg J W W' := by
  obtain ⟨u, h1, h2, hJ, hW, h5⟩ := h
  obtain ⟨ax, cx, rfl⟩ := RS.shape hx
  have h2' := h2
  obtain ⟨vs0, _, _, _, _, hr0⟩ := h2'
  have hu : ∀ k, u.ownBlock = some k → W0.heap.size ≤ k ∧ k < W.heap.size := fun k e => hr0.lt k e
  have c4 : W.cell? ⟨tb, 4, none⟩ = some u := cellOf h1 4 _ rfl
  have f4 := freeOf h1 4
  have htl : tb < W.heap.size := by omega
  obtain ⟨j0, hj, hy0, hy1, hy2⟩ := info_agg info_ig zero_ig
  have H1 : Hid _ := h1
  have hxd : RB W.drew G (.slice ax val.length cx) val := hx
  obtain ⟨ao, cp, rfl⟩ := owns_shape hr0
  clear h1 hr0
  go_enter Tryz.func119, Tryz.ntmps119
  go_region_law (first
    | (refine app_step (by rfl) (.const (.slice none 0 0)) (.tmp 8) (by rfl) W.heap.size (.slice none 0 0) [] (by rfl) (OB.nil _ _) _ val G (by rfl) hxd (by simp; omega) (Nat.le_refl _) ?_; intro v2 w2 hob hg2; obtain ⟨a2, p2, rfl⟩ := hob.len; have k2 : Keep [] W w2 := (Keep.refl _ _).drew.grown hg2 (by simp [Value.ownBlock]); have hz2 := k2.size; have c4b := (k2.cell (p := ⟨tb, 4, none⟩) htl (by simp)).trans c4; have htl2 : tb < w2.heap.size := (by omega))
    | (obtain ⟨cs, e1, e2, e3, e6, e4⟩ := h2.keepF (w' := w2.alloc (.cells #[.int .u32 (key : Int), .slice a2 ([] ++ val).length p2] 69)) (G' := fun k => W0.heap.size ≤ k ∧ k < (w2.alloc (.cells #[.int .u32 (key : Int), .slice a2 ([] ++ val).length p2] 69)).heap.size) (fun k hk' => (k2.alloc _).block k hk'.2 (by simp)) (fun k hk' => ⟨hk'.1, by simp; have := hk'.2; omega⟩) (fun k e => (k2.alloc _).block k (hu k e).2 (by simp)); refine step_append_lies _ (by rfl) (.tmp 6) (.tmp 11) _ (by rfl) W0.heap.size 69 j0 _ 2 32 Tryz.underlying35 hj hy0 hy1 hy2 rfl (by omega) (.slice ao d.length cp) _ _ (by rfl) e4 ⟨w2.heap.size, 0, none⟩ 1 1 [.int .u32 (key : Int), .slice a2 ([] ++ val).length p2] (by rfl) (by rfl) (World.news_of_block (cs := #[.int .u32 (key : Int), .slice a2 ([] ++ val).length p2]) (heap_alloc_new w2 _)) (by intro y hy; simp at hy; rcases hy with rfl | rfl <;> rfl) (by omega) (by unfold maxLen; omega) (by omega) (by simp; omega) (w2.heap.size + 1) (by simp) ?_; intro g cap w3 hown1 hgr hat hlt3; have x3 := (hgr.block tb (by simp; omega) (fun e => by have := hu tb e.symm; omega)).trans (((k2.alloc (.cells #[.int .u32 (key : Int), .slice a2 ([] ++ val).length p2] 69)).block tb htl List.not_mem_nil).trans H1.out); have z4 := cellOf x3 4 _ rfl; have f4' := freeOf x3 4; have X3 : Hid _ := x3; clear x3))
  all_goals (refine bodyPost_end (v := .tuple #[]) (by simp [results, Tryz.results119, go_sem]) rfl ⟨rfl, ?_⟩)
  all_goals exact TSt.push (x := (key, val)) htb hW h5 H1.out hJ hu (k2.alloc _) e1 e2 e3 (hob.rb.keepF (w' := w2.alloc (.cells #[.int .u32 (key : Int), .slice a2 ([] ++ val).length p2] 69)) (fun k hk' => (keep_box (A := []) _).block k hk'.2 (by simp)) (fun k hk' => ⟨hk'.1, by simp; have := hk'.2; omega⟩)) ⟨hk, by simp only; omega⟩ (by omega) hown1 hgr (hat.imp id (fun h => by simp; omega))

theorem ddta_body : Tryz.f105.body.isNone = false := by kernel_rfl
theorem ddta_name : (Tryz.f105.name == "runtime.NumGoroutine") = false := by kernel_rfl
theorem ddta_make (u : World) : (Instr.makeSlice 34 (.int .i64 2) (.int .i64 2)).run Tryz.prog u = .ok (.slice (some ⟨u.heap.size, 0, none⟩) 2 2) (u.alloc (.cells #[.int .i64 0, .slice none 0 0, .bool false, .slice none 0 0, .slice none 0 0, .int .i64 0, .slice none 0 0, .bool false, .slice none 0 0, .slice none 0 0] 37)) := by kernel_rfl
set_option maxHeartbeats 20000000 in
set_option maxRecDepth 100000 in
theorem ddta_tell {G : Nat → Prop} {b o : Nat} {c : List Value} {t : T} {w : World} (hp : Pt w b o c) (hv : VK w G 10 (-1) (VFs w G q_DescribeDelegationTokenResponseTokenDetailRenewer) c t) (hG : There G w) (hs : small 1000000 t) :
    Calls Tryz.prog 105 #[.pointer (some ⟨b, o, none⟩)] w fun e w' => ∃ c', e = .returned (.agg c'.toArray) ∧ HT w' (fun k => w.heap.size ≤ k ∧ k < w'.heap.size) t c' ∧ Keep [] w w' := by
  obtain ⟨cs, tv, l, tags, rfl, hf, hmp, rfl⟩ : ∃ cs v l u, c = cs ++ [v] ∧ VFs w G q_DescribeDelegationTokenResponseTokenDetailRenewer cs l ∧ MP w G v u ∧ t = .mk 0 [] false l u := hv
  simp only [small] at hs
  obtain ⟨_, _, ht2, ht1, hsl⟩ := hs
  unfold q_DescribeDelegationTokenResponseTokenDetailRenewer at hf
  obtain ⟨c0, cr0, t0, l0, rfl, rfl, hf0, hr0⟩ := hf
  have hf := hr0
  obtain ⟨c1, cr1, t1, l1, rfl, rfl, hf1, hr1⟩ := hf
  have hf := hr1
  obtain ⟨rfl, rfl⟩ := hf
  clear hr0
  clear hr1
  have hs0 : small 1000000 t0 := smalls_mem hsl _ (by simp)
  obtain ⟨n0, rfl, rfl⟩ := vf_str_inv (by decide) hf0
  have hs1 : small 1000000 t1 := smalls_mem hsl _ (by simp)
  obtain ⟨n1, rfl, rfl⟩ := vf_str_inv (by decide) hf1
  clear hf0 hf1 hsl
  simp only [List.cons_append, List.nil_append] at hp
  have hpl := hp.lt
  have hmk := ddta_make
  go_enter Tryz.func105, Tryz.ntmps105
  go_upto_region 2 with fail
  clear hmk
  obtain ⟨w0, hw0⟩ : ∃ x, x = (w.alloc (.cells #[.int .i64 0, .slice none 0 0, .bool false, .slice none 0 0, .slice none 0 0] 37)) := ⟨_, rfl⟩
  have hz0 : w0.heap.size = w.heap.size + 1 := by rw [hw0]; simp
  have KW : Keep [] w w0 := by rw [hw0]; exact keep_box _
  have hr0 : w0.heap[w.heap.size]? = some (.cells #[.int .i64 0, .slice none 0 0, .bool false, .slice none 0 0, .slice none 0 0] 37 (0, 0)) := by rw [hw0]; exact heap_alloc_new w _
  have s0 : TlSt w0 (((w.alloc (.cells #[.int .i64 0, .slice none 0 0, .bool false, .slice none 0 0, .slice none 0 0] 37)).alloc (.cells #[.int .i64 0, .slice none 0 0, .bool false, .slice none 0 0, .slice none 0 0, .int .i64 0, .slice none 0 0, .bool false, .slice none 0 0, .slice none 0 0] 37)).alloc (.cells #[.int .i64 0, .slice none 0 0, .bool false, .slice (some ⟨w.heap.size + 1, 0, none⟩) 2 2, .slice none 0 0] 37)) (w.heap.size + 1 + 1) (w.heap.size + 1) 2 [] [.int .i64 0, .slice none 0 0, .bool false, .slice none 0 0, .slice none 0 0, .int .i64 0, .slice none 0 0, .bool false, .slice none 0 0, .slice none 0 0] := by rw [← hw0]; exact TlSt.start hz0
  have hp0 := hp.keep KW (by simp)
  have hG0 : There G w0 := hG.mono KW.size
  clear hw0
  generalize (((w.alloc (.cells #[.int .i64 0, .slice none 0 0, .bool false, .slice none 0 0, .slice none 0 0] 37)).alloc (.cells #[.int .i64 0, .slice none 0 0, .bool false, .slice none 0 0, .slice none 0 0, .int .i64 0, .slice none 0 0, .bool false, .slice none 0 0, .slice none 0 0] 37)).alloc (.cells #[.int .i64 0, .slice none 0 0, .bool false, .slice (some ⟨w.heap.size + 1, 0, none⟩) 2 2, .slice none 0 0] 37)) = U0 at *
  go_upto_region 2 with fail
  go_cut [] (fun wx => TlSt w0 wx (w.heap.size + 1 + 1) (w.heap.size + 1) 2 [(.mk 0 n0 false [] [])] [.int .i64 0, .slice none 0 0, .bool false, .slice none 0 0, .slice none 0 0])
  case first =>
    have d3 := s0.d3
    obtain ⟨lt1, lt2⟩ := s0.lts
    obtain ⟨e0, g0⟩ := s0.at_ (o := 0) (j := 0) rfl rfl
    obtain ⟨e1, g1⟩ := s0.at_ (o := 1) (j := 1) rfl rfl
    obtain ⟨e2, g2⟩ := s0.at_ (o := 2) (j := 2) rfl rfl
    obtain ⟨e3, g3⟩ := s0.at_ (o := 3) (j := 3) rfl rfl
    obtain ⟨e4, g4⟩ := s0.at_ (o := 4) (j := 4) rfl rfl
    have cf := (hp0.keep s0.keep (by simp)).cell (o := o) (j := 0) rfl rfl
    have hl0 : n0.length ≤ 1000000 := hs0.1
    have hcv := fun w => run_bytes_of_string (P := Tryz.prog) w 9 22 5 ⟨n0.toArray⟩ Tryz.underlying9 Tryz.underlying22 Tryz.underlying5
    go_region
    all_goals (try go_wp2_with fail)
    all_goals go_meet
    all_goals (have Q := fun cap hc fr => s0.putText2 (o0 := 0) (o1 := 1) (o2 := 2) (o3 := 3) (o4 := 4) rfl rfl rfl rfl rfl n0 hl0 cap 5 hc fr)
    all_goals exact Q _ (grownCap_ge _ _ _ _) _
  case rest =>
    have s1 := hcut
    clear hcut s0
    obtain ⟨U1, rfl⟩ : ∃ x : World, x = wc := ⟨_, rfl⟩
    go_upto_region 3 with fail
    go_cut [] (fun wx => TlSt w0 wx (w.heap.size + 1 + 1) (w.heap.size + 1) 2 [(.mk 0 n0 false [] []), (.mk 0 n1 false [] [])] [])
    case first =>
      have d3 := s1.d3
      obtain ⟨lt1, lt2⟩ := s1.lts
      obtain ⟨e0, g0⟩ := s1.at_ (o := 5) (j := 0) rfl rfl
      obtain ⟨e1, g1⟩ := s1.at_ (o := 6) (j := 1) rfl rfl
      obtain ⟨e2, g2⟩ := s1.at_ (o := 7) (j := 2) rfl rfl
      obtain ⟨e3, g3⟩ := s1.at_ (o := 8) (j := 3) rfl rfl
      obtain ⟨e4, g4⟩ := s1.at_ (o := 9) (j := 4) rfl rfl
      have cf := (hp0.keep s1.keep (by simp)).cell (o := o + 1) (j := 1) rfl rfl
      have hl1 : n1.length ≤ 1000000 := hs1.1
      have hcv := fun w => run_bytes_of_string (P := Tryz.prog) w 9 22 5 ⟨n1.toArray⟩ Tryz.underlying9 Tryz.underlying22 Tryz.underlying5
      go_region
      all_goals (try go_wp2_with fail)
      all_goals go_meet
      all_goals (have Q := fun cap hc fr => s1.putText2 (o0 := 5) (o1 := 6) (o2 := 7) (o3 := 8) (o4 := 9) rfl rfl rfl rfl rfl n1 hl1 cap 5 hc fr)
      all_goals exact Q _ (grownCap_ge _ _ _ _) _
    case rest =>
      have s2 := hcut
      clear hcut s1
      obtain ⟨U2, rfl⟩ : ∃ x : World, x = wc := ⟨_, rfl⟩
      obtain ⟨arr, ty, hb1, hb2⟩ := (hp0.keep s2.keep (by simp)).whole (o := o + 2) (j := 2) rfl rfl
      have KU := KW.trans s2.keep
      have hmn : MP U2 G tv tags := hmp.keepF (hG.same KU) (fun _ h => h)
      have EACH := tell_each (i := o + 2) (fn := 119) s2.tree hb1 hb2 hmn (hG.mono KU.size) (by omega) (fun h => by have := hG _ h; omega) ht1 ht2 (enters_of Tryz.func119 (by kernel_rfl) rfl) (fun h hx hk hv hd => ddta_tag h hx hk hv hd (World.heap_lt s2.tree))
      have hris := hmp.rising
      have zE : w.heap.size + 1 + 1 + 1 ≤ U2.heap.size := World.heap_lt s2.tree
      have HR0 : Hid _ := hr0
      clear hb1 hb2 hmn hr0
      go_wp2_with (first
        | (go_at_call 55; go_loud (refine EACH.mono ?_; rintro e We ⟨rfl, u, q2, hog, ke⟩; obtain ⟨_, _, _, _, _, hrow⟩ := id hog; obtain ⟨au, pu, rfl⟩ := owns_shape hrow; have hze := ke.size; have q4 : We.cell? ⟨w.heap.size + 1 + 1, 4, none⟩ = some (.slice au tags.length pu) := cellOf q2 4 _ rfl; have hgs : HGs We (fun k => w.heap.size ≤ k ∧ k < We.heap.size) (.slice au tags.length pu) tags := hog.hgs (fun k hk => ⟨by omega, hk.2⟩) (fun k h1 h2 => ⟨by omega, h2⟩); have SO := sorted_any hgs (fun k hk => hk.2) hris.1; have Q2 : Hid _ := q2; clear q2))
        | (go_at_call 57; go_loud (refine SO.mono ?_; rintro e Ws ⟨rfl, ks⟩; have hzs := ks.size; have g2 := (ks.block (w.heap.size + 1 + 1) (World.heap_lt Q2.out) (by simp)).trans Q2.out; have g0 := (ks.block (w.heap.size) (by omega) (by simp)).trans ((ke.block (w.heap.size) (by omega) (by simp; omega)).trans ((s2.keep.block (w.heap.size) (by omega) (by simp)).trans HR0.out)); have a0 : Ws.cell? ⟨w.heap.size + 1 + 1, 0, none⟩ = some (.int .i64 0) := cellOf g2 0 _ rfl; have a1 : Ws.cell? ⟨w.heap.size + 1 + 1, 1, none⟩ = some (.slice none 0 0) := cellOf g2 1 _ rfl; have a2 : Ws.cell? ⟨w.heap.size + 1 + 1, 2, none⟩ = some (.bool false) := cellOf g2 2 _ rfl; have a3 : Ws.cell? ⟨w.heap.size + 1 + 1, 3, none⟩ = some (.slice (some ⟨w.heap.size + 1, 0, none⟩) 2 2) := cellOf g2 3 _ rfl; have a4 : Ws.cell? ⟨w.heap.size + 1 + 1, 4, none⟩ = some (.slice au tags.length pu) := cellOf g2 4 _ rfl;  have p0 : Ws.cell? ⟨w.heap.size, 0, none⟩ = some (.int .i64 0) := cellOf g0 0 _ rfl; have pf0 := freeOf g0 0; have p1 : Ws.cell? ⟨w.heap.size, 1, none⟩ = some (.slice none 0 0) := cellOf g0 1 _ rfl; have pf1 := freeOf g0 1; have p2 : Ws.cell? ⟨w.heap.size, 2, none⟩ = some (.bool false) := cellOf g0 2 _ rfl; have pf2 := freeOf g0 2; have p3 : Ws.cell? ⟨w.heap.size, 3, none⟩ = some (.slice none 0 0) := cellOf g0 3 _ rfl; have pf3 := freeOf g0 3; have p4 : Ws.cell? ⟨w.heap.size, 4, none⟩ = some (.slice none 0 0) := cellOf g0 4 _ rfl; have pf4 := freeOf g0 4;  have G0 : Hid _ := g0; clear g0 g2 q4)))
      have hr : (((((Ws.setCell ⟨w.heap.size, 0, none⟩ (.int .i64 0)).setCell ⟨w.heap.size, 1, none⟩ (.slice none 0 0)).setCell ⟨w.heap.size, 2, none⟩ (.bool false)).setCell ⟨w.heap.size, 3, none⟩ (.slice (some ⟨w.heap.size + 1, 0, none⟩) 2 2)).setCell ⟨w.heap.size, 4, none⟩ (.slice au tags.length pu)).heap[w.heap.size]? = some (.cells #[.int .i64 0, .slice none 0 0, .bool false, .slice (some ⟨w.heap.size + 1, 0, none⟩) 2 2, .slice au tags.length pu] 37 (0, 0)) := (set5 (o := 0) G0.out).1
      have kr : Keep [w.heap.size] Ws (((((Ws.setCell ⟨w.heap.size, 0, none⟩ (.int .i64 0)).setCell ⟨w.heap.size, 1, none⟩ (.slice none 0 0)).setCell ⟨w.heap.size, 2, none⟩ (.bool false)).setCell ⟨w.heap.size, 3, none⟩ (.slice (some ⟨w.heap.size + 1, 0, none⟩) 2 2)).setCell ⟨w.heap.size, 4, none⟩ (.slice au tags.length pu)) := (set5 (o := 0) G0.out).2
      clear a0 a1 a2 a3 a4 p0 p1 p2 p3 p4 pf0 pf1 pf2 pf3 pf4
      generalize (((((Ws.setCell ⟨w.heap.size, 0, none⟩ (.int .i64 0)).setCell ⟨w.heap.size, 1, none⟩ (.slice none 0 0)).setCell ⟨w.heap.size, 2, none⟩ (.bool false)).setCell ⟨w.heap.size, 3, none⟩ (.slice (some ⟨w.heap.size + 1, 0, none⟩) 2 2)).setCell ⟨w.heap.size, 4, none⟩ (.slice au tags.length pu)) = Wr at *
      have r0 : Wr.cell? ⟨w.heap.size, 0, none⟩ = some (.int .i64 0) := cellOf hr 0 _ rfl
      have r1 : Wr.cell? ⟨w.heap.size, 1, none⟩ = some (.slice none 0 0) := cellOf hr 1 _ rfl
      have r2 : Wr.cell? ⟨w.heap.size, 2, none⟩ = some (.bool false) := cellOf hr 2 _ rfl
      have r3 : Wr.cell? ⟨w.heap.size, 3, none⟩ = some (.slice (some ⟨w.heap.size + 1, 0, none⟩) 2 2) := cellOf hr 3 _ rfl
      have r4 : Wr.cell? ⟨w.heap.size, 4, none⟩ = some (.slice au tags.length pu) := cellOf hr 4 _ rfl
      have hzr := kr.size
      obtain ⟨css, c1, c2, c3⟩ := s2.row
      have hlb := World.heap_lt c3
      have kA : ∀ k, k < U2.heap.size → k ≠ w.heap.size + 1 + 1 → w.heap.size < k → Wr.heap[k]? = U2.heap[k]? := fun k h1 h2 h3 => (kr.block k (by omega) (by simp; omega)).trans ((ks.block k (by omega) (by simp)).trans (ke.block k h1 (by simp; omega)))
      have hA := (kA (w.heap.size + 1) hlb (by omega) (by omega)).trans c3
      have hgr : HGs Wr (fun k => w.heap.size ≤ k ∧ k < Wr.heap.size) (.slice au tags.length pu) tags := by
        have h1 := hog.hgs (G' := fun k => w.heap.size + 1 + 1 < k ∧ k < We.heap.size) (fun k hk => ⟨by omega, hk.2⟩) (fun k h1 h2 => ⟨by omega, h2⟩)
        exact h1.keepF (fun k hk => (kr.block k (by omega) (by simp; omega)).trans (ks.block k hk.2 (by simp))) (fun k hk => ⟨by omega, by omega⟩)
      have KR : Keep [] w Wr := Keep.fresh (B := []) ((KU.weaken (B := [w.heap.size, w.heap.size + 1 + 1]) (by simp)).trans ((ke.weaken (by simp)).trans ((ks.weaken (by simp)).trans (kr.weaken (by simp))))) (by simp; omega)
      refine bodyPost_ret (v := .agg #[.int .i64 0, .slice none 0 0, .bool false, .slice (some ⟨w.heap.size + 1, 0, none⟩) 2 2, .slice au tags.length pu]) (by simp [results, Tryz.results105, go_sem, r0, r1, r2, r3, r4]) rfl ⟨[.int .i64 0, .slice none 0 0, .bool false, .slice (some ⟨w.heap.size + 1, 0, none⟩) 2 2, .slice au tags.length pu], rfl, ?_, KR⟩
      have hlt := World.heap_lt hA
      refine HT.of 0 [] false _ tags (RB.nil _ _) ?_ hgr (by decide) (by decide) (by decide) (by simp)
      exact HTs.block (w := Wr) (cs := css) hA (by simp) ⟨by omega, hlt⟩ rfl c1 (fun i a c => (c2 i a c).keepF (fun k hk => kA k hk.2.1 hk.2.2.1 (by have := hk.1; omega)) (fun k hk => ⟨by have := hk.1; omega, by have := hk.2.1; omega⟩)) (by simp)
end Go.Proofs.YtdklogmmfnddiaaGreatDoor
