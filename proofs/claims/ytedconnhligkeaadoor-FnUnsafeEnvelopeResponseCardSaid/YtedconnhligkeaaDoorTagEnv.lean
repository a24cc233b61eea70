/-
  tellEnvelopeResponse: the call that Tags.Each makes for each tag.
-/
import Derived.Test.YtedconnhligkeaaDoorTellP
namespace Go.Proofs.YtedconnhligkeaaDoor
open Go.ChangeShapes Go.WideShapes Go.ChangeAt Go.RowKit

set_option maxHeartbeats 800000 in
set_option maxRecDepth 100000 in
theorem env_tag {W0 W : World} {tb : Nat} {n s nul l x : Value} {d : List Tg} {J : Nat → Prop} {key : Nat} {val : Bs} {G : Nat → Prop} (h : TSt W0 tb n s nul l d J W) (hx : RB W G x val) (hk : key < 4294967296) (hval : val.length ≤ 1000000) (hd : d.length ≤ 1000000000000) (htb : tb < W0.heap.size) :
    Calls Tryd.prog 35 #[.int .u32 (key : Int), x, .pointer (some ⟨tb, 0, none⟩)] W fun e W' => e = .returned (.tuple #[]) ∧ ∃ J', TSt W0 tb n s nul l (d ++ [(key, val)]) J' W' ∧ (∀ j, J' j → J j ∨ W.heap.size ≤ j) ∧ Chg J W W' := by
  obtain ⟨u, h1, h2, hJ, hW, h5⟩ := h
  obtain ⟨ax, cx, rfl⟩ := RS.shape hx
  have h2' := h2
  obtain ⟨vs0, _, _, _, _, hr0⟩ := h2'
  have hu : ∀ k, u.ownBlock = some k → W0.heap.size ≤ k ∧ k < W.heap.size := fun k e => hr0.lt k e
  have c4 : W.cell? ⟨tb, 4, none⟩ = some u := cellOf h1 4 _ rfl
  have f4 := freeOf h1 4
  have htl : tb < W.heap.size := by omega
  obtain ⟨j0, hj, hy0, hy1, hy2⟩ := info_agg info_ig zero_ig
  have H1 : Hid _ := h1
  have hxd : RB W.drew G (.slice ax val.length cx) val := hx
  obtain ⟨ao, cp, rfl⟩ := owns_shape hr0
  clear h1 hr0
  go_enter Tryd.func35, Tryd.ntmps35
  go_region_law (first
    | (refine app_step (by rfl) (.const (.slice none 0 0)) (.tmp 8) (by rfl) W.heap.size (.slice none 0 0) [] (by rfl) (OB.nil _ _) _ val G (by rfl) hxd (by simp; omega) (Nat.le_refl _) ?_; intro v2 w2 hob hg2; obtain ⟨a2, p2, rfl⟩ := hob.len; have k2 : Keep [] W w2 := (Keep.refl _ _).drew.grown hg2 (by simp [Value.ownBlock]); have hz2 := k2.size; have c4b := (k2.cell (p := ⟨tb, 4, none⟩) htl (by simp)).trans c4; have htl2 : tb < w2.heap.size := (by omega))
    | (obtain ⟨cs, e1, e2, e3, e6, e4⟩ := h2.keepF (w' := w2.alloc (.cells #[.int .u32 (key : Int), .slice a2 ([] ++ val).length p2] 51)) (G' := fun k => W0.heap.size ≤ k ∧ k < (w2.alloc (.cells #[.int .u32 (key : Int), .slice a2 ([] ++ val).length p2] 51)).heap.size) (fun k hk' => (k2.alloc _).block k hk'.2 (by simp)) (fun k hk' => ⟨hk'.1, by simp; have := hk'.2; omega⟩) (fun k e => (k2.alloc _).block k (hu k e).2 (by simp)); refine step_append_lies _ (by rfl) (.tmp 6) (.tmp 11) _ (by rfl) W0.heap.size 51 j0 _ 2 32 Tryd.underlying25 hj hy0 hy1 hy2 rfl (by omega) (.slice ao d.length cp) _ _ (by rfl) e4 ⟨w2.heap.size, 0, none⟩ 1 1 [.int .u32 (key : Int), .slice a2 ([] ++ val).length p2] (by rfl) (by rfl) (World.news_of_block (cs := #[.int .u32 (key : Int), .slice a2 ([] ++ val).length p2]) (heap_alloc_new w2 _)) (by intro y hy; simp at hy; rcases hy with rfl | rfl <;> rfl) (by omega) (by unfold maxLen; omega) (by omega) (by simp; omega) (w2.heap.size + 1) (by simp) ?_; intro g cap w3 hown1 hgr hat hlt3; have x3 := (hgr.block tb (by simp; omega) (fun e => by have := hu tb e.symm; omega)).trans (((k2.alloc (.cells #[.int .u32 (key : Int), .slice a2 ([] ++ val).length p2] 51)).block tb htl List.not_mem_nil).trans H1.out); have z4 := cellOf x3 4 _ rfl; have f4' := freeOf x3 4; have X3 : Hid _ := x3; clear x3))
  all_goals (refine bodyPost_end (v := .tuple #[]) (by simp [results, Tryd.results35, go_sem]) rfl ⟨rfl, ?_⟩)
  all_goals exact TSt.push (x := (key, val)) htb hW h5 H1.out hJ hu (k2.alloc _) e1 e2 e3 (hob.rb.keepF (w' := w2.alloc (.cells #[.int .u32 (key : Int), .slice a2 ([] ++ val).length p2] 51)) (fun k hk' => (keep_box (A := []) _).block k hk'.2 (by simp)) (fun k hk' => ⟨hk'.1, by simp; have := hk'.2; omega⟩)) ⟨hk, by simp only; omega⟩ (by omega) hown1 hgr (hat.imp id (fun h => by simp; omega))
end Go.Proofs.YtedconnhligkeaaDoor
