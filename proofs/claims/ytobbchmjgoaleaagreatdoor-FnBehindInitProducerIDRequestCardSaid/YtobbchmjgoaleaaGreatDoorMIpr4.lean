/-
  InitProducerIDRequest: reading.
-/
import Derived.Test.YtobbchmjgoaleaaGreatDoorMIpr1
import Derived.Deep.CutBlock
import Derived.Deep.DeepCutAuto
namespace Go.Proofs.YtobbchmjgoaleaaGreatDoor
open Go.ChangeShapes Go.WideShapes Go.ChangeAt Go.RowKit

set_option maxHeartbeats 4000000 in
set_option maxRecDepth 100000 in
theorem ipr_read_1s {G : Nat → Prop} {b : Nat} {p : Addr} {l : Bs} {src : Value} {w : World} {ver : Int} (hb : w.heap[b]? = some (.cells #[.int .i16 ver, .pointer none, .int .i32 0, .int .i64 (-1), .int .i16 (-1), .map none] 104 (0, 0))) (hl : RB w G src l) (hG : There G w) (hGb : ¬ G b) (hg : Gl w p) (hp : b ≠ 1) (hv0 : 0 ≤ ver) (_B2 : 2 ≤ ver) (_B3 : ¬ 3 ≤ ver) :
    Calls Tryz.prog 148 #[.pointer (some ⟨b, 0, none⟩), src, .bool false] w fun e w' => e = .returned (errV p (rdPart q_InitProducerIDRequest ver true (l, false)).2.2) ∧ Keep [b] w w' ∧ ((rdPart q_InitProducerIDRequest ver true (l, false)).2.2 = false → VM w' (New G w w') b q_InitProducerIDRequest 104 ver (rdPart q_InitProducerIDRequest ver true (l, false)).1) := by
  obtain ⟨ao, cap, rfl⟩ := RS.shape hl
  have hbl : b < w.heap.size := World.heap_lt hb
  have hp1 : 1 < w.heap.size := World.block_lt_of_cell? w _ hg
  have cv : (w.alloc (.cells #[.slice ao l.length cap, .bool false] 175)).cell? ⟨b, 0, none⟩ = some (.int .i16 ver) := ((keep_box (A := []) _).cell (p := ⟨b, 0, none⟩) hbl (by simp)).trans (cellOf hb 0 _ rfl)
  have h0 : ElSt w (w.alloc (.cells #[.slice ao l.length cap, .bool false] 175)) b w.heap.size G (l, false) [.int .i16 ver] [] [.pointer none, .int .i32 0, .int .i64 (-1), .int .i16 (-1), .map none] [] 104 [] [] :=
    ⟨⟨_, heap_alloc_new w _, hl.keepF (hG.same (keep_box _)) (fun _ h => h)⟩, ((keep_box (A := []) _).block b hbl (by simp)).trans hb, ⟨rfl, rfl⟩, (keep_box (A := []) _).weaken (by simp), hG, hGb, (fun e => by have := hG _ e; omega), hbl, by omega⟩
  have hd3 := cellOf hb 3 _ rfl
  have hf3 := freeOf hb 3
  have hd4 := cellOf hb 4 _ rfl
  have hf4 := freeOf hb 4
  clear hb
  have HEQ0 : Hid (rdPart q_InitProducerIDRequest ver true (l, false) = (.mk 0 [] false [(nstrT (rdCNStr (l, false)).1), (.mk (rdI 4 (rdCNStr (l, false)).2).1 [] false [] []), (.mk (-1) [] false [] []), (.mk (-1) [] false [] [])] (rdTags (rdI 4 (rdCNStr (l, false)).2).2).1, (rdTags (rdI 4 (rdCNStr (l, false)).2).2).2)) := by
    show _ = _
    simp [rdPart, rdK, rdPartOf, q_InitProducerIDRequest, rdFs, (has_yes (show (0 : Int) ≤ ver by omega) (.inl (by decide)) : F.has (.mk 8 0 (-1) 0 (-1) 0 0 []) ver = true), (has_yes (show (0 : Int) ≤ ver by omega) (.inl (by decide)) : F.has (.mk 3 0 (-1) (-1) (-1) 0 0 []) ver = true), (has_no1 (show ¬ (3 : Int) ≤ ver by omega) : F.has (.mk 4 3 (-1) (-1) (-1) (-1) 0 []) ver = false), (has_no1 (show ¬ (3 : Int) ≤ ver by omega) : F.has (.mk 2 3 (-1) (-1) (-1) (-1) 0 []) ver = false), rdF, dflF, hv0]
  go_enter Tryz.func148, Tryz.ntmps148
  go_wp2_with (first
    | (go_at_call 147; refine (d_InitProducerIDRequest hd3 hf3 hd4 hf4).mono ?_; rintro e wd ⟨rfl, rfl⟩)
    | (go_at_call 184; go_loud (refine (cnstring_any h0.rd h0.hG h0.nrb).mono ?_; rintro e w1 ⟨pv1, rfl, ps1, r1, k1⟩; obtain ⟨pa1, rfl⟩ := ps1.shape; have nw1 := h0.nwOf (W := w1); have h2 := h0.call r1 k1; have c1 := h2.cellAt (o := 1) rfl; have f1 := h2.free (1); have h3 : ElSt w (w1.setCell ⟨b, 1, none⟩ (.pointer pa1)) b w.heap.size G (rdCNStr (l, false)).2 [.int .i16 ver] [.pointer pa1] [.int .i32 0, .int .i64 (-1), .int .i16 (-1), .map none] [] 104 [.mk 8 0 (-1) 0 (-1) 0 0 []] [(nstrT (rdCNStr (l, false)).1)] := h2.put (o := 1) rfl (vf_nstr (by decide) (ps1.keepF (fun _ _ => rfl) nw1)); clear h0 h2))
    | (go_at_call 181; go_loud (refine (int32_any h3.rd h3.hG h3.nrb).mono ?_; rintro e w4 ⟨rfl, r4, k4⟩; have h5 := h3.call r4 k4; have c4 := h5.cellAt (o := 2) rfl; have f4 := h5.free (2); have h6 : ElSt w (w4.setCell ⟨b, 2, none⟩ (.int .i32 (rdI 4 (rdCNStr (l, false)).2).1)) b w.heap.size G (rdI 4 (rdCNStr (l, false)).2).2 [.int .i16 ver] [.pointer pa1, .int .i32 (rdI 4 (rdCNStr (l, false)).2).1] [.int .i64 (-1), .int .i16 (-1), .map none] [] 104 [.mk 8 0 (-1) 0 (-1) 0 0 [], .mk 3 0 (-1) (-1) (-1) 0 0 []] [(nstrT (rdCNStr (l, false)).1), (.mk (rdI 4 (rdCNStr (l, false)).2).1 [] false [] [])] := h5.put (o := 2) rfl (vf_i32 (rdI_range4 _)); clear h3 h5))
    | (go_at_call 187; go_loud (have h7 : ElSt w (w4.setCell ⟨b, 2, none⟩ (.int .i32 (rdI 4 (rdCNStr (l, false)).2).1)) b w.heap.size G (rdI 4 (rdCNStr (l, false)).2).2 [.int .i16 ver] [.pointer pa1, .int .i32 (rdI 4 (rdCNStr (l, false)).2).1, .int .i64 (-1)] [.int .i16 (-1), .map none] [] 104 [.mk 8 0 (-1) 0 (-1) 0 0 [], .mk 3 0 (-1) (-1) (-1) 0 0 [], .mk 4 3 (-1) (-1) (-1) (-1) 0 []] [(nstrT (rdCNStr (l, false)).1), (.mk (rdI 4 (rdCNStr (l, false)).2).1 [] false [] []), (.mk (-1) [] false [] [])] := h6.pass (vf_i64 (by decide)); clear h6; have h8 : ElSt w (w4.setCell ⟨b, 2, none⟩ (.int .i32 (rdI 4 (rdCNStr (l, false)).2).1)) b w.heap.size G (rdI 4 (rdCNStr (l, false)).2).2 [.int .i16 ver] [.pointer pa1, .int .i32 (rdI 4 (rdCNStr (l, false)).2).1, .int .i64 (-1), .int .i16 (-1)] [.map none] [] 104 [.mk 8 0 (-1) 0 (-1) 0 0 [], .mk 3 0 (-1) (-1) (-1) 0 0 [], .mk 4 3 (-1) (-1) (-1) (-1) 0 [], .mk 2 3 (-1) (-1) (-1) (-1) 0 []] [(nstrT (rdCNStr (l, false)).1), (.mk (rdI 4 (rdCNStr (l, false)).2).1 [] false [] []), (.mk (-1) [] false [] []), (.mk (-1) [] false [] [])] := h7.pass (vf_i16 (by decide)); clear h7; refine (rtags_any h8.rd h8.hG h8.nrb).mono ?_; rintro e w9 ⟨tv9, rfl, mp9, mb9, r9, k9⟩; obtain ⟨mr9, rfl⟩ := mp9.shape; have mq9 := mp9.keepF (fun _ _ => rfl) (h8.nwNew (W := w9)); have h10 := h8.call r9 k9; have c9 := h10.cellAt (o := 5) rfl; have f9 := h10.free (5); have he11 := h10.tags (o := 5) rfl mq9; clear h8 h10))
    | (go_at_call 188; go_loud (refine (complete_any he11.rd (hg.keep he11.keep (by simp; omega))).mono ?_; rintro e wz ⟨rfl, kz⟩)))
  go_ret
  have hz := he11.calm hG hGb hbl he11.rd.lt' kz
  obtain ⟨q1, q2⟩ := hz.vm (Nat.le_refl _)
  rw [HEQ0.out]
  dsimp only
  exact ⟨by simp, q1, fun _ => q2⟩
end Go.Proofs.YtobbchmjgoaleaaGreatDoor
