/-
  UnregisterControllerRequest: reading.
-/
import Derived.Test.YtedconnhligkeaaDoorRdSt
namespace Go.Proofs.YtedconnhligkeaaDoor
open Go.ChangeShapes Go.WideShapes Go.ChangeAt Go.RowKit

def ucrR1 (_ver : Int) (l : Bs) : Int × St := rdI 4 (l, false)
def ucrRT (ver : Int) (l : Bs) : List Tg × St := rdTags (ucrR1 ver l).2
theorem ucr_default (w : World) (x : Value) : Calls Tryd.prog 27 #[x] w fun e w' => e = .returned (.tuple #[]) ∧ w = w' := by
  go_enter Tryd.func27, Tryd.ntmps27
  go_wp2
  refine bodyPost_end (v := .tuple #[]) (by simp [results, Tryd.results27, go_sem]) rfl ?_
  exact ⟨rfl, rfl⟩
set_option maxHeartbeats 1600000 in
set_option maxRecDepth 100000 in
theorem ucr_read {G : Nat → Prop} {b : Nat} {p : Addr} {l : Bs} {src : Value} {w : World} {ver : Int} (hb : w.heap[b]? = some (.cells #[.int .i16 ver, .int .i32 0, .map none] 59 (0, 0))) (hl : RB w G src l) (hG : There G w) (hGb : ¬ G b) (hg : Gl w p) (hp : b ≠ 1) (hver : 0 ≤ ver) (u : Bool) :
    Calls Tryd.prog 28 #[.pointer (some ⟨b, 0, none⟩), src, .bool u] w fun e w' => e = .returned (errV p (ucrRT ver l).2.2) ∧ ∃ tv, w'.heap[b]? = some (.cells #[.int .i16 ver, .int .i32 (ucrR1 ver l).1, tv] 59 (0, 0)) ∧ MP w' (New G w w') tv (ucrRT ver l).1 ∧ Keep [b] w w' := by
  obtain ⟨ao, cap, rfl⟩ := RS.shape hl
  have hbl : b < w.heap.size := World.heap_lt hb
  have cv : (w.alloc (.cells #[.slice ao l.length cap, .bool false] 68)).cell? ⟨b, 0, none⟩ = some (.int .i16 ver) := ((keep_box (A := []) _).cell (p := ⟨b, 0, none⟩) hbl (by simp)).trans (cellOf hb 0 _ rfl)
  have h0 : RdSt w (w.alloc (.cells #[.slice ao l.length cap, .bool false] 68)) b w.heap.size G (l, false) _ 59 :=
    ⟨⟨_, heap_alloc_new w _, hl.keepF (hG.same (keep_box _)) (fun _ h => h)⟩, ((keep_box (A := []) _).block b hbl (by simp)).trans hb, (keep_box (A := []) _).weaken (by simp), hG, hGb, hbl, Nat.le_refl _⟩
  have HB : Hid _ := hb
  clear hb
  simp only [ucrR1, ucrRT]
  go_enter Tryd.func28, Tryd.ntmps28
  go_wp2_with (first
    | (go_at_call 27; refine (ucr_default _ _).mono ?_; rintro e wd ⟨rfl, rfl⟩)
    | (go_at_call 36; go_loud (refine (int32_any h0.rd h0.hG h0.nrb).mono ?_; rintro e w1 ⟨rfl, r1, k1⟩; have h1 := h0.call r1 k1; have c1 := h1.cell 1 _ rfl; have f1 := h1.free 1; have h2 := h1.set 1 (.int .i32 (rdI 4 (l, false)).1); clear h0))
    | (go_at_call 37; go_loud (refine (rtags_any h2.rd h2.hG h2.nrb).mono ?_; rintro e w3 ⟨tv, rfl, mp, mb, r3, k3⟩; obtain ⟨mr, rfl⟩ := mp.shape; have h3 := h2.call r3 k3; have c3 := h3.cell 2 _ rfl; have f3 := h3.free 2; have h4 := h3.set 2 (.map mr); have mq := fun Z (kq : Keep [b] w3 Z) => h2.mp mp kq; clear h2))
    | (go_at_call 38; go_loud (refine (complete_any h4.rd (hg.keep h4.keep (by simpa using hp.symm))).mono ?_; rintro e wz ⟨rfl, kz⟩; have hz := h4.calm kz)))
  go_ret
  exact ⟨rfl, .map mr, hz.blk, mq _ ((show Keep [b] _ _ from ((Keep.refl _ _).setCell (.inl (by simp)) _)).trans (kz.weaken (by simp))), hz.keep⟩
end Go.Proofs.YtedconnhligkeaaDoor
