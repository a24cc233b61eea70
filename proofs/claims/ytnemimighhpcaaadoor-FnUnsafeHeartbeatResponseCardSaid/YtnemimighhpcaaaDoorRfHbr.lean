/-
  HeartbeatResponse: reading.
-/
import Derived.Test.YtnemimighhpcaaaDoorRdSt
namespace Go.Proofs.YtnemimighhpcaaaDoor
open Go.ChangeShapes Go.WideShapes Go.ChangeAt Go.RowKit

def hbrR1 (ver : Int) (l : Bs) : Int × St := if 1 ≤ ver then (rdI 4 (l, false)) else (0, (l, false))
def hbrR2 (ver : Int) (l : Bs) : Int × St := rdI 2 (hbrR1 ver l).2
def hbrRT (ver : Int) (l : Bs) : List Tg × St := if 4 ≤ ver then rdTags (hbrR2 ver l).2 else ([], (hbrR2 ver l).2)
theorem hbr_default (w : World) (x : Value) : Calls Tryd.prog 112 #[x] w fun e w' => e = .returned (.tuple #[]) ∧ w = w' := by
  go_enter Tryd.func112, Tryd.ntmps112
  go_wp2
  refine bodyPost_end (v := .tuple #[]) (by simp [results, Tryd.results112, go_sem]) rfl ?_
  exact ⟨rfl, rfl⟩
set_option maxHeartbeats 1600000 in
set_option maxRecDepth 100000 in
theorem hbr_read {G : Nat → Prop} {b : Nat} {p : Addr} {l : Bs} {src : Value} {w : World} {ver : Int} (hb : w.heap[b]? = some (.cells #[.int .i16 ver, .int .i32 0, .int .i16 0, .map none] 122 (0, 0))) (hl : RB w G src l) (hG : There G w) (hGb : ¬ G b) (hg : Gl w p) (hp : b ≠ 0) (u : Bool) :
    Calls Tryd.prog 113 #[.pointer (some ⟨b, 0, none⟩), src, .bool u] w fun e w' => e = .returned (errV p (hbrRT ver l).2.2) ∧ ∃ tv, w'.heap[b]? = some (.cells #[.int .i16 ver, .int .i32 (hbrR1 ver l).1, .int .i16 (hbrR2 ver l).1, tv] 122 (0, 0)) ∧ MP w' (New G w w') tv (hbrRT ver l).1 ∧ Keep [b] w w' := by
  obtain ⟨ao, cap, rfl⟩ := RS.shape hl
  have hbl : b < w.heap.size := World.heap_lt hb
  have cv : (w.alloc (.cells #[.slice ao l.length cap, .bool false] 140)).cell? ⟨b, 0, none⟩ = some (.int .i16 ver) := ((keep_box (A := []) _).cell (p := ⟨b, 0, none⟩) hbl (by simp)).trans (cellOf hb 0 _ rfl)
  have h0 : RdSt w (w.alloc (.cells #[.slice ao l.length cap, .bool false] 140)) b w.heap.size G (l, false) _ 122 :=
    ⟨⟨_, heap_alloc_new w _, hl.keepF (hG.same (keep_box _)) (fun _ h => h)⟩, ((keep_box (A := []) _).block b hbl (by simp)).trans hb, (keep_box (A := []) _).weaken (by simp), hG, hGb, hbl, Nat.le_refl _⟩
  have HB : Hid _ := hb
  clear hb
  by_cases B1 : 1 ≤ ver
  · have _t1 := trivial
    by_cases B4 : 4 ≤ ver
    · have _t4 := trivial
      simp only [hbrR1, hbrR2, hbrRT, if_pos B1, if_pos B4]
      go_enter Tryd.func113, Tryd.ntmps113
      go_wp2_with (first
        | (go_at_call 112; refine (hbr_default _ _).mono ?_; rintro e wd ⟨rfl, rfl⟩)
        | (go_at_call 143; go_loud (refine (int32_any h0.rd h0.hG h0.nrb).mono ?_; rintro e w1 ⟨rfl, r1, k1⟩; have h1 := h0.call r1 k1; have c1 := h1.cell 1 _ rfl; have f1 := h1.free 1; have h2 := h1.set 1 (.int .i32 (rdI 4 (l, false)).1); clear h0))
        | (go_at_call 145; go_loud (refine (int16_any h2.rd h2.hG h2.nrb).mono ?_; rintro e w3 ⟨rfl, r3, k3⟩; have h3 := h2.call r3 k3; have c3 := h3.cell 2 _ rfl; have f3 := h3.free 2; have h4 := h3.set 2 (.int .i16 (rdI 2 (rdI 4 (l, false)).2).1); clear h2))
        | (go_at_call 140; go_loud (refine (rtags_any h4.rd h4.hG h4.nrb).mono ?_; rintro e w5 ⟨tv, rfl, mp, mb, r5, k5⟩; obtain ⟨mr, rfl⟩ := mp.shape; have h5 := h4.call r5 k5; have c5 := h5.cell 3 _ rfl; have f5 := h5.free 3; have h6 := h5.set 3 (.map mr); have mq := fun Z (kq : Keep [b] w5 Z) => h4.mp mp kq; clear h4))
        | (go_at_call 137; go_loud (refine (complete_any h6.rd (hg.keep h6.keep (by simpa using hp.symm))).mono ?_; rintro e wz ⟨rfl, kz⟩; have hz := h6.calm kz)))
      go_ret
      exact ⟨rfl, .map mr, hz.blk, mq _ ((show Keep [b] _ _ from ((Keep.refl _ _).setCell (.inl (by simp)) _)).trans (kz.weaken (by simp))), hz.keep⟩
    · have _t4 := trivial
      simp only [hbrR1, hbrR2, hbrRT, if_pos B1, if_neg B4]
      go_enter Tryd.func113, Tryd.ntmps113
      go_wp2_with (first
        | (go_at_call 112; refine (hbr_default _ _).mono ?_; rintro e wd ⟨rfl, rfl⟩)
        | (go_at_call 143; go_loud (refine (int32_any h0.rd h0.hG h0.nrb).mono ?_; rintro e w1 ⟨rfl, r1, k1⟩; have h1 := h0.call r1 k1; have c1 := h1.cell 1 _ rfl; have f1 := h1.free 1; have h2 := h1.set 1 (.int .i32 (rdI 4 (l, false)).1); clear h0))
        | (go_at_call 145; go_loud (refine (int16_any h2.rd h2.hG h2.nrb).mono ?_; rintro e w3 ⟨rfl, r3, k3⟩; have h3 := h2.call r3 k3; have c3 := h3.cell 2 _ rfl; have f3 := h3.free 2; have h4 := h3.set 2 (.int .i16 (rdI 2 (rdI 4 (l, false)).2).1); clear h2))
        | (go_at_call 137; go_loud (refine (complete_any h4.rd (hg.keep h4.keep (by simpa using hp.symm))).mono ?_; rintro e wz ⟨rfl, kz⟩; have hz := h4.calm kz)))
      go_ret
      exact ⟨rfl, .map none, hz.blk, MP.nil _ _, hz.keep⟩
  · have _t1 := trivial
    have B4 : ¬ 4 ≤ ver := by omega
    simp only [hbrR1, hbrR2, hbrRT, if_neg B1, if_neg B4]
    go_enter Tryd.func113, Tryd.ntmps113
    go_wp2_with (first
      | (go_at_call 112; refine (hbr_default _ _).mono ?_; rintro e wd ⟨rfl, rfl⟩)
      | (go_at_call 145; go_loud (refine (int16_any h0.rd h0.hG h0.nrb).mono ?_; rintro e w1 ⟨rfl, r1, k1⟩; have h1 := h0.call r1 k1; have c1 := h1.cell 2 _ rfl; have f1 := h1.free 2; have h2 := h1.set 2 (.int .i16 (rdI 2 (l, false)).1); clear h0))
      | (go_at_call 137; go_loud (refine (complete_any h2.rd (hg.keep h2.keep (by simpa using hp.symm))).mono ?_; rintro e wz ⟨rfl, kz⟩; have hz := h2.calm kz)))
    go_ret
    exact ⟨rfl, .map none, hz.blk, MP.nil _ _, hz.keep⟩
end Go.Proofs.YtnemimighhpcaaaDoor
