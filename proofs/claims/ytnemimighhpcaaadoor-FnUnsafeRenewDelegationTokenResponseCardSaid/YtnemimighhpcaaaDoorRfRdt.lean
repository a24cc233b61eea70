/-
  RenewDelegationTokenResponse: reading.
-/
import Derived.Test.YtnemimighhpcaaaDoorRdSt
namespace Go.Proofs.YtnemimighhpcaaaDoor
open Go.ChangeShapes Go.WideShapes Go.ChangeAt Go.RowKit

def rdtR1 (_ver : Int) (l : Bs) : Int × St := rdI 2 (l, false)
def rdtR2 (ver : Int) (l : Bs) : Int × St := rdI 8 (rdtR1 ver l).2
def rdtR3 (ver : Int) (l : Bs) : Int × St := rdI 4 (rdtR2 ver l).2
def rdtRT (ver : Int) (l : Bs) : List Tg × St := if 2 ≤ ver then rdTags (rdtR3 ver l).2 else ([], (rdtR3 ver l).2)
theorem rdt_default (w : World) (x : Value) : Calls Tryd.prog 115 #[x] w fun e w' => e = .returned (.tuple #[]) ∧ w = w' := by
  go_enter Tryd.func115, Tryd.ntmps115
  go_wp2
  refine bodyPost_end (v := .tuple #[]) (by simp [results, Tryd.results115, go_sem]) rfl ?_
  exact ⟨rfl, rfl⟩
set_option maxHeartbeats 1600000 in
set_option maxRecDepth 100000 in
theorem rdt_read {G : Nat → Prop} {b : Nat} {p : Addr} {l : Bs} {src : Value} {w : World} {ver : Int} (hb : w.heap[b]? = some (.cells #[.int .i16 ver, .int .i16 0, .int .i64 0, .int .i32 0, .map none] 124 (0, 0))) (hl : RB w G src l) (hG : There G w) (hGb : ¬ G b) (hg : Gl w p) (hp : b ≠ 0) (u : Bool) :
    Calls Tryd.prog 116 #[.pointer (some ⟨b, 0, none⟩), src, .bool u] w fun e w' => e = .returned (errV p (rdtRT ver l).2.2) ∧ ∃ tv, w'.heap[b]? = some (.cells #[.int .i16 ver, .int .i16 (rdtR1 ver l).1, .int .i64 (rdtR2 ver l).1, .int .i32 (rdtR3 ver l).1, tv] 124 (0, 0)) ∧ MP w' (New G w w') tv (rdtRT ver l).1 ∧ Keep [b] w w' := by
  obtain ⟨ao, cap, rfl⟩ := RS.shape hl
  have hbl : b < w.heap.size := World.heap_lt hb
  have cv : (w.alloc (.cells #[.slice ao l.length cap, .bool false] 140)).cell? ⟨b, 0, none⟩ = some (.int .i16 ver) := ((keep_box (A := []) _).cell (p := ⟨b, 0, none⟩) hbl (by simp)).trans (cellOf hb 0 _ rfl)
  have h0 : RdSt w (w.alloc (.cells #[.slice ao l.length cap, .bool false] 140)) b w.heap.size G (l, false) _ 124 :=
    ⟨⟨_, heap_alloc_new w _, hl.keepF (hG.same (keep_box _)) (fun _ h => h)⟩, ((keep_box (A := []) _).block b hbl (by simp)).trans hb, (keep_box (A := []) _).weaken (by simp), hG, hGb, hbl, Nat.le_refl _⟩
  have HB : Hid _ := hb
  clear hb
  by_cases B2 : 2 ≤ ver
  · have _t2 := trivial
    simp only [rdtR1, rdtR2, rdtR3, rdtRT, if_pos B2]
    go_enter Tryd.func116, Tryd.ntmps116
    go_wp2_with (first
      | (go_at_call 115; refine (rdt_default _ _).mono ?_; rintro e wd ⟨rfl, rfl⟩)
      | (go_at_call 145; go_loud (refine (int16_any h0.rd h0.hG h0.nrb).mono ?_; rintro e w1 ⟨rfl, r1, k1⟩; have h1 := h0.call r1 k1; have c1 := h1.cell 1 _ rfl; have f1 := h1.free 1; have h2 := h1.set 1 (.int .i16 (rdI 2 (l, false)).1); clear h0))
      | (go_at_call 144; go_loud (refine (int64_any h2.rd h2.hG h2.nrb).mono ?_; rintro e w3 ⟨rfl, r3, k3⟩; have h3 := h2.call r3 k3; have c3 := h3.cell 2 _ rfl; have f3 := h3.free 2; have h4 := h3.set 2 (.int .i64 (rdI 8 (rdI 2 (l, false)).2).1); clear h2))
      | (go_at_call 143; go_loud (refine (int32_any h4.rd h4.hG h4.nrb).mono ?_; rintro e w5 ⟨rfl, r5, k5⟩; have h5 := h4.call r5 k5; have c5 := h5.cell 3 _ rfl; have f5 := h5.free 3; have h6 := h5.set 3 (.int .i32 (rdI 4 (rdI 8 (rdI 2 (l, false)).2).2).1); clear h4))
      | (go_at_call 140; go_loud (refine (rtags_any h6.rd h6.hG h6.nrb).mono ?_; rintro e w7 ⟨tv, rfl, mp, mb, r7, k7⟩; obtain ⟨mr, rfl⟩ := mp.shape; have h7 := h6.call r7 k7; have c7 := h7.cell 4 _ rfl; have f7 := h7.free 4; have h8 := h7.set 4 (.map mr); have mq := fun Z (kq : Keep [b] w7 Z) => h6.mp mp kq; clear h6))
      | (go_at_call 137; go_loud (refine (complete_any h8.rd (hg.keep h8.keep (by simpa using hp.symm))).mono ?_; rintro e wz ⟨rfl, kz⟩; have hz := h8.calm kz)))
    go_ret
    exact ⟨rfl, .map mr, hz.blk, mq _ ((show Keep [b] _ _ from ((Keep.refl _ _).setCell (.inl (by simp)) _)).trans (kz.weaken (by simp))), hz.keep⟩
  · have _t2 := trivial
    simp only [rdtR1, rdtR2, rdtR3, rdtRT, if_neg B2]
    go_enter Tryd.func116, Tryd.ntmps116
    go_wp2_with (first
      | (go_at_call 115; refine (rdt_default _ _).mono ?_; rintro e wd ⟨rfl, rfl⟩)
      | (go_at_call 145; go_loud (refine (int16_any h0.rd h0.hG h0.nrb).mono ?_; rintro e w1 ⟨rfl, r1, k1⟩; have h1 := h0.call r1 k1; have c1 := h1.cell 1 _ rfl; have f1 := h1.free 1; have h2 := h1.set 1 (.int .i16 (rdI 2 (l, false)).1); clear h0))
      | (go_at_call 144; go_loud (refine (int64_any h2.rd h2.hG h2.nrb).mono ?_; rintro e w3 ⟨rfl, r3, k3⟩; have h3 := h2.call r3 k3; have c3 := h3.cell 2 _ rfl; have f3 := h3.free 2; have h4 := h3.set 2 (.int .i64 (rdI 8 (rdI 2 (l, false)).2).1); clear h2))
      | (go_at_call 143; go_loud (refine (int32_any h4.rd h4.hG h4.nrb).mono ?_; rintro e w5 ⟨rfl, r5, k5⟩; have h5 := h4.call r5 k5; have c5 := h5.cell 3 _ rfl; have f5 := h5.free 3; have h6 := h5.set 3 (.int .i32 (rdI 4 (rdI 8 (rdI 2 (l, false)).2).2).1); clear h4))
      | (go_at_call 137; go_loud (refine (complete_any h6.rd (hg.keep h6.keep (by simpa using hp.symm))).mono ?_; rintro e wz ⟨rfl, kz⟩; have hz := h6.calm kz)))
    go_ret
    exact ⟨rfl, .map none, hz.blk, MP.nil _ _, hz.keep⟩
end Go.Proofs.YtnemimighhpcaaaDoor
