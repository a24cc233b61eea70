/-
  AddRaftVoterResponse: reading.
-/
import Derived.Test.YtnemimighhpcaaaDoorRdSt
namespace Go.Proofs.YtnemimighhpcaaaDoor
open Go.ChangeShapes Go.WideShapes Go.ChangeAt Go.RowKit

def arvR1 (_ver : Int) (l : Bs) : Int × St := rdI 4 (l, false)
def arvR2 (ver : Int) (l : Bs) : Int × St := rdI 2 (arvR1 ver l).2
def arvR3 (ver : Int) (l : Bs) : Option Bs × St := rdCNStr (arvR2 ver l).2
def arvRT (ver : Int) (l : Bs) : List Tg × St := rdTags (arvR3 ver l).2
theorem arv_default (w : World) (x : Value) : Calls Tryd.prog 126 #[x] w fun e w' => e = .returned (.tuple #[]) ∧ w = w' := by
  go_enter Tryd.func126, Tryd.ntmps126
  go_wp2
  refine bodyPost_end (v := .tuple #[]) (by simp [results, Tryd.results126, go_sem]) rfl ?_
  exact ⟨rfl, rfl⟩
set_option maxHeartbeats 1600000 in
set_option maxRecDepth 100000 in
theorem arv_read {G : Nat → Prop} {b : Nat} {p : Addr} {l : Bs} {src : Value} {w : World} {ver : Int} (hb : w.heap[b]? = some (.cells #[.int .i16 ver, .int .i32 0, .int .i16 0, .pointer none, .map none] 134 (0, 0))) (hl : RB w G src l) (hG : There G w) (hGb : ¬ G b) (hg : Gl w p) (hp : b ≠ 0) (hver : 0 ≤ ver) (u : Bool) :
    Calls Tryd.prog 127 #[.pointer (some ⟨b, 0, none⟩), src, .bool u] w fun e w' => e = .returned (errV p (arvRT ver l).2.2) ∧ ∃ tv, ∃ pv3, w'.heap[b]? = some (.cells #[.int .i16 ver, .int .i32 (arvR1 ver l).1, .int .i16 (arvR2 ver l).1, pv3, tv] 134 (0, 0)) ∧ MP w' (New G w w') tv (arvRT ver l).1 ∧ PS w' (New G w w') pv3 (arvR3 ver l).1 ∧ Keep [b] w w' := by
  obtain ⟨ao, cap, rfl⟩ := RS.shape hl
  have hbl : b < w.heap.size := World.heap_lt hb
  have cv : (w.alloc (.cells #[.slice ao l.length cap, .bool false] 140)).cell? ⟨b, 0, none⟩ = some (.int .i16 ver) := ((keep_box (A := []) _).cell (p := ⟨b, 0, none⟩) hbl (by simp)).trans (cellOf hb 0 _ rfl)
  have h0 : RdSt w (w.alloc (.cells #[.slice ao l.length cap, .bool false] 140)) b w.heap.size G (l, false) _ 134 :=
    ⟨⟨_, heap_alloc_new w _, hl.keepF (hG.same (keep_box _)) (fun _ h => h)⟩, ((keep_box (A := []) _).block b hbl (by simp)).trans hb, (keep_box (A := []) _).weaken (by simp), hG, hGb, hbl, Nat.le_refl _⟩
  have HB : Hid _ := hb
  clear hb
  cases u
  · have _u := trivial
    simp only [arvR1, arvR2, arvR3, arvRT]
    go_enter Tryd.func127, Tryd.ntmps127
    go_wp2_with (first
      | (go_at_call 126; refine (arv_default _ _).mono ?_; rintro e wd ⟨rfl, rfl⟩)
      | (go_at_call 143; go_loud (refine (int32_any h0.rd h0.hG h0.nrb).mono ?_; rintro e w1 ⟨rfl, r1, k1⟩; have h1 := h0.call r1 k1; have c1 := h1.cell 1 _ rfl; have f1 := h1.free 1; have h2 := h1.set 1 (.int .i32 (rdI 4 (l, false)).1); clear h0))
      | (go_at_call 145; go_loud (refine (int16_any h2.rd h2.hG h2.nrb).mono ?_; rintro e w3 ⟨rfl, r3, k3⟩; have h3 := h2.call r3 k3; have c3 := h3.cell 2 _ rfl; have f3 := h3.free 2; have h4 := h3.set 2 (.int .i16 (rdI 2 (rdI 4 (l, false)).2).1); clear h2))
      | (go_at_call 151; go_loud (refine (cnstring_any h4.rd h4.hG h4.nrb).mono ?_; rintro e w5 ⟨pv3, rfl, ps3, r5, k5⟩; have h5 := h4.call r5 k5; have c5 := h5.cell 3 _ rfl; have f5 := h5.free 3; have h6 := h5.set 3 pv3; obtain ⟨pa3, rfl⟩ := ps3.shape; have pq3 := fun Z (kq : Keep [b, w.heap.size] w5 Z) => h4.ps ps3 kq; clear h4))
      | (go_at_call 140; go_loud (refine (rtags_any h6.rd h6.hG h6.nrb).mono ?_; rintro e w7 ⟨tv, rfl, mp, mb, r7, k7⟩; obtain ⟨mr, rfl⟩ := mp.shape; have h7 := h6.call r7 k7; have c7 := h7.cell 4 _ rfl; have f7 := h7.free 4; have h8 := h7.set 4 (.map mr); have mq := fun Z (kq : Keep [b] w7 Z) => h6.mp mp kq; clear h6))
      | (go_at_call 137; go_loud (refine (complete_any h8.rd (hg.keep h8.keep (by simpa using hp.symm))).mono ?_; rintro e wz ⟨rfl, kz⟩; have hz := h8.calm kz)))
    go_ret
    exact ⟨rfl, .map mr, .pointer pa3, hz.blk, mq _ ((show Keep [b] _ _ from ((Keep.refl _ _).setCell (.inl (by simp)) _)).trans (kz.weaken (by simp))), pq3 _ (((((show Keep [b] _ _ from ((Keep.refl _ _).setCell (.inl (by simp)) _)).weaken (B := [b, w.heap.size]) (by simp)).trans (k7.weaken (B := [b, w.heap.size]) (by simp))).trans ((show Keep [b] _ _ from ((Keep.refl _ _).setCell (.inl (by simp)) _)).weaken (B := [b, w.heap.size]) (by simp))).trans (kz.weaken (B := [b, w.heap.size]) (by simp))), hz.keep⟩
  · have _u := trivial
    simp only [arvR1, arvR2, arvR3, arvRT]
    go_enter Tryd.func127, Tryd.ntmps127
    go_wp2_with (first
      | (go_at_call 126; refine (arv_default _ _).mono ?_; rintro e wd ⟨rfl, rfl⟩)
      | (go_at_call 143; go_loud (refine (int32_any h0.rd h0.hG h0.nrb).mono ?_; rintro e w1 ⟨rfl, r1, k1⟩; have h1 := h0.call r1 k1; have c1 := h1.cell 1 _ rfl; have f1 := h1.free 1; have h2 := h1.set 1 (.int .i32 (rdI 4 (l, false)).1); clear h0))
      | (go_at_call 145; go_loud (refine (int16_any h2.rd h2.hG h2.nrb).mono ?_; rintro e w3 ⟨rfl, r3, k3⟩; have h3 := h2.call r3 k3; have c3 := h3.cell 2 _ rfl; have f3 := h3.free 2; have h4 := h3.set 2 (.int .i16 (rdI 2 (rdI 4 (l, false)).2).1); clear h2))
      | (go_at_call 150; go_loud (refine (ucnstring_any h4.rd h4.hG h4.nrb).mono ?_; rintro e w5 ⟨pv3, rfl, ps3, r5, k5⟩; have h5 := h4.call r5 k5; have c5 := h5.cell 3 _ rfl; have f5 := h5.free 3; have h6 := h5.set 3 pv3; obtain ⟨pa3, rfl⟩ := ps3.shape; have pq3 := fun Z (kq : Keep [b, w.heap.size] w5 Z) => h4.ps ps3 kq; clear h4))
      | (go_at_call 140; go_loud (refine (rtags_any h6.rd h6.hG h6.nrb).mono ?_; rintro e w7 ⟨tv, rfl, mp, mb, r7, k7⟩; obtain ⟨mr, rfl⟩ := mp.shape; have h7 := h6.call r7 k7; have c7 := h7.cell 4 _ rfl; have f7 := h7.free 4; have h8 := h7.set 4 (.map mr); have mq := fun Z (kq : Keep [b] w7 Z) => h6.mp mp kq; clear h6))
      | (go_at_call 137; go_loud (refine (complete_any h8.rd (hg.keep h8.keep (by simpa using hp.symm))).mono ?_; rintro e wz ⟨rfl, kz⟩; have hz := h8.calm kz)))
    go_ret
    exact ⟨rfl, .map mr, .pointer pa3, hz.blk, mq _ ((show Keep [b] _ _ from ((Keep.refl _ _).setCell (.inl (by simp)) _)).trans (kz.weaken (by simp))), pq3 _ (((((show Keep [b] _ _ from ((Keep.refl _ _).setCell (.inl (by simp)) _)).weaken (B := [b, w.heap.size]) (by simp)).trans (k7.weaken (B := [b, w.heap.size]) (by simp))).trans ((show Keep [b] _ _ from ((Keep.refl _ _).setCell (.inl (by simp)) _)).weaken (B := [b, w.heap.size]) (by simp))).trans (kz.weaken (B := [b, w.heap.size]) (by simp))), hz.keep⟩
end Go.Proofs.YtnemimighhpcaaaDoor
