/-
  EnvelopeResponse: reading.
-/
import Derived.Test.YtedconnhligkeaaDoorRdSt
import Derived.Test.YtedconnhligkeaaDoorOct
import Derived.Test.YtedconnhligkeaaDoorTagsQ
namespace Go.Proofs.YtedconnhligkeaaDoor
open Go.ChangeShapes Go.WideShapes Go.ChangeAt Go.RowKit

def envR1 (_ver : Int) (l : Bs) : Option Bs × St := rdCNB (l, false)
def envR2 (ver : Int) (l : Bs) : Int × St := rdI 2 (envR1 ver l).2
def envRT (ver : Int) (l : Bs) : List Tg × St := rdTags (envR2 ver l).2
theorem env_default (w : World) (x : Value) : Calls Tryd.prog 32 #[x] w fun e w' => e = .returned (.tuple #[]) ∧ w = w' := by
  go_enter Tryd.func32, Tryd.ntmps32
  go_wp2
  refine bodyPost_end (v := .tuple #[]) (by simp [results, Tryd.results32, go_sem]) rfl ?_
  exact ⟨rfl, rfl⟩
set_option maxHeartbeats 1600000 in
set_option maxRecDepth 100000 in
theorem env_read {G : Nat → Prop} {b : Nat} {p : Addr} {l : Bs} {src : Value} {w : World} {ver : Int} (hb : w.heap[b]? = some (.cells #[.int .i16 ver, .slice none 0 0, .int .i16 0, .map none] 65 (0, 0))) (hl : RB w G src l) (hG : There G w) (hGb : ¬ G b) (hg : Gl w p) (hp : b ≠ 1) (hver : 0 ≤ ver) (u : Bool) :
    Calls Tryd.prog 33 #[.pointer (some ⟨b, 0, none⟩), src, .bool u] w fun e w' => e = .returned (errV p (envRT ver l).2.2) ∧ ∃ tv, ∃ pv1, w'.heap[b]? = some (.cells #[.int .i16 ver, pv1, .int .i16 (envR2 ver l).1, tv] 65 (0, 0)) ∧ MP w' (New G w w') tv (envRT ver l).1 ∧ ((envRT ver l).2.2 = false → OS w' (New G w w') pv1 (envR1 ver l).1) ∧ Keep [b] w w' := by
  obtain ⟨ao, cap, rfl⟩ := RS.shape hl
  have hbl : b < w.heap.size := World.heap_lt hb
  have cv : (w.alloc (.cells #[.slice ao l.length cap, .bool false] 68)).cell? ⟨b, 0, none⟩ = some (.int .i16 ver) := ((keep_box (A := []) _).cell (p := ⟨b, 0, none⟩) hbl (by simp)).trans (cellOf hb 0 _ rfl)
  have h0 : RdSt w (w.alloc (.cells #[.slice ao l.length cap, .bool false] 68)) b w.heap.size G (l, false) _ 65 :=
    ⟨⟨_, heap_alloc_new w _, hl.keepF (hG.same (keep_box _)) (fun _ h => h)⟩, ((keep_box (A := []) _).block b hbl (by simp)).trans hb, (keep_box (A := []) _).weaken (by simp), hG, hGb, hbl, Nat.le_refl _⟩
  have HB : Hid _ := hb
  clear hb
  simp only [envR1, envR2, envRT]
  go_enter Tryd.func33, Tryd.ntmps33
  go_wp2_with (first
    | (go_at_call 32; refine (env_default _ _).mono ?_; rintro e wd ⟨rfl, rfl⟩)
    | (go_at_call 41; go_loud (refine (cnb_any h0.rd h0.hG h0.nrb).mono ?_; rintro e w1 ⟨pv1, rfl, ob1, nb1, r1, k1⟩; have h1 := h0.call r1 k1; have c1 := h1.cell 1 _ rfl; have f1 := h1.free 1; have hsz1 := h1.keep.size; obtain ⟨pa1, pc1, rfl⟩ := RS.shape ob1; have h2 := h1.set 1 (.slice pa1 ((rdCNB (l, false)).1.getD []).length pc1); clear h0))
    | (go_at_call 43; go_loud (refine (int16_any h2.rd h2.hG h2.nrb).mono ?_; rintro e w3 ⟨rfl, r3, k3⟩; have h3 := h2.call r3 k3; have c3 := h3.cell 2 _ rfl; have f3 := h3.free 2; have h4 := h3.set 2 (.int .i16 (rdI 2 (rdCNB (l, false)).2).1); clear h2))
    | (go_at_call 37; go_loud (refine (rtags_any h4.rd h4.hG h4.nrb).mono ?_; rintro e w5 ⟨tv, rfl, mp, mb, r5, k5⟩; obtain ⟨mr, rfl⟩ := mp.shape; have h5 := h4.call r5 k5; have c5 := h5.cell 3 _ rfl; have f5 := h5.free 3; have h6 := h5.set 3 (.map mr); have mq := fun Z (kq : Keep [b] w5 Z) => h4.mp mp kq; clear h4))
    | (go_at_call 38; go_loud (refine (complete_any h6.rd (hg.keep h6.keep (by simpa using hp.symm))).mono ?_; rintro e wz ⟨rfl, kz⟩; have hz := h6.calm kz)))
  go_ret
  exact ⟨rfl, .map mr, .slice pa1 ((rdCNB (l, false)).1.getD []).length pc1, hz.blk, mq _ ((show Keep [b] _ _ from ((Keep.refl _ _).setCell (.inl (by simp)) _)).trans (kz.weaken (by simp))), fun hbad => ⟨ob1.keepF (sameOn_of (((((((show Keep [b] _ _ from ((Keep.refl _ _).setCell (.inl (by simp)) _)).weaken (B := [b, w.heap.size]) (by simp)).trans (k3.weaken (B := [b, w.heap.size]) (by simp))).trans ((show Keep [b] _ _ from ((Keep.refl _ _).setCell (.inl (by simp)) _)).weaken (B := [b, w.heap.size]) (by simp))).trans (k5.weaken (B := [b, w.heap.size]) (by simp))).trans ((show Keep [b] _ _ from ((Keep.refl _ _).setCell (.inl (by simp)) _)).weaken (B := [b, w.heap.size]) (by simp))).trans (kz.weaken (B := [b, w.heap.size]) (by simp))) (hG.mono hsz1) (fun k hk hm => by simp at hm; rcases hm with rfl | rfl; exact hGb hk; have := hG _ hk; omega)) (fun k hk => ⟨.inl hk, by have := hG _ hk; have := hz.keep.size; omega⟩), nb1 (rdI_bad 2 _ (rdTags_bad _ (hbad)))⟩, hz.keep⟩
end Go.Proofs.YtedconnhligkeaaDoor
