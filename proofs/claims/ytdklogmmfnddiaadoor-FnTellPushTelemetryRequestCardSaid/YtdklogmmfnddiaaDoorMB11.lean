/-
  internalReadTags.
-/
import Derived.Test.YtdklogmmfnddiaaDoorMB10
import Derived.Test.YtdklogmmfnddiaaDoorMB7
import Derived.Test.YtdklogmmfnddiaaDoorMB5
namespace Go.Proofs.YtdklogmmfnddiaaDoor
open Go.ChangeShapes Go.WideShapes Go.ChangeAt Go.RowKit

def rdTagsN : Nat → St → List Tg → List Tg × St
  | 0, s, l => (l, s)
  | n + 1, s, l => rdTagsN n (rdSpan ((rdUv (rdUv s).2).1 : Int) (rdUv (rdUv s).2).2).2 (putK l (rdUv s).1 (rdSpan ((rdUv (rdUv s).2).1 : Int) (rdUv (rdUv s).2).2).1)
/-- the tags of a part -/
def rdTags (s : St) : List Tg × St := rdTagsN (rdUv s).1 (rdUv s).2 []

theorem World.heap_lt' {w : World} {b : Nat} {o : Obj} (h : w.heap[b]? = some o) : b < w.heap.size := (Array.getElem?_eq_some_iff.1 h).1
set_option maxHeartbeats 800000 in
set_option maxRecDepth 100000 in
theorem rtags_any {G : Nat → Prop} {b : Nat} {s : St} {w : World} (h : Rd w b G s) (hG : There G w) (hb : ¬ G b) :
    Calls Tryd.prog 59 #[.pointer (some ⟨b, 0, none⟩)] w fun e w' => ∃ v, e = .returned (.agg #[v]) ∧ MP w' (New G w w') v (rdTags s).1 ∧ (∀ k ∈ mblk v, w.heap.size ≤ k) ∧ Rd w' b G (rdTags s).2 ∧ Keep [b] w w' := by
  have hlt := h.lt'
  go_enter Tryd.func59, Tryd.ntmps59
  have kW : Keep [] w ((w.alloc (.cells #[.map none] 76)).alloc (.cells #[.map none] 76)) := (keep_box _).alloc _
  have b0 : ((w.alloc (.cells #[.map none] 76)).alloc (.cells #[.map none] 76)).heap[w.heap.size]? = some (.cells #[.map none] 76 (0, 0)) := ((keep_box (A := []) _).block w.heap.size (by simp) (by simp)).trans (heap_alloc_new w (.cells #[.map none] 76))
  have b1 : ((w.alloc (.cells #[.map none] 76)).alloc (.cells #[.map none] 76)).heap[w.heap.size + 1]? = some (.cells #[.map none] 76 (0, 0)) := by
    have h := heap_alloc_new (w.alloc (.cells #[.map none] 76)) (.cells #[.map none] 76)
    simpa using h
  have hsz : ((w.alloc (.cells #[.map none] 76)).alloc (.cells #[.map none] 76)).heap.size = w.heap.size + 2 := by simp
  have HB0 : Hid _ := b0
  have HB1 : Hid _ := b1
  clear b0 b1
  have UV := rduv_any (h.keepW hG hlt kW) (hG.keep kW) hb
  go_wp2_with (go_at_call 72; go_loud (refine UV.mono ?_; rintro e wa ⟨rfl, ra, ka⟩))
  have hn := rdUv_lt s
  have kA : Keep [b] w wa := (kW.weaken (by simp)).trans ka
  have hza : w.heap.size + 2 ≤ wa.heap.size := by have := ka.size; omega
  have a0 : wa.heap[w.heap.size]? = some (.cells #[.map none] 76 (0, 0)) := (ka.block _ (by omega) (by simp; omega)).trans HB0.out
  have a1 : wa.heap[w.heap.size + 1]? = some (.cells #[.map none] 76 (0, 0)) := (ka.block _ (by omega) (by simp; omega)).trans HB1.out
  clear UV HB0 HB1 hsz
  go_loopw [4] (fun k wr => ∃ (i : Nat) (v : Value) (n : Nat) (m : List (Nat × (Value × Bs))) (st : St), k = .int .u32 (i : Int) ∧ i ≤ (rdUv s).1 ∧ n + i ≤ (rdUv s).1 ∧ wr.heap[w.heap.size + 1]? = some (.cells #[v] 76 (0, 0)) ∧ wr.heap[w.heap.size]? = some (.cells #[.map none] 76 (0, 0)) ∧ MO wr v n (m.map fun x => (x.1, x.2.1)) ∧ (∀ x ∈ m, RB wr G x.2.1 x.2.2) ∧ (∀ r ∈ mblk v, w.heap.size + 2 ≤ r) ∧ Rd wr b G st ∧ Keep [b] w wr ∧ rdTagsN i st (m.map fun x => (x.1, x.2.2)) = rdTags s) (fun k _ => (intOf k).toNat)
  case atStart => exact ⟨_, .map none, 0, [], _, rfl, Nat.le_refl _, by omega, a1, a0, MO.nil _ _, by simp, by simp [mblk], ra, kA, rfl⟩
  case round =>
    obtain ⟨i, v, n, m, st, rfl, hi, hni, c1, c0, hmo, hrb, hblk, hrd, hk, heq⟩ := hrel
    obtain ⟨mr, rfl⟩ := hmo.shape
    have q1 : wr.cell? ⟨w.heap.size + 1, 0, none⟩ = some (.map mr) := cellOf c1 0 _ rfl
    have q0 : wr.cell? ⟨w.heap.size, 0, none⟩ = some (.map none) := cellOf c0 0 _ rfl
    have f0 := freeOf c0 0
    have hsz := hk.size
    have hl1 : w.heap.size + 1 < wr.heap.size := World.heap_lt' c1
    have C1 : Hid _ := c1
    have C0 : Hid _ := c0
    have HEQ : Hid _ := heq
    clear c1 c0 heq a0 a1
    cases i with
    | zero =>
      go_wp2_with fail
      have s0 := heap_set (i := 0) C0.out (.map mr)
      have k0 : Keep [w.heap.size] wr (wr.setCell ⟨w.heap.size, 0, none⟩ (.map mr)) := (Keep.refl _ _).setCell (.inl (by simp)) _
      have r0 : (wr.setCell ⟨w.heap.size, 0, none⟩ (.map mr)).cell? ⟨w.heap.size, 0, none⟩ = some (.map mr) := cellOf s0 0 _ rfl
      clear q0 q1 f0 s0
      have e := HEQ.out
      simp only [rdTagsN] at e
      refine bodyPost_ret (v := .agg #[.map mr]) (by simp [results, Tryd.results59, go_sem, r0]) rfl ⟨_, rfl, ⟨n, m, by omega, ?_, ?_, by rw [← e], ?_⟩, ?_, ?_, ?_⟩
      · exact hmo.kept fun k hk' => k0.block k (hmo.lt k hk') (by have := hblk k hk'; simp; omega)
      · exact fun k hk' => ⟨.inr (by have := hblk k hk'; omega), by have := hmo.lt k hk'; have := k0.size; omega⟩
      · exact fun x hx => (hrb x hx).keepF (fun k hk' => k0.block k (by have := hG k hk'; omega) (by have := hG k hk'; simp; omega)) (fun k hk' => ⟨.inl hk', by have := hG k hk'; have := k0.size; omega⟩)
      · exact fun k hk' => by have := hblk k hk'; omega
      · rw [← e]; exact hrd.keepA (hG.mono hsz) (by omega) k0 (by intro k hk' hg; simp at hk'; subst hk'; have := hG _ hg; omega) (by simp; omega)
      · exact ((hk.weaken (B := [b, w.heap.size]) (by simp)).trans (k0.weaken (by simp))).fresh (by simp)
    | succ j =>
      have tok : True := trivial
      have hGr : There G wr := hG.mono hsz
      have hn1 : (rdUv st).1 < 4294967296 := rdUv_lt st
      have hn2 : (rdUv (rdUv st).2).1 < 4294967296 := rdUv_lt _
      go_wp2_with (first
        | (go_at_call 72; have _t := tok; go_loud (refine (rduv_any hrd hGr hb).mono ?_; rintro e w1 ⟨rfl, r1, k1⟩; clear _t tok))
        | (go_at_call 72; go_loud (refine (rduv_any (w := w1) r1 (hGr.mono k1.size) hb).mono ?_; rintro e w2 ⟨rfl, r2, k2⟩))
        | (go_at_call 74; go_loud (refine (span_any (w := w2) r2 hb).mono ?_; rintro e w3 ⟨x, rfl, hx, r3, k3⟩; obtain ⟨ax, cx, rfl⟩ := RS.shape hx; have kk := (k1.trans k2).trans k3; have hm3 := hmo.kept (w' := w3) (fun k hk' => kk.block k (hmo.lt k hk') (by have := hblk k hk'; simp; omega)); have c3 := (kk.block _ hl1 (by simp; omega)).trans C1.out; have TS := tset_any (x := .slice ax (rdSpan ((rdUv (rdUv st).2).1 : Int) (rdUv (rdUv st).2).2).1.length cx) c3 (i := 0) rfl hm3 hn1 (by omega)))
        | (go_at_call 73; go_loud (refine TS.mono ?_; rintro e w4 ⟨rfl, v4, m4, c4, b4, k4⟩)))
      have hk3 : Keep [b] wr w3 := kk
      have hz3 := kk.size
      have hz4 := k4.size
      have kT : Keep [b] w w4 := (((hk.trans kk).weaken (B := b :: (w.heap.size + 1) :: mblk (.map mr)) (by simp)).trans (k4.weaken (by intro k h; exact List.mem_cons_of_mem _ h))).fresh (fun k h => by
        rcases List.mem_cons.1 h with rfl | h
        · exact .inl (by simp)
        · rcases List.mem_cons.1 h with rfl | h
          · exact .inr (by omega)
          · exact .inr (by have := hblk k h; omega))
      have hoff : ∀ k, k < w.heap.size + 1 → k ∉ (w.heap.size + 1) :: mblk (.map mr) := fun k hk' h => by
        rcases List.mem_cons.1 h with rfl | h
        · omega
        · have := hblk k h; omega
      have hsG : SameOn G wr w4 := fun k hk' => (k4.block k (by have := hG k hk'; omega) (hoff k (by have := hG k hk'; omega))).trans (kk.block k (by have := hG k hk'; omega) (by have := hG k hk'; simp; rintro rfl; exact hb hk'))
      have hs3 : SameOn G w3 w4 := fun k hk' => k4.block k (by have := hG k hk'; omega) (hoff k (by have := hG k hk'; omega))
      refine ⟨⟨j, v4, n + 1, putK m (rdUv st).1 (.slice ax (rdSpan ((rdUv (rdUv st).2).1 : Int) (rdUv (rdUv st).2).2).1.length cx, (rdSpan ((rdUv (rdUv st).2).1 : Int) (rdUv (rdUv st).2).2).1), (rdSpan ((rdUv (rdUv st).2).1 : Int) (rdUv (rdUv st).2).2).2, rfl, by omega, by omega, c4, ?_, ?_, ?_, ?_, ?_, kT, ?_⟩, by simp [intOf]⟩
      · exact (k4.block _ (by omega) (hoff _ (by omega))).trans ((kk.block _ (by omega) (by simp; omega)).trans C0.out)
      · have e := putK_map (Prod.fst) m (rdUv st).1 (Value.slice ax (rdSpan ((rdUv (rdUv st).2).1 : Int) (rdUv (rdUv st).2).2).1.length cx, (rdSpan ((rdUv (rdUv st).2).1 : Int) (rdUv (rdUv st).2).2).1)
        rw [e]
        exact m4
      · intro y hy
        rcases mem_putK hy with rfl | hy
        · exact hx.keepF hs3 (fun _ h => h)
        · exact (hrb y hy).keepF hsG (fun _ h => h)
      · intro r hr
        rcases b4 r hr with h | h
        · exact hblk r h
        · omega
      · obtain ⟨v, q1, q2, q3⟩ := r3
        exact ⟨v, (k4.block b (by omega) (hoff b (by omega))).trans q1, q2.keepF hs3 (fun _ h => h), q3⟩
      · have e := putK_map (Prod.snd) m (rdUv st).1 (Value.slice ax (rdSpan ((rdUv (rdUv st).2).1 : Int) (rdUv (rdUv st).2).2).1.length cx, (rdSpan ((rdUv (rdUv st).2).1 : Int) (rdUv (rdUv st).2).2).1)
        rw [e, ← HEQ.out]
        rfl
end Go.Proofs.YtdklogmmfnddiaaDoor
