/-
  spec.Fit at lists; spec.Fit.
-/
import Derived.Test.YtidebamgmbdnaaaMB18
namespace Go.Proofs.Ytidebamgmbdnaaa
open Go.ChangeShapes Go.WideShapes Go.ChangeAt Go.RowKit

theorem fitFs_len : ∀ (fs : List F) (i : Nat) (v : Int) (t : T), (fitFs fs i v t).length = fs.length
  | [], _, _, _ => rfl
  | f :: r, i, v, t => by simp [fitFs, fitFs_len r]
theorem fitFs_get : ∀ (fs : List F) (i : Nat) (v : Int) (t : T) (n : Nat) (h : n < fs.length) (h' : n < (fitFs fs i v t).length), (fitFs fs i v t)[n] = fitF fs[n] v (atT t (i + n))
  | f :: r, i, v, t, 0, _, _ => rfl
  | f :: r, i, v, t, n + 1, h, h' => by
    have e := fitFs_get r (i + 1) v t n (by simpa using h) (by simpa [fitFs] using h')
    simp only [fitFs, List.getElem_cons_succ]
    rw [e, show i + 1 + n = i + (n + 1) by omega]
/-- a round of a loop over tags whose octets are made of blocks that were there when the loop began -/
theorem fit_round2 {b B E g cap i : Nat} {G : Nat → Prop} {WL wr w2 w3 : World} {v u vx : Value} {l : List Tg} {x : Tg} {cs : List Value} (hGL : ∀ k, G k → k < WL.heap.size ∧ k ≠ b) (hb2 : b < WL.heap.size) (hB : WL.heap.size ≤ B)
    (hkeep : Keep [b] WL wr) (kx : Keep [] wr w2) (hx : RB wr G vx x.2) (hx1 : x.1 < 4294967296 ∧ x.2.length ≤ 9223372036854775807) (hv : ∀ k, some k = v.ownBlock → B ≤ k) (e1 : cs.length = l.length)
    (e2 : ∀ i (a : i < l.length) (b : i < cs.length), RB w2 (Off (New G WL w2) v) cs[i] l[i].2) (e3 : ∀ x ∈ l, x.1 < 4294967296 ∧ x.2.length ≤ 9223372036854775807) (hl : l.length + 1 ≤ 1099511627776)
    (hown : w3.ownsRow B E 2 (.slice (some ⟨g, 0, none⟩) (l.length + 1) cap) (l.length + 1) (((l.zip cs).map fun x => [Value.int .u32 (x.1.1 : Int), x.2]).flatten ++ [.int .u32 (x.1 : Int), vx])) (hgr : w2.grownBy w3 v.ownBlock) (hat : v.ownBlock = some g ∨ g = w2.heap.size) :
    OG (w3.setCell ⟨b, i, none⟩ u) B E (New G WL (w3.setCell ⟨b, i, none⟩ u)) (.slice (some ⟨g, 0, none⟩) (l.length + 1) cap) (l ++ [x]) ∧ Keep [b] WL (w3.setCell ⟨b, i, none⟩ u) := by
  have hs := hkeep.size
  have hs2 := kx.size
  have P := OG.push (w := w2) (w' := w3) (B := B) (E := E) (G := New G WL w2) (v := v) (x := x) (vx := vx) (g := g) (cap := cap) e1 e2 e3
    (hx.keepF (w' := w2) (fun k hk => kx.block k (by have := hGL k hk; omega) (by simp)) (fun k hk => ⟨⟨.inl hk, by have := hGL k hk; omega⟩, fun e => by have := hv k e; have := hGL k hk; omega⟩))
    hx1 (fun k hk => hk.2) hl hown hgr (hat.imp id (fun h => by omega))
  have hsg := hgr.size
  refine ⟨P.keepF (fun k hk => ?_) (fun k hk => ⟨hk.1, ?_⟩) (fun k e => ?_), ?_⟩
  · refine Below.heap_setCell _ _ _ _ fun e => ?_
    simp only at e
    subst e
    rcases hk.1 with h1 | h1
    · exact (hGL _ h1).2 rfl
    · omega
  · have := hk.2; simp [World.setCell]; omega
  · refine Below.heap_setCell _ _ _ _ fun e' => ?_
    simp only at e'
    subst e'
    have := (hown.lt _ e).1
    omega
  · exact ((hkeep.trans (kx.weaken (by simp))).grown hgr fun k e => .inr (by have := hv k e.symm; omega)).setCell (.inl (by simp)) _
theorem OT.lift {b B E : Nat} {G : Nat → Prop} {w W3 WL wr : World} {v : Value} {l : List T} (h : OT WL B E (New G W3 WL) v l) (hG : There G w) (hb : w.heap.size ≤ b) (hbW : b < W3.heap.size) (hB : W3.heap.size ≤ B) (k : Keep [b] WL wr) : OT wr B E (New G W3 wr) v l := by
  have hs := k.size
  have hr := h.row
  refine h.keepF (fun j hj => k.block j hj.2 ?_) (fun j hj => ⟨hj.1, by have := hj.2; omega⟩) (fun j e => ?_)
  · rcases hj.1 with h1 | h1
    · have := hG j h1; simp; omega
    · simp; omega
  · obtain ⟨xs, hr⟩ := hr
    have := hr.lt j e
    exact k.block j this.2 (by simp; omega)
/-- the end: the tree that was made lies in block b -/
theorem fit_end {B B' E E' : Nat} {G : Nat → Prop} {w W3 wr ws : World} {n : Int} {nu : Bool} {l : List T} {us : List Tg} {vl vu : Value} (_hG : There G w) (hwW : w.heap.size ≤ W3.heap.size) (_hWr : W3.heap.size ≤ wr.heap.size)
    (hOT : OT wr B E (New G W3 wr) vl l) (hB : W3.heap.size ≤ B) (hOG : OG wr B' E' (New G W3 wr) vu us) (hB' : W3.heap.size ≤ B') (h1 : -9223372036854775808 ≤ n) (h2 : n ≤ 9223372036854775807) (h4 : l.length ≤ 1099511627776)
    (hws : SameOn (fun k => (G k ∨ W3.heap.size ≤ k) ∧ k < wr.heap.size) wr ws) (hsz : wr.heap.size ≤ ws.heap.size) : HT ws (New G w ws) (.mk n [] nu l us) [.int .i64 n, .slice none 0 0, .bool nu, vl, vu] := by
  have hl' : HTs ws (New G w ws) vl l := (hOT.hts (G' := New G W3 wr) (fun _ h => h) (fun k h1 h2 => ⟨.inr (by omega), h2⟩)).keepF (fun k hk => hws k hk) fun k hk => ⟨hk.1.imp id (fun h => by omega), by have := hk.2; omega⟩
  have hu' : HGs ws (New G w ws) vu us := (hOG.hgs (G' := New G W3 wr) (fun k h => h) (fun k h1 h2 => ⟨.inr (by omega), h2⟩)).keepF (fun k hk => hws k hk) fun k hk => ⟨hk.1.imp id (fun h => by omega), by have := hk.2; omega⟩
  exact HT.ofL n [] nu l us (RB.nil _ _) hl' hu' h1 h2 (by simp) h4
theorem fitted_body : Try.f35.body.isNone = false := by kernel_rfl
theorem fitted_name : (Try.f35.name == "runtime.NumGoroutine") = false := by kernel_rfl
theorem sat_body : Try.f36.body.isNone = false := by kernel_rfl
theorem sat_name : (Try.f36.name == "runtime.NumGoroutine") = false := by kernel_rfl
theorem whole_body : Try.f38.body.isNone = false := by kernel_rfl
theorem whole_name : (Try.f38.name == "runtime.NumGoroutine") = false := by kernel_rfl
section
variable {f : F} {v : Int}

set_option maxHeartbeats 4000000 in
set_option maxRecDepth 100000 in
theorem fit_list (hk : f.kind = 11) (ho : f.ofk ≠ 11) (hT : f.tag < 0) (hE : FieldFit (oneT f) v) : FieldFit f v := by
  intro G cf t c w hf ht hG
  rw [fitF_eq]
  have NUX := fun W (hW : Keep [] w W) => null_any (hf.keepF (hG.same hW) (fun _ h => h)) (ht.keepF (hG.same hW) (fun _ h => h)) v
  obtain ⟨aS, pS, rfl, hsub⟩ := hf.cells
  obtain ⟨az, ps, al, pl, au, pu, rfl, hs, hl, hu, hn1, hn2, hn3, -⟩ := id ht.cells
  have kw : Keep [] w (((w.alloc (.cells #[.int .i64 f.kind, .int .i64 f.frm, .int .i64 f.to, .int .i64 f.nul, .int .i64 f.tag, .int .i64 f.dfl, .int .i64 f.ofk, .slice aS f.sub.length pS] 50)).alloc (.cells #[.int .i64 t.n, .slice az t.s.length ps, .bool t.null, .slice al t.l.length pl, .slice au t.u.length pu] 26)).alloc (.cells #[.int .i64 0, .slice none 0 0, .bool false, .slice none 0 0, .slice none 0 0] 26)) := ((keep_box _).alloc _).alloc _
  have NU : Hid _ := NUX _ kw
  clear NUX
  rw [if_pos hk, show (decide (0 ≤ f.tag) && t.l.isEmpty) = false by rw [show decide (0 ≤ f.tag) = false by simpa using hT]; rfl, Bool.or_false]
  rw [show fitK f.ofk false (fitPart f.sub v) = fitF (oneT f) v from funext fun x => (fitF_one ho v x).symm]
  have hT' : ¬ 0 ≤ f.tag := by omega
  generalize f.isNull v t = nu at *
  obtain ⟨i0, hi, hz0, hz1, hz2⟩ := info_agg info_st zero_st
  have HSUB : Hid _ := hsub
  have HL := fun W (hW : Keep [] w W) => things_any (hl.keepF (hG.same hW) (fun _ h => h))
  have hb9 := things_len t.l
  clear hf ht hs hl hu hsub
  generalize f.kind = kd at *
  subst hk
  cases nu
  · go_enter Try.func35, Try.ntmps35
    go_wp2_with (first
      | (go_at_call 71; go_loud (refine Calls.mono NU.out ?_; rintro e w1 ⟨rfl, k1⟩; obtain ⟨hbF, hbT, hbR⟩ := threeB k1; have HBR : Hid _ := hbR; have K1 : Keep [] w w1 := kw.trans k1; have f0 := cellOf hbF 0 _ rfl; have f1 := cellOf hbF 1 _ rfl; have f2 := cellOf hbF 2 _ rfl; have f3 := cellOf hbF 3 _ rfl; have f4 := cellOf hbF 4 _ rfl; have f5 := cellOf hbF 5 _ rfl; have f6 := cellOf hbF 6 _ rfl; have f7 := cellOf hbF 7 _ rfl; have t0 := cellOf hbT 0 _ rfl; have t1 := cellOf hbT 1 _ rfl; have t2 := cellOf hbT 2 _ rfl; have t3 := cellOf hbT 3 _ rfl; have t4 := cellOf hbT 4 _ rfl; have r0 := cellOf hbR 0 _ rfl; have r1 := cellOf hbR 1 _ rfl; have r2 := cellOf hbR 2 _ rfl; have r3 := cellOf hbR 3 _ rfl; have r4 := cellOf hbR 4 _ rfl; have q0 := freeOf hbR 0; have q1 := freeOf hbR 1; have q2 := freeOf hbR 2; have q3 := freeOf hbR 3; have q4 := freeOf hbR 4; have HBF : Hid _ := hbF; have HBT : Hid _ := hbT; have lF := World.heap_lt hbF; have lT := World.heap_lt hbT; have lR := World.heap_lt hbR; clear hbF hbT hbR))
      | (go_at_call 72; go_loud (refine (HL _ (K1.trans ((keep_box _).alloc _))).mono ?_; rintro e wt ⟨d, rfl, hd, rfl⟩; obtain ⟨ad, pd, rfl, -⟩ := hd.shape)))
    have hb0 : ((w1.alloc (.cells #[.int .i64 0, .slice none 0 0, .bool false, .slice none 0 0, .slice none 0 0] 26)).alloc (.cells #[.int .i64 f.ofk, .int .i64 f.frm, .int .i64 f.to, .int .i64 (-1), .int .i64 (-1), .int .i64 f.dfl, .int .i64 f.ofk, .slice aS f.sub.length pS] 50)).heap[w1.heap.size]? = some (.cells #[.int .i64 0, .slice none 0 0, .bool false, .slice none 0 0, .slice none 0 0] 26 (0, 0)) := ((keep_box (A := []) _).block w1.heap.size (by simp) (by simp)).trans (heap_alloc_new w1 _)
    have hbO : ((w1.alloc (.cells #[.int .i64 0, .slice none 0 0, .bool false, .slice none 0 0, .slice none 0 0] 26)).alloc (.cells #[.int .i64 f.ofk, .int .i64 f.frm, .int .i64 f.to, .int .i64 (-1), .int .i64 (-1), .int .i64 f.dfl, .int .i64 f.ofk, .slice aS f.sub.length pS] 50)).heap[w1.heap.size + 1]? = some (.cells #[.int .i64 f.ofk, .int .i64 f.frm, .int .i64 f.to, .int .i64 (-1), .int .i64 (-1), .int .i64 f.dfl, .int .i64 f.ofk, .slice aS f.sub.length pS] 50 (0, 0)) := by
      have h := heap_alloc_new (w1.alloc (.cells #[.int .i64 0, .slice none 0 0, .bool false, .slice none 0 0, .slice none 0 0] 26)) (.cells #[.int .i64 f.ofk, .int .i64 f.frm, .int .i64 f.to, .int .i64 (-1), .int .i64 (-1), .int .i64 f.dfl, .int .i64 f.ofk, .slice aS f.sub.length pS] 50)
      simpa using h
    have kS : Keep [] w1 ((w1.alloc (.cells #[.int .i64 0, .slice none 0 0, .bool false, .slice none 0 0, .slice none 0 0] 26)).alloc (.cells #[.int .i64 f.ofk, .int .i64 f.frm, .int .i64 f.to, .int .i64 (-1), .int .i64 (-1), .int .i64 f.dfl, .int .i64 f.ofk, .slice aS f.sub.length pS] 50)) := (keep_box _).alloc _
    have s3 : ((w1.alloc (.cells #[.int .i64 0, .slice none 0 0, .bool false, .slice none 0 0, .slice none 0 0] 26)).alloc (.cells #[.int .i64 f.ofk, .int .i64 f.frm, .int .i64 f.to, .int .i64 (-1), .int .i64 (-1), .int .i64 f.dfl, .int .i64 f.ofk, .slice aS f.sub.length pS] 50)).heap.size = w1.heap.size + 2 := by simp
    generalize ((w1.alloc (.cells #[.int .i64 0, .slice none 0 0, .bool false, .slice none 0 0, .slice none 0 0] 26)).alloc (.cells #[.int .i64 f.ofk, .int .i64 f.frm, .int .i64 f.to, .int .i64 (-1), .int .i64 (-1), .int .i64 f.dfl, .int .i64 f.ofk, .slice aS f.sub.length pS] 50)) = W3 at *
    have HB0 : Hid _ := hb0
    have HBO : Hid _ := hbO
    have HBR3 : Hid _ := (kS.block _ lR (by simp)).trans HBR.out
    have KW3 : Keep [] w W3 := K1.trans kS
    have hs3 : W3.heap.size = w1.heap.size + 2 := s3
    have hs1 := K1.size
    clear hb0 hbO s3 r0 r1 r2 r3 r4 q0 q1 q2 q3 q4 f0 f1 f2 f3 f4 f5 f6 f7 t0 t1 t2 t3 t4
    go_loopw [62] (fun k wr => ∃ n : Nat, n ≤ (things t.l).length ∧ k = .int .i64 n ∧ ∃ v', wr.heap[w1.heap.size]? = some (.cells #[.int .i64 0, .slice none 0 0, .bool false, v', .slice none 0 0] 26 (0, 0)) ∧ OT wr W3.heap.size 26 (New G W3 wr) v' (((things t.l).map (fitF (oneT f) v)).take n) ∧ Keep [w1.heap.size] W3 wr) (fun k _ => (things t.l).length - (intOf k).toNat)
    case atStart => exact ⟨0, Nat.zero_le _, rfl, _, HB0.out, by simpa using OT.nil _ _ _ _, Keep.refl _ _⟩
    case round =>
      obtain ⟨n, hn, rfl, v', hout, hOT, hkeep⟩ := hrel
      have hk : Keep [w1.heap.size] w wr := (KW3.weaken (by simp)).trans hkeep
      have hsame : SameOn G w wr := sameOn_of hk hG (fun k hk' => by have := hG k hk'; simp; omega)
      have hGr : There G wr := fun k hk' => Nat.lt_of_lt_of_le (hG k hk') hk.size
      have hsz := hk.size
      have hsz3 := hkeep.size
      have z3 : wr.cell? ⟨w1.heap.size, 3, none⟩ = some v' := cellOf hout 3 _ rfl
      have f3 : wr.frozen? ⟨w1.heap.size, 3, none⟩ = false := freeOf hout 3
      have hbt : w1.heap.size < wr.heap.size := by omega
      have HOUT : Hid _ := hout
      have hO := (hkeep.block (w1.heap.size + 1) (by omega) (by simp)).trans HBO.out
      have hbt1 : w1.heap.size + 1 < wr.heap.size := by omega
      have HR : Hid _ := (hkeep.block (w.heap.size + 1 + 1) (by omega) (by simp; omega)).trans HBR3.out
      by_cases hlt : n < (things t.l).length
      · obtain ⟨bx, ox, cx, rfl, hGx, hcx, hcell⟩ := (hd.keepF (sameOn_of hkeep (hG.keep KW3) (fun k hk' => by have := hG k hk'; simp; omega)) (fun _ h => h)).cells hlt
        have GS := fun W (hW : Keep [] wr W) => hE G _ _ _ W (HF.oneT (HFs.keepF HSUB.out (fun k hk' => ((hGr.same hW) k hk').trans (hsame k hk')) (fun _ h => h))) (hcx.keepF (hGr.same hW) (fun _ h => h)) (hGr.keep hW)
        obtain ⟨az3, ps3, al3, pl3, au3, pu3, rfl, _⟩ := hcx.cells
        have hbl := hGr bx hGx
        have c0 : wr.cell? ⟨bx, ox + n * 5, none⟩ = some _ := hcell 0 (by simp)
        have c1 : wr.cell? ⟨bx, ox + n * 5 + 1, none⟩ = some _ := hcell 1 (by simp)
        have c2 : wr.cell? ⟨bx, ox + n * 5 + 2, none⟩ = some _ := hcell 2 (by simp)
        have c3 : wr.cell? ⟨bx, ox + n * 5 + 3, none⟩ = some _ := hcell 3 (by simp)
        have c4 : wr.cell? ⟨bx, ox + n * 5 + 4, none⟩ = some _ := hcell 4 (by simp)
        simp only [List.getElem_cons_zero, List.getElem_cons_succ] at c0 c1 c2 c3 c4
        have hgy : ((things t.l).map (fitF (oneT f) v))[n]'(by simpa using hlt) = fitF (oneT f) v (things t.l)[n] := by simp
        clear hcell hcx hout
        generalize (things t.l)[n] = x at *
        generalize fitF (oneT f) v x = y at *
        have HXN : Hid _ := hgy
        clear hgy
        have o0 : wr.cell? ⟨w1.heap.size + 1, 0, none⟩ = some _ := cellOf hO 0 _ rfl
        have o1 : wr.cell? ⟨w1.heap.size + 1, 1, none⟩ = some _ := cellOf hO 1 _ rfl
        have o2 : wr.cell? ⟨w1.heap.size + 1, 2, none⟩ = some _ := cellOf hO 2 _ rfl
        have o3 : wr.cell? ⟨w1.heap.size + 1, 3, none⟩ = some _ := cellOf hO 3 _ rfl
        have o4 : wr.cell? ⟨w1.heap.size + 1, 4, none⟩ = some _ := cellOf hO 4 _ rfl
        have o5 : wr.cell? ⟨w1.heap.size + 1, 5, none⟩ = some _ := cellOf hO 5 _ rfl
        have o6 : wr.cell? ⟨w1.heap.size + 1, 6, none⟩ = some _ := cellOf hO 6 _ rfl
        have o7 : wr.cell? ⟨w1.heap.size + 1, 7, none⟩ = some _ := cellOf hO 7 _ rfl
        have HO : Hid _ := hO
        clear hO
        go_wp2_with fail
        clear c0 c1 c2 c3 c4
        have hlen : (((things t.l).map (fitF (oneT f) v)).take n).length = n := by simp; omega
        have HLEN : Hid _ := hlen
        have HLT : Hid (n < ((things t.l).map (fitF (oneT f) v)).length) := by show _ < _; simpa using hlt
        clear hlen
        go_region_law (first
          | (refine step_call (by rfl) 35 #[.tmp 68, .tmp 69, .tmp 70] #[50, 3, 26] (by rfl) #[.agg #[.int .i64 f.ofk, .int .i64 f.frm, .int .i64 f.to, .int .i64 (-1), .int .i64 (-1), .int .i64 f.dfl, .int .i64 f.ofk, .slice aS f.sub.length pS], .int .i64 v, .agg #[.int .i64 x.n, .slice az3 x.s.length ps3, .bool x.null, .slice al3 x.l.length pl3, .slice au3 x.u.length pu3]] (by simp [go_sem]) _ (by rfl) fitted_body fitted_name (GS _ ((keep_box _).drew)) ?_; rintro e w2 ⟨c', rfl, hc', k2⟩; refine ⟨_, rfl, ?_⟩; obtain ⟨az5, ps5, al5, pl5, au5, pu5, rfl, _⟩ := id hc'.cells; have kx : Keep [] wr w2 := (keep_box _).drew.trans k2; have y3 := kx.cs z3; have hs2 := kx.size; have hs2' := k2.size; have hlt2 : w1.heap.size < w2.heap.size := (by omega); have y4 := (kx.frozen (p := ⟨w1.heap.size, 3, none⟩) hbt).trans f3)
          | (obtain ⟨cs, e1, e2, e3, e4⟩ := hOT.keepF (w' := w2.alloc (.cells #[.int .i64 y.n, .slice az5 y.s.length ps5, .bool y.null, .slice al5 y.l.length pl5, .slice au5 y.u.length pu5] 26)) (G' := New G W3 (w2.alloc (.cells #[.int .i64 y.n, .slice az5 y.s.length ps5, .bool y.null, .slice al5 y.l.length pl5, .slice au5 y.u.length pu5] 26))) (fun k hk' => (kx.alloc _).block k hk'.2 (by simp)) (fun k hk' => ⟨hk'.1, by simp; have := hk'.2; omega⟩) (fun k e => by obtain ⟨xs, hr⟩ := hOT.row; have := hr.lt k e; exact (kx.alloc _).block k this.2 (by simp)); refine step_append_lies _ (by rfl) (.tmp 67) (.tmp 72) _ (by rfl) W3.heap.size 26 i0 _ 5 88 Try.underlying23 hi hz0 hz1 hz2 rfl (by omega) v' _ cs.flatten (by rfl) e4 ⟨w2.heap.size, 0, none⟩ 1 1 [.int .i64 y.n, .slice az5 y.s.length ps5, .bool y.null, .slice al5 y.l.length pl5, .slice au5 y.u.length pu5] (by rfl) (by rfl) (World.news_of_block (cs := #[.int .i64 y.n, .slice az5 y.s.length ps5, .bool y.null, .slice al5 y.l.length pl5, .slice au5 y.u.length pu5]) (heap_alloc_new w2 _)) hc'.one (by omega) (by unfold maxLen; rw [HLEN.out]; omega) (by rw [HLEN.out]; omega) (by simp; omega) (w2.heap.size + 1) (by simp) ?_; intro g cap w3 hown1 hgr hat hlt3; have nb := hOT.off (k := w1.heap.size) (by omega); have x1 := hgr.block (w1.heap.size) (by simp; omega) nb; have x2 := (kx.alloc (.cells #[.int .i64 y.n, .slice az5 y.s.length ps5, .bool y.null, .slice al5 y.l.length pl5, .slice au5 y.u.length pu5] 26)).block _ hbt List.not_mem_nil; have x3 := (x1.trans x2).trans HOUT.out; have z5 := cellOf x3 3 _ rfl; have f5 := freeOf x3 3; clear x1 x2))
        all_goals (go_wp2; go_roundw; (case rel => (refine ⟨n + 1, by omega, by go_num, _, heap_set x3 _, ?_⟩; obtain ⟨xs0, hrow0⟩ := hOT.row; have hG3 := got_round (i := 3) (u := .slice (some ⟨g, 0, none⟩) (n + 1) cap) hG (by omega) (by omega) (by omega) hkeep kx hrow0 hc' e1 e2 (by rw [HLEN.out]; omega) hown1 hgr hat; rw [HLEN.out] at hG3; rw [List.take_succ_eq_append_getElem HLT.out, HXN.out]; exact hG3)); (case measure => (simp [intOf]; omega)))
      · have hnl : ((things t.l).map (fitF (oneT f) v)).take n = (things t.l).map (fitF (oneT f) v) := List.take_of_length_le (by simp; omega)
        rw [hnl] at hOT
        obtain ⟨xs2, hr2⟩ := OT.row hOT
        obtain ⟨ao1, cp1, hv1⟩ := owns_shape hr2
        rw [List.length_map] at hv1
        subst hv1
        have HOT : Hid _ := hOT
        have z0 : wr.cell? ⟨w1.heap.size, 0, none⟩ = some _ := cellOf hout 0 _ rfl
        have z1 : wr.cell? ⟨w1.heap.size, 1, none⟩ = some _ := cellOf hout 1 _ rfl
        have z2 : wr.cell? ⟨w1.heap.size, 2, none⟩ = some _ := cellOf hout 2 _ rfl
        have z4 : wr.cell? ⟨w1.heap.size, 4, none⟩ = some _ := cellOf hout 4 _ rfl
        have hR := HR.out
        have r0 : wr.cell? ⟨w.heap.size + 1 + 1, 0, none⟩ = some _ := cellOf hR 0 _ rfl
        have q0 := freeOf hR 0
        have r1 : wr.cell? ⟨w.heap.size + 1 + 1, 1, none⟩ = some _ := cellOf hR 1 _ rfl
        have q1 := freeOf hR 1
        have r2 : wr.cell? ⟨w.heap.size + 1 + 1, 2, none⟩ = some _ := cellOf hR 2 _ rfl
        have q2 := freeOf hR 2
        have r3 : wr.cell? ⟨w.heap.size + 1 + 1, 3, none⟩ = some _ := cellOf hR 3 _ rfl
        have q3 := freeOf hR 3
        have r4 : wr.cell? ⟨w.heap.size + 1 + 1, 4, none⟩ = some _ := cellOf hR 4 _ rfl
        have q4 := freeOf hR 4
        have hll : ((things t.l).map (fitF (oneT f) v)).length ≤ 1099511627776 := by simp; omega
        clear hOT hr2 hnl hout hO hR
        go_wp2_with fail
        have KR : Keep [] w wr := hk.fresh (by simp; omega)
        clear z0 z1 z2 z3 z4 f3
        have hr : (((((wr.setCell ⟨w.heap.size + 1 + 1, 0, none⟩ (.int .i64 0)).setCell ⟨w.heap.size + 1 + 1, 1, none⟩ (.slice none 0 0)).setCell ⟨w.heap.size + 1 + 1, 2, none⟩ (.bool false)).setCell ⟨w.heap.size + 1 + 1, 3, none⟩ (.slice ao1 (things t.l).length cp1)).setCell ⟨w.heap.size + 1 + 1, 4, none⟩ (.slice none 0 0)).heap[w.heap.size + 1 + 1]? = some (.cells #[.int .i64 0, .slice none 0 0, .bool false, .slice ao1 (things t.l).length cp1, .slice none 0 0] 26 (0, 0)) := (tset5 (o := 0) HR.out).1
        have kr : Keep [w.heap.size + 1 + 1] wr (((((wr.setCell ⟨w.heap.size + 1 + 1, 0, none⟩ (.int .i64 0)).setCell ⟨w.heap.size + 1 + 1, 1, none⟩ (.slice none 0 0)).setCell ⟨w.heap.size + 1 + 1, 2, none⟩ (.bool false)).setCell ⟨w.heap.size + 1 + 1, 3, none⟩ (.slice ao1 (things t.l).length cp1)).setCell ⟨w.heap.size + 1 + 1, 4, none⟩ (.slice none 0 0)) := (tset5 (o := 0) HR.out).2
        clear r0 q0 r1 q1 r2 q2 r3 q3 r4 q4
        generalize (((((wr.setCell ⟨w.heap.size + 1 + 1, 0, none⟩ (.int .i64 0)).setCell ⟨w.heap.size + 1 + 1, 1, none⟩ (.slice none 0 0)).setCell ⟨w.heap.size + 1 + 1, 2, none⟩ (.bool false)).setCell ⟨w.heap.size + 1 + 1, 3, none⟩ (.slice ao1 (things t.l).length cp1)).setCell ⟨w.heap.size + 1 + 1, 4, none⟩ (.slice none 0 0)) = ws at *
        have r0 : ws.cell? ⟨w.heap.size + 1 + 1, 0, none⟩ = some (.int .i64 0) := cellOf hr 0 _ rfl
        have r1 : ws.cell? ⟨w.heap.size + 1 + 1, 1, none⟩ = some (.slice none 0 0) := cellOf hr 1 _ rfl
        have r2 : ws.cell? ⟨w.heap.size + 1 + 1, 2, none⟩ = some (.bool false) := cellOf hr 2 _ rfl
        have r3 : ws.cell? ⟨w.heap.size + 1 + 1, 3, none⟩ = some (.slice ao1 (things t.l).length cp1) := cellOf hr 3 _ rfl
        have r4 : ws.cell? ⟨w.heap.size + 1 + 1, 4, none⟩ = some (.slice none 0 0) := cellOf hr 4 _ rfl
        have KS : Keep [w.heap.size + 1 + 1] w ws := (KR.weaken (by simp)).trans kr
        have hsz := KS.size
        refine bodyPost_ret (v := .agg #[.int .i64 0, .slice none 0 0, .bool false, .slice ao1 (things t.l).length cp1, .slice none 0 0]) (by simp [results, Try.results35, go_sem, r0, r1, r2, r3, r4]) rfl ⟨[.int .i64 0, .slice none 0 0, .bool false, .slice ao1 (things t.l).length cp1, .slice none 0 0], rfl, ?_, KS.fresh (by simp; omega)⟩
        refine fit_end hG (by omega) (by omega) HOT.out (Nat.le_refl _) (OG.nil _ wr.heap.size 0 _) (by omega) (by decide) (by decide) hll (fun k hk2 => kr.block k hk2.2 (by
            rcases hk2.1 with h | h
            · have := hG k h; simp; omega
            · simp; omega)) kr.size
  · go_enter Try.func35, Try.ntmps35
    go_wp2_with (first
      | (go_at_call 71; go_loud (refine Calls.mono NU.out ?_; rintro e w1 ⟨rfl, k1⟩; obtain ⟨hbF, hbT, hbR⟩ := threeB k1; have HBR : Hid _ := hbR; have K1 : Keep [] w w1 := kw.trans k1; have f0 := cellOf hbF 0 _ rfl; have f1 := cellOf hbF 1 _ rfl; have f2 := cellOf hbF 2 _ rfl; have f3 := cellOf hbF 3 _ rfl; have f4 := cellOf hbF 4 _ rfl; have f5 := cellOf hbF 5 _ rfl; have f6 := cellOf hbF 6 _ rfl; have f7 := cellOf hbF 7 _ rfl; have t0 := cellOf hbT 0 _ rfl; have t1 := cellOf hbT 1 _ rfl; have t2 := cellOf hbT 2 _ rfl; have t3 := cellOf hbT 3 _ rfl; have t4 := cellOf hbT 4 _ rfl; have r0 := cellOf hbR 0 _ rfl; have r1 := cellOf hbR 1 _ rfl; have r2 := cellOf hbR 2 _ rfl; have r3 := cellOf hbR 3 _ rfl; have r4 := cellOf hbR 4 _ rfl; have q0 := freeOf hbR 0; have q1 := freeOf hbR 1; have q2 := freeOf hbR 2; have q3 := freeOf hbR 3; have q4 := freeOf hbR 4; have HBF : Hid _ := hbF; have HBT : Hid _ := hbT; have lF := World.heap_lt hbF; have lT := World.heap_lt hbT; have lR := World.heap_lt hbR; clear hbF hbT hbR))
      | (go_at_call 72; go_loud (refine (HL _ (K1.trans ((keep_box _).alloc _))).mono ?_; rintro e wt ⟨d, rfl, hd, rfl⟩; obtain ⟨ad, pd, rfl, -⟩ := hd.shape)))
    have hb0 : ((w1.alloc (.cells #[.int .i64 0, .slice none 0 0, .bool true, .slice none 0 0, .slice none 0 0] 26)).alloc (.cells #[.int .i64 f.ofk, .int .i64 f.frm, .int .i64 f.to, .int .i64 (-1), .int .i64 (-1), .int .i64 f.dfl, .int .i64 f.ofk, .slice aS f.sub.length pS] 50)).heap[w1.heap.size]? = some (.cells #[.int .i64 0, .slice none 0 0, .bool true, .slice none 0 0, .slice none 0 0] 26 (0, 0)) := ((keep_box (A := []) _).block w1.heap.size (by simp) (by simp)).trans (heap_alloc_new w1 _)
    have hbO : ((w1.alloc (.cells #[.int .i64 0, .slice none 0 0, .bool true, .slice none 0 0, .slice none 0 0] 26)).alloc (.cells #[.int .i64 f.ofk, .int .i64 f.frm, .int .i64 f.to, .int .i64 (-1), .int .i64 (-1), .int .i64 f.dfl, .int .i64 f.ofk, .slice aS f.sub.length pS] 50)).heap[w1.heap.size + 1]? = some (.cells #[.int .i64 f.ofk, .int .i64 f.frm, .int .i64 f.to, .int .i64 (-1), .int .i64 (-1), .int .i64 f.dfl, .int .i64 f.ofk, .slice aS f.sub.length pS] 50 (0, 0)) := by
      have h := heap_alloc_new (w1.alloc (.cells #[.int .i64 0, .slice none 0 0, .bool true, .slice none 0 0, .slice none 0 0] 26)) (.cells #[.int .i64 f.ofk, .int .i64 f.frm, .int .i64 f.to, .int .i64 (-1), .int .i64 (-1), .int .i64 f.dfl, .int .i64 f.ofk, .slice aS f.sub.length pS] 50)
      simpa using h
    have kS : Keep [] w1 ((w1.alloc (.cells #[.int .i64 0, .slice none 0 0, .bool true, .slice none 0 0, .slice none 0 0] 26)).alloc (.cells #[.int .i64 f.ofk, .int .i64 f.frm, .int .i64 f.to, .int .i64 (-1), .int .i64 (-1), .int .i64 f.dfl, .int .i64 f.ofk, .slice aS f.sub.length pS] 50)) := (keep_box _).alloc _
    have s3 : ((w1.alloc (.cells #[.int .i64 0, .slice none 0 0, .bool true, .slice none 0 0, .slice none 0 0] 26)).alloc (.cells #[.int .i64 f.ofk, .int .i64 f.frm, .int .i64 f.to, .int .i64 (-1), .int .i64 (-1), .int .i64 f.dfl, .int .i64 f.ofk, .slice aS f.sub.length pS] 50)).heap.size = w1.heap.size + 2 := by simp
    generalize ((w1.alloc (.cells #[.int .i64 0, .slice none 0 0, .bool true, .slice none 0 0, .slice none 0 0] 26)).alloc (.cells #[.int .i64 f.ofk, .int .i64 f.frm, .int .i64 f.to, .int .i64 (-1), .int .i64 (-1), .int .i64 f.dfl, .int .i64 f.ofk, .slice aS f.sub.length pS] 50)) = W3 at *
    have HB0 : Hid _ := hb0
    have HBO : Hid _ := hbO
    have HBR3 : Hid _ := (kS.block _ lR (by simp)).trans HBR.out
    have KW3 : Keep [] w W3 := K1.trans kS
    have hs3 : W3.heap.size = w1.heap.size + 2 := s3
    have hs1 := K1.size
    clear hb0 hbO s3 r0 r1 r2 r3 r4 q0 q1 q2 q3 q4 f0 f1 f2 f3 f4 f5 f6 f7 t0 t1 t2 t3 t4
    go_loopw [62] (fun k wr => ∃ n : Nat, n ≤ (things t.l).length ∧ k = .int .i64 n ∧ ∃ v', wr.heap[w1.heap.size]? = some (.cells #[.int .i64 0, .slice none 0 0, .bool true, v', .slice none 0 0] 26 (0, 0)) ∧ OT wr W3.heap.size 26 (New G W3 wr) v' (((things t.l).map (fitF (oneT f) v)).take n) ∧ Keep [w1.heap.size] W3 wr) (fun k _ => (things t.l).length - (intOf k).toNat)
    case atStart => exact ⟨0, Nat.zero_le _, rfl, _, HB0.out, by simpa using OT.nil _ _ _ _, Keep.refl _ _⟩
    case round =>
      obtain ⟨n, hn, rfl, v', hout, hOT, hkeep⟩ := hrel
      have hk : Keep [w1.heap.size] w wr := (KW3.weaken (by simp)).trans hkeep
      have hsame : SameOn G w wr := sameOn_of hk hG (fun k hk' => by have := hG k hk'; simp; omega)
      have hGr : There G wr := fun k hk' => Nat.lt_of_lt_of_le (hG k hk') hk.size
      have hsz := hk.size
      have hsz3 := hkeep.size
      have z3 : wr.cell? ⟨w1.heap.size, 3, none⟩ = some v' := cellOf hout 3 _ rfl
      have f3 : wr.frozen? ⟨w1.heap.size, 3, none⟩ = false := freeOf hout 3
      have hbt : w1.heap.size < wr.heap.size := by omega
      have HOUT : Hid _ := hout
      have hO := (hkeep.block (w1.heap.size + 1) (by omega) (by simp)).trans HBO.out
      have hbt1 : w1.heap.size + 1 < wr.heap.size := by omega
      have HR : Hid _ := (hkeep.block (w.heap.size + 1 + 1) (by omega) (by simp; omega)).trans HBR3.out
      by_cases hlt : n < (things t.l).length
      · obtain ⟨bx, ox, cx, rfl, hGx, hcx, hcell⟩ := (hd.keepF (sameOn_of hkeep (hG.keep KW3) (fun k hk' => by have := hG k hk'; simp; omega)) (fun _ h => h)).cells hlt
        have GS := fun W (hW : Keep [] wr W) => hE G _ _ _ W (HF.oneT (HFs.keepF HSUB.out (fun k hk' => ((hGr.same hW) k hk').trans (hsame k hk')) (fun _ h => h))) (hcx.keepF (hGr.same hW) (fun _ h => h)) (hGr.keep hW)
        obtain ⟨az3, ps3, al3, pl3, au3, pu3, rfl, _⟩ := hcx.cells
        have hbl := hGr bx hGx
        have c0 : wr.cell? ⟨bx, ox + n * 5, none⟩ = some _ := hcell 0 (by simp)
        have c1 : wr.cell? ⟨bx, ox + n * 5 + 1, none⟩ = some _ := hcell 1 (by simp)
        have c2 : wr.cell? ⟨bx, ox + n * 5 + 2, none⟩ = some _ := hcell 2 (by simp)
        have c3 : wr.cell? ⟨bx, ox + n * 5 + 3, none⟩ = some _ := hcell 3 (by simp)
        have c4 : wr.cell? ⟨bx, ox + n * 5 + 4, none⟩ = some _ := hcell 4 (by simp)
        simp only [List.getElem_cons_zero, List.getElem_cons_succ] at c0 c1 c2 c3 c4
        have hgy : ((things t.l).map (fitF (oneT f) v))[n]'(by simpa using hlt) = fitF (oneT f) v (things t.l)[n] := by simp
        clear hcell hcx hout
        generalize (things t.l)[n] = x at *
        generalize fitF (oneT f) v x = y at *
        have HXN : Hid _ := hgy
        clear hgy
        have o0 : wr.cell? ⟨w1.heap.size + 1, 0, none⟩ = some _ := cellOf hO 0 _ rfl
        have o1 : wr.cell? ⟨w1.heap.size + 1, 1, none⟩ = some _ := cellOf hO 1 _ rfl
        have o2 : wr.cell? ⟨w1.heap.size + 1, 2, none⟩ = some _ := cellOf hO 2 _ rfl
        have o3 : wr.cell? ⟨w1.heap.size + 1, 3, none⟩ = some _ := cellOf hO 3 _ rfl
        have o4 : wr.cell? ⟨w1.heap.size + 1, 4, none⟩ = some _ := cellOf hO 4 _ rfl
        have o5 : wr.cell? ⟨w1.heap.size + 1, 5, none⟩ = some _ := cellOf hO 5 _ rfl
        have o6 : wr.cell? ⟨w1.heap.size + 1, 6, none⟩ = some _ := cellOf hO 6 _ rfl
        have o7 : wr.cell? ⟨w1.heap.size + 1, 7, none⟩ = some _ := cellOf hO 7 _ rfl
        have HO : Hid _ := hO
        clear hO
        go_wp2_with fail
        clear c0 c1 c2 c3 c4
        have hlen : (((things t.l).map (fitF (oneT f) v)).take n).length = n := by simp; omega
        have HLEN : Hid _ := hlen
        have HLT : Hid (n < ((things t.l).map (fitF (oneT f) v)).length) := by show _ < _; simpa using hlt
        clear hlen
        go_region_law (first
          | (refine step_call (by rfl) 35 #[.tmp 68, .tmp 69, .tmp 70] #[50, 3, 26] (by rfl) #[.agg #[.int .i64 f.ofk, .int .i64 f.frm, .int .i64 f.to, .int .i64 (-1), .int .i64 (-1), .int .i64 f.dfl, .int .i64 f.ofk, .slice aS f.sub.length pS], .int .i64 v, .agg #[.int .i64 x.n, .slice az3 x.s.length ps3, .bool x.null, .slice al3 x.l.length pl3, .slice au3 x.u.length pu3]] (by simp [go_sem]) _ (by rfl) fitted_body fitted_name (GS _ ((keep_box _).drew)) ?_; rintro e w2 ⟨c', rfl, hc', k2⟩; refine ⟨_, rfl, ?_⟩; obtain ⟨az5, ps5, al5, pl5, au5, pu5, rfl, _⟩ := id hc'.cells; have kx : Keep [] wr w2 := (keep_box _).drew.trans k2; have y3 := kx.cs z3; have hs2 := kx.size; have hs2' := k2.size; have hlt2 : w1.heap.size < w2.heap.size := (by omega); have y4 := (kx.frozen (p := ⟨w1.heap.size, 3, none⟩) hbt).trans f3)
          | (obtain ⟨cs, e1, e2, e3, e4⟩ := hOT.keepF (w' := w2.alloc (.cells #[.int .i64 y.n, .slice az5 y.s.length ps5, .bool y.null, .slice al5 y.l.length pl5, .slice au5 y.u.length pu5] 26)) (G' := New G W3 (w2.alloc (.cells #[.int .i64 y.n, .slice az5 y.s.length ps5, .bool y.null, .slice al5 y.l.length pl5, .slice au5 y.u.length pu5] 26))) (fun k hk' => (kx.alloc _).block k hk'.2 (by simp)) (fun k hk' => ⟨hk'.1, by simp; have := hk'.2; omega⟩) (fun k e => by obtain ⟨xs, hr⟩ := hOT.row; have := hr.lt k e; exact (kx.alloc _).block k this.2 (by simp)); refine step_append_lies _ (by rfl) (.tmp 67) (.tmp 72) _ (by rfl) W3.heap.size 26 i0 _ 5 88 Try.underlying23 hi hz0 hz1 hz2 rfl (by omega) v' _ cs.flatten (by rfl) e4 ⟨w2.heap.size, 0, none⟩ 1 1 [.int .i64 y.n, .slice az5 y.s.length ps5, .bool y.null, .slice al5 y.l.length pl5, .slice au5 y.u.length pu5] (by rfl) (by rfl) (World.news_of_block (cs := #[.int .i64 y.n, .slice az5 y.s.length ps5, .bool y.null, .slice al5 y.l.length pl5, .slice au5 y.u.length pu5]) (heap_alloc_new w2 _)) hc'.one (by omega) (by unfold maxLen; rw [HLEN.out]; omega) (by rw [HLEN.out]; omega) (by simp; omega) (w2.heap.size + 1) (by simp) ?_; intro g cap w3 hown1 hgr hat hlt3; have nb := hOT.off (k := w1.heap.size) (by omega); have x1 := hgr.block (w1.heap.size) (by simp; omega) nb; have x2 := (kx.alloc (.cells #[.int .i64 y.n, .slice az5 y.s.length ps5, .bool y.null, .slice al5 y.l.length pl5, .slice au5 y.u.length pu5] 26)).block _ hbt List.not_mem_nil; have x3 := (x1.trans x2).trans HOUT.out; have z5 := cellOf x3 3 _ rfl; have f5 := freeOf x3 3; clear x1 x2))
        all_goals (go_wp2; go_roundw; (case rel => (refine ⟨n + 1, by omega, by go_num, _, heap_set x3 _, ?_⟩; obtain ⟨xs0, hrow0⟩ := hOT.row; have hG3 := got_round (i := 3) (u := .slice (some ⟨g, 0, none⟩) (n + 1) cap) hG (by omega) (by omega) (by omega) hkeep kx hrow0 hc' e1 e2 (by rw [HLEN.out]; omega) hown1 hgr hat; rw [HLEN.out] at hG3; rw [List.take_succ_eq_append_getElem HLT.out, HXN.out]; exact hG3)); (case measure => (simp [intOf]; omega)))
      · have hnl : ((things t.l).map (fitF (oneT f) v)).take n = (things t.l).map (fitF (oneT f) v) := List.take_of_length_le (by simp; omega)
        rw [hnl] at hOT
        obtain ⟨xs2, hr2⟩ := OT.row hOT
        obtain ⟨ao1, cp1, hv1⟩ := owns_shape hr2
        rw [List.length_map] at hv1
        subst hv1
        have HOT : Hid _ := hOT
        have z0 : wr.cell? ⟨w1.heap.size, 0, none⟩ = some _ := cellOf hout 0 _ rfl
        have z1 : wr.cell? ⟨w1.heap.size, 1, none⟩ = some _ := cellOf hout 1 _ rfl
        have z2 : wr.cell? ⟨w1.heap.size, 2, none⟩ = some _ := cellOf hout 2 _ rfl
        have z4 : wr.cell? ⟨w1.heap.size, 4, none⟩ = some _ := cellOf hout 4 _ rfl
        have hR := HR.out
        have r0 : wr.cell? ⟨w.heap.size + 1 + 1, 0, none⟩ = some _ := cellOf hR 0 _ rfl
        have q0 := freeOf hR 0
        have r1 : wr.cell? ⟨w.heap.size + 1 + 1, 1, none⟩ = some _ := cellOf hR 1 _ rfl
        have q1 := freeOf hR 1
        have r2 : wr.cell? ⟨w.heap.size + 1 + 1, 2, none⟩ = some _ := cellOf hR 2 _ rfl
        have q2 := freeOf hR 2
        have r3 : wr.cell? ⟨w.heap.size + 1 + 1, 3, none⟩ = some _ := cellOf hR 3 _ rfl
        have q3 := freeOf hR 3
        have r4 : wr.cell? ⟨w.heap.size + 1 + 1, 4, none⟩ = some _ := cellOf hR 4 _ rfl
        have q4 := freeOf hR 4
        have hll : ((things t.l).map (fitF (oneT f) v)).length ≤ 1099511627776 := by simp; omega
        clear hOT hr2 hnl hout hO hR
        go_wp2_with fail
        have KR : Keep [] w wr := hk.fresh (by simp; omega)
        clear z0 z1 z2 z3 z4 f3
        have hr : (((((wr.setCell ⟨w.heap.size + 1 + 1, 0, none⟩ (.int .i64 0)).setCell ⟨w.heap.size + 1 + 1, 1, none⟩ (.slice none 0 0)).setCell ⟨w.heap.size + 1 + 1, 2, none⟩ (.bool true)).setCell ⟨w.heap.size + 1 + 1, 3, none⟩ (.slice ao1 (things t.l).length cp1)).setCell ⟨w.heap.size + 1 + 1, 4, none⟩ (.slice none 0 0)).heap[w.heap.size + 1 + 1]? = some (.cells #[.int .i64 0, .slice none 0 0, .bool true, .slice ao1 (things t.l).length cp1, .slice none 0 0] 26 (0, 0)) := (tset5 (o := 0) HR.out).1
        have kr : Keep [w.heap.size + 1 + 1] wr (((((wr.setCell ⟨w.heap.size + 1 + 1, 0, none⟩ (.int .i64 0)).setCell ⟨w.heap.size + 1 + 1, 1, none⟩ (.slice none 0 0)).setCell ⟨w.heap.size + 1 + 1, 2, none⟩ (.bool true)).setCell ⟨w.heap.size + 1 + 1, 3, none⟩ (.slice ao1 (things t.l).length cp1)).setCell ⟨w.heap.size + 1 + 1, 4, none⟩ (.slice none 0 0)) := (tset5 (o := 0) HR.out).2
        clear r0 q0 r1 q1 r2 q2 r3 q3 r4 q4
        generalize (((((wr.setCell ⟨w.heap.size + 1 + 1, 0, none⟩ (.int .i64 0)).setCell ⟨w.heap.size + 1 + 1, 1, none⟩ (.slice none 0 0)).setCell ⟨w.heap.size + 1 + 1, 2, none⟩ (.bool true)).setCell ⟨w.heap.size + 1 + 1, 3, none⟩ (.slice ao1 (things t.l).length cp1)).setCell ⟨w.heap.size + 1 + 1, 4, none⟩ (.slice none 0 0)) = ws at *
        have r0 : ws.cell? ⟨w.heap.size + 1 + 1, 0, none⟩ = some (.int .i64 0) := cellOf hr 0 _ rfl
        have r1 : ws.cell? ⟨w.heap.size + 1 + 1, 1, none⟩ = some (.slice none 0 0) := cellOf hr 1 _ rfl
        have r2 : ws.cell? ⟨w.heap.size + 1 + 1, 2, none⟩ = some (.bool true) := cellOf hr 2 _ rfl
        have r3 : ws.cell? ⟨w.heap.size + 1 + 1, 3, none⟩ = some (.slice ao1 (things t.l).length cp1) := cellOf hr 3 _ rfl
        have r4 : ws.cell? ⟨w.heap.size + 1 + 1, 4, none⟩ = some (.slice none 0 0) := cellOf hr 4 _ rfl
        have KS : Keep [w.heap.size + 1 + 1] w ws := (KR.weaken (by simp)).trans kr
        have hsz := KS.size
        refine bodyPost_ret (v := .agg #[.int .i64 0, .slice none 0 0, .bool true, .slice ao1 (things t.l).length cp1, .slice none 0 0]) (by simp [results, Try.results35, go_sem, r0, r1, r2, r3, r4]) rfl ⟨[.int .i64 0, .slice none 0 0, .bool true, .slice ao1 (things t.l).length cp1, .slice none 0 0], rfl, ?_, KS.fresh (by simp; omega)⟩
        refine fit_end hG (by omega) (by omega) HOT.out (Nat.le_refl _) (OG.nil _ wr.heap.size 0 _) (by omega) (by decide) (by decide) hll (fun k hk2 => kr.block k hk2.2 (by
            rcases hk2.1 with h | h
            · have := hG k h; simp; omega
            · simp; omega)) kr.size

end
end Go.Proofs.Ytidebamgmbdnaaa
