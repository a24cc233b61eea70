/-
  laws.got: a tree of the program as a tree of the reference.
-/
import Derived.Test.YtedconnhligkeaaDoorOwn
namespace Go.Proofs.YtedconnhligkeaaDoor
open Go.ChangeShapes Go.WideShapes Go.ChangeAt Go.RowKit

/-- what a fresh tree reaches -/
def New (G : Nat → Prop) (w w' : World) (k : Nat) : Prop := (G k ∨ w.heap.size ≤ k) ∧ k < w'.heap.size
theorem info_st : (Tryd.prog.info? 35).map (fun i => (i.size, i.bytes)) = some (5, 88) := by kernel_rfl
theorem zero_st : (Tryd.prog.info? 35).bind (fun i => i.zero) = some (.agg #[.int .i64 0, .slice none 0 0, .bool false, .slice none 0 0, .slice none 0 0]) := by kernel_rfl
theorem info_sg : (Tryd.prog.info? 50).map (fun i => (i.size, i.bytes)) = some (2, 32) := by kernel_rfl
theorem zero_sg : (Tryd.prog.info? 50).bind (fun i => i.zero) = some (.agg #[.int .u32 0, .slice none 0 0]) := by kernel_rfl
theorem info_agg {P : Program} {e : TypeId} {s b : Nat} {z : Value} (h1 : (P.info? e).map (fun i => (i.size, i.bytes)) = some (s, b)) (h2 : (P.info? e).bind (fun i => i.zero) = some z) :
    ∃ i, P.info? e = some i ∧ i.zero = some z ∧ i.size = s ∧ i.bytes = b := by
  cases hi : P.info? e with
  | none => rw [hi] at h1; simp at h1
  | some i =>
    rw [hi] at h1 h2
    simp at h1 h2
    exact ⟨i, rfl, h2, h1.1, h1.2⟩

theorem Keep.frozen {A : List Nat} {w w' : World} (h : Keep A w w') {p : Addr} (hp : p.block < w.heap.size) (ha : p.block ∉ A := by simp) : w'.frozen? p = w.frozen? p := World.frozen?_of_block (h.block _ hp ha)
theorem New.off {A : List Nat} {B E size n : Nat} {G : Nat → Prop} {w W3 wr w2 : World} {v : Value} {xs : List Value} {o : Obj} {k : Nat} (hG : There G w) (hB : w.heap.size ≤ B) (hrow : wr.ownsRow B E size v n xs) (hk3 : Keep A W3 wr)
    (h : New G (wr.alloc o).drew w2 k) : Off (New G W3 w2) v k := by
  have hs := hk3.size
  refine ⟨⟨?_, h.2⟩, fun e => ?_⟩
  · rcases h.1 with h1 | h1
    · exact .inl h1
    · right; simp at h1; omega
  · have hl := hrow.lt k e.symm
    rcases h.1 with h1 | h1
    · have := hG k h1; omega
    · simp at h1; omega
theorem Off.mono {G G' : Nat → Prop} {v : Value} {k : Nat} (h : Off G v k) (hg : ∀ k, G k → G' k) : Off G' v k := ⟨hg k h.1, h.2⟩
/-- a round of the first loop -/
theorem got_round {b B E g cap i : Nat} {G : Nat → Prop} {w W3 wr w2 w3 : World} {v u : Value} {l : List T} {x : T} {c' : List Value} {o o' : Obj} {cs : List (List Value)} {xs0 : List Value} (hG : There G w) (hb1 : w.heap.size ≤ b) (hb2 : b < W3.heap.size) (hB : W3.heap.size ≤ B)
    (hkeep : Keep [b] W3 wr) (kx : Keep [] wr w2) (hrow0 : wr.ownsRow B E 5 v l.length xs0) (hc' : HT w2 (New G (wr.alloc o').drew w2) x c') (e1 : cs.length = l.length)
    (e2 : ∀ i (a : i < l.length) (b : i < cs.length), HT (w2.alloc o) (Off (New G W3 (w2.alloc o)) v) l[i] cs[i]) (hl : l.length + 1 ≤ 1099511627776)
    (hown : w3.ownsRow B E 5 (.slice (some ⟨g, 0, none⟩) (l.length + 1) cap) (l.length + 1) (cs.flatten ++ c')) (hgr : (w2.alloc o).grownBy w3 v.ownBlock) (hat : v.ownBlock = some g ∨ g = w2.heap.size + 1) :
    OT (w3.setCell ⟨b, i, none⟩ u) B E (New G W3 (w3.setCell ⟨b, i, none⟩ u)) (.slice (some ⟨g, 0, none⟩) (l.length + 1) cap) (l ++ [x]) ∧ Keep [b] W3 (w3.setCell ⟨b, i, none⟩ u) := by
  have hs := hkeep.size
  have hs2 := kx.size
  have kx' : Keep [] wr (w2.alloc o) := kx.alloc _
  have P := OT.push (w := w2.alloc o) (w' := w3) (B := B) (E := E) (G := New G W3 (w2.alloc o)) (v := v) (x := x) (c := c') (g := g) (cap := cap) e1 e2
    ((hc'.keepF (w' := w2.alloc o) (fun k hk => Below.heap_alloc _ _ _ hk.2) (fun k hk => (New.off (w := w) (A := [b]) hG (by omega) hrow0 hkeep hk))).keepF (fun _ _ => rfl) (fun k hk => hk.mono fun k hk => ⟨hk.1, by simp; have := hk.2; omega⟩))
    (fun k hk => hk.2) hl hown hgr (hat.imp id (fun h => by simp; omega))
  have hsg := hgr.size
  refine ⟨P.keepF (fun k hk => ?_) (fun k hk => ⟨hk.1, ?_⟩) (fun k e => ?_), ?_⟩
  · refine Below.heap_setCell _ _ _ _ fun e => ?_
    simp only at e
    subst e
    rcases hk.1 with h1 | h1
    · have := hG _ h1; omega
    · omega
  · have := hk.2; simp at this; simp [World.setCell]; simp at hsg; omega
  · refine Below.heap_setCell _ _ _ _ fun e' => ?_
    simp only at e'
    subst e'
    have := (hown.lt _ e).1
    omega
  · exact ((hkeep.trans (kx'.weaken (by simp))).grown hgr fun k e => .inr (by have := (hrow0.lt k e).1; omega)).setCell (.inl (by simp)) _
theorem HT.of (n : Int) (s : Bs) (b : Bool) (l : List T) (u : List Tg) {w : World} {G : Nat → Prop} {vs vl vu : Value} (hs : RB w G vs s) (hl : HTs w G vl l) (hu : HGs w G vu u) (h1 : -9223372036854775808 ≤ n) (h2 : n ≤ 9223372036854775807) (h3 : s.length ≤ 1099511627776) (h4 : l.length ≤ 1099511627776) :
    HT w G (.mk n s b l u) [.int .i64 n, vs, .bool b, vl, vu] := by
  obtain ⟨cs, e1, e2, e3, e4⟩ := hl
  exact .mk n s b l u vs vl vu cs hs ⟨h1, h2, h3, h4⟩ e1 e2 e4 hu
theorem got_end {b B B' E E' : Nat} {G : Nat → Prop} {w W3 WL wr ws : World} {a : T} {vs vl vu : Value} (hG : There G w) (hs : RB w G vs a.s) (hb : w.heap.size ≤ b) (hbW : b < W3.heap.size) (hWB : W3.heap.size ≤ B) (hBB : B ≤ B') (hBL : W3.heap.size ≤ WL.heap.size) (K3 : Keep [] w W3) (kL : Keep [b] W3 WL) (kr : Keep [b] WL wr)
    (hOT : OT WL B E (New G W3 WL) vl a.l) (hOG : OG wr B' E' (New G WL wr) vu a.u) (h1 : -9223372036854775808 ≤ a.n) (h2 : a.n ≤ 9223372036854775807) (h3 : a.s.length ≤ 1099511627776) (h4 : a.l.length ≤ 1099511627776)
    (hws : SameOn (fun k => (G k ∨ W3.heap.size ≤ k) ∧ k < wr.heap.size) wr ws) (hsz : wr.heap.size ≤ ws.heap.size) : HT ws (New G w ws) a [.int .i64 a.n, vs, .bool a.null, vl, vu] := by
  have z1 := K3.size
  have z2 := kL.size
  have z3 := kr.size
  have hs' : RB ws (New G w ws) vs a.s := hs.keepF (fun k hk => (hws k ⟨.inl hk, by have := hG k hk; omega⟩).trans (((K3.weaken (by simp)).trans (kL.trans kr)).block k (hG k hk) (by have := hG k hk; simp; omega))) fun k hk => ⟨.inl hk, by have := hG k hk; omega⟩
  have hl' : HTs ws (New G w ws) vl a.l := (hOT.hts (G' := New G W3 WL) (fun _ h => h) (fun k h1 h2 => ⟨.inr (by omega), h2⟩)).keepF (fun k hk => (hws k ⟨hk.1, by have := hk.2; omega⟩).trans (kr.block k hk.2 (by
      rcases hk.1 with h | h
      · have := hG k h; simp; omega
      · simp; omega))) fun k hk => ⟨hk.1.imp id (fun h => by omega), by have := hk.2; omega⟩
  have hu' : HGs ws (New G w ws) vu a.u := (hOG.hgs (G' := New G W3 wr) (fun k h => ⟨h.1.imp id (fun h => by omega), h.2⟩) (fun k h1 h2 => ⟨.inr (by omega), h2⟩)).keepF (fun k hk => hws k hk) fun k hk => ⟨hk.1.imp id (fun h => by omega), by have := hk.2; omega⟩
  obtain ⟨n, s, b, l, u⟩ := a
  exact HT.of n s b l u hs' hl' hu' h1 h2 h3 h4
theorem OG.row {w : World} {B E : Nat} {G : Nat → Prop} {v : Value} {l : List Tg} (h : OG w B E G v l) : ∃ xs, w.ownsRow B E 2 v l.length xs := let ⟨_, _, _, _, _, h4⟩ := h; ⟨_, h4⟩
theorem OG.off {w : World} {B E : Nat} {G : Nat → Prop} {v : Value} {l : List Tg} (h : OG w B E G v l) {k : Nat} (hk : k < B) : some k ≠ v.ownBlock := by
  obtain ⟨xs, hr⟩ := h.row
  intro e
  have := (hr.lt k e.symm).1
  omega
theorem owns_shape {w : World} {B E size : Nat} {v : Value} {n : Nat} {xs : List Value} (h : w.ownsRow B E size v n xs) : ∃ ao cap, v = .slice ao n cap := by
  obtain ⟨ao, cap, e, _⟩ := ownsRow_rs h
  exact ⟨ao, cap, e⟩
theorem HGs.num {w : World} {G : Nat → Prop} {v : Value} {u : List Tg} (h : HGs w G v u) {x : Tg} (hx : x ∈ u) : x.1 < 4294967296 ∧ x.2.length ≤ 1099511627776 := by
  obtain ⟨_, _, _, h3, _⟩ := h
  exact h3 x hx
/-- a round of the second loop -/
theorem got_round2 {b B E g cap i : Nat} {G : Nat → Prop} {w WL wr w2 w3 : World} {v u vx : Value} {l : List Tg} {x : Tg} {cs : List Value} (hG : There G w) (hb1 : w.heap.size ≤ b) (hb2 : b < WL.heap.size) (hB : WL.heap.size ≤ B)
    (hkeep : Keep [b] WL wr) (kx : Keep [] wr w2) (hx : RB wr G vx x.2) (hx1 : x.1 < 4294967296 ∧ x.2.length ≤ 1099511627776) (hv : ∀ k, some k = v.ownBlock → B ≤ k) (e1 : cs.length = l.length)
    (e2 : ∀ i (a : i < l.length) (b : i < cs.length), RB w2 (Off (New G WL w2) v) cs[i] l[i].2) (e3 : ∀ x ∈ l, x.1 < 4294967296 ∧ x.2.length ≤ 1099511627776) (hl : l.length + 1 ≤ 1099511627776)
    (hown : w3.ownsRow B E 2 (.slice (some ⟨g, 0, none⟩) (l.length + 1) cap) (l.length + 1) (((l.zip cs).map fun x => [Value.int .u32 (x.1.1 : Int), x.2]).flatten ++ [.int .u32 (x.1 : Int), vx])) (hgr : w2.grownBy w3 v.ownBlock) (hat : v.ownBlock = some g ∨ g = w2.heap.size) :
    OG (w3.setCell ⟨b, i, none⟩ u) B E (New G WL (w3.setCell ⟨b, i, none⟩ u)) (.slice (some ⟨g, 0, none⟩) (l.length + 1) cap) (l ++ [x]) ∧ Keep [b] WL (w3.setCell ⟨b, i, none⟩ u) := by
  have hs := hkeep.size
  have hs2 := kx.size
  have hGL : ∀ k, G k → k < wr.heap.size ∧ k < b := fun k hk => by have := hG k hk; omega
  have P := OG.push (w := w2) (w' := w3) (B := B) (E := E) (G := New G WL w2) (v := v) (x := x) (vx := vx) (g := g) (cap := cap) e1 e2 e3
    (hx.keepF (w' := w2) (fun k hk => kx.block k (hGL k hk).1 (by simp)) (fun k hk => ⟨⟨.inl hk, by have := hGL k hk; omega⟩, fun e => by have := hv k e; have := hGL k hk; omega⟩))
    hx1 (fun k hk => hk.2) hl hown hgr (hat.imp id (fun h => by omega))
  have hsg := hgr.size
  refine ⟨P.keepF (fun k hk => ?_) (fun k hk => ⟨hk.1, ?_⟩) (fun k e => ?_), ?_⟩
  · refine Below.heap_setCell _ _ _ _ fun e => ?_
    simp only at e
    subst e
    rcases hk.1 with h1 | h1
    · have := hGL _ h1; omega
    · omega
  · have := hk.2; simp [World.setCell]; omega
  · refine Below.heap_setCell _ _ _ _ fun e' => ?_
    simp only at e'
    subst e'
    have := (hown.lt _ e).1
    omega
  · exact ((hkeep.trans (kx.weaken (by simp))).grown hgr fun k e => .inr (by have := hv k e.symm; omega)).setCell (.inl (by simp)) _
theorem got_body : Tryd.f10.body.isNone = false := by kernel_rfl
theorem got_name : (Tryd.f10.name == "runtime.NumGoroutine") = false := by kernel_rfl
def GotSaid (a : T) : Prop :=
  ∀ (G : Nat → Prop) (c : List Value) (w : World), HT w G a c → There G w →
    Calls Tryd.prog 10 #[.agg c.toArray] w fun e w' => ∃ c', e = .returned (.agg c'.toArray) ∧ HT w' (New G w w') a c' ∧ Keep [] w w'

theorem OT.off {w : World} {B E : Nat} {G : Nat → Prop} {v : Value} {l : List T} (h : OT w B E G v l) {k : Nat} (hk : k < B) : some k ≠ v.ownBlock := by
  obtain ⟨xs, hr⟩ := h.row
  intro e
  have := (hr.lt k e.symm).1
  omega
theorem cells_one {l : List Value} (h : ∀ v ∈ l, v.oneCell' = true) : ∀ u ∈ l, u.oneCell' = true := h
theorem HT.one {w : World} {G : Nat → Prop} {t : T} {c : List Value} (h : HT w G t c) : ∀ v ∈ c, v.oneCell' = true := by
  obtain ⟨az, ps, al, pl, au, pu, rfl, _⟩ := h.cells
  intro v hv
  simp at hv
  rcases hv with rfl | rfl | rfl | rfl | rfl <;> rfl

set_option maxHeartbeats 1000000 in
set_option maxRecDepth 100000 in
theorem got_step {a : T} (hx : ∀ x ∈ a.l, GotSaid x) : GotSaid a := by
  intro G c w ha hG
  obtain ⟨az, ps, al, pl, au, pu, rfl, hs, hl, hu, hn1, hn2, hn3, hn4⟩ := ha.cells
  have hub := hu.bd
  obtain ⟨i0, hi, hz0, hz1, hz2⟩ := info_agg info_st zero_st
  obtain ⟨j0, hj, hy0, hy1, hy2⟩ := info_agg info_sg zero_sg
  go_enter Tryd.func10, Tryd.ntmps10
  go_wp2_with fail
  have K3 : Keep [] w (((w.alloc (.cells #[.int .i64 a.n, .slice az a.s.length ps, .bool a.null, .slice al a.l.length pl, .slice au a.u.length pu] 27)).alloc (.cells #[.int .i64 0, .slice none 0 0, .bool false, .slice none 0 0, .slice none 0 0] 35)).alloc (.cells #[.int .i64 a.n, .slice az a.s.length ps, .bool a.null, .slice none 0 0, .slice none 0 0] 35)) := ((keep_box _).alloc _).alloc _
  have s3 : (((w.alloc (.cells #[.int .i64 a.n, .slice az a.s.length ps, .bool a.null, .slice al a.l.length pl, .slice au a.u.length pu] 27)).alloc (.cells #[.int .i64 0, .slice none 0 0, .bool false, .slice none 0 0, .slice none 0 0] 35)).alloc (.cells #[.int .i64 a.n, .slice az a.s.length ps, .bool a.null, .slice none 0 0, .slice none 0 0] 35)).heap.size = w.heap.size + 1 + 1 + 1 := by simp
  have hb0 : (((w.alloc (.cells #[.int .i64 a.n, .slice az a.s.length ps, .bool a.null, .slice al a.l.length pl, .slice au a.u.length pu] 27)).alloc (.cells #[.int .i64 0, .slice none 0 0, .bool false, .slice none 0 0, .slice none 0 0] 35)).alloc (.cells #[.int .i64 a.n, .slice az a.s.length ps, .bool a.null, .slice none 0 0, .slice none 0 0] 35)).heap[w.heap.size + 1 + 1]? = some (.cells #[.int .i64 a.n, .slice az a.s.length ps, .bool a.null, .slice none 0 0, .slice none 0 0] 35 (0, 0)) := by
    have h := heap_alloc_new ((w.alloc (.cells #[.int .i64 a.n, .slice az a.s.length ps, .bool a.null, .slice al a.l.length pl, .slice au a.u.length pu] 27)).alloc (.cells #[.int .i64 0, .slice none 0 0, .bool false, .slice none 0 0, .slice none 0 0] 35)) (.cells #[.int .i64 a.n, .slice az a.s.length ps, .bool a.null, .slice none 0 0, .slice none 0 0] 35)
    simpa using h
  have hb1 : (((w.alloc (.cells #[.int .i64 a.n, .slice az a.s.length ps, .bool a.null, .slice al a.l.length pl, .slice au a.u.length pu] 27)).alloc (.cells #[.int .i64 0, .slice none 0 0, .bool false, .slice none 0 0, .slice none 0 0] 35)).alloc (.cells #[.int .i64 a.n, .slice az a.s.length ps, .bool a.null, .slice none 0 0, .slice none 0 0] 35)).heap[w.heap.size]? = some (.cells #[.int .i64 a.n, .slice az a.s.length ps, .bool a.null, .slice al a.l.length pl, .slice au a.u.length pu] 27) := (twoBoxes (keep_box (A := []) (.cells #[.int .i64 a.n, .slice az a.s.length ps, .bool a.null, .slice none 0 0, .slice none 0 0] 35))).1
  have hb2 : (((w.alloc (.cells #[.int .i64 a.n, .slice az a.s.length ps, .bool a.null, .slice al a.l.length pl, .slice au a.u.length pu] 27)).alloc (.cells #[.int .i64 0, .slice none 0 0, .bool false, .slice none 0 0, .slice none 0 0] 35)).alloc (.cells #[.int .i64 a.n, .slice az a.s.length ps, .bool a.null, .slice none 0 0, .slice none 0 0] 35)).heap[w.heap.size + 1]? = some (.cells #[.int .i64 0, .slice none 0 0, .bool false, .slice none 0 0, .slice none 0 0] 35) := (twoBoxes (keep_box (A := []) (.cells #[.int .i64 a.n, .slice az a.s.length ps, .bool a.null, .slice none 0 0, .slice none 0 0] 35))).2
  generalize hW3 : (((w.alloc (.cells #[.int .i64 a.n, .slice az a.s.length ps, .bool a.null, .slice al a.l.length pl, .slice au a.u.length pu] 27)).alloc (.cells #[.int .i64 0, .slice none 0 0, .bool false, .slice none 0 0, .slice none 0 0] 35)).alloc (.cells #[.int .i64 a.n, .slice az a.s.length ps, .bool a.null, .slice none 0 0, .slice none 0 0] 35)) = W3 at *
  clear hW3
  have HB1 : Hid _ := hb1
  have HB2 : Hid _ := hb2
  have HS3 : Hid _ := s3
  have hs3 : w.heap.size + 3 ≤ W3.heap.size := by omega
  have hs3' : W3.heap.size ≤ w.heap.size + 3 := by omega
  clear hb1 hb2 s3
  go_loopw [18] (fun k wr => ∃ n : Nat, n ≤ a.l.length ∧ k = .int .i64 n ∧ ∃ v, wr.heap[w.heap.size + 1 + 1]? = some (.cells #[.int .i64 a.n, .slice az a.s.length ps, .bool a.null, v, .slice none 0 0] 35 (0, 0)) ∧ OT wr (w.heap.size + 3) 35 (New G W3 wr) v (a.l.take n) ∧ Keep [w.heap.size + 1 + 1] W3 wr) (fun k _ => a.l.length - (intOf k).toNat)
  case atStart => exact ⟨0, Nat.zero_le _, rfl, _, hb0, by simpa using OT.nil _ _ _ _, Keep.refl _ _⟩
  case round =>
    obtain ⟨n, hn, rfl, v, hout, hOT, hkeep⟩ := hrel
    have hk : Keep [w.heap.size + 1 + 1] w wr := (K3.weaken (by simp)).trans hkeep
    have hsame : SameOn G w wr := sameOn_of hk hG (fun k hk' => by have := hG k hk'; simp; omega)
    have hGr : There G wr := fun k hk' => Nat.lt_of_lt_of_le (hG k hk') hk.size
    have hsz := hk.size
    have hsz3 := hkeep.size
    have z3 : wr.cell? ⟨w.heap.size + 1 + 1, 3, none⟩ = some v := cellOf hout 3 _ rfl
    have f3 : wr.frozen? ⟨w.heap.size + 1 + 1, 3, none⟩ = false := freeOf hout 3
    have hbt : w.heap.size + 1 + 1 < wr.heap.size := by omega
    have HOUT : Hid _ := hout
    clear hout hb0
    by_cases hlt : n < a.l.length
    · obtain ⟨bx, ox, cx, rfl, hGx, hcx, hcell⟩ := (hl.keepF hsame (fun _ h => h)).cells hlt
      have GS := fun W (hW : Keep [] wr W) => hx _ (List.getElem_mem hlt) G _ W (hcx.keepF (hGr.same hW) (fun _ h => h)) (hGr.keep hW)
      obtain ⟨az3, ps3, al3, pl3, au3, pu3, rfl, _⟩ := hcx.cells
      have hbl := hGr bx hGx
      have c0 : wr.cell? ⟨bx, ox + n * 5, none⟩ = some _ := hcell 0 (by simp)
      have c1 : wr.cell? ⟨bx, ox + n * 5 + 1, none⟩ = some _ := hcell 1 (by simp)
      have c2 : wr.cell? ⟨bx, ox + n * 5 + 2, none⟩ = some _ := hcell 2 (by simp)
      have c3 : wr.cell? ⟨bx, ox + n * 5 + 3, none⟩ = some _ := hcell 3 (by simp)
      have c4 : wr.cell? ⟨bx, ox + n * 5 + 4, none⟩ = some _ := hcell 4 (by simp)
      simp only [List.getElem_cons_zero, List.getElem_cons_succ] at c0 c1 c2 c3 c4
      clear hcell hcx
      generalize hxn : a.l[n] = x at *
      have HXN : Hid (a.l[n] = x) := hxn
      clear hxn
      go_wp2_with fail
      clear c0 c1 c2 c3 c4
      have hlen : (a.l.take n).length = n := by simp; omega
      have HLEN : Hid _ := hlen
      clear hlen
      go_region_law (first
        | (refine step_call (by rfl) 10 #[.tmp 24] #[27] (by rfl) #[.agg #[.int .i64 x.n, .slice az3 x.s.length ps3, .bool x.null, .slice al3 x.l.length pl3, .slice au3 x.u.length pu3]] (by simp [go_sem]) _ (by rfl) got_body got_name (GS _ ((keep_box _).drew)) ?_; rintro e w2 ⟨c', rfl, hc', k2⟩; refine ⟨_, rfl, ?_⟩; obtain ⟨az5, ps5, al5, pl5, au5, pu5, rfl, _⟩ := id hc'.cells; have kx : Keep [] wr w2 := (keep_box _).drew.trans k2; have y3 := kx.cs z3; have hs2 := kx.size; have hs2' := k2.size; have hlt2 : w.heap.size + 1 + 1 < w2.heap.size := (by omega); have y4 := (kx.frozen (p := ⟨w.heap.size + 1 + 1, 3, none⟩) hbt).trans f3)
        | (obtain ⟨cs, e1, e2, e3, e4⟩ := hOT.keepF (w' := w2.alloc (.cells #[.int .i64 x.n, .slice az5 x.s.length ps5, .bool x.null, .slice al5 x.l.length pl5, .slice au5 x.u.length pu5] 35)) (G' := New G W3 (w2.alloc (.cells #[.int .i64 x.n, .slice az5 x.s.length ps5, .bool x.null, .slice al5 x.l.length pl5, .slice au5 x.u.length pu5] 35))) (fun k hk' => (kx.alloc _).block k hk'.2 (by simp)) (fun k hk' => ⟨hk'.1, by simp; have := hk'.2; omega⟩) (fun k e => by obtain ⟨xs, hr⟩ := hOT.row; have := hr.lt k e; exact (kx.alloc _).block k this.2 (by simp)); refine step_append_lies _ (by rfl) (.tmp 23) (.tmp 26) _ (by rfl) (w.heap.size + 3) 35 i0 _ 5 88 Tryd.underlying32 hi hz0 hz1 hz2 rfl (by omega) v _ cs.flatten (by rfl) e4 ⟨w2.heap.size, 0, none⟩ 1 1 [.int .i64 x.n, .slice az5 x.s.length ps5, .bool x.null, .slice al5 x.l.length pl5, .slice au5 x.u.length pu5] (by rfl) (by rfl) (World.news_of_block (cs := #[.int .i64 x.n, .slice az5 x.s.length ps5, .bool x.null, .slice al5 x.l.length pl5, .slice au5 x.u.length pu5]) (heap_alloc_new w2 _)) hc'.one (by omega) (by unfold maxLen; rw [HLEN.out]; omega) (by rw [HLEN.out]; omega) (by simp; omega) (w2.heap.size + 1) (by simp) ?_; intro g cap w3 hown1 hgr hat hlt3; have nb := hOT.off (k := w.heap.size + 1 + 1) (by omega); have x1 := hgr.block (w.heap.size + 1 + 1) (by simp; omega) nb; have x2 := (kx.alloc (.cells #[.int .i64 x.n, .slice az5 x.s.length ps5, .bool x.null, .slice al5 x.l.length pl5, .slice au5 x.u.length pu5] 35)).block _ hbt List.not_mem_nil; have x3 := (x1.trans x2).trans HOUT.out; have z5 := cellOf x3 3 _ rfl; have f5 := freeOf x3 3; clear x1 x2))
      all_goals (go_wp2; go_roundw; (case rel => (refine ⟨n + 1, by omega, by go_num, _, heap_set x3 _, ?_⟩; obtain ⟨xs0, hrow0⟩ := hOT.row; have hG3 := got_round (i := 3) (u := .slice (some ⟨g, 0, none⟩) (n + 1) cap) hG (by omega) (by omega) (by omega) hkeep kx hrow0 hc' e1 e2 (by rw [HLEN.out]; omega) hown1 hgr hat; rw [HLEN.out] at hG3; rw [List.take_succ_eq_append_getElem hlt, HXN.out]; exact hG3)); (case measure => (simp [intOf]; omega)))
    · have hnl : a.l.take n = a.l := List.take_of_length_le (by omega)
      rw [hnl] at hOT
      have HOT : Hid _ := hOT
      have h4u : wr.cell? ⟨w.heap.size, 4, none⟩ = some (.slice au a.u.length pu) := cellOf ((hkeep.block w.heap.size (by omega) (by simp; omega)).trans HB1.out) 4 _ rfl
      clear z3 f3 hOT
      go_wp2_with fail
      clear h4u hlt hnl
      have HK : Hid _ := hkeep
      clear hkeep hk hsame
      generalize hWL : wr = WL at *
      clear hWL
      go_loopw [33] (fun k wr => ∃ n : Nat, n ≤ a.u.length ∧ k = .int .i64 n ∧ ∃ u, wr.heap[w.heap.size + 1 + 1]? = some (.cells #[.int .i64 a.n, .slice az a.s.length ps, .bool a.null, v, u] 35 (0, 0)) ∧ OG wr WL.heap.size 50 (New G WL wr) u (a.u.take n) ∧ Keep [w.heap.size + 1 + 1] WL wr) (fun k _ => a.u.length - (intOf k).toNat)
      case atStart => exact ⟨0, Nat.zero_le _, rfl, _, HOUT.out, by simpa using OG.nil _ _ _ _, Keep.refl _ _⟩
      case round =>
        obtain ⟨m, hm, rfl, u, hout, hOG, hkeep⟩ := hrel
        have hkL : Keep [w.heap.size + 1 + 1] w WL := (K3.weaken (by simp)).trans HK.out
        have hk := hkL.trans hkeep
        have hsame : SameOn G w wr := sameOn_of hk hG (fun k hk' => by have := hG k hk'; simp; omega)
        have hsz' := hkeep.size
        have z3 : wr.cell? ⟨w.heap.size + 1 + 1, 4, none⟩ = some u := cellOf hout 4 _ rfl
        have f3 : wr.frozen? ⟨w.heap.size + 1 + 1, 4, none⟩ = false := freeOf hout 4
        have hbt' : w.heap.size + 1 + 1 < wr.heap.size := by omega
        by_cases hlt : m < a.u.length
        · have HOUT2 : Hid _ := hout
          obtain ⟨bx, ox, av, pv, rfl, hGx, c0, c1, hb1, hbl⟩ := (hu.keepF hsame (fun _ h => h)).elem hlt
          have hx1 := hu.num (List.getElem_mem hlt)
          have hbl3 : bx < wr.heap.size := by have := hG bx hGx; omega
          clear hout
          generalize hxn : a.u[m] = x at *
          have HXN : Hid (a.u[m] = x) := hxn
          clear hxn
          have hlen : (a.u.take m).length = m := by simp; omega
          have HLEN : Hid _ := hlen
          clear hlen
          have kx : Keep [] wr ((wr.alloc (.cells #[.int .u32 (x.1 : Int), .slice av x.2.length pv] 51)).alloc (.cells #[.int .u32 (x.1 : Int), .slice av x.2.length pv] 50)) := ((Keep.refl _ _).alloc _).alloc _
          have hnb : ((wr.alloc (.cells #[.int .u32 (x.1 : Int), .slice av x.2.length pv] 51)).alloc (.cells #[.int .u32 (x.1 : Int), .slice av x.2.length pv] 50)).heap[wr.heap.size + 1]? = some (.cells #[.int .u32 (x.1 : Int), .slice av x.2.length pv] 50 (0, 0)) := by
            have h := heap_alloc_new (wr.alloc (.cells #[.int .u32 (x.1 : Int), .slice av x.2.length pv] 51)) (.cells #[.int .u32 (x.1 : Int), .slice av x.2.length pv] 50)
            simpa using h
          have HNB : Hid _ := hnb
          clear hnb
          obtain ⟨cs, e1, e2, e3, e6, e4⟩ := hOG.keepF (w' := ((wr.alloc (.cells #[.int .u32 (x.1 : Int), .slice av x.2.length pv] 51)).alloc (.cells #[.int .u32 (x.1 : Int), .slice av x.2.length pv] 50))) (G' := New G WL ((wr.alloc (.cells #[.int .u32 (x.1 : Int), .slice av x.2.length pv] 51)).alloc (.cells #[.int .u32 (x.1 : Int), .slice av x.2.length pv] 50))) (fun k hk' => kx.block k hk'.2 (by simp)) (fun k hk' => ⟨hk'.1, by simp; have := hk'.2; omega⟩) (fun k e => by obtain ⟨xs, hr⟩ := hOG.row; have := hr.lt k e; exact kx.block k this.2 (by simp))
          have E1 : Hid _ := e1
          clear e1
          go_wp2_with (at_builtin; go_loud (refine wpList_append_lies _ rfl (.tmp 38) (.tmp 44) _ (by rfl) WL.heap.size 50 j0 _ 2 32 Tryd.underlying33 hj hy0 hy1 hy2 rfl (by omega) u _ _ (by rfl) e4 ⟨wr.heap.size + 1, 0, none⟩ 1 1 [.int .u32 (x.1 : Int), .slice av x.2.length pv] (by rfl) (by rfl) (World.news_of_block (cs := #[.int .u32 (x.1 : Int), .slice av x.2.length pv]) HNB.out) (by intro y hy; simp at hy; rcases hy with rfl | rfl <;> rfl) (by omega) (by unfold maxLen; rw [HLEN.out]; omega) (by rw [HLEN.out]; omega) (by simp; omega) (wr.heap.size + 1 + 1) (by simp) ?_); intro g cap w3 hown1 hgr hat hlt3; have nb := hOG.off (k := w.heap.size + 1 + 1) (by omega); have x1 := hgr.block (w.heap.size + 1 + 1) (by simp; omega) nb; have x2 := kx.block _ hbt' List.not_mem_nil; have x3 := (x1.trans x2).trans HOUT2.out; have z5 := cellOf x3 4 _ rfl; have f5 := freeOf x3 4; clear x1 x2)
          go_roundw
          case rel =>
            refine ⟨m + 1, by omega, by go_num, _, heap_set x3 _, ?_⟩
            obtain ⟨xs0, hrow0⟩ := hOG.row
            have hG3 := got_round2 (i := 4) (u := .slice (some ⟨g, 0, none⟩) (m + 1) cap) (x := x) (vx := .slice av x.2.length pv) (l := a.u.take m) (g := g) (cap := cap) hG (by omega) (by omega) (Nat.le_refl _) hkeep kx hb1 hx1 (fun k e => (hrow0.lt k e.symm).1) E1.out e2 e3 (by rw [HLEN.out]; omega) (by rw [HLEN.out] at hown1 ⊢; exact hown1) hgr (by simpa using hat)
            rw [HLEN.out] at hG3
            rw [List.take_succ_eq_append_getElem hlt, HXN.out]
            exact hG3
          case measure => simp [intOf]; omega
        · have hnl : a.u.take m = a.u := List.take_of_length_le (by omega)
          rw [hnl] at hOG
          have h0 : wr.cell? ⟨w.heap.size + 1 + 1, 0, none⟩ = some (.int .i64 a.n) := cellOf hout 0 _ rfl
          have h1 : wr.cell? ⟨w.heap.size + 1 + 1, 1, none⟩ = some (.slice az a.s.length ps) := cellOf hout 1 _ rfl
          have h2 : wr.cell? ⟨w.heap.size + 1 + 1, 2, none⟩ = some (.bool a.null) := cellOf hout 2 _ rfl
          have h3 : wr.cell? ⟨w.heap.size + 1 + 1, 3, none⟩ = some v := cellOf hout 3 _ rfl
          have hq := (hkeep.block (w.heap.size + 1) (by omega) (by simp)).trans ((HK.out.block (w.heap.size + 1) (by omega) (by simp)).trans HB2.out)
          have q0 : wr.cell? ⟨w.heap.size + 1, 0, none⟩ = some (.int .i64 0) := cellOf hq 0 _ rfl
          have q1 : wr.cell? ⟨w.heap.size + 1, 1, none⟩ = some (.slice none 0 0) := cellOf hq 1 _ rfl
          have q2 : wr.cell? ⟨w.heap.size + 1, 2, none⟩ = some (.bool false) := cellOf hq 2 _ rfl
          have q3 : wr.cell? ⟨w.heap.size + 1, 3, none⟩ = some (.slice none 0 0) := cellOf hq 3 _ rfl
          have q4 : wr.cell? ⟨w.heap.size + 1, 4, none⟩ = some (.slice none 0 0) := cellOf hq 4 _ rfl
          have p0 := freeOf hq 0
          have p1 := freeOf hq 1
          have p2 := freeOf hq 2
          have p3 := freeOf hq 3
          have p4 := freeOf hq 4
          have HQ : Hid _ := hq
          clear hnl hout hq
          obtain ⟨xs2, hr2⟩ := OT.row HOT.out
          obtain ⟨ao1, cp1, rfl⟩ := owns_shape hr2
          obtain ⟨xs3, hr3⟩ := hOG.row
          obtain ⟨ao2, cp2, rfl⟩ := owns_shape hr3
          clear hr2 hr3
          go_wp2_with fail
          have kq : Keep [w.heap.size + 1] wr (((((wr.setCell ⟨w.heap.size + 1, 0, none⟩ (.int .i64 a.n)).setCell ⟨w.heap.size + 1, 1, none⟩ (.slice az a.s.length ps)).setCell ⟨w.heap.size + 1, 2, none⟩ (.bool a.null)).setCell ⟨w.heap.size + 1, 3, none⟩ (.slice ao1 a.l.length cp1)).setCell ⟨w.heap.size + 1, 4, none⟩ (.slice ao2 a.u.length cp2)) := (((((Keep.refl _ _).setCell (.inl (by simp)) _).setCell (.inl (by simp)) _).setCell (.inl (by simp)) _).setCell (.inl (by simp)) _).setCell (.inl (by simp)) _
          have hq5 := heap_set (i := 4) (heap_set (i := 3) (heap_set (i := 2) (heap_set (i := 1) (heap_set (i := 0) HQ.out (.int .i64 a.n)) (.slice az a.s.length ps)) (.bool a.null)) (.slice ao1 a.l.length cp1)) (.slice ao2 a.u.length cp2)
          clear q0 q1 q2 q3 q4 p0 p1 p2 p3 p4 h0 h1 h2 h3
          generalize (((((wr.setCell ⟨w.heap.size + 1, 0, none⟩ (.int .i64 a.n)).setCell ⟨w.heap.size + 1, 1, none⟩ (.slice az a.s.length ps)).setCell ⟨w.heap.size + 1, 2, none⟩ (.bool a.null)).setCell ⟨w.heap.size + 1, 3, none⟩ (.slice ao1 a.l.length cp1)).setCell ⟨w.heap.size + 1, 4, none⟩ (.slice ao2 a.u.length cp2)) = ws at *
          have r0 : ws.cell? ⟨w.heap.size + 1, 0, none⟩ = some (.int .i64 a.n) := cellOf hq5 0 _ rfl
          have r1 : ws.cell? ⟨w.heap.size + 1, 1, none⟩ = some (.slice az a.s.length ps) := cellOf hq5 1 _ rfl
          have r2 : ws.cell? ⟨w.heap.size + 1, 2, none⟩ = some (.bool a.null) := cellOf hq5 2 _ rfl
          have r3 : ws.cell? ⟨w.heap.size + 1, 3, none⟩ = some (.slice ao1 a.l.length cp1) := cellOf hq5 3 _ rfl
          have r4 : ws.cell? ⟨w.heap.size + 1, 4, none⟩ = some (.slice ao2 a.u.length cp2) := cellOf hq5 4 _ rfl
          clear hq5
          have hL := HK.out.size
          refine bodyPost_ret (v := .agg #[.int .i64 a.n, .slice az a.s.length ps, .bool a.null, .slice ao1 a.l.length cp1, .slice ao2 a.u.length cp2]) (by simp [results, Tryd.results10, go_sem, r0, r1, r2, r3, r4]) rfl ⟨[.int .i64 a.n, .slice az a.s.length ps, .bool a.null, .slice ao1 a.l.length cp1, .slice ao2 a.u.length cp2], rfl, got_end hG hs (by omega) (by omega) (by omega) (by omega) (by omega) K3 HK.out hkeep HOT.out hOG hn1 hn2 hn3 hn4 (fun k hk' => ?_) kq.size, ?_⟩
          · refine kq.block k hk'.2 ?_
            rcases hk'.1 with h | h
            · have := hG k h; simp; omega
            · simp; omega
          · exact ((hk.weaken (B := [w.heap.size + 1 + 1, w.heap.size + 1]) (by simp)).trans (kq.weaken (by simp))).fresh (by simp; omega)

mutual
theorem gotSaid : ∀ a, GotSaid a
  | .mk n s b l u => got_step (a := .mk n s b l u) (gotSaids l)
theorem gotSaids : ∀ (l : List T), ∀ x ∈ l, GotSaid x
  | [], _, h => absurd h (by simp)
  | y :: r, x, h => by
    rcases List.mem_cons.1 h with e | h'
    · rw [e]; exact gotSaid y
    · exact gotSaids r x h'
end
end Go.Proofs.YtedconnhligkeaaDoor
