/-
  spec.SameTree at two trees that say the same.
-/
import Derived.Test.YtedconnhligkeaaDoorSpecH
namespace Go.Proofs.YtedconnhligkeaaDoor
open Go.ChangeShapes Go.WideShapes Go.ChangeAt Go.RowKit

theorem Keep.cs {w w' : World} (h : Keep [] w w') {p : Addr} {v : Value} (hc : w.cell? p = some v) : w'.cell? p = some v :=
  (h.cell (World.block_lt_of_cell? w p hc) (by simp)).trans hc
def SameSaid (a : T) : Prop :=
  ∀ (G G' : Nat → Prop) (ca cb : List Value) (w : World), HT w G a ca → HT w G' a cb → There G w → There G' w →
    Calls Tryd.prog 9 #[.agg ca.toArray, .agg cb.toArray] w fun e w' => e = .returned (.bool true) ∧ Keep [] w w'

theorem HTs.cells {w : World} {G : Nat → Prop} {az : Option Addr} {n p : Nat} {l : List T} (h : HTs w G (.slice az n p) l) {i : Nat} (hi : i < l.length) :
    ∃ b o c, az = some ⟨b, o, none⟩ ∧ G b ∧ HT w G l[i] c ∧ ∀ j (hj : j < c.length), w.cell? ⟨b, o + i * 5 + j, none⟩ = some c[j] := by
  obtain ⟨b, o, cap, c, e, h1, h2, h3, h4⟩ := h.elem hi
  cases e
  exact ⟨b, o, c, rfl, h2, h3, h4⟩
/-- tags, one by one -/
theorem HGs.elem {w : World} {G : Nat → Prop} {az : Option Addr} {n p : Nat} {u : List Tg} (h : HGs w G (.slice az n p) u) {i : Nat} (hi : i < u.length) :
    ∃ b o av pv, az = some ⟨b, o, none⟩ ∧ G b ∧ w.cell? ⟨b, o + i * 2, none⟩ = some (.int .u32 (u[i].1 : Int)) ∧ w.cell? ⟨b, o + i * 2 + 1, none⟩ = some (.slice av u[i].2.length pv) ∧ RB w G (.slice av u[i].2.length pv) u[i].2 ∧ u[i].2.length ≤ 1099511627776 := by
  obtain ⟨vs, h1, h2, h3, h5, h4⟩ := h
  have hm : ∀ c ∈ ((u.zip vs).map fun x => [Value.int .u32 (x.1.1 : Int), x.2]), c.length = 2 := fun c hc => by
    obtain ⟨x, _, rfl⟩ := List.mem_map.1 hc
    rfl
  have hl : ((u.zip vs).map fun x => [Value.int .u32 (x.1.1 : Int), x.2]).length = u.length := by simp [h1]
  rw [← hl] at h4
  obtain ⟨b, o, cap, e, hc, hG, hcell⟩ := h4.elem hm (i := i) (by omega) (by omega)
  cases e
  have hv := h2 i hi (by omega)
  obtain ⟨av, pv, ev⟩ := RS.shape hv
  have c0 := hcell 0 (by simp)
  have c1 := hcell 1 (by simp)
  simp at c0 c1
  refine ⟨b, o, av, pv, rfl, hG, c0, ?_, ?_, (h3 _ (List.getElem_mem hi)).2⟩
  · rw [c1, ← ev]
  · rw [← ev]; exact hv

set_option maxHeartbeats 1000000 in
set_option maxRecDepth 100000 in
theorem same_step {a : T} (hx : ∀ x ∈ a.l, SameSaid x) : SameSaid a := by
  intro G G' ca cb w ha hb hG hG'
  obtain ⟨az1, ps1, al1, pl1, au1, pu1, rfl, hs1, hl1, hu1, hn1, hn2, hn3, hn4⟩ := ha.cells
  obtain ⟨az2, ps2, al2, pl2, au2, pu2, rfl, hs2, hl2, hu2, _⟩ := hb.cells
  have hub := hu1.bd
  have hle1 : a.n ≤ 9223372036854775807 := by omega
  have K1 : Keep [] w ((w.alloc (.cells (tcells a az1 ps1 al1 pl1 au1 pu1) 35)).alloc (.cells (tcells a az2 ps2 al2 pl2 au2 pu2) 35)) := (keep_box _).alloc _
  have SS := fun W (hW : Keep [] w W) => same_any (hs1.keepF (hG.same hW) (fun _ h => h)) (hs2.keepF (hG'.same hW) (fun _ h => h)) hn3 hn3
  simp only [beq_self_eq_true] at SS
  have hG1 := hG.keep K1
  have hG1' := hG'.keep K1
  clear ha hb hs1 hs2
  go_enter Tryd.func9, Tryd.ntmps9
  go_wp2_with (go_at_call 20; refine (SS _ K1).mono ?_; rintro e w1 ⟨rfl, hk1⟩; obtain ⟨q0, q1, q2, q3, q4⟩ := tbox (twoBoxes hk1).1; obtain ⟨r0, r1, r2, r3, r4⟩ := tbox (twoBoxes hk1).2)
  clear q0 q1 q2 q3 q4 r0 r1 r2 r3 r4 SS
  go_loopw [48] (fun k wr => ∃ n : Nat, n ≤ a.l.length ∧ k = .int .i64 n ∧ Keep [] ((w.alloc (.cells (tcells a az1 ps1 al1 pl1 au1 pu1) 35)).alloc (.cells (tcells a az2 ps2 al2 pl2 au2 pu2) 35)) wr) (fun k _ => a.l.length - (intOf k).toNat)
  case atStart => exact ⟨0, Nat.zero_le _, rfl, hk1⟩
  case round =>
    obtain ⟨n, hn, rfl, hkeep⟩ := hrel
    have hk := K1.trans hkeep
    obtain ⟨q0, q1, q2, q3, q4⟩ := tbox (twoBoxes hkeep).1
    obtain ⟨r0, r1, r2, r3, r4⟩ := tbox (twoBoxes hkeep).2
    by_cases hlt : n < a.l.length
    · clear q0 q1 q2 q4 r0 r1 r2 r4
      obtain ⟨bx, ox, cx, rfl, hGx, hcx, hcellx⟩ := (hl1.keepF (hG.same hk) (fun _ h => h)).cells hlt
      obtain ⟨by_, oy, cy, rfl, hGy, hcy, hcelly⟩ := (hl2.keepF (hG'.same hk) (fun _ h => h)).cells hlt
      have RS1 := fun W (hW : Keep [] wr W) => hx _ (List.getElem_mem hlt) G G' _ _ W (hcx.keepF ((hG.keep hk).same hW) (fun _ h => h)) (hcy.keepF ((hG'.keep hk).same hW) (fun _ h => h)) ((hG.keep hk).keep hW) ((hG'.keep hk).keep hW)
      obtain ⟨az3, ps3, al3, pl3, au3, pu3, rfl, _⟩ := hcx.cells
      obtain ⟨az4, ps4, al4, pl4, au4, pu4, rfl, _⟩ := hcy.cells
      have c0 : wr.cell? ⟨bx, ox + n * 5, none⟩ = some _ := hcellx 0 (by simp)
      have c1 : wr.cell? ⟨bx, ox + n * 5 + 1, none⟩ = some _ := hcellx 1 (by simp)
      have c2 : wr.cell? ⟨bx, ox + n * 5 + 2, none⟩ = some _ := hcellx 2 (by simp)
      have c3 : wr.cell? ⟨bx, ox + n * 5 + 3, none⟩ = some _ := hcellx 3 (by simp)
      have c4 : wr.cell? ⟨bx, ox + n * 5 + 4, none⟩ = some _ := hcellx 4 (by simp)
      have d0 : wr.cell? ⟨by_, oy + n * 5, none⟩ = some _ := hcelly 0 (by simp)
      have d1 : wr.cell? ⟨by_, oy + n * 5 + 1, none⟩ = some _ := hcelly 1 (by simp)
      have d2 : wr.cell? ⟨by_, oy + n * 5 + 2, none⟩ = some _ := hcelly 2 (by simp)
      have d3 : wr.cell? ⟨by_, oy + n * 5 + 3, none⟩ = some _ := hcelly 3 (by simp)
      have d4 : wr.cell? ⟨by_, oy + n * 5 + 4, none⟩ = some _ := hcelly 4 (by simp)
      simp only [List.getElem_cons_zero, List.getElem_cons_succ] at c0 c1 c2 c3 c4 d0 d1 d2 d3 d4
      clear hcellx hcelly hcx hcy
      generalize a.l[n] = x at *
      have hS := And.intro (q3) (And.intro (r3) (And.intro (c0) (And.intro (c1) (And.intro (c2) (And.intro (c3) (And.intro (c4) (And.intro (d0) (And.intro (d1) (And.intro (d2) (And.intro (d3) (d4)))))))))))
      go_wp2_with fail
      go_region_held3 (fun w' => w'.cell? ⟨w.heap.size, 3, none⟩ = some (.slice (some ⟨bx, ox, none⟩) a.l.length pl1) ∧ w'.cell? ⟨w.heap.size + 1, 3, none⟩ = some (.slice (some ⟨by_, oy, none⟩) a.l.length pl2) ∧ w'.cell? ⟨bx, ox + n * 5, none⟩ = some (.int .i64 x.n) ∧ w'.cell? ⟨bx, ox + n * 5 + 1, none⟩ = some (.slice az3 x.s.length ps3) ∧ w'.cell? ⟨bx, ox + n * 5 + 2, none⟩ = some (.bool x.null) ∧ w'.cell? ⟨bx, ox + n * 5 + 3, none⟩ = some (.slice al3 x.l.length pl3) ∧ w'.cell? ⟨bx, ox + n * 5 + 4, none⟩ = some (.slice au3 x.u.length pu3) ∧ w'.cell? ⟨by_, oy + n * 5, none⟩ = some (.int .i64 x.n) ∧ w'.cell? ⟨by_, oy + n * 5 + 1, none⟩ = some (.slice az4 x.s.length ps4) ∧ w'.cell? ⟨by_, oy + n * 5 + 2, none⟩ = some (.bool x.null) ∧ w'.cell? ⟨by_, oy + n * 5 + 3, none⟩ = some (.slice al4 x.l.length pl4) ∧ w'.cell? ⟨by_, oy + n * 5 + 4, none⟩ = some (.slice au4 x.u.length pu4)) (exact hS) (first
        | (go_at_call 9; refine (RS1 _ (Keep.refl _ _).drew).mono ?_; rintro e w2 ⟨rfl, hk2⟩; have kx : Keep [] wr w2 := (Keep.refl _ _).drew.trans hk2; have hS := And.intro (kx.cs q3) (And.intro (kx.cs r3) (And.intro (kx.cs c0) (And.intro (kx.cs c1) (And.intro (kx.cs c2) (And.intro (kx.cs c3) (And.intro (kx.cs c4) (And.intro (kx.cs d0) (And.intro (kx.cs d1) (And.intro (kx.cs d2) (And.intro (kx.cs d3) (kx.cs d4)))))))))))))
      go_wp2
      go_roundw
      case rel => exact ⟨n + 1, by omega, by go_num, hkeep.trans kx⟩
      case measure => simp [intOf]; omega
    · go_wp2_with fail
      clear q0 q1 q2 q3 q4 r0 r1 r2 r3 r4 hlt
      go_loopw [67] (fun k wr => ∃ n : Nat, n ≤ a.u.length ∧ k = .int .i64 n ∧ Keep [] ((w.alloc (.cells (tcells a az1 ps1 al1 pl1 au1 pu1) 35)).alloc (.cells (tcells a az2 ps2 al2 pl2 au2 pu2) 35)) wr) (fun k _ => a.u.length - (intOf k).toNat)
      case atStart => exact ⟨0, Nat.zero_le _, rfl, hkeep⟩
      case round =>
        clear hkeep hk
        obtain ⟨n, hn, rfl, hkeep⟩ := hrel
        have hk := K1.trans hkeep
        obtain ⟨q0, q1, q2, q3, q4⟩ := tbox (twoBoxes hkeep).1
        obtain ⟨r0, r1, r2, r3, r4⟩ := tbox (twoBoxes hkeep).2
        clear q0 q1 q2 q3 r0 r1 r2 r3
        by_cases hlt : n < a.u.length
        · obtain ⟨bx, ox, av, pv, rfl, hGx, c0, c1, hb1, hbl⟩ := (hu1.keepF (hG.same hk) (fun _ h => h)).elem hlt
          obtain ⟨by_, oy, av', pv', rfl, hGy, d0, d1, hb2, _⟩ := (hu2.keepF (hG'.same hk) (fun _ h => h)).elem hlt
          have RS1 := fun W (hW : Keep [] wr W) => same_any (hb1.keepF ((hG.keep hk).same hW) (fun _ h => h)) (hb2.keepF ((hG'.keep hk).same hW) (fun _ h => h)) hbl hbl
          simp only [beq_self_eq_true] at RS1
          clear hb1 hb2
          generalize a.u[n] = x at *
          have hS := And.intro (q4) (And.intro (r4) (And.intro (c0) (And.intro (c1) (And.intro (d0) (d1)))))
          go_wp2_with fail
          go_region_held3 (fun w' => w'.cell? ⟨w.heap.size, 4, none⟩ = some (.slice (some ⟨bx, ox, none⟩) a.u.length pu1) ∧ w'.cell? ⟨w.heap.size + 1, 4, none⟩ = some (.slice (some ⟨by_, oy, none⟩) a.u.length pu2) ∧ w'.cell? ⟨bx, ox + n * 2, none⟩ = some (.int .u32 (x.1 : Int)) ∧ w'.cell? ⟨bx, ox + n * 2 + 1, none⟩ = some (.slice av x.2.length pv) ∧ w'.cell? ⟨by_, oy + n * 2, none⟩ = some (.int .u32 (x.1 : Int)) ∧ w'.cell? ⟨by_, oy + n * 2 + 1, none⟩ = some (.slice av' x.2.length pv')) (exact hS) (first
            | (go_at_call 20; refine (RS1 _ (Keep.refl _ _).drew).mono ?_; rintro e w2 ⟨rfl, hk2⟩; have kx : Keep [] wr w2 := (Keep.refl _ _).drew.trans hk2; have hS := And.intro (kx.cs q4) (And.intro (kx.cs r4) (And.intro (kx.cs c0) (And.intro (kx.cs c1) (And.intro (kx.cs d0) (kx.cs d1)))))))
          go_wp2
          go_roundw
          case rel => exact ⟨n + 1, by omega, by go_num, hkeep.trans kx⟩
          case measure => simp [intOf]; omega
        · go_wp2
          go_ret
          exact ⟨rfl, hk⟩

mutual
theorem sameSaid : ∀ a, SameSaid a
  | .mk n s b l u => same_step (a := .mk n s b l u) (sameSaids l)
theorem sameSaids : ∀ (l : List T), ∀ x ∈ l, SameSaid x
  | [], _, h => absurd h (by simp)
  | y :: r, x, h => by
    rcases List.mem_cons.1 h with e | h'
    · rw [e]; exact sameSaid y
    · exact sameSaids r x h'
end
end Go.Proofs.YtedconnhligkeaaDoor
