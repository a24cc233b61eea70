/-
  EndTxnMarker: the schema; the law's function.
-/
import Derived.Test.YtjhdgboafmdojaaDoorEtmDoor
namespace Go.Proofs.YtjhdgboafmdojaaDoor
open Go.ChangeShapes Go.WideShapes Go.ChangeAt Go.RowKit

theorem HFs.block {w : World} {G : Nat → Prop} {b n : Nat} {l : List F} {cs : List (List Value)} {arr : Array Value} {t : TypeId} {z : Nat × Nat} (h : w.heap[b]? = some (.cells arr t z)) (ha : arr.toList = cs.flatten) (hG : G b) (hn : n = l.length) (h1 : cs.length = l.length) (h2 : ∀ i (a : i < l.length) (c : i < cs.length), HF w G l[i] cs[i]) (h3 : l.length ≤ 1048576) :
    HFs w G (.slice (some ⟨b, 0, none⟩) n n) l := by
  subst hn
  refine ⟨cs, h1, h2, h3, _, _, by rw [h1], by omega, (fun h => by cases h), fun a ha' => ?_⟩
  cases ha'
  refine ⟨rfl, fun i hi => ⟨hG, ?_⟩⟩
  have e : cs.flatten[i]? = some cs.flatten[i] := List.getElem?_eq_getElem hi
  rw [← e, ← ha]
  simp [World.cell?, h]
theorem HF.leaf (w : World) (G : Nat → Prop) (k a b c d e o : Int) : HF w G (.mk k a b c d e o []) [.int .i64 k, .int .i64 a, .int .i64 b, .int .i64 c, .int .i64 d, .int .i64 e, .int .i64 o, .slice none 0 0] :=
  .mk k a b c d e o [] _ [] (by simp) rfl (fun i h => by simp at h) (RS.nil _ _)

def etmF : F := .mk 3 0 (-1) (-1) (-1) 0 0 []
def etmM : Msg := ⟨[etmF], -1⟩
set_option maxHeartbeats 400000 in
set_option maxRecDepth 100000 in
theorem etm_schema (w : World) : Calls Tryd.prog 7 #[] w fun e w' => ∃ c, e = .returned (.agg c.toArray) ∧ HM w' (New (fun _ => False) w w') etmM c ∧ Keep [] w w' := by
  go_enter Tryd.func7, Tryd.ntmps7
  go_wp2
  refine bodyPost_ret (v := .agg #[.slice (some ⟨w.heap.size + 1, 0, none⟩) 1 1, .int .i64 (-1)]) (by simp [results, Tryd.results7, go_sem]) rfl ⟨[.slice (some ⟨w.heap.size + 1, 0, none⟩) 1 1, .int .i64 (-1)], rfl, ⟨_, _, rfl, ?_⟩, (keep_box _).alloc _⟩
  exact HFs.block (cs := [[.int .i64 3, .int .i64 0, .int .i64 (-1), .int .i64 (-1), .int .i64 (-1), .int .i64 0, .int .i64 0, .slice none 0 0]]) (alloc_at2 _ _ _) rfl ⟨.inr (by omega), by simp⟩ rfl rfl (fun i a c => by
    obtain rfl : i = 0 := by simp [etmM] at a; omega
    exact HF.leaf _ _ 3 0 (-1) (-1) (-1) 0 0) (by decide)
theorem etm_zero : keptP etmM 0 T.zero = [0, 0, 0, 0, 0, 0] := by
  decide
theorem etm_can : (etm2 (keptP etmM 0 T.zero)).2.2 = false := by rw [etm_zero]; decide
theorem etm_plain : PartSaid etmM.fields 0 (etmM.flexible 0) := by
  have e : etmM.flexible 0 = false := by decide
  rw [e]
  exact partSaid_plain _ _
theorem TTS.of {w : World} {b1 b2 : Nat} {n1 n2 n3 n4 n5 m1 m2 m3 m4 m5 : Value} {T1 T2 : TypeId} {z1 z2 : Nat × Nat} (h1 : w.heap[b1]? = some (.cells #[n1, n2, n3, n4, n5] T1 z1)) (h2 : w.heap[b2]? = some (.cells #[m1, m2, m3, m4, m5] T2 z2)) :
    w.cell? ⟨b1, 0, none⟩ = some n1 ∧ w.cell? ⟨b1, 1, none⟩ = some n2 ∧ w.cell? ⟨b1, 2, none⟩ = some n3 ∧ w.cell? ⟨b1, 3, none⟩ = some n4 ∧ w.cell? ⟨b1, 4, none⟩ = some n5 ∧ w.cell? ⟨b2, 0, none⟩ = some m1 ∧ w.cell? ⟨b2, 1, none⟩ = some m2 ∧ w.cell? ⟨b2, 2, none⟩ = some m3 ∧ w.cell? ⟨b2, 3, none⟩ = some m4 ∧ w.cell? ⟨b2, 4, none⟩ = some m5 :=
  ⟨cellOf h1 0 _ rfl, cellOf h1 1 _ rfl, cellOf h1 2 _ rfl, cellOf h1 3 _ rfl, cellOf h1 4 _ rfl, cellOf h2 0 _ rfl, cellOf h2 1 _ rfl, cellOf h2 2 _ rfl, cellOf h2 3 _ rfl, cellOf h2 4 _ rfl⟩
/-- the law's last world: both trees lie in boxes -/
theorem law_end {w w4 w5 : World} {G4 G5 : Nat → Prop} {a : T} {c4 c5 : List Value} {o4 o5 : Obj} {P : World → Prop} (K5 : Keep [] w w5) (k5 : Keep [] (w4.alloc o4) w5) (hc4 : HT w4 G4 a c4) (hc5 : HT w5 G5 a c5) (g4 : There G4 w4) (g5 : There G5 w5)
    (h : ∀ W, Keep [] w W → W.heap[w4.heap.size]? = some o4 → W.heap[w5.heap.size]? = some o5 → HT W G4 a c4 → HT W G5 a c5 → There G4 W → There G5 W → P W) : P (w5.alloc o5) := by
  have k6 : Keep [] w4 (w5.alloc o5) := ((keep_box _).trans k5).alloc _
  exact h _ (K5.alloc _) (oneBox (k5.alloc _)) (heap_alloc_new w5 o5) (hc4.keepF (g4.same k6) (fun _ h => h)) (hc5.keepF (g5.same (keep_box _)) (fun _ h => h)) (g4.keep k6) (g5.keep (keep_box _))
set_option maxHeartbeats 1000000 in
set_option maxRecDepth 100000 in
theorem etm_law {G : Nat → Prop} {p : Addr} {l : Bs} {src : Value} {w : World} (hl : RB w G src l) (hG : There G w) (hg : Gl w p) :
    Calls Tryd.prog 3 #[src] w fun e w' => e = .returned (.bool true) ∧ Keep [] w w' := by
  obtain ⟨ao, cap, rfl⟩ := RS.shape hl
  go_enter Tryd.func3, Tryd.ntmps3
  by_cases h1 : 2147483647 < l.length
  · go_wp2_with fail
    go_ret
    exact ⟨rfl, Keep.refl _ _⟩
  by_cases h2 : 1000 < l.length
  · go_wp2_with fail
    go_ret
    exact ⟨rfl, Keep.refl _ _⟩
  have hll : l.length ≤ 1099511627776 := by omega
  cases hbad : (etm2 l).2.2
  · go_wp2_with (first
      | (go_at_call 7; refine (etm_schema _).mono ?_; rintro e w1 ⟨cm, rfl, ⟨aom, capm, rfl, hF⟩, k1⟩)
      | (go_at_call 6; refine (kept_any (G := New (fun _ => False) w w1) (m := etmM) (v := 0) (t := T.zero) etm_plain ⟨aom, capm, rfl, hF⟩ (HT.zero _ _) (fun k h => h.2) (by decide)).mono ?_; rintro e w2 ⟨d, rfl, ho, k2⟩; have K2 := k1.trans k2)
      | (go_at_call 5; refine (etm_Tell (l := keptP etmM 0 T.zero) ho.rb (by decide) (fun k h => h.2) (hg.keep K2 List.not_mem_nil)).mono ?_; rintro e w3 ⟨c3, rfl, hc3, k3⟩; rw [etm_can]; have K3 := K2.trans k3; obtain ⟨t3, ht3⟩ : ∃ t3, HT w3 (New (fun _ => False) w2 w3) t3 c3 := ⟨_, hc3⟩; clear hc3 ho hF k1 k2 k3; obtain ⟨a31, p31, a32, p32, a33, p33, rfl, -⟩ := id ht3.cells; clear ht3; generalize t3.n = n3; generalize t3.s.length = n31; generalize t3.null = n32; generalize t3.l.length = n33; generalize t3.u.length = n34; clear t3)
      | (go_at_call 5; go_loud (refine (etm_Tell (hl.keepF (hG.same (K3.alloc _)) (fun _ h => h)) hll (hG.keep (K3.alloc _)) (hg.keep (K3.alloc _) List.not_mem_nil)).mono ?_; rintro e w4 ⟨c4, rfl, hc4, k4⟩; rw [hbad]; rw [hbad, if_neg Bool.false_ne_true] at hc4; have K4 := (K3.alloc _).trans k4; obtain ⟨a41, p41, a42, p42, a43, p43, rfl, -⟩ := id hc4.cells))
      | (go_at_call 8; go_loud (refine (etm_Unsafe (hl.keepF (hG.same (K4.alloc _)) (fun _ h => h)) hll (hG.keep (K4.alloc _)) (hg.keep (K4.alloc _) List.not_mem_nil)).mono ?_; rintro e w5 ⟨c5, rfl, hc5, k5⟩; rw [hbad]; rw [hbad, if_neg Bool.false_ne_true] at hc5; have K5 := (K4.alloc _).trans k5; obtain ⟨a51, p51, a52, p52, a53, p53, rfl, -⟩ := id hc5.cells)))
    generalize etmT l = t at *
    refine law_end (o4 := .cells #[.int .i64 t.n, .slice a41 t.s.length p41, .bool t.null, .slice a42 t.l.length p42, .slice a43 t.u.length p43] 26) (o5 := .cells #[.int .i64 t.n, .slice a51 t.s.length p51, .bool t.null, .slice a52 t.l.length p52, .slice a53 t.u.length p53] 26) K5 k5 hc4 hc5 (fun k h => h.2) (fun k h => h.2) ?_
    intro W K6 hb5 hb7 h4 h5 g4 g5
    clear hc4 hc5 K5 k5 hl hG hg K3 K4 k4 K2
    generalize w4.heap.size = b5 at *
    generalize w5.heap.size = b7 at *
    have hS := TTS.of hb5 hb7
    have HB5 : Hid _ := hb5
    have HB7 : Hid _ := hb7
    clear hb5 hb7
    have l5 := World.heap_lt HB5.out
    have l7 := World.heap_lt HB7.out
    go_region_held3 (fun w' => w'.cell? ⟨b5, 0, none⟩ = some (.int .i64 t.n) ∧ w'.cell? ⟨b5, 1, none⟩ = some (.slice a41 t.s.length p41) ∧ w'.cell? ⟨b5, 2, none⟩ = some (.bool t.null) ∧ w'.cell? ⟨b5, 3, none⟩ = some (.slice a42 t.l.length p42) ∧ w'.cell? ⟨b5, 4, none⟩ = some (.slice a43 t.u.length p43) ∧ w'.cell? ⟨b7, 0, none⟩ = some (.int .i64 t.n) ∧ w'.cell? ⟨b7, 1, none⟩ = some (.slice a51 t.s.length p51) ∧ w'.cell? ⟨b7, 2, none⟩ = some (.bool t.null) ∧ w'.cell? ⟨b7, 3, none⟩ = some (.slice a52 t.l.length p52) ∧ w'.cell? ⟨b7, 4, none⟩ = some (.slice a53 t.u.length p53)) (exact hS) (first
      | (go_at_call 10; (refine (gotSaid t _ _ wa (h5.keepF (g5.same kA) (fun _ h => h)) (g5.keep kA)).mono ?_; rintro e wb ⟨cb, rfl, hb, kb⟩; have kB : Keep [] W wb := kA.trans kb; obtain ⟨a71, p71, a72, p72, a73, p73, rfl, -⟩ := id hb.cells; have hS := TTS.of ((kB.block _ l5 List.not_mem_nil).trans HB5.out) ((kB.block _ l7 List.not_mem_nil).trans HB7.out)))
      | (go_at_call 10; go_loud (refine (gotSaid t _ _ W.drew (h4.keepF (g4.same (Keep.refl [] W).drew) (fun _ h => h)) (g4.keep (Keep.refl [] W).drew)).mono ?_; rintro e wa ⟨ca, rfl, ha, ka⟩; have kA : Keep [] W wa := (Keep.refl [] W).drew.trans ka; obtain ⟨a61, p61, a62, p62, a63, p63, rfl, -⟩ := id ha.cells; have hS := TTS.of ((kA.block _ l5 List.not_mem_nil).trans HB5.out) ((kA.block _ l7 List.not_mem_nil).trans HB7.out)))
      | (go_at_call 9; go_loud (refine (sameSaid t _ _ _ _ wb (ha.keepF (fun k hk => kb.block k hk.2 List.not_mem_nil) (fun _ h => h)) hb (fun k hk => Nat.lt_of_lt_of_le hk.2 kb.size) (fun k hk => hk.2)).mono ?_; rintro e wc ⟨rfl, kc⟩; have kC : Keep [] W wc := kB.trans kc; have hS := TTS.of ((kC.block _ l5 List.not_mem_nil).trans HB5.out) ((kC.block _ l7 List.not_mem_nil).trans HB7.out))))
    all_goals go_wp2
    all_goals go_ret
    all_goals exact ⟨rfl, K6.trans kC⟩
  · go_wp2_with (first
      | (go_at_call 7; refine (etm_schema _).mono ?_; rintro e w1 ⟨cm, rfl, ⟨aom, capm, rfl, hF⟩, k1⟩)
      | (go_at_call 6; refine (kept_any (G := New (fun _ => False) w w1) (m := etmM) (v := 0) (t := T.zero) etm_plain ⟨aom, capm, rfl, hF⟩ (HT.zero _ _) (fun k h => h.2) (by decide)).mono ?_; rintro e w2 ⟨d, rfl, ho, k2⟩; have K2 := k1.trans k2)
      | (go_at_call 5; refine (etm_Tell (l := keptP etmM 0 T.zero) ho.rb (by decide) (fun k h => h.2) (hg.keep K2 List.not_mem_nil)).mono ?_; rintro e w3 ⟨c3, rfl, hc3, k3⟩; rw [etm_can]; have K3 := K2.trans k3; obtain ⟨t3, ht3⟩ : ∃ t3, HT w3 (New (fun _ => False) w2 w3) t3 c3 := ⟨_, hc3⟩; clear hc3 ho hF k1 k2 k3; obtain ⟨a31, p31, a32, p32, a33, p33, rfl, -⟩ := id ht3.cells; clear ht3; generalize t3.n = n3; generalize t3.s.length = n31; generalize t3.null = n32; generalize t3.l.length = n33; generalize t3.u.length = n34; clear t3)
      | (go_at_call 5; go_loud (refine (etm_Tell (hl.keepF (hG.same (K3.alloc _)) (fun _ h => h)) hll (hG.keep (K3.alloc _)) (hg.keep (K3.alloc _) List.not_mem_nil)).mono ?_; rintro e w4 ⟨c4, rfl, hc4, k4⟩; rw [hbad]; have K4 := (K3.alloc _).trans k4; obtain ⟨a41, p41, a42, p42, a43, p43, rfl, -⟩ := id hc4.cells))
      | (go_at_call 8; go_loud (refine (etm_Unsafe (hl.keepF (hG.same (K4.alloc _)) (fun _ h => h)) hll (hG.keep (K4.alloc _)) (hg.keep (K4.alloc _) List.not_mem_nil)).mono ?_; rintro e w5 ⟨c5, rfl, hc5, k5⟩; rw [hbad]; have K5 := (K4.alloc _).trans k5; obtain ⟨a51, p51, a52, p52, a53, p53, rfl, -⟩ := id hc5.cells)))
    go_region
    all_goals go_wp2
    all_goals go_ret
    all_goals exact ⟨rfl, (K5.alloc _).drew⟩
end Go.Proofs.YtjhdgboafmdojaaDoor
