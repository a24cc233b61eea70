/-
  spec.value: what is written of a value of a kind. The part's contract is handed over.
-/
import Derived.Test.YtnemimighhpcaaaDoorSpecC
import Derived.Laws.CopyOwn
import Derived.Deep.RegionHeld3
namespace Go.Proofs.YtnemimighhpcaaaDoor
open Go.ChangeShapes Go.WideShapes Go.ChangeAt Go.RowKit

/-- what spec.part promises of these fields -/
def PartSaid (fs : List F) (v : Int) (flex : Bool) : Prop :=
  ∀ (G : Nat → Prop) (vs : Value) (t : T) (c : List Value) (w : World), HFs w G vs fs → HT w G t c → There G w → (partP fs v flex t).length ≤ 1099511627776 →
    Calls Tryd.prog 47 #[vs, .int .i64 v, .bool flex, .agg c.toArray] w fun e w' => ∃ d, e = .returned d ∧ OB w' w.heap.size d (partP fs v flex t) ∧ Keep [] w w'

theorem keep_box {A : List Nat} {w : World} (o : Obj) : Keep A w (w.alloc o) := (Keep.refl _ _).alloc _
theorem OB.len {w : World} {B : Nat} {v : Value} {l : Bs} (h : OB w B v l) : ∃ ao cap, v = .slice ao l.length cap := by
  obtain ⟨_, ⟨rfl, h2⟩ | ⟨g, cap, cur, rfl, _⟩⟩ := h
  · exact ⟨none, 0, by rw [h2]⟩
  · exact ⟨_, _, rfl⟩
theorem OB.lower {w : World} {B B' : Nat} {v : Value} {l : Bs} (h : OB w B v l) (hB : B' ≤ B) : OB w B' v l := by
  obtain ⟨h1, h2 | ⟨g, cap, cur, e, hb, r⟩⟩ := h
  · exact ⟨h1, .inl h2⟩
  · exact ⟨h1, .inr ⟨g, cap, cur, e, Nat.le_trans hB hb, r⟩⟩
theorem OB.keep {w w' : World} {B : Nat} {v : Value} {l : Bs} (h : OB w B v l) (hk : Keep [] w w') : OB w' B v l := by
  obtain ⟨h1, h2 | ⟨g, cap, cur, e, hb, hg, r⟩⟩ := h
  · exact ⟨h1, .inl h2⟩
  · exact ⟨h1, .inr ⟨g, cap, cur, e, hb, by rw [hk.block g (Array.getElem?_eq_some_iff.1 hg).1 (by simp)]; exact hg, r⟩⟩
theorem own_cell {w w' : World} {B : Nat} {v : Value} {l : Bs} (h : OB w B v l) (hg : w.grownBy w' v.ownBlock) {p : Addr} (hp : p.block < B) (hB : B ≤ w.heap.size) : w'.cell? p = w.cell? p :=
  World.cell?_of_block (hg.block _ (by omega) (fun e => by have := (h.lt _ e.symm).1; omega))
theorem whole_len (l : Bs) : (whole l).length ≤ 32767 := by simp [whole]; omega

set_option maxHeartbeats 1000000 in
set_option maxRecDepth 100000 in
theorem value_num {kind v : Int} {null flex : Bool} {vs : Value} {G : Nat → Prop} {t : T} {c : List Value} {w : World} (ht : HT w G t c)
    (h0 : ¬ kind = 0) (h7 : ¬ kind = 7) (h8 : ¬ kind = 8) (h9 : ¬ kind = 9) (h10 : ¬ kind = 10) :
    Calls Tryd.prog 134 #[.int .i64 kind, vs, .bool null, .int .i64 v, .bool flex, .agg c.toArray] w fun e w' => ∃ d, e = .returned d ∧ OB w' w.heap.size d (fixedP t.n (widthP kind)) ∧ Keep [] w w' := by
  obtain ⟨az, ps, al, pl, au, pu, rfl, hs, hl, hu, hn1, hn2, hn3, hn4⟩ := ht.cells
  have hw : widthP kind ≤ 8 := by unfold widthP; split <;> (try split) <;> (try split) <;> omega
  have F1 := fun W => fixed_any t.n (widthP kind) hw W
  have W1 := fun W => width_any kind W
  clear ht hs hl hu
  go_enter Tryd.func134, Tryd.ntmps134
  go_wp2_with fail
  go_region_held3 (fun w' => w'.cell? ⟨w.heap.size, 0, none⟩ = some (.int .i64 t.n)) (go_keep) (first
    | (go_at_call 123; refine (W1 _).mono ?_; rintro e w' ⟨rfl, rfl⟩)
    | (go_at_call 97; refine (F1 _).mono ?_; rintro e w' ⟨d, rfl, h1, h2⟩; have hc := h2.cell (p := ⟨w.heap.size, 0, none⟩) (by simp) (by simp)))
  go_wp2
  go_ret
  exact ⟨_, rfl, h1.lower (by simp), (keep_box _).drew.trans h2⟩

theorem and_one (n : Int) : bits .and .i64 n 1 = n % 2 := by
  have h1 : (BitVec.ofInt 64 1).toNat = 2 ^ 1 - 1 := by decide
  have key : (BitVec.ofInt 64 n &&& BitVec.ofInt 64 1).toNat = (n % ((2 ^ 64 : Nat) : Int)).toNat % 2 ^ 1 := by
    rw [BitVec.toNat_and, BitVec.toNat_ofInt, h1, Nat.and_two_pow_sub_one_eq_mod]
  show IntKind.i64.wrap ((BitVec.ofInt 64 n &&& BitVec.ofInt 64 1).toNat : Nat) = n % 2
  rw [key, IntKind.wrap_i64]
  omega
theorem fixedP_len (n : Int) : ∀ k, (fixedP n k).length = k
  | 0 => rfl
  | k + 1 => by simp [fixedP, fixedP_len n k]
theorem countedP_len (flex null : Bool) (n size : Nat) (hs : size ≤ 8) (hn : n ≤ 4611686018427387904) : (countedP flex null n size).length ≤ 10 := by
  have h1 := uvarP_short (n := n + 1) (by omega)
  unfold countedP
  split
  · simp
  · split
    · exact h1
    · split <;> (rw [fixedP_len]; omega)
theorem ob_new' {w : World} {B g : Nat} {cs : Array Value} {l : Bs} {n : Nat} (hg : g = w.heap.size) (hB : B ≤ w.heap.size) (hcs : cs.toList = l.map bv) (hn : n = l.length) (hm : l.length ≤ maxLen) :
    OB (w.alloc (.cells cs 5)) B (.slice (some ⟨g, 0, none⟩) n n) l := by
  subst hg
  exact ob_new hB hcs hn hm
theorem bool_cell (n : Int) : (#[Value.int .u8 (n % 2)] : Array Value).toList = [UInt8.ofNat (n % 2).toNat].map bv := by
  simp only [List.map_cons, List.map_nil, bv, UInt8.toNat_ofNat']
  congr 2
  omega

set_option maxHeartbeats 1000000 in
set_option maxRecDepth 100000 in
theorem value_bool {v : Int} {null flex : Bool} {vs : Value} {G : Nat → Prop} {t : T} {c : List Value} {w : World} (ht : HT w G t c) :
    Calls Tryd.prog 134 #[.int .i64 0, vs, .bool null, .int .i64 v, .bool flex, .agg c.toArray] w fun e w' => ∃ d, e = .returned d ∧ OB w' w.heap.size d [UInt8.ofNat (t.n % 2).toNat] ∧ Keep [] w w' := by
  obtain ⟨az, ps, al, pl, au, pu, rfl, hs, hl, hu, hn1, hn2, hn3, hn4⟩ := ht.cells
  have ha := and_one t.n
  clear ht hs hl hu
  go_enter Tryd.func134, Tryd.ntmps134
  go_wp2
  go_ret
  refine ⟨_, rfl, ob_new' (g := w.heap.size + 1) (l := [UInt8.ofNat (t.n % 2).toNat]) (by simp) (by simp) (bool_cell _) rfl (by simp [maxLen]), (keep_box _).alloc _⟩

set_option maxHeartbeats 1000000 in
set_option maxRecDepth 100000 in
theorem value_text {v : Int} {null flex : Bool} {vs : Value} {G : Nat → Prop} {t : T} {c : List Value} {w : World} (ht : HT w G t c) (hG : There G w) (kind : Int) (size : Nat) (hk : kind = 8 ∧ size = 2 ∨ kind = 9 ∧ size = 4) :
    Calls Tryd.prog 134 #[.int .i64 kind, vs, .bool null, .int .i64 v, .bool flex, .agg c.toArray] w fun e w' => ∃ d, e = .returned d ∧ OB w' w.heap.size d (countedP flex null (if null then [] else whole t.s).length size ++ (if null then [] else whole t.s)) ∧ Keep [] w w' := by
  obtain ⟨az, ps, al, pl, au, pu, rfl, hs, hl, hu, hn1, hn2, hn3, hn4⟩ := ht.cells
  have hwl := whole_len t.s
  have hB : (w.alloc (.cells #[.int .i64 t.n, .slice az t.s.length ps, .bool t.null, .slice al t.l.length pl, .slice au t.u.length pu] 26)).heap.size = w.heap.size + 1 := by simp
  have hs' : RB (w.alloc (.cells #[.int .i64 t.n, .slice az t.s.length ps, .bool t.null, .slice al t.l.length pl, .slice au t.u.length pu] 26)) G (.slice az t.s.length ps) t.s := hs.keepF (hG.same (keep_box _)) (fun _ h => h)
  have W1 := whole_any hs' (by omega)
  clear ht hs hl hu
  have e0 : ((0 : Nat) : Int) = 0 := rfl
  have Z2 := fun W => counted_any flex true 0 2 (by omega) (by decide) W
  have Z4 := fun W => counted_any flex true 0 4 (by omega) (by decide) W
  rw [e0] at Z2 Z4
  clear e0
  rcases hk with ⟨rfl, rfl⟩ | ⟨rfl, rfl⟩ <;> cases null
  all_goals go_enter Tryd.func134, Tryd.ntmps134
  · go_wp2_with (first
      | (go_at_call 87; refine W1.mono ?_; rintro e w' ⟨d, rfl, hd, rfl⟩; obtain ⟨ad, pd, rfl⟩ := RS.shape hd)
      | (go_at_call 133; refine (counted_any flex false (whole t.s).length 2 (by omega) (by decide) _).mono ?_; rintro e w2 ⟨d2, rfl, h1, h2⟩; have hd2 := RB.keepF hd ((hG.keep (keep_box _)).same h2) (fun _ h => h))
      | (at_builtin; refine app_ob rfl (.tmp 42) (.tmp 43) rfl w.heap.size _ _ rfl (h1.lower (by simp)) _ _ G rfl hd2 (by have := countedP_len flex false (whole t.s).length 2 (by decide) (by omega); omega) (by have := h2.size; simp at this; omega) ?_; intro v' w3 ho hg))
    go_ret
    exact ⟨_, rfl, ho, grow_keep ((keep_box _).trans h2) h1 (by simp) hg⟩
  · go_wp2_with (first
      | (go_at_call 87; refine W1.mono ?_; rintro e w' ⟨d, rfl, hd, rfl⟩; obtain ⟨ad, pd, rfl⟩ := RS.shape hd)
      | (go_at_call 133; refine (Z2 _).mono ?_; rintro e w2 ⟨d2, rfl, h1, h2⟩; have hd2 := RB.nil w2 G)
      | (at_builtin; refine app_ob rfl (.tmp 42) (.tmp 43) rfl w.heap.size _ _ rfl (h1.lower (by simp)) _ _ G rfl hd2 (by have := countedP_len flex true 0 2 (by decide) (by omega); simp; omega) (by have := h2.size; simp at this; omega) ?_; intro v' w3 ho hg))
    go_ret
    exact ⟨_, rfl, by simpa using ho, grow_keep ((keep_box _).trans h2) h1 (by simp) hg⟩
  · go_wp2_with (first
      | (go_at_call 87; refine W1.mono ?_; rintro e w' ⟨d, rfl, hd, rfl⟩; obtain ⟨ad, pd, rfl⟩ := RS.shape hd)
      | (go_at_call 133; refine (counted_any flex false (whole t.s).length 4 (by omega) (by decide) _).mono ?_; rintro e w2 ⟨d2, rfl, h1, h2⟩; have hd2 := RB.keepF hd ((hG.keep (keep_box _)).same h2) (fun _ h => h))
      | (at_builtin; refine app_ob rfl (.tmp 55) (.tmp 56) rfl w.heap.size _ _ rfl (h1.lower (by simp)) _ _ G rfl hd2 (by have := countedP_len flex false (whole t.s).length 4 (by decide) (by omega); omega) (by have := h2.size; simp at this; omega) ?_; intro v' w3 ho hg))
    go_ret
    exact ⟨_, rfl, ho, grow_keep ((keep_box _).trans h2) h1 (by simp) hg⟩
  · go_wp2_with (first
      | (go_at_call 87; refine W1.mono ?_; rintro e w' ⟨d, rfl, hd, rfl⟩; obtain ⟨ad, pd, rfl⟩ := RS.shape hd)
      | (go_at_call 133; refine (Z4 _).mono ?_; rintro e w2 ⟨d2, rfl, h1, h2⟩; have hd2 := RB.nil w2 G)
      | (at_builtin; refine app_ob rfl (.tmp 55) (.tmp 56) rfl w.heap.size _ _ rfl (h1.lower (by simp)) _ _ G rfl hd2 (by have := countedP_len flex true 0 4 (by decide) (by omega); simp; omega) (by have := h2.size; simp at this; omega) ?_; intro v' w3 ho hg))
    go_ret
    exact ⟨_, rfl, by simpa using ho, grow_keep ((keep_box _).trans h2) h1 (by simp) hg⟩

theorem alloc_at2 (w : World) (o1 o2 : Obj) : ((w.alloc o1).alloc o2).heap[w.heap.size + 1]? = some o2 := by
  have h := heap_alloc_new (w.alloc o1) o2
  simpa using h
theorem addr_add (b o j : Nat) : (⟨b, o, none⟩ : Addr).add j = ⟨b, o + j, none⟩ := by
  unfold Addr.add
  split
  · subst j; rfl
  · rfl
/-- the cells of octets that lie somewhere, as the laws on copies ask for them -/
theorem RB.src {w : World} {G : Nat → Prop} {az : Option Addr} {n p : Nat} {l : Bs} (h : RB w G (.slice az n p) l) (h0 : 0 < l.length) :
    ∃ ad, az = some ad ∧ ∀ (j : Nat) (v : Value), (l.map bv)[j]? = some v → w.cell? (ad.add j) = some v := by
  obtain ⟨ao, cap, e, h1, h2, h3⟩ := h
  cases e
  cases az with
  | none => have := (h2 rfl).1; omega
  | some a =>
    refine ⟨a, rfl, fun j v hj => ?_⟩
    obtain ⟨b, o, sp⟩ := a
    obtain ⟨g1, g2⟩ := h3 _ rfl
    simp only at g1
    subst g1
    have hlt : j < (l.map bv).length := (List.getElem?_eq_some_iff.1 hj).1
    rw [List.getElem?_eq_getElem hlt] at hj
    rw [addr_add, (g2 j hlt).2]
    exact hj
theorem oneCell_bv (l : Bs) : ∀ v ∈ l.map bv, v.oneCell' = true := by
  intro u hu
  obtain ⟨x, _, rfl⟩ := List.mem_map.1 hu
  rfl
theorem keep_of_below {w w' : World} (h : Below w.heap.size w w') : Keep [] w w' := ⟨h.os, h.tape, h.output, h.size, fun k hk _ => h.block k hk⟩
theorem uuid_splice (s : Bs) : splice (List.replicate 16 (Value.int .u8 0)) 0 ((s.map bv).take 16) = (s.take 16 ++ List.replicate (16 - s.length) 0).map bv := by
  have e : (Value.int .u8 0) = bv 0 := rfl
  rw [e]
  simp only [splice, List.map_append, List.map_take, List.map_replicate, List.take_zero, List.nil_append, Nat.zero_add, List.drop_replicate, List.length_take, List.length_map]
  congr 2
  omega
theorem ob_block {w : World} {B g n : Nat} {l : Bs} (hB : B ≤ g) (h : w.heap[g]? = some (.cells (l.map bv).toArray 5)) (hn : n = l.length) (hm : l.length ≤ maxLen) : OB w B (.slice (some ⟨g, 0, none⟩) n n) l := by
  subst hn
  exact ⟨by simp, .inr ⟨g, _, _, rfl, hB, h, Nat.le_refl _, hm, by simp, by simp [List.take_of_length_le]⟩⟩
theorem make16 (u : World) : (Instr.makeSlice 22 (.int .i64 16) (.int .i64 16)).run Tryd.prog u = .ok (.slice (some ⟨u.heap.size, 0, none⟩) 16 16) (u.alloc (.cells (List.replicate 16 (.int .u8 0)).toArray 5)) := by kernel_rfl
theorem zeros16 : (List.replicate 16 (.int .u8 0) : List Value) = (List.replicate 16 (0 : UInt8)).map bv := rfl
set_option maxHeartbeats 1000000 in
set_option maxRecDepth 100000 in
theorem value_uuid {v : Int} {null flex : Bool} {vs : Value} {G : Nat → Prop} {t : T} {c : List Value} {w : World} (ht : HT w G t c) (hG : There G w) :
    Calls Tryd.prog 134 #[.int .i64 7, vs, .bool null, .int .i64 v, .bool flex, .agg c.toArray] w fun e w' => ∃ d, e = .returned d ∧ OB w' w.heap.size d (t.s.take 16 ++ List.replicate (16 - t.s.length) 0) ∧ Keep [] w w' := by
  obtain ⟨az, ps, al, pl, au, pu, rfl, hs, hl, hu, hn1, hn2, hn3, hn4⟩ := ht.cells
  clear ht hl hu
  have hmk := make16
  go_enter Tryd.func134, Tryd.ntmps134
  go_wp2_with ((with_reducible refine wpList_copy_splice rfl (.tmp 27) (.tmp 29) 22 22 rfl 5 Tryd.underlying22 (by kernel_rfl) _ _ _ _ _ _ rfl rfl (w.heap.size + 1) 0 (List.replicate 16 (.int .u8 0)) 5 ?hg ((t.s.take 16).map bv) ?hn ?hpos ?hfit ?h1 w.heap.size w ?hb ?hBg ?_))
  case hg => exact alloc_at2 _ _ _
  case hn => simp [Nat.min_comm]
  case hpos =>
    intro hp
    obtain ⟨ad, e, hc⟩ := RB.src (hs.keepF (hG.same ((keep_box _).alloc _)) (fun _ h => h)) (l := t.s) (by omega)
    refine ⟨ad, e, fun j v hj => hc j v ?_⟩
    rw [List.getElem?_take] at hj
    split at hj
    · exact hj
    · cases hj
  case hfit => simp; omega
  case h1 => exact oneCell_bv _
  case hb => exact ((Below.refl _ _).alloc (Nat.le_refl _) _).alloc (by simp) _
  case hBg => omega
  · intro w' H hb
    go_wp2
    go_ret
    refine ⟨_, rfl, ?_, keep_of_below hb⟩
    have h := H.out
    change _ = some (Obj.cells (splice (List.replicate 16 (Value.int .u8 0)) 0 ((t.s.map bv).take 16)).toArray _) at h
    rw [uuid_splice] at h
    exact ob_block (by omega) h (by simp; omega) (by simp [maxLen]; omega)

set_option maxHeartbeats 1000000 in
set_option maxRecDepth 100000 in
theorem value_part {sub : List F} {v : Int} {null flex : Bool} {vs : Value} {G : Nat → Prop} {t : T} {c : List Value} {w : World} (hp : PartSaid sub v flex) (hf : HFs w G vs sub) (ht : HT w G t c) (hG : There G w) (hb : (partP sub v flex t).length ≤ 1099511627776) :
    Calls Tryd.prog 134 #[.int .i64 10, vs, .bool null, .int .i64 v, .bool flex, .agg c.toArray] w fun e w' => ∃ d, e = .returned d ∧ OB w' w.heap.size d (partP sub v flex t) ∧ Keep [] w w' := by
  have HC : ∀ o, Calls Tryd.prog 47 #[vs, .int .i64 v, .bool flex, .agg c.toArray] (w.alloc o) fun e w' => ∃ d, e = .returned d ∧ OB w' (w.alloc o).heap.size d (partP sub v flex t) ∧ Keep [] (w.alloc o) w' := fun o =>
    hp G vs t c _ (hf.keepF (hG.same (keep_box _)) (fun _ h => h)) (ht.keepF (hG.same (keep_box _)) (fun _ h => h)) (hG.keep (keep_box _)) hb
  obtain ⟨az, ps, al, pl, au, pu, rfl, hs, hl, hu, hn1, hn2, hn3, hn4⟩ := ht.cells
  clear ht hl hu hs hp hf hb
  go_enter Tryd.func134, Tryd.ntmps134
  go_wp2_with (go_at_call 47; refine (HC _).mono ?_; rintro e w' ⟨d, rfl, h1, h2⟩)
  go_ret
  exact ⟨_, rfl, h1.lower (by simp), (keep_box _).trans h2⟩

theorem value_any {kind : Int} {sub : List F} {v : Int} {null flex : Bool} {vs : Value} {G : Nat → Prop} {t : T} {c : List Value} {w : World} (hp : PartSaid sub v flex) (hf : HFs w G vs sub) (ht : HT w G t c) (hG : There G w)
    (hb : (valueP kind (partP sub v flex) null flex t).length ≤ 1099511627776) :
    Calls Tryd.prog 134 #[.int .i64 kind, vs, .bool null, .int .i64 v, .bool flex, .agg c.toArray] w fun e w' => ∃ d, e = .returned d ∧ OB w' w.heap.size d (valueP kind (partP sub v flex) null flex t) ∧ Keep [] w w' := by
  unfold valueP at hb ⊢
  by_cases h0 : kind = 0
  · subst h0; rw [if_pos rfl]; exact value_bool ht
  rw [if_neg h0]; rw [if_neg h0] at hb
  by_cases h7 : kind = 7
  · subst h7; rw [if_pos rfl]; exact value_uuid ht hG
  rw [if_neg h7]; rw [if_neg h7] at hb
  by_cases h8 : kind = 8
  · subst h8; rw [if_pos rfl]; exact value_text ht hG 8 2 (.inl ⟨rfl, rfl⟩)
  rw [if_neg h8]; rw [if_neg h8] at hb
  by_cases h9 : kind = 9
  · subst h9; rw [if_pos rfl]; exact value_text ht hG 9 4 (.inr ⟨rfl, rfl⟩)
  rw [if_neg h9]; rw [if_neg h9] at hb
  by_cases h10 : kind = 10
  · subst h10; rw [if_pos rfl]; rw [if_pos rfl] at hb; exact value_part hp hf ht hG hb
  rw [if_neg h10]; exact value_num ht h0 h7 h8 h9 h10
end Go.Proofs.YtnemimighhpcaaaDoor
