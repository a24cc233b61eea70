/-
  Tags.Each: the call that it is given is called for each tag, by rising numbers.
-/
import Derived.Test.YtbdlilalihgdeaaDoorMB15
import Derived.Test.YtbdlilalihgdeaaDoorMB9
import Derived.Test.YtbdlilalihgdeaaDoorMB14
import Derived.Test.YtbdlilalihgdeaaDoorMB13
import Derived.Test.YtbdlilalihgdeaaDoorMB1
import Derived.Test.YtbdlilalihgdeaaDoorMB12
import Derived.Maps.OwnSet
import Derived.OwnWalk
import Derived.WalkSpells
import Derived.Shelf.Abstract
namespace Go.Proofs.YtbdlilalihgdeaaDoor
open Go.ChangeShapes Go.WideShapes Go.ChangeAt Go.RowKit

/-- outside J everything is as it was -/
structure Chg (J : Nat → Prop) (w w' : World) : Prop where
  os : w'.os = w.os
  tape : w'.tape = w.tape
  output : w'.output = w.output
  size : w.heap.size ≤ w'.heap.size
  block : ∀ k, k < w.heap.size → ¬ J k → w'.heap[k]? = w.heap[k]?
theorem Chg.refl (J : Nat → Prop) (w : World) : Chg J w w := ⟨rfl, rfl, rfl, Nat.le_refl _, fun _ _ _ => rfl⟩
theorem Keep.chg {w w' : World} (h : Keep [] w w') (J : Nat → Prop) : Chg J w w' := ⟨h.os, h.tape, h.output, h.size, fun k hk _ => h.block k hk (by simp)⟩
theorem Chg.trans {J J1 J2 : Nat → Prop} {w w1 w2 : World} (h : Chg J1 w w1) (k : Chg J2 w1 w2) (h1 : ∀ j, J1 j → J j ∨ w.heap.size ≤ j) (h2 : ∀ j, J2 j → J j ∨ w.heap.size ≤ j) : Chg J w w2 :=
  ⟨k.os.trans h.os, k.tape.trans h.tape, k.output.trans h.output, Nat.le_trans h.size k.size, fun j hj hn =>
    (k.block j (Nat.lt_of_lt_of_le hj h.size) (fun e => by
      rcases h2 j e with e | e
      · exact hn e
      · omega)).trans (h.block j hj (fun e => by
      rcases h1 j e with e | e
      · exact hn e
      · omega))⟩

theorem grown_set (w : World) (p : Addr) (u : Value) : w.grownBy (w.setCell p u) (some p.block) := ⟨rfl, rfl, rfl, by simp [World.setCell], fun k hk hne => Below.heap_setCell _ _ _ _ (fun e => hne (by rw [e]))⟩
/-- what was met so far -/
def Coll (tv : List (Nat × Value)) (left : Lit → Bool) (ss : List Int) : Prop :=
  ss.Nodup ∧ (∀ x : Int, left (.int .u32 x) = true → Maps.has (tD tv) (.int .u32 x) = true) ∧ ∀ x : Int, x ∈ ss ↔ (Maps.has (tD tv) (.int .u32 x) = true ∧ left (.int .u32 x) = false)
theorem Coll.start (tv : List (Nat × Value)) : Coll tv (Maps.has (tD tv)) [] :=
  ⟨List.nodup_nil, fun _ h => h, fun x => by cases Maps.has (tD tv) (.int .u32 x) <;> simp⟩
theorem Coll.step {tv : List (Nat × Value)} {left : Lit → Bool} {ss : List Int} (h : Coll tv left ss) {x : Int} (hl : left (.int .u32 x) = true) : Coll tv (fun z => left z && !z.sameKey (.int .u32 x)) (ss ++ [x]) := by
  obtain ⟨h1, h2, h3⟩ := h
  refine ⟨?_, fun y hy => h2 y (by simp at hy; exact hy.1), fun y => ?_⟩
  · refine List.nodup_append.2 ⟨h1, by simp, fun a ha b hb => ?_⟩
    simp at hb
    subst hb
    rintro rfl
    have := ((h3 a).1 ha).2
    rw [hl] at this
    cases this
  · simp only [List.mem_append, List.mem_singleton, h3]
    by_cases e : y = x
    · subst e
      simp [Lit.sameKey, h2 y hl]
    · have : (Lit.int .u32 y).sameKey (.int .u32 x) = false := by simp [Lit.sameKey, e]
      simp [this, e]
theorem Coll.perm {tv : List (Nat × Value)} {left : Lit → Bool} {ss : List Int} (h : Coll tv left ss) (hr : Rising tv) (hl : ∀ kl, left kl = false) : ss.Perm (tv.map fun x => (x.1 : Int)) := by
  obtain ⟨h1, _, h3⟩ := h
  refine (List.perm_ext_iff_of_nodup h1 ?_).2 fun x => ?_
  · refine List.pairwise_map.2 (hr.imp fun {a b} hab => ?_)
    omega
  · rw [h3]
    simp only [hl, and_true, List.mem_map]
    constructor
    · intro hx
      obtain ⟨y, hy, e⟩ := tD_has hx
      exact ⟨y, hy, e⟩
    · rintro ⟨y, hy, rfl⟩
      exact tD_has_mem hy
theorem keys_lt {tv : List (Nat × Value)} (hr : Rising tv) : (tv.map fun x => (x.1 : Int)).Pairwise (· < ·) := List.pairwise_map.2 (hr.imp fun {a b} hab => by omega)

theorem info_n32 : (Tryd.prog.info? 52).map (fun i => (i.zero, i.size, i.bytes)) = some (some (.int .u32 0), 1, 4) := by kernel_rfl
theorem zero_sl : ∀ w, (zeroValue 22).run Tryd.prog w = .ok (.slice none 0 0) w := Tryd.zeroValue22
end Go.Proofs.YtbdlilalihgdeaaDoor
/-
  Tags.Len, Tags.AppendEach: the tags by rising numbers onto octets of the call's own.
-/
namespace Go.Proofs.YtbdlilalihgdeaaDoor
open Go.ChangeShapes Go.WideShapes Go.ChangeAt Go.RowKit

theorem OB.shp {w : World} {B : Nat} {v : Value} {l : Bs} (h : OB w B v l) : ∃ a n c, v = .slice a n c := by
  obtain ⟨a, c, e⟩ := h.len
  exact ⟨a, _, c, e⟩
/-- the tags' octets are being gathered in the variable at bx: since W0 only J and new blocks have turned -/
structure TgCell (B bx : Nat) (J : Nat → Prop) (W0 W : World) (v : Value) (cur : Bs) : Prop where
  cell : W.heap[bx]? = some (.cells #[v] 22 (0, 0))
  own : OB W B v cur
  ne : v.ownBlock ≠ some bx
  here : ∀ k, v.ownBlock = some k → J k ∨ W0.heap.size ≤ k
  chg : Chg J W0 W
  jb : J bx
  lt : bx < W0.heap.size
  le : B ≤ W0.heap.size
theorem TgCell.rd {B bx : Nat} {J : Nat → Prop} {W0 W : World} {v : Value} {cur : Bs} (h : TgCell B bx J W0 W v cur) : W.cell? ⟨bx, 0, none⟩ = some v ∧ W.frozen? ⟨bx, 0, none⟩ = false := ⟨cellOf h.cell 0 _ rfl, freeOf h.cell 0⟩
theorem TgCell.step {B bx : Nat} {J : Nat → Prop} {W0 W W1 : World} {v v1 : Value} {cur p : Bs} (h : TgCell B bx J W0 W v cur) (ho : OB W1 B v1 (cur ++ p)) (m : Moved W W1 v v1) :
    (W1.cell? ⟨bx, 0, none⟩ = some v ∧ W1.frozen? ⟨bx, 0, none⟩ = false) ∧ TgCell B bx J W0 (W1.setCell ⟨bx, 0, none⟩ v1) v1 (cur ++ p) := by
  have hz := h.chg.size
  have hz1 := m.grown.size
  have hl := h.lt
  have hb : W1.heap[bx]? = some (.cells #[v] 22 (0, 0)) := (m.grown.block bx (by omega) (fun e => h.ne e.symm)).trans h.cell
  have hn1 : v1.ownBlock ≠ some bx := fun e => by
    rcases m.here bx e with q | q
    · exact h.ne q
    · omega
  have hs : ∀ k, k ≠ bx → (W1.setCell ⟨bx, 0, none⟩ v1).heap[k]? = W1.heap[k]? := fun k hk => Below.heap_setCell _ _ _ _ hk
  have hzz : (W1.setCell ⟨bx, 0, none⟩ v1).heap.size = W1.heap.size := by simp [World.setCell]
  refine ⟨⟨cellOf hb 0 _ rfl, freeOf hb 0⟩, ?_, ?_, hn1, fun k e => ?_, ⟨?_, ?_, ?_, by omega, fun k hk hj => ?_⟩, h.jb, hl, h.le⟩
  · simpa using heap_set (i := 0) hb v1
  · obtain ⟨h1, h2 | ⟨g, cap, cu, e, hbb, hg, r⟩⟩ := ho
    · exact ⟨h1, .inl h2⟩
    · refine ⟨h1, .inr ⟨g, cap, cu, e, hbb, ?_, r⟩⟩
      rw [hs g (fun q => hn1 (by rw [e, q]; rfl))]
      exact hg
  · rcases m.here k e with q | q
    · exact h.here k q
    · exact .inr (by omega)
  · exact m.grown.os.trans h.chg.os
  · exact m.grown.tape.trans h.chg.tape
  · exact m.grown.output.trans h.chg.output
  · have hkb : k ≠ bx := fun e => hj (e ▸ h.jb)
    rw [hs k hkb, m.grown.block k (by omega) (fun e => ?_), h.chg.block k hk hj]
    rcases h.here k e.symm with q | q
    · exact hj q
    · omega
/-- .. d tags are in -/
def TgSt (B bx : Nat) (acc : Bs) (us : List Tg) (d : Nat) (J : Nat → Prop) (W : World) : Prop :=
  ∃ v, TgCell B bx J W W v (acc ++ ((us.take d).map tagP).flatten) ∧ (∀ k, v.ownBlock = some k → J k) ∧ (∀ k, J k → B ≤ k)
end Go.Proofs.YtbdlilalihgdeaaDoor
/-
  A struct's cells within a block; fields taken apart.
-/
namespace Go.Proofs.YtbdlilalihgdeaaDoor
open Go.ChangeShapes Go.WideShapes Go.ChangeAt Go.RowKit

/-- a struct's cells within a block -/
def Pt (W : World) (pb po : Nat) (c : List Value) : Prop := ∃ pre post ty, W.heap[pb]? = some (.cells (pre ++ (c ++ post)).toArray ty (0, 0)) ∧ pre.length = po
theorem Pt.keep {A : List Nat} {W W' : World} {pb po : Nat} {c : List Value} (h : Pt W pb po c) (k : Keep A W W') (ha : pb ∉ A) : Pt W' pb po c := by
  obtain ⟨pre, post, ty, h1, h2⟩ := h
  exact ⟨pre, post, ty, (k.block pb (World.heap_lt h1) ha).trans h1, h2⟩
theorem Pt.cell {W : World} {pb po : Nat} {c : List Value} (h : Pt W pb po c) {o j : Nat} {v : Value} (ho : o = po + j) (hv : c[j]? = some v) : W.cell? ⟨pb, o, none⟩ = some v := by
  obtain ⟨pre, post, ty, h1, h2⟩ := h
  refine cellOf h1 o _ ?_
  have hj := (List.getElem?_eq_some_iff.1 hv).1
  subst ho h2
  simp [List.getElem?_append_right, List.getElem?_append_left hj, hv]
theorem Pt.lt {W : World} {pb po : Nat} {c : List Value} (h : Pt W pb po c) : pb < W.heap.size := by
  obtain ⟨pre, post, ty, h1, h2⟩ := h
  exact World.heap_lt h1
theorem Pt.whole {W : World} {pb po : Nat} {c : List Value} (h : Pt W pb po c) {o j : Nat} {v : Value} (ho : o = po + j) (hv : c[j]? = some v) : ∃ arr ty, W.heap[pb]? = some (.cells arr ty (0, 0)) ∧ arr[o]? = some v := by
  obtain ⟨pre, post, ty, h1, h2⟩ := h
  have hj := (List.getElem?_eq_some_iff.1 hv).1
  refine ⟨_, ty, h1, ?_⟩
  subst ho h2
  simp [List.getElem?_append_right, List.getElem?_append_left hj, hv]

section
variable {W : World} {G : Nat → Prop} {a b nul c d e : Int} {sub : List F} {cs : List Value} {t : T}
theorem vf_bool_inv (h : VF W G (.mk 0 a b nul c d e sub) cs t) : ∃ x : Bool, cs = [.bool x] ∧ t = .mk (if x then 1 else 0) [] false [] [] := h
theorem vf_i8_inv (h : VF W G (.mk 1 a b nul c d e sub) cs t) : ∃ n : Int, cs = [.int .i8 n] ∧ (-128 ≤ n ∧ n ≤ 127) ∧ t = .mk n [] false [] [] := h
theorem vf_i16_inv (h : VF W G (.mk 2 a b nul c d e sub) cs t) : ∃ n : Int, cs = [.int .i16 n] ∧ (-32768 ≤ n ∧ n ≤ 32767) ∧ t = .mk n [] false [] [] := h
theorem vf_i32_inv (h : VF W G (.mk 3 a b nul c d e sub) cs t) : ∃ n : Int, cs = [.int .i32 n] ∧ (-2147483648 ≤ n ∧ n ≤ 2147483647) ∧ t = .mk n [] false [] [] := h
theorem vf_i64_inv (h : VF W G (.mk 4 a b nul c d e sub) cs t) : ∃ n : Int, cs = [.int .i64 n] ∧ (-9223372036854775808 ≤ n ∧ n ≤ 9223372036854775807) ∧ t = .mk n [] false [] [] := h
theorem vf_8 (h : VF W G (.mk 8 a b nul c d e sub) cs t) : if 0 ≤ nul then ∃ v o, cs = [v] ∧ PS W G v o ∧ t = nstrT o else ∃ x : Bs, cs = [str x] ∧ t = .mk 0 x false [] [] := by
  have h' : VK W G 8 nul (VFs W G sub) cs t := h
  simp only [VK] at h'
  rw [if_neg (by decide), if_neg (by decide), if_neg (by decide), if_neg (by decide), if_neg (by decide), if_neg (by decide), if_neg (by decide), if_pos True.intro] at h'
  exact h'
theorem vf_str_inv (hn : nul < 0) (h : VF W G (.mk 8 a b nul c d e sub) cs t) : ∃ x : Bs, cs = [.string ⟨x.toArray⟩] ∧ t = .mk 0 x false [] [] := by
  have h' := vf_8 h
  rw [if_neg (by omega)] at h'
  exact h'
theorem vf_nstr_inv (hn : 0 ≤ nul) (h : VF W G (.mk 8 a b nul c d e sub) cs t) : ∃ v o, cs = [v] ∧ PS W G v o ∧ t = nstrT o := by
  have h' := vf_8 h
  rw [if_pos hn] at h'
  exact h'
theorem vf_uuid_inv (h : VF W G (.mk 7 a b nul c d e sub) cs t) : ∃ x : Bs, x.length = 16 ∧ cs = x.map bv ∧ t = .mk 0 x false [] [] := h
theorem vf_part_inv (h : VF W G (.mk 10 a b nul c d e sub) cs t) : ∃ cs' v l u, cs = cs' ++ [v] ∧ VFs W G sub cs' l ∧ MP W G v u ∧ t = .mk 0 [] false l u := h
theorem vf_oct_inv (h : VF W G (.mk 9 a b nul c d e sub) cs t) : ∃ v o, cs = [v] ∧ OS W G v o ∧ t = octT o := h
theorem vf_list_inv (h : VF W G (.mk 11 a b nul c d e sub) cs t) : ∃ v, cs = [v] ∧ VL W G (VK W G e (-1) (VFs W G sub)) (wdK e (wdFs sub)) v t := h
end
theorem RW.part {W : World} {G : Nat → Prop} {v : Value} {css : List (List Value)} {m n : Nat} (h : RW W G v n css.flatten) (hn : css.length = n) (hm : ∀ c ∈ css, c.length = m) {i : Nat} (hi : i < css.length) : ∃ row cap, v = .slice (some ⟨row, 0, none⟩) n cap ∧ n ≤ cap ∧ G row ∧ Pt W row (i * m) css[i] := by
  subst hn
  rcases h with ⟨h0, _⟩ | ⟨h0, row, cap, extra, ty, h1, h2, h3, h4⟩
  · omega
  · refine ⟨row, cap, h1, h2, h3, (css.take i).flatten, (css.drop (i + 1)).flatten ++ extra, ty, ?_, ?_⟩
    · have e : css = css.take i ++ css[i] :: css.drop (i + 1) := by rw [← List.drop_eq_getElem_cons hi, List.take_append_drop]
      have e2 : css.flatten = (css.take i).flatten ++ (css[i] ++ (css.drop (i + 1)).flatten) := by
        have e3 := congrArg List.flatten e
        rw [List.flatten_append, List.flatten_cons] at e3
        exact e3
      have e4 : css.flatten ++ extra = (css.take i).flatten ++ (css[i] ++ ((css.drop (i + 1)).flatten ++ extra)) := by rw [e2, List.append_assoc, List.append_assoc]
      rw [h4, e4]
    · rw [flatten_len _ m (fun c hc => hm c (List.mem_of_mem_take hc)), List.length_take, Nat.min_eq_left (by omega), Nat.mul_comm]
theorem small_text {N : Nat} {o : Option Bs} (h : small N (nstrT o)) : ∀ x, o = some x → x.length ≤ N := by
  rintro x rfl
  exact h.1
theorem small_oct {N : Nat} {o : Option Bs} (h : small N (octT o)) : ∀ x, o = some x → x.length ≤ N := by
  rintro x rfl
  exact h.1
section
variable {W : World} {G : Nat → Prop} {nul : Int} {p : List Value → List T → Prop} {cs : List Value} {t : T}
theorem vk_i8_inv (h : VK W G 1 nul p cs t) : ∃ n : Int, cs = [.int .i8 n] ∧ (-128 ≤ n ∧ n ≤ 127) ∧ t = .mk n [] false [] [] := h
theorem vk_i16_inv (h : VK W G 2 nul p cs t) : ∃ n : Int, cs = [.int .i16 n] ∧ (-32768 ≤ n ∧ n ≤ 32767) ∧ t = .mk n [] false [] [] := h
theorem vk_i32_inv (h : VK W G 3 nul p cs t) : ∃ n : Int, cs = [.int .i32 n] ∧ (-2147483648 ≤ n ∧ n ≤ 2147483647) ∧ t = .mk n [] false [] [] := h
theorem vk_i64_inv (h : VK W G 4 nul p cs t) : ∃ n : Int, cs = [.int .i64 n] ∧ (-9223372036854775808 ≤ n ∧ n ≤ 9223372036854775807) ∧ t = .mk n [] false [] [] := h
theorem vk_str_inv (h : VK W G 8 (-1) p cs t) : ∃ x : Bs, cs = [.string ⟨x.toArray⟩] ∧ t = .mk 0 x false [] [] := by
  have h2 : ∃ x : Bs, cs = [str x] ∧ t = .mk 0 x false [] [] := by
    simp only [VK] at h
    simpa using h
  exact h2
end
end Go.Proofs.YtbdlilalihgdeaaDoor
/-
  Which versions have a field.
-/
namespace Go.Proofs.YtbdlilalihgdeaaDoor
section
variable {k a b nul tag d o v : Int} {sub : List F}
theorem has_yes (h1 : a ≤ v) (h2 : b < 0 ∨ v ≤ b) : F.has (.mk k a b nul tag d o sub) v = true := by
  show (decide (a ≤ v) && (decide (b < 0) || decide (v ≤ b))) = true
  simp [h1, h2]
theorem has_no1 (h1 : ¬ a ≤ v) : F.has (.mk k a b nul tag d o sub) v = false := by
  show (decide (a ≤ v) && (decide (b < 0) || decide (v ≤ b))) = false
  simp [h1]
theorem has_no2 (h1 : ¬ v ≤ b) (h2 : 0 ≤ b) : F.has (.mk k a b nul tag d o sub) v = false := by
  show (decide (a ≤ v) && (decide (b < 0) || decide (v ≤ b))) = false
  have h3 : ¬ b < 0 := by omega
  simp [h1, h3]
end
end Go.Proofs.YtbdlilalihgdeaaDoor
/-
  To store what lies there changes nothing.
-/
namespace Go.Proofs.YtbdlilalihgdeaaDoor
open Go.ChangeShapes Go.WideShapes Go.ChangeAt Go.RowKit

theorem setCell_self {w : World} {b i : Nat} {v : Value} (h : w.cell? ⟨b, i, none⟩ = some v) : w.setCell ⟨b, i, none⟩ v = w := by
  unfold World.cell? at h
  have hh : (w.setCell ⟨b, i, none⟩ v).heap = w.heap := by
    unfold World.setCell
    refine Array.ext (by simp) fun j h1 h2 => ?_
    simp only
    rw [Array.getElem_modify]
    split
    · rename_i e
      subst e
      rw [Array.getElem?_eq_getElem h2] at h
      split at h
      · rename_i c t f e
        rw [Option.some.inj e]
        simp only [Option.isSome_none, Bool.false_eq_true, if_false] at h ⊢
        congr 1
        refine Array.ext (by simp) fun k k1 k2 => ?_
        rw [Array.getElem_setIfInBounds]
        split
        · rename_i e2
          subst e2
          rw [Array.getElem?_eq_getElem k2] at h
          exact (Option.some.inj h).symm
        · rfl
      · cases h
    · rfl
  calc w.setCell ⟨b, i, none⟩ v = { w with heap := (w.setCell ⟨b, i, none⟩ v).heap } := rfl
    _ = w := by rw [hh]
end Go.Proofs.YtbdlilalihgdeaaDoor
/-
  HOW FAR A MESSAGE HAS BEEN WRITTEN: the states of AppendTo's walks.
-/
namespace Go.Proofs.YtbdlilalihgdeaaDoor
open Go.ChangeShapes Go.WideShapes Go.ChangeAt Go.RowKit

/-- F is being written: rest is to come -/
structure ApSt (w U : World) (B : Nat) (v : Value) (F rest : Bs) : Prop where
  cur : ∃ c, OB U B v c ∧ c ++ rest = F
  len : F.length ≤ 40000000000000
  below : Below B w U
  le : B ≤ w.heap.size
namespace ApSt
variable {w U : World} {B : Nat} {v : Value} {F p rest : Bs}
theorem le' (h : ApSt w U B v F rest) : B ≤ U.heap.size := Nat.le_trans h.le h.below.size
theorem at_ (h : ApSt w U B v F rest) {k o : Nat} {x : Value} (hc : w.cell? ⟨k, o, none⟩ = some x) (hk : k < B) : U.cell? ⟨k, o, none⟩ = some x := (h.below.cell (p := ⟨k, o, none⟩) hk).trans hc
theorem blk (h : ApSt w U B v F rest) {k : Nat} (hk : k < B) : U.heap[k]? = w.heap[k]? := h.below.block k hk
theorem same (h : ApSt w U B v F rest) {G : Nat → Prop} (hG : ∀ k, G k → k < B) : SameOn G w U := fun k hk => h.below.block k (hG k hk)
theorem call (h : ApSt w U B v F (p ++ rest)) {fn : Nat} {args : Array Value} (hc : ∀ acc, OB U B v acc → acc.length + p.length ≤ 40000000000000 → Calls Tryd.prog fn args U fun e U' => ∃ v', e = .returned v' ∧ OB U' B v' (acc ++ p) ∧ Below B U U') :
    Calls Tryd.prog fn args U fun e U' => ∃ v', e = .returned v' ∧ ApSt w U' B v' F rest := by
  obtain ⟨c, ho, hf⟩ := h.cur
  have hl := h.len
  refine (hc c ho (by rw [← hf] at hl; simp only [List.length_append] at hl; omega)).mono ?_
  rintro e U' ⟨v', rfl, h1, h2⟩
  exact ⟨v', rfl, ⟨c ++ p, h1, by rw [List.append_assoc]; exact hf⟩, h.len, h.below.trans h2, h.le⟩
theorem i16 {n : Int} (h : ApSt w U B v F (fixedP n 2 ++ rest)) : Calls Tryd.prog 39 #[v, .int .i16 n] U fun e U' => ∃ v', e = .returned v' ∧ ApSt w U' B v' F rest := h.call fun _ ho hl => appi16_any ho h.le' (by omega)
theorem st {s : Bs} (h : ApSt w U B v F ((fixedP s.length 2 ++ s) ++ rest)) (hs : s.length ≤ 1000000) : Calls Tryd.prog 29 #[v, .string ⟨s.toArray⟩] U fun e U' => ∃ v', e = .returned v' ∧ ApSt w U' B v' F rest := h.call fun _ ho hl => appstr_any ho h.le' (by omega) (by omega)
theorem calm {U' : World} (h : ApSt w U B v F rest) (k : Keep [] U U') : ApSt w U' B v F rest := by
  obtain ⟨c, h1, h2⟩ := h.cur
  exact ⟨⟨c, h1.keep k, h2⟩, h.len, h.below.trans ⟨k.os, k.tape, k.output, k.size, fun i hi => k.block i (Nat.lt_of_lt_of_le hi h.le') (by simp)⟩, h.le⟩
theorem start {acc X : Bs} (ho : OB w B v acc) (hB : B ≤ w.heap.size) (hl : (acc ++ X).length ≤ 40000000000000) : ApSt w w B v (acc ++ X) X := ⟨⟨acc, ho, rfl⟩, hl, Below.refl _ _, hB⟩
theorem done (h : ApSt w U B v F []) : OB U B v F ∧ Below B w U := by
  obtain ⟨c, h1, h2⟩ := h.cur
  rw [List.append_nil] at h2
  subst h2
  exact ⟨h1, h.below⟩
end ApSt
/-! what a field's octets are -/
section
variable {a b nul c d e ver : Int} {sub : List F}
theorem apF_bool {fx x : Bool} : apF (.mk 0 a b nul c d e sub) ver fx (.mk (if x then 1 else 0) [] false [] []) = [if x then 1 else 0] := by cases x <;> rfl
theorem apF_i8 {fx : Bool} {n : Int} : apF (.mk 1 a b nul c d e sub) ver fx (.mk n [] false [] []) = fixedP n 1 := rfl
theorem apF_i16 {fx : Bool} {n : Int} : apF (.mk 2 a b nul c d e sub) ver fx (.mk n [] false [] []) = fixedP n 2 := rfl
theorem apF_i32 {fx : Bool} {n : Int} : apF (.mk 3 a b nul c d e sub) ver fx (.mk n [] false [] []) = fixedP n 4 := rfl
theorem apF_i64 {fx : Bool} {n : Int} : apF (.mk 4 a b nul c d e sub) ver fx (.mk n [] false [] []) = fixedP n 8 := rfl
theorem apF_uuid {fx : Bool} {x : Bs} : apF (.mk 7 a b nul c d e sub) ver fx (.mk 0 x false [] []) = x := rfl
theorem apF_str {x : Bs} : apF (.mk 8 a b nul c d e sub) ver false (.mk 0 x false [] []) = fixedP x.length 2 ++ x := rfl
theorem apF_cstr {x : Bs} : apF (.mk 8 a b nul c d e sub) ver true (.mk 0 x false [] []) = uvarP (x.length + 1) ++ x := rfl
theorem apF_nstr {o : Option Bs} (h0 : 0 ≤ nul) (h1 : nul ≤ ver) : apF (.mk 8 a b nul c d e sub) ver false (nstrT o) = nstrP o := by
  cases o with
  | none =>
    simp only [apF, apK, nstrT, F.isNull, F.nul, T.null, T.s, countedP, nstrP]
    simp [h0, h1]
  | some x => rfl
theorem apF_cnstr {o : Option Bs} (h0 : 0 ≤ nul) (h1 : nul ≤ ver) : apF (.mk 8 a b nul c d e sub) ver true (nstrT o) = cnstrP o := by
  cases o with
  | none =>
    simp only [apF, apK, nstrT, F.isNull, F.nul, T.null, T.s, countedP, cnstrP]
    simp [h0, h1]
  | some x => rfl
/-- a list's thing -/
def apE (ofk : Int) (sub : List F) (ver : Int) (fx : Bool) : T → Bs := apK ofk (fun t => apFs sub ver fx t.l ++ (if fx then apU t.u else [])) false fx
theorem getD_len {o : Option Bs} {N : Nat} (h : ∀ x, o = some x → x.length ≤ N) : (o.getD []).length ≤ N := by
  cases o with
  | none => simp
  | some x => exact h x rfl
theorem apF_nstrY {o : Option Bs} (h1 : ¬ nul ≤ ver) : apF (.mk 8 a b nul c d e sub) ver false (nstrT o) = fixedP (o.getD []).length 2 ++ o.getD [] := by
  cases o with
  | none =>
    simp only [apF, apK, nstrT, F.isNull, F.nul, T.null, T.s, countedP]
    simp [h1]
  | some x => rfl
theorem apF_cnstrY {o : Option Bs} (h1 : ¬ nul ≤ ver) : apF (.mk 8 a b nul c d e sub) ver true (nstrT o) = uvarP ((o.getD []).length + 1) ++ o.getD [] := by
  cases o with
  | none =>
    simp only [apF, apK, nstrT, F.isNull, F.nul, T.null, T.s, countedP]
    simp [h1]
  | some x => rfl
theorem apF_list {nu : Bool} {l : List T} (h : nul < 0) : apF (.mk 11 a b nul c d e sub) ver false (.mk 0 [] nu l []) = fixedP l.length 4 ++ l.flatMap (apE e sub ver false) := by
  simp only [apF, apE, F.isNull, F.nul, T.null, T.l, countedP]
  simp [show ¬ 0 ≤ nul by omega]
theorem apF_clist {nu : Bool} {l : List T} (h : nul < 0) : apF (.mk 11 a b nul c d e sub) ver true (.mk 0 [] nu l []) = uvarP (l.length + 1) ++ l.flatMap (apE e sub ver true) := by
  simp only [apF, apE, F.isNull, F.nul, T.null, T.l, countedP]
  simp [show ¬ 0 ≤ nul by omega]
theorem apF_nlist {nu : Bool} {l : List T} (h0 : 0 ≤ nul) (h1 : nul ≤ ver) : apF (.mk 11 a b nul c d e sub) ver false (.mk 0 [] nu l []) = (if nu then fixedP (-1) 4 else fixedP l.length 4) ++ l.flatMap (apE e sub ver false) := by
  simp only [apF, apE, F.isNull, F.nul, T.null, T.l, countedP]
  simp [h0, h1]
theorem apF_cnlist {nu : Bool} {l : List T} (h0 : 0 ≤ nul) (h1 : nul ≤ ver) : apF (.mk 11 a b nul c d e sub) ver true (.mk 0 [] nu l []) = (if nu then [0] else uvarP (l.length + 1)) ++ l.flatMap (apE e sub ver true) := by
  simp only [apF, apE, F.isNull, F.nul, T.null, T.l, countedP]
  cases nu <;> simp [h0, h1]
theorem apF_part {l : List T} {u : List Tg} : apF (.mk 10 a b (-1) c d e sub) ver false (.mk 0 [] false l u) = apFs sub ver false l := by
  show apFs sub ver false l ++ [] = _
  simp
theorem apF_cpart {l : List T} {u : List Tg} : apF (.mk 10 a b (-1) c d e sub) ver true (.mk 0 [] false l u) = apFs sub ver true l ++ (uvarP u.length ++ (u.map tagP).flatten) := rfl
theorem apF_listY {nu : Bool} {l : List T} (h : ¬ nul ≤ ver) : apF (.mk 11 a b nul c d e sub) ver false (.mk 0 [] nu l []) = fixedP l.length 4 ++ l.flatMap (apE e sub ver false) := by
  simp only [apF, apE, F.isNull, F.nul, T.null, T.l, countedP]
  simp [h]
theorem apF_clistY {nu : Bool} {l : List T} (h : ¬ nul ≤ ver) : apF (.mk 11 a b nul c d e sub) ver true (.mk 0 [] nu l []) = uvarP (l.length + 1) ++ l.flatMap (apE e sub ver true) := by
  simp only [apF, apE, F.isNull, F.nul, T.null, T.l, countedP]
  simp [h]
theorem apE_part {l : List T} {u : List Tg} : apE 10 sub ver false (.mk 0 [] false l u) = apFs sub ver false l := by
  show apFs sub ver false l ++ [] = _
  simp
theorem apE_cpart {l : List T} {u : List Tg} : apE 10 sub ver true (.mk 0 [] false l u) = apFs sub ver true l ++ (uvarP u.length ++ (u.map tagP).flatten) := rfl
theorem apE_i8 {fx : Bool} {n : Int} : apE 1 sub ver fx (.mk n [] false [] []) = fixedP n 1 := rfl
theorem apE_i16 {fx : Bool} {n : Int} : apE 2 sub ver fx (.mk n [] false [] []) = fixedP n 2 := rfl
theorem apE_i32 {fx : Bool} {n : Int} : apE 3 sub ver fx (.mk n [] false [] []) = fixedP n 4 := rfl
theorem apE_i64 {fx : Bool} {n : Int} : apE 4 sub ver fx (.mk n [] false [] []) = fixedP n 8 := rfl
theorem apE_str {x : Bs} : apE 8 sub ver false (.mk 0 x false [] []) = fixedP x.length 2 ++ x := rfl
theorem apE_cstr {x : Bs} : apE 8 sub ver true (.mk 0 x false [] []) = uvarP (x.length + 1) ++ x := rfl
theorem apPart_plain {fs : List F} {l : List T} {u : List Tg} : apPart fs ver false (.mk 0 [] false l u) = apFs fs ver false l := by
  show apFs fs ver false l ++ [] = _
  simp
theorem apPart_flex {fs : List F} {l : List T} {u : List Tg} : apPart fs ver true (.mk 0 [] false l u) = apFs fs ver true l ++ (uvarP u.length ++ (u.map tagP).flatten) := rfl
theorem apFs_has {f : F} {r : List F} {fx : Bool} {t : T} {l : List T} (h : f.has ver = true) : apFs (f :: r) ver fx (t :: l) = apF f ver fx t ++ apFs r ver fx l := by
  rw [apFs, if_pos h]
theorem apFs_lacks {f : F} {r : List F} {fx : Bool} {t : T} {l : List T} (h : f.has ver = false) : apFs (f :: r) ver fx (t :: l) = apFs r ver fx l := by
  rw [apFs, if_neg (by simp [h]), List.nil_append]
end
end Go.Proofs.YtbdlilalihgdeaaDoor
/-
  What the Behind laws share: a message that was read, seen from behind another call; how small what is told is; how long what is written is.
-/
namespace Go.Proofs.YtbdlilalihgdeaaDoor
open Go.ChangeShapes Go.WideShapes Go.ChangeAt Go.RowKit

theorem Keep.andBelow {a b c : World} (h : Keep [] a b) (k : Below a.heap.size b c) : Keep [] a c :=
  ⟨k.os.trans h.os, k.tape.trans h.tape, k.output.trans h.output, Nat.le_trans h.size k.size, fun i hi _ => (k.block i hi).trans (h.block i hi (by simp))⟩
theorem VM.seen {W W4 : World} {G : Nat → Prop} {b : Nat} {fs : List F} {ty : TypeId} {ver : Int} {t : T} (h : VM W G b fs ty ver t) (hG : ∀ k, G k → k < W.heap.size) (k : Keep [] W W4) :
    ∃ c, Pt W4 b 1 c ∧ W4.cell? ⟨b, 0, none⟩ = some (.int .i16 ver) ∧ VK W4 G 10 (-1) (VFs W4 G fs) c t := by
  obtain ⟨cs, v, l, u, h1, h2, h3, rfl⟩ := h
  have hb : W4.heap[b]? = _ := (k.block b (World.heap_lt h1) List.not_mem_nil).trans h1
  have hs : SameOn G W W4 := fun i hi => k.block i (hG i hi) List.not_mem_nil
  exact ⟨cs ++ [v], ⟨[.int .i16 ver], [], ty, by simpa using hb, rfl⟩, cellOf hb 0 _ (by simp), cs, v, l, u, rfl, VFs.keepF hs (fun _ h => h) fs h2, h3.keepF hs (fun _ h => h), rfl⟩
theorem smalls_map {N : Nat} {g : T → T} (h : ∀ x, small N (g x)) : ∀ l : List T, smalls N (l.map g)
  | [] => trivial
  | x :: r => ⟨h x, smalls_map h r⟩
theorem tdU_small (fs : List F) (u : List Tg) : ∀ x ∈ tdU fs u, x.2.length ≤ 32767 := by
  intro x hx
  unfold tdU at hx
  obtain ⟨y, hy, rfl⟩ := List.mem_map.1 hx
  simp [whole]; omega
theorem tdK_small {N : Nat} (hN : 32767 ≤ N) {kind : Int} {pt : T → T} (hp : ∀ t, small N (pt t)) (null : Bool) (t : T) : small N (tdK kind pt null t) := by
  have hw : (whole t.s).length ≤ 32767 := by simp [whole]; omega
  unfold tdK
  repeat' split
  all_goals first
    | exact hp t
    | exact small_plain (by simp)
    | exact small_plain (by rw [pad16_length]; omega)
    | exact small_plain (by omega)
    | exact small_nstr (fun x h => by cases h)
    | exact small_plain (Nat.zero_le _)
mutual
theorem tdF_small {N : Nat} (hN : 32767 ≤ N) : ∀ (f : F) (v : Int) (flex : Bool) (t : T), narrow N f → small N (tdF f v flex t)
  | .mk k a b nul tag dfl ofk sub, v, flex, t, hn => by
    have hp : ∀ t : T, small N (.mk 0 [] false (tdFs sub 0 v flex t) (if flex then tdU sub t.u else [])) := fun t => by
      refine ⟨by simp, by rw [tdFs_len]; exact hn.1, ?_, ?_, tdFs_small hN sub 0 v flex t hn.2⟩
      · cases flex
        · simp
        · have := tdU_len sub t.u; simp only [if_true]; omega
      · cases flex
        · simp
        · intro x hx
          have := tdU_small sub t.u x hx
          omega
    unfold tdF
    split
    · refine ⟨by simp, ?_, by simp, (fun x hx => by cases hx), smalls_map (tdK_small hN hp false) _⟩
      rw [List.length_map]
      split
      · simp
      · have := things_len t.l; omega
    · exact tdK_small hN hp _ t
theorem tdFs_small {N : Nat} (hN : 32767 ≤ N) : ∀ (fs : List F) (i : Nat) (v : Int) (flex : Bool) (t : T), narrows N fs → smalls N (tdFs fs i v flex t)
  | [], _, _, _, _, _ => trivial
  | f :: r, i, v, flex, t, hn => by
    refine ⟨?_, tdFs_small hN r (i + 1) v flex t hn.2⟩
    split
    · exact tdF_small hN f v flex _ hn.1
    · exact dflF_small (by omega) f hn.1
end
theorem tdPart_small {N : Nat} (hN : 32767 ≤ N) {fs : List F} (hn : narrows N fs) (hl : fs.length ≤ N) (v : Int) (flex : Bool) (t : T) : small N (tdPart fs v flex t) := by
  refine ⟨by simp, by rw [tdFs_len]; exact hl, ?_, ?_, tdFs_small hN fs 0 v flex t hn⟩
  · cases flex
    · simp
    · have := tdU_len fs t.u; simp only [if_true]; omega
  · cases flex
    · simp
    · intro x hx
      have := tdU_small fs t.u x hx
      omega
/-- fields that are neither lists nor structs -/
def flatFs : List F → Bool
  | [] => true
  | f :: r => kindOk f.kind && flatFs r
theorem countedP_short (flex null : Bool) {n size : Nat} (hn : n ≤ 32767) (hs : size ≤ 4) : (countedP flex null n size).length ≤ 10 := by
  unfold countedP
  have := uvarP_short (n := n + 1) (by omega)
  split
  · simp
  · split
    · exact this
    · split <;> rw [fixedP_len] <;> omega
theorem valueP_short {kind : Int} (hk : kindOk kind = true) (part : T → Bs) (null flex : Bool) (t : T) : (valueP kind part null flex t).length ≤ 40000 := by
  have hw : (if null = true then [] else whole t.s).length ≤ 32767 := by
    split
    · simp
    · simp [whole]; omega
  have h2 := countedP_short flex null hw (size := 2) (by omega)
  have h4 := countedP_short flex null hw (size := 4) (by omega)
  have hwd : widthP kind ≤ 8 := by unfold widthP; repeat' split
                                   all_goals omega
  simp only [kindOk, Bool.and_eq_true, decide_eq_true_eq] at hk
  unfold valueP
  split
  · simp
  · split
    · simp; omega
    · split
      · rw [List.length_append]; omega
      · rw [if_neg (by omega), if_neg (by omega), fixedP_len]
        omega
theorem fieldP_short {f : F} (hk : kindOk f.kind = true) (v : Int) (flex : Bool) (t : T) : (fieldP f v flex t).length ≤ 40000 := by
  have hk' := hk
  simp only [kindOk, Bool.and_eq_true, decide_eq_true_eq] at hk'
  rw [fieldP_eq]
  unfold fieldOf
  rw [if_neg (by omega), if_neg (by omega)]
  exact valueP_short hk _ _ _ _
theorem plainAt_short : ∀ (fs : List F) (i : Nat) (v : Int) (flex : Bool) (t : T), flatFs fs = true → (plainAt fs i v flex t).length ≤ 40000 * fs.length
  | [], _, _, _, _, _ => by simp [plainAt]
  | f :: r, i, v, flex, t, h => by
    simp only [flatFs, Bool.and_eq_true] at h
    have ih := plainAt_short r (i + 1) v flex t h.2
    have h1 := fieldP_short h.1 v flex (atT t i)
    simp only [plainAt, List.length_append, List.length_cons]
    split
    · omega
    · simp only [List.length_nil]; omega
theorem tags_short : ∀ (us : List Tg), (∀ x ∈ us, x.1 < 4294967296 ∧ x.2.length ≤ 32767) → ((us.map tagP).flatten).length ≤ 33000 * us.length
  | [], _ => by simp
  | x :: r, h => by
    have ih := tags_short r (fun y hy => h y (List.mem_cons_of_mem _ hy))
    have hx := h x (List.mem_cons_self ..)
    have h1 := uvarP_short (n := x.1) (by omega)
    have h2 := uvarP_short (n := x.2.length) (by omega)
    simp only [List.map_cons, List.flatten_cons, List.length_append, List.length_cons, tagP]
    omega
/-- a message without lists and structs is short, whatever the tree -/
theorem partP_flat {fs : List F} (hu : untagged fs = true) (hf : flatFs fs = true) (hl : fs.length ≤ 1000) (v : Int) (flex : Bool) {t : T} (ht : keysT t) : (partP fs v flex t).length ≤ 35990000000000 := by
  have h1 := plainAt_short fs 0 v flex t hf
  have h2 := tdU_len fs t.u
  have h3 := tags_short (tdU fs t.u) (tdU_mem ht.u)
  have h4 := uvarP_short (n := (tdU fs t.u).length) (by omega)
  rw [partP_untagged hu]
  split
  · simp only [List.length_append]; omega
  · omega
/-- the cost of a field: no tree makes it longer -/
def costF (f : F) : Nat := if f.kind = 11 then 10 + 32767 * (if f.ofk = 10 then 40000 * f.sub.length + 1082000000 else 40000) else 40000
def costFs : List F → Nat
  | [] => 0
  | f :: r => costF f + costFs r
/-- fields that are no structs; lists of what is no list and no struct, or of flat structs -/
def listFs : List F → Bool
  | [] => true
  | f :: r => (kindOk f.kind || (decide (f.kind = 11) && (kindOk f.ofk || (decide (f.ofk = 10) && flatFs f.sub && untagged f.sub)))) && listFs r
theorem flatMap_le {α : Type} {M : Nat} {g : α → Bs} : ∀ (l : List α), (∀ x ∈ l, (g x).length ≤ M) → (l.flatMap g).length ≤ M * l.length
  | [], _ => by simp
  | x :: r, h => by
    have ih := flatMap_le r fun y hy => h y (List.mem_cons_of_mem _ hy)
    have hx := h x (List.mem_cons_self ..)
    simp only [List.flatMap_cons, List.length_append, List.length_cons, Nat.mul_add]
    omega
theorem tags_all (fs : List F) {t : T} (ht : keysT t) : (uvarP (tdU fs t.u).length ++ ((tdU fs t.u).map tagP).flatten).length ≤ 1082000000 := by
  have h2 := tdU_len fs t.u
  have h3 := tags_short (tdU fs t.u) (tdU_mem ht.u)
  have h4 := uvarP_short (n := (tdU fs t.u).length) (by omega)
  rw [List.length_append]
  omega
theorem partP_row {fs : List F} (hu : untagged fs = true) (hf : flatFs fs = true) (v : Int) (flex : Bool) {t : T} (ht : keysT t) : (partP fs v flex t).length ≤ 40000 * fs.length + 1082000000 := by
  have h1 := plainAt_short fs 0 v flex t hf
  have h2 := tags_all fs ht
  rw [partP_untagged hu]
  split
  · rw [List.length_append]; omega
  · omega
theorem fieldP_cost {f : F} (hk : (kindOk f.kind || (decide (f.kind = 11) && (kindOk f.ofk || (decide (f.ofk = 10) && flatFs f.sub && untagged f.sub)))) = true) (v : Int) (flex : Bool) {t : T} (ht : keysT t) : (fieldP f v flex t).length ≤ costF f := by
  by_cases h11 : f.kind = 11
  · have hk' : kindOk f.kind = false := by rw [h11]; decide
    rw [hk'] at hk
    simp only [h11, decide_true, Bool.true_and, Bool.false_or, Bool.or_eq_true, Bool.and_eq_true, decide_eq_true_eq] at hk
    rw [fieldP_eq]
    unfold fieldOf costF
    rw [if_pos h11, if_pos h11]
    have hl : (if f.isNull v t = true then [] else things t.l).length ≤ 32767 := by
      split
      · simp
      · exact things_len t.l
    have hc := countedP_short flex (f.isNull v t) hl (size := 4) (by omega)
    have hm : ∀ x ∈ (if f.isNull v t = true then [] else things t.l), keysT x := by
      intro x hx
      split at hx
      · cases hx
      · exact ht.l x (List.mem_of_mem_take hx)
    have hfm := flatMap_le (M := if f.ofk = 10 then 40000 * f.sub.length + 1082000000 else 40000) (g := fun x => valueP f.ofk (partP f.sub v flex) false flex x) (if f.isNull v t = true then [] else things t.l) fun x hx => by
      by_cases h10 : f.ofk = 10
      · rcases hk with hk | hk
        · rw [h10] at hk; cases hk
        · have := partP_row hk.2 hk.1.2 v flex (hm x hx)
          rw [if_pos h10]
          simpa [valueP, h10] using this
      · rcases hk with hk | hk
        · rw [if_neg h10]; exact valueP_short hk _ _ _ _
        · exact absurd hk.1.1 h10
    simp only [List.length_append]
    have hmul := Nat.mul_le_mul_left (if f.ofk = 10 then 40000 * f.sub.length + 1082000000 else 40000) hl
    have hcom := Nat.mul_comm 32767 (if f.ofk = 10 then 40000 * f.sub.length + 1082000000 else 40000)
    rw [hcom]
    exact Nat.add_le_add hc (Nat.le_trans hfm hmul)
  · have hk' : kindOk f.kind = true := by simpa [h11] using hk
    have := fieldP_short hk' v flex t
    unfold costF
    rw [if_neg h11]
    exact this
theorem plainAt_cost : ∀ (fs : List F) (i : Nat) (v : Int) (flex : Bool) {t : T}, keysT t → listFs fs = true → (plainAt fs i v flex t).length ≤ costFs fs
  | [], _, _, _, _, _, _ => by simp [plainAt]
  | f :: r, i, v, flex, t, ht, h => by
    simp only [listFs, Bool.and_eq_true] at h
    have ih := plainAt_cost r (i + 1) v flex ht h.2
    have h1 := fieldP_cost h.1 v flex (ht.at_ i)
    simp only [plainAt, List.length_append, costFs]
    split
    · omega
    · simp only [List.length_nil]; omega
/-- a message with a list of flat structs is short enough, whatever the tree -/
theorem partP_listed {fs : List F} (hu : untagged fs = true) (hf : listFs fs = true) (hl : costFs fs ≤ 35900000000000) (v : Int) (flex : Bool) {t : T} (ht : keysT t) : (partP fs v flex t).length ≤ 35990000000000 := by
  have h1 := plainAt_cost fs 0 v flex ht hf
  have h2 := tags_all fs ht
  rw [partP_untagged hu]
  split
  · rw [List.length_append]; omega
  · omega
section
variable {ops : Array Oper} {Q : Exit → Act → World → Prop} {a : Act} {w : World} {rest : List Oper} {o : Oper}
/-- an append of octets that hangs on a guard -/
theorem app_obg (hw : Region.wanted o (yielded ops a.tmps) = true) (s x : Operand) (ho : o.op = .call { callee := .builtin .append, args := #[s, x], argTypes := #[22, 22] })
    (B : Nat) (v : Value) (acc : Bs) (hs : a.eval s = v) (hown : OB w B v acc) (xv : Value) (l : Bs) (G : Nat → Prop) (hx : a.eval x = xv) (hl : RB w G xv l)
    (hlen : acc.length + l.length ≤ 70368744177664) (hB : B ≤ w.heap.size)
    (h : ∀ v' w', OB w' B v' (acc ++ l) → w.grownBy w' v.ownBlock → wpList Tryd.prog ops Q rest (a.put o.dst v') w') : wpList Tryd.prog ops Q (o :: rest) a w :=
  wpList_step fun K hK => by
    rw [if_pos hw]
    exact app_wp s x ho B v acc hs hown xv l G hx hl hlen hB fun v' w' h1 h2 => hK _ _ (h v' w' h1 h2)
end
end Go.Proofs.YtbdlilalihgdeaaDoor
