/-
  A struct's cells within a block; fields taken apart.
-/
import Derived.Test.YtdebdgofomnpoaaGreatDoorMB13
import Derived.Test.YtdebdgofomnpoaaGreatDoorMB16
import Derived.Test.YtdebdgofomnpoaaGreatDoorMB1
import Derived.Test.YtdebdgofomnpoaaGreatDoorMB2
namespace Go.Proofs.YtdebdgofomnpoaaGreatDoor
open Go.ChangeShapes Go.WideShapes Go.ChangeAt Go.RowKit

/-- a struct's cells within a block -/
def Pt (W : World) (pb po : Nat) (c : List Value) : Prop := ∃ pre post ty, W.heap[pb]? = some (.cells (pre ++ (c ++ post)).toArray ty (0, 0)) ∧ pre.length = po
theorem Pt.keep {A : List Nat} {W W' : World} {pb po : Nat} {c : List Value} (h : Pt W pb po c) (k : Keep A W W') (ha : pb ∉ A) : Pt W' pb po c := by
  obtain ⟨pre, post, ty, h1, h2⟩ := h
  exact ⟨pre, post, ty, (k.block pb (World.heap_lt h1) ha).trans h1, h2⟩
theorem Pt.cell {W : World} {pb po : Nat} {c : List Value} (h : Pt W pb po c) {o j : Nat} {v : Value} (ho : o = po + j) (hv : c[j]? = some v) : W.cell? ⟨pb, o, none⟩ = some v := by
  obtain ⟨pre, post, ty, h1, h2⟩ := h
  refine cellOf h1 o _ ?_
  have hj := (List.getElem?_eq_some_iff.1 hv).1
  subst ho h2
  simp [List.getElem?_append_right, List.getElem?_append_left hj, hv]
theorem Pt.lt {W : World} {pb po : Nat} {c : List Value} (h : Pt W pb po c) : pb < W.heap.size := by
  obtain ⟨pre, post, ty, h1, h2⟩ := h
  exact World.heap_lt h1
theorem Pt.whole {W : World} {pb po : Nat} {c : List Value} (h : Pt W pb po c) {o j : Nat} {v : Value} (ho : o = po + j) (hv : c[j]? = some v) : ∃ arr ty, W.heap[pb]? = some (.cells arr ty (0, 0)) ∧ arr[o]? = some v := by
  obtain ⟨pre, post, ty, h1, h2⟩ := h
  have hj := (List.getElem?_eq_some_iff.1 hv).1
  refine ⟨_, ty, h1, ?_⟩
  subst ho h2
  simp [List.getElem?_append_right, List.getElem?_append_left hj, hv]

section
variable {W : World} {G : Nat → Prop} {a b nul c d e : Int} {sub : List F} {cs : List Value} {t : T}
theorem vf_bool_inv (h : VF W G (.mk 0 a b nul c d e sub) cs t) : ∃ x : Bool, cs = [.bool x] ∧ t = .mk (if x then 1 else 0) [] false [] [] := h
theorem vf_i8_inv (h : VF W G (.mk 1 a b nul c d e sub) cs t) : ∃ n : Int, cs = [.int .i8 n] ∧ (-128 ≤ n ∧ n ≤ 127) ∧ t = .mk n [] false [] [] := h
theorem vf_i16_inv (h : VF W G (.mk 2 a b nul c d e sub) cs t) : ∃ n : Int, cs = [.int .i16 n] ∧ (-32768 ≤ n ∧ n ≤ 32767) ∧ t = .mk n [] false [] [] := h
theorem vf_i32_inv (h : VF W G (.mk 3 a b nul c d e sub) cs t) : ∃ n : Int, cs = [.int .i32 n] ∧ (-2147483648 ≤ n ∧ n ≤ 2147483647) ∧ t = .mk n [] false [] [] := h
theorem vf_i64_inv (h : VF W G (.mk 4 a b nul c d e sub) cs t) : ∃ n : Int, cs = [.int .i64 n] ∧ (-9223372036854775808 ≤ n ∧ n ≤ 9223372036854775807) ∧ t = .mk n [] false [] [] := h
theorem vf_8 (h : VF W G (.mk 8 a b nul c d e sub) cs t) : if 0 ≤ nul then ∃ v o, cs = [v] ∧ PS W G v o ∧ t = nstrT o else ∃ x : Bs, cs = [str x] ∧ t = .mk 0 x false [] [] := by
  have h' : VK W G 8 nul (VFs W G sub) cs t := h
  simp only [VK] at h'
  rw [if_neg (by decide), if_neg (by decide), if_neg (by decide), if_neg (by decide), if_neg (by decide), if_neg (by decide), if_neg (by decide), if_pos True.intro] at h'
  exact h'
theorem vf_str_inv (hn : nul < 0) (h : VF W G (.mk 8 a b nul c d e sub) cs t) : ∃ x : Bs, cs = [.string ⟨x.toArray⟩] ∧ t = .mk 0 x false [] [] := by
  have h' := vf_8 h
  rw [if_neg (by omega)] at h'
  exact h'
theorem vf_nstr_inv (hn : 0 ≤ nul) (h : VF W G (.mk 8 a b nul c d e sub) cs t) : ∃ v o, cs = [v] ∧ PS W G v o ∧ t = nstrT o := by
  have h' := vf_8 h
  rw [if_pos hn] at h'
  exact h'
theorem vf_uuid_inv (h : VF W G (.mk 7 a b nul c d e sub) cs t) : ∃ x : Bs, x.length = 16 ∧ cs = x.map bv ∧ t = .mk 0 x false [] [] := h
theorem vf_part_inv (h : VF W G (.mk 10 a b nul c d e sub) cs t) : ∃ cs' v l u, cs = cs' ++ [v] ∧ VFs W G sub cs' l ∧ MP W G v u ∧ t = .mk 0 [] false l u := h
theorem vf_oct_inv (h : VF W G (.mk 9 a b nul c d e sub) cs t) : ∃ v o, cs = [v] ∧ OS W G v o ∧ t = octT o := h
theorem vf_list_inv (h : VF W G (.mk 11 a b nul c d e sub) cs t) : ∃ v, cs = [v] ∧ VL W G (VK W G e (-1) (VFs W G sub)) (wdK e (wdFs sub)) v t := h
end
theorem RW.part {W : World} {G : Nat → Prop} {v : Value} {css : List (List Value)} {m n : Nat} (h : RW W G v n css.flatten) (hn : css.length = n) (hm : ∀ c ∈ css, c.length = m) {i : Nat} (hi : i < css.length) : ∃ row cap, v = .slice (some ⟨row, 0, none⟩) n cap ∧ n ≤ cap ∧ G row ∧ Pt W row (i * m) css[i] := by
  subst hn
  rcases h with ⟨h0, _⟩ | ⟨h0, row, cap, extra, ty, h1, h2, h3, h4⟩
  · omega
  · refine ⟨row, cap, h1, h2, h3, (css.take i).flatten, (css.drop (i + 1)).flatten ++ extra, ty, ?_, ?_⟩
    · have e : css = css.take i ++ css[i] :: css.drop (i + 1) := by rw [← List.drop_eq_getElem_cons hi, List.take_append_drop]
      have e2 : css.flatten = (css.take i).flatten ++ (css[i] ++ (css.drop (i + 1)).flatten) := by
        have e3 := congrArg List.flatten e
        rw [List.flatten_append, List.flatten_cons] at e3
        exact e3
      have e4 : css.flatten ++ extra = (css.take i).flatten ++ (css[i] ++ ((css.drop (i + 1)).flatten ++ extra)) := by rw [e2, List.append_assoc, List.append_assoc]
      rw [h4, e4]
    · rw [flatten_len _ m (fun c hc => hm c (List.mem_of_mem_take hc)), List.length_take, Nat.min_eq_left (by omega), Nat.mul_comm]
theorem small_text {N : Nat} {o : Option Bs} (h : small N (nstrT o)) : ∀ x, o = some x → x.length ≤ N := by
  rintro x rfl
  exact h.1
theorem small_oct {N : Nat} {o : Option Bs} (h : small N (octT o)) : ∀ x, o = some x → x.length ≤ N := by
  rintro x rfl
  exact h.1
section
variable {W : World} {G : Nat → Prop} {nul : Int} {p : List Value → List T → Prop} {cs : List Value} {t : T}
theorem vk_i8_inv (h : VK W G 1 nul p cs t) : ∃ n : Int, cs = [.int .i8 n] ∧ (-128 ≤ n ∧ n ≤ 127) ∧ t = .mk n [] false [] [] := h
theorem vk_i16_inv (h : VK W G 2 nul p cs t) : ∃ n : Int, cs = [.int .i16 n] ∧ (-32768 ≤ n ∧ n ≤ 32767) ∧ t = .mk n [] false [] [] := h
theorem vk_i32_inv (h : VK W G 3 nul p cs t) : ∃ n : Int, cs = [.int .i32 n] ∧ (-2147483648 ≤ n ∧ n ≤ 2147483647) ∧ t = .mk n [] false [] [] := h
theorem vk_i64_inv (h : VK W G 4 nul p cs t) : ∃ n : Int, cs = [.int .i64 n] ∧ (-9223372036854775808 ≤ n ∧ n ≤ 9223372036854775807) ∧ t = .mk n [] false [] [] := h
theorem vk_str_inv (h : VK W G 8 (-1) p cs t) : ∃ x : Bs, cs = [.string ⟨x.toArray⟩] ∧ t = .mk 0 x false [] [] := by
  have h2 : ∃ x : Bs, cs = [str x] ∧ t = .mk 0 x false [] [] := by
    simp only [VK] at h
    simpa using h
  exact h2
end
end Go.Proofs.YtdebdgofomnpoaaGreatDoor
/-
  Sixteen octets in the middle of a struct, read as octets.
-/
namespace Go.Proofs.YtdebdgofomnpoaaGreatDoor
open Go.ChangeShapes Go.WideShapes Go.ChangeAt Go.RowKit

theorem rb_cells2 {W : World} {b : Nat} {pre post : List Value} {x : Bs} {t : TypeId} (h : W.heap[b]? = some (.cells (pre ++ x.map bv ++ post).toArray t (0, 0))) : RB W (fun k => k = b) (.slice (some ⟨b, pre.length, none⟩) x.length x.length) x := by
  refine ⟨_, _, rfl, Nat.le_refl _, (fun h => by cases h), fun a ha => ?_⟩
  cases ha
  refine ⟨fun _ => rfl, fun i hi => ⟨rfl, ?_⟩⟩
  simp only [World.cell?, h, Option.isSome_none, Bool.false_eq_true, if_false]
  have hi' : i < x.length := by simpa using hi
  rw [List.getElem?_toArray, List.append_assoc, List.getElem?_append_right (by omega), List.getElem?_append_left (by simp; omega)]
  rw [Nat.add_sub_cancel_left]
  exact List.getElem?_eq_getElem hi
theorem Pt.rb {W : World} {pb po : Nat} {c : List Value} (h : Pt W pb po c) {o j : Nat} {x : Bs} (ho : o = po + j) (hx : (c.drop j).take x.length = x.map bv) (hl : j + x.length ≤ c.length) : RB W (fun k => k = pb) (.slice (some ⟨pb, o, none⟩) x.length x.length) x := by
  obtain ⟨pre, post, ty, h1, h2⟩ := h
  have e : c = c.take j ++ (x.map bv ++ (c.drop j).drop x.length) := by
    rw [← hx, List.take_append_drop, List.take_append_drop]
  have hb : W.heap[pb]? = some (.cells ((pre ++ c.take j) ++ x.map bv ++ ((c.drop j).drop x.length ++ post)).toArray ty (0, 0)) := by
    rw [h1]
    congr 3
    conv => lhs; rw [e]
    simp only [List.append_assoc]
  have h3 := rb_cells2 hb
  have hlen : (pre ++ c.take j).length = o := by
    rw [List.length_append, List.length_take, h2, ho]
    omega
  rw [hlen] at h3
  exact h3
theorem vf_u16_inv {W : World} {G : Nat → Prop} {a b nul c d e : Int} {sub : List F} {cs : List Value} {t : T} (h : VF W G (.mk 5 a b nul c d e sub) cs t) : ∃ n : Int, cs = [.int .u16 n] ∧ (0 ≤ n ∧ n ≤ 65535) ∧ t = .mk n [] false [] [] := h
end Go.Proofs.YtdebdgofomnpoaaGreatDoor
/-
  HOW FAR A TREE HAS BEEN TOLD: the states of tell's walks.
-/
namespace Go.Proofs.YtdebdgofomnpoaaGreatDoor
open Go.ChangeShapes Go.WideShapes Go.ChangeAt Go.RowKit

def Nt (w : World) (tb lb : Nat) (U : World) (k : Nat) : Prop := w.heap.size ≤ k ∧ k < U.heap.size ∧ k ≠ tb ∧ k ≠ lb
theorem nt_grow {w U U' : World} {tb lb : Nat} (h : U.heap.size ≤ U'.heap.size) : ∀ k, Nt w tb lb U k → Nt w tb lb U' k := fun _ hk => ⟨hk.1, Nat.lt_of_lt_of_le hk.2.1 h, hk.2.2⟩
theorem nt_same {A : List Nat} {w U U' : World} {tb lb : Nat} (k : Keep A U U') (hA : ∀ i, i ∈ A → i = tb ∨ i = lb ∨ U.heap.size ≤ i) : SameOn (Nt w tb lb U) U U' := fun i hi => by
  refine k.block i hi.2.1 fun ha => ?_
  rcases hA i ha with e | e | e
  · exact hi.2.2.1 e
  · exact hi.2.2.2 e
  · have := hi.2.1; omega
/-- the trees ts are told; rest: the cells of those to come -/
structure TlSt (w U : World) (tb lb n : Nat) (ts : List T) (rest : List Value) : Prop where
  tree : U.heap[tb]? = some (.cells #[.int .i64 0, .slice none 0 0, .bool false, .slice (some ⟨lb, 0, none⟩) n n, .slice none 0 0] 37 (0, 0))
  row : ∃ css : List (List Value), css.length = ts.length ∧ (∀ i (h1 : i < ts.length) (h2 : i < css.length), HT U (Nt w tb lb U) ts[i] css[i]) ∧ U.heap[lb]? = some (.cells (css.flatten ++ rest).toArray 37 (0, 0))
  keep : Keep [] w U
  tl : w.heap.size ≤ tb
  ll : w.heap.size ≤ lb
  ne : tb ≠ lb
theorem css_len {w : World} {G : Nat → Prop} {ts : List T} {css : List (List Value)} (h1 : css.length = ts.length) (h2 : ∀ i (h1 : i < ts.length) (h2 : i < css.length), HT w G ts[i] css[i]) : css.flatten.length = 5 * ts.length := by
  rw [flatten_len css 5 fun c hc => ?_, h1]
  obtain ⟨i, hi, rfl⟩ := List.getElem_of_mem hc
  exact (h2 i (by omega) hi).five
theorem css_snoc {w : World} {G : Nat → Prop} {ts : List T} {css : List (List Value)} {t : T} {c : List Value} (h1 : css.length = ts.length) (h2 : ∀ i (h1 : i < ts.length) (h2 : i < css.length), HT w G ts[i] css[i]) (ht : HT w G t c) :
    ∀ i (h1 : i < (ts ++ [t]).length) (h2 : i < (css ++ [c]).length), HT w G (ts ++ [t])[i] (css ++ [c])[i] := fun i a b => by
  rcases Nat.lt_or_ge i ts.length with hi | hi
  · rw [List.getElem_append_left hi, List.getElem_append_left (by omega)]
    exact h2 i hi (by omega)
  · have hi' : i = ts.length := by simp at a; omega
    subst hi'
    rw [List.getElem_append_right (by omega), List.getElem_append_right (by omega)]
    simp only [h1, Nat.sub_self, List.getElem_singleton]
    exact ht
namespace TlSt
variable {w U U' : World} {tb lb n : Nat} {ts : List T} {rest : List Value}
theorem calm (h : TlSt w U tb lb n ts rest) (k : Keep [] U U') : TlSt w U' tb lb n ts rest := by
  obtain ⟨css, h1, h2, h3⟩ := h.row
  exact ⟨(k.block tb (World.heap_lt h.tree) (by simp)).trans h.tree, ⟨css, h1, fun i a b => (h2 i a b).keepF (nt_same k (by simp)) (nt_grow k.size), (k.block lb (World.heap_lt h3) (by simp)).trans h3⟩, h.keep.trans k, h.tl, h.ll, h.ne⟩
theorem d3 (h : TlSt w U tb lb n ts rest) : U.cell? ⟨tb, 3, none⟩ = some (.slice (some ⟨lb, 0, none⟩) n n) := cellOf h.tree 3 _ rfl
theorem at_ (h : TlSt w U tb lb n ts rest) {o j : Nat} {v : Value} (ho : o = 5 * ts.length + j) (hv : rest[j]? = some v) : U.cell? ⟨lb, o, none⟩ = some v ∧ U.frozen? ⟨lb, o, none⟩ = false := by
  obtain ⟨css, h1, h2, h3⟩ := h.row
  have hl := css_len h1 h2
  refine ⟨cellOf h3 o _ ?_, freeOf h3 o⟩
  subst ho
  rw [← hl]
  simp [List.getElem?_append_right, hv]
theorem put {a b c d e v0 v1 v2 v3 v4 : Value} {t : T} (h : TlSt w U tb lb n ts (a :: b :: c :: d :: e :: rest)) {o0 o1 o2 o3 o4 : Nat} (e0 : o0 = 5 * ts.length) (e1 : o1 = 5 * ts.length + 1) (e2 : o2 = 5 * ts.length + 2) (e3 : o3 = 5 * ts.length + 3) (e4 : o4 = 5 * ts.length + 4)
    (ht : HT U (Nt w tb lb U) t [v0, v1, v2, v3, v4]) : TlSt w (((((U.setCell ⟨lb, o0, none⟩ v0).setCell ⟨lb, o1, none⟩ v1).setCell ⟨lb, o2, none⟩ v2).setCell ⟨lb, o3, none⟩ v3).setCell ⟨lb, o4, none⟩ v4) tb lb n (ts ++ [t]) rest := by
  obtain ⟨css, h1, h2, h3⟩ := h.row
  have hl := css_len h1 h2
  have hll := h.ll
  subst e0 e1 e2 e3 e4
  have k : Keep [lb] U (((((U.setCell ⟨lb, 5 * ts.length, none⟩ v0).setCell ⟨lb, 5 * ts.length + 1, none⟩ v1).setCell ⟨lb, 5 * ts.length + 2, none⟩ v2).setCell ⟨lb, 5 * ts.length + 3, none⟩ v3).setCell ⟨lb, 5 * ts.length + 4, none⟩ v4) :=
    (((((Keep.refl _ _).setCell (.inl (by simp)) _).setCell (.inl (by simp)) _).setCell (.inl (by simp)) _).setCell (.inl (by simp)) _).setCell (.inl (by simp)) _
  refine ⟨(k.block tb (World.heap_lt h.tree) (by simp; exact h.ne)).trans h.tree, ⟨css ++ [[v0, v1, v2, v3, v4]], by simp [h1], css_snoc h1 h2 ht |> fun q i a b => (q i a b).keepF (nt_same k (by simp)) (nt_grow k.size), ?_⟩, ?_, h.tl, h.ll, h.ne⟩
  · rw [heap_set (heap_set (heap_set (heap_set (heap_set h3 v0) v1) v2) v3) v4, ← hl]
    simp [List.set_append_right]
  · exact ((h.keep.weaken (B := [lb]) (by simp)).trans k).fresh (by simp; omega)
end TlSt
/-- .. and a list is being told: xs are, in the slice lv -/
structure TlCur (w U : World) (tb lb n : Nat) (ts : List T) (null : Bool) (lv : Value) (xs : List T) (rest : List Value) : Prop where
  tree : U.heap[tb]? = some (.cells #[.int .i64 0, .slice none 0 0, .bool false, .slice (some ⟨lb, 0, none⟩) n n, .slice none 0 0] 37 (0, 0))
  row : ∃ css : List (List Value), css.length = ts.length ∧ (∀ i (h1 : i < ts.length) (h2 : i < css.length), HT U (Off (Nt w tb lb U) lv) ts[i] css[i]) ∧ U.heap[lb]? = some (.cells (css.flatten ++ ([.int .i64 0, .slice none 0 0, .bool null, lv, .slice none 0 0] ++ rest)).toArray 37 (0, 0))
  lst : OT U w.heap.size 37 (Nt w tb lb U) lv xs
  own : ∀ k, lv.ownBlock = some k → k ≠ tb ∧ k ≠ lb
  keep : Keep [] w U
  tl : w.heap.size ≤ tb
  ll : w.heap.size ≤ lb
  ne : tb ≠ lb
theorem TlSt.open {w U : World} {tb lb n : Nat} {ts : List T} {rest : List Value} (h : TlSt w U tb lb n ts (.int .i64 0 :: .slice none 0 0 :: .bool false :: .slice none 0 0 :: .slice none 0 0 :: rest)) {o : Nat} (ho : o = 5 * ts.length + 2) (null : Bool) :
    TlCur w (U.setCell ⟨lb, o, none⟩ (.bool null)) tb lb n ts null (.slice none 0 0) [] rest := by
  obtain ⟨css, h1, h2, h3⟩ := h.row
  have hl := css_len h1 h2
  have hll := h.ll
  subst ho
  have k : Keep [lb] U (U.setCell ⟨lb, 5 * ts.length + 2, none⟩ (.bool null)) := (Keep.refl _ _).setCell (.inl (by simp)) _
  refine ⟨(k.block tb (World.heap_lt h.tree) (by simp; exact h.ne)).trans h.tree, ⟨css, h1, fun i a b => (h2 i a b).keepF (nt_same k (by simp)) (fun i hi => ⟨nt_grow k.size i hi, by simp [Value.ownBlock]⟩), ?_⟩, OT.nil _ _ _ _, (fun k e => by cases e), ((h.keep.weaken (B := [lb]) (by simp)).trans k).fresh (by simp; omega), h.tl, h.ll, h.ne⟩
  rw [heap_set h3, ← hl]
  simp [List.set_append_right]
namespace TlCur
variable {w U U' : World} {tb lb n : Nat} {ts : List T} {null : Bool} {lv : Value} {xs : List T} {rest : List Value}
theorem calm (h : TlCur w U tb lb n ts null lv xs rest) (k : Keep [] U U') : TlCur w U' tb lb n ts null lv xs rest := by
  obtain ⟨css, h1, h2, h3⟩ := h.row
  refine ⟨(k.block tb (World.heap_lt h.tree) (by simp)).trans h.tree, ⟨css, h1, fun i a b => (h2 i a b).keepF (fun i hi => nt_same k (by simp) i hi.1) (fun i hi => ⟨nt_grow k.size i hi.1, hi.2⟩), (k.block lb (World.heap_lt h3) (by simp)).trans h3⟩, ?_, h.own, h.keep.trans k, h.tl, h.ll, h.ne⟩
  obtain ⟨xs0, hrow⟩ := h.lst.row
  exact h.lst.keepF (nt_same k (by simp)) (nt_grow k.size) (fun i e => k.block i (hrow.lt i e).2 (by simp))
theorem d3 (h : TlCur w U tb lb n ts null lv xs rest) : U.cell? ⟨tb, 3, none⟩ = some (.slice (some ⟨lb, 0, none⟩) n n) := cellOf h.tree 3 _ rfl
theorem l3 (h : TlCur w U tb lb n ts null lv xs rest) {o : Nat} (ho : o = 5 * ts.length + 3) : U.cell? ⟨lb, o, none⟩ = some lv ∧ U.frozen? ⟨lb, o, none⟩ = false := by
  obtain ⟨css, h1, h2, h3⟩ := h.row
  have hl := css_len h1 h2
  refine ⟨cellOf h3 o _ ?_, freeOf h3 o⟩
  subst ho
  rw [← hl]
  simp
/-- one tree more: U2 is U and new blocks, U3 is it with the grown row -/
theorem push {U2 U3 : World} {x : T} {c : List Value} {g cap o : Nat} {cs : List (List Value)} (h : TlCur w U tb lb n ts null lv xs rest) (ho : o = 5 * ts.length + 3) (k2 : Keep [] U U2) (h1 : cs.length = xs.length) (h2 : ∀ i (a : i < xs.length) (b : i < cs.length), HT U2 (Off (Nt w tb lb U2) lv) xs[i] cs[i])
    (hx : HT U2 (fun k => U.heap.size ≤ k ∧ k < U2.heap.size) x c) (hl : xs.length + 1 ≤ 1099511627776) (hrow : U3.ownsRow w.heap.size 37 5 (.slice (some ⟨g, 0, none⟩) (xs.length + 1) cap) (xs.length + 1) (cs.flatten ++ c)) (hgr : U2.grownBy U3 lv.ownBlock) (hat : lv.ownBlock = some g ∨ g = U2.heap.size) :
    TlCur w (U3.setCell ⟨lb, o, none⟩ (.slice (some ⟨g, 0, none⟩) (xs.length + 1) cap)) tb lb n ts null (.slice (some ⟨g, 0, none⟩) (xs.length + 1) cap) (xs ++ [x]) rest := by
  have hc := h.calm k2
  obtain ⟨xs0, hrow0⟩ := h.lst.row
  have htl := h.tl
  have hll := h.ll
  have hne := h.ne
  have hlt := World.heap_lt h.tree
  have hlU : lb < U.heap.size := by
    obtain ⟨css', _, _, r3'⟩ := h.row
    exact World.heap_lt r3'
  have hz2 := k2.size
  have hz3 := hgr.size
  have hzw := h.keep.size
  obtain ⟨css, r1, r2, r3⟩ := hc.row
  have hlb := World.heap_lt r3
  have hlen := css_len r1 r2
  have hgl := hrow.lt g rfl
  have hgt : g ≠ tb ∧ g ≠ lb := by
    rcases hat with e | e
    · exact h.own g e
    · omega
  have hob : ∀ k, lv.ownBlock = some k → k < U.heap.size := fun k e => (hrow0.lt k e).2
  have P := OT.push (w := U2) (w' := U3) (G := Nt w tb lb U2) h1 h2 (hx.keepF (fun _ _ => rfl) (fun k hk => by have a1 := hk.1; have a2 := hk.2; exact ⟨⟨by omega, a2, by omega, by omega⟩, fun e => by have := hob k e.symm; omega⟩)) (fun k hk => hk.2.1) hl hrow hgr (hat.imp id (fun e => by omega))
  have k3 : ∀ k, k < U2.heap.size → lv.ownBlock ≠ some k → U3.heap[k]? = U2.heap[k]? := fun k hk hn => hgr.block k hk (fun e => hn e.symm)
  have hs : ∀ k, k ≠ lb → (U3.setCell ⟨lb, o, none⟩ (.slice (some ⟨g, 0, none⟩) (xs.length + 1) cap)).heap[k]? = U3.heap[k]? := fun k hk => Below.heap_setCell _ _ _ _ (fun e => hk (by simpa using e))
  have hz4 : (U3.setCell ⟨lb, o, none⟩ (.slice (some ⟨g, 0, none⟩) (xs.length + 1) cap)).heap.size = U3.heap.size := by simp [World.setCell]
  have b3 := (k3 lb hlb (fun e => (h.own lb e).2 rfl)).trans r3
  have sm : ∀ k, Off (Nt w tb lb U2) lv k → (U3.setCell ⟨lb, o, none⟩ (.slice (some ⟨g, 0, none⟩) (xs.length + 1) cap)).heap[k]? = U2.heap[k]? := fun k hk => (hs k hk.1.2.2.2).trans (k3 k hk.1.2.1 (fun e => hk.2 e.symm))
  refine ⟨(hs tb hne).trans ((k3 tb (by omega) (fun e => (h.own tb e).1 rfl)).trans hc.tree), ⟨css, r1, fun i a b => ?_, ?_⟩, P.keepF (fun k hk => hs k hk.2.2.2) (fun k hk => ⟨hk.1, by have := hk.2.1; omega, hk.2.2⟩) (fun k e => ?_), (fun k e => ?_), ?_, htl, hll, hne⟩
  · refine (r2 i a b).keepF sm fun k hk => ⟨⟨hk.1.1, by have := hk.1.2.1; omega, hk.1.2.2⟩, fun e => ?_⟩
    have e' : k = g := by simpa [Value.ownBlock] using e
    subst e'
    rcases hat with h | h
    · exact hk.2 h.symm
    · have := hk.1.2.1; omega
  · subst ho
    rw [heap_set b3, ← hlen]
    simp [List.set_append_right]
  · have e' : k = g := by simpa [Value.ownBlock] using e.symm
    subst e'
    exact hs _ hgt.2
  · have e' : k = g := by simpa [Value.ownBlock] using e.symm
    subst e'
    exact hgt
  · refine ⟨hgr.os.trans (k2.os.trans h.keep.os), hgr.tape.trans (k2.tape.trans h.keep.tape), hgr.output.trans (k2.output.trans h.keep.output), by omega, fun k hk _ => ?_⟩
    rw [hs k (by omega), k3 k (by omega) (fun e => by have := hrow0.lt k e; omega), k2.block k (by omega) (by simp)]
    exact h.keep.block k hk (by simp)
/-- the list is told whole -/
theorem close (h : TlCur w U tb lb n ts null lv xs rest) : TlSt w U tb lb n (ts ++ [.mk 0 [] null xs []]) rest := by
  obtain ⟨css, h1, h2, h3⟩ := h.row
  obtain ⟨xs0, hrow0⟩ := h.lst.row
  have hts : HTs U (Nt w tb lb U) lv xs := by
    obtain ⟨cs, c1, c2, c3, c4⟩ := h.lst
    refine ⟨cs, c1, fun i a b => (c2 i a b).keepF (fun _ _ => rfl) (fun k hk => hk.1), Nat.le_trans c3 (by decide), ?_⟩
    rw [c1]
    obtain ⟨ao, cap, e, p1, p2, p3⟩ := ownsRow_rs c4
    refine ⟨ao, cap, e, p1, p2, fun a ha => ⟨(p3 a ha).1, fun i hi => ⟨⟨((p3 a ha).2 i hi).1.1, ((p3 a ha).2 i hi).1.2, ?_⟩, ((p3 a ha).2 i hi).2⟩⟩⟩
    refine h.own a.block ?_
    rw [e, ha]
    rcases c4.2 with ⟨q, _⟩ | ⟨g, cap', cur, q, _⟩
    · rw [q] at e; rw [ha] at e; cases e
    · rw [q] at e; rw [ha] at e; cases e; rfl
  exact ⟨h.tree, ⟨css ++ [_], by simp [h1], css_snoc h1 (fun i a b => (h2 i a b).keepF (fun _ _ => rfl) (fun k hk => hk.1)) (HT.of 0 [] null xs [] (RB.nil _ _) hts (HGs.nil _ _) (by decide) (by decide) (by decide) (by obtain ⟨_, _, _, c3, _⟩ := h.lst; exact c3)), by rw [h3]; simp⟩, h.keep, h.tl, h.ll, h.ne⟩
end TlCur
end Go.Proofs.YtdebdgofomnpoaaGreatDoor
/-
  FIELDS TAKEN APART, for tell's walks.
-/
namespace Go.Proofs.YtdebdgofomnpoaaGreatDoor
open Go.ChangeShapes Go.WideShapes Go.ChangeAt Go.RowKit

theorem info_it : (Tryz.prog.info? 37).map (fun i => (i.size, i.bytes)) = some (5, 88) := by kernel_rfl
theorem zero_it : (Tryz.prog.info? 37).bind (fun i => i.zero) = some (.agg #[.int .i64 0, .slice none 0 0, .bool false, .slice none 0 0, .slice none 0 0]) := by kernel_rfl
theorem TlCur.drew {w U : World} {tb lb n : Nat} {ts : List T} {null : Bool} {lv : Value} {xs : List T} {rest : List Value} (h : TlCur w U tb lb n ts null lv xs rest) : TlCur w U.drew tb lb n ts null lv xs rest := h.calm (Keep.refl [] U).drew
theorem TlSt.lts {w U : World} {tb lb n : Nat} {ts : List T} {rest : List Value} (h : TlSt w U tb lb n ts rest) : lb < U.heap.size ∧ tb < U.heap.size := by
  obtain ⟨css, _, _, r3⟩ := h.row
  exact ⟨World.heap_lt r3, World.heap_lt h.tree⟩
theorem TlCur.lts {w U : World} {tb lb n : Nat} {ts : List T} {null : Bool} {lv : Value} {xs : List T} {rest : List Value} (h : TlCur w U tb lb n ts null lv xs rest) : lb < U.heap.size ∧ tb < U.heap.size := by
  obtain ⟨css, _, _, r3⟩ := h.row
  exact ⟨World.heap_lt r3, World.heap_lt h.tree⟩
theorem TlSt.drew {w U : World} {tb lb n : Nat} {ts : List T} {rest : List Value} (h : TlSt w U tb lb n ts rest) : TlSt w U.drew tb lb n ts rest := h.calm (Keep.refl [] U).drew
theorem TlSt.ntNew {w U W : World} {tb lb n : Nat} {ts : List T} {rest : List Value} (h : TlSt w U tb lb n ts rest) : ∀ k, (U.heap.size ≤ k ∧ k < W.heap.size) → Nt w tb lb W k := fun k hk => by
  have h1 := World.heap_lt h.tree
  obtain ⟨css, _, _, h3⟩ := h.row
  have h2 := World.heap_lt h3
  have h4 := h.keep.size
  exact ⟨by omega, hk.2, by omega, by omega⟩
theorem TlCur.row3 {w U W : World} {tb lb n : Nat} {ts : List T} {null : Bool} {lv : Value} {xs : List T} {rest : List Value} (h : TlCur w U tb lb n ts null lv xs rest) {o : Nat} (ho : o = 5 * ts.length + 3) (hgr : U.grownBy W lv.ownBlock) :
    W.cell? ⟨lb, o, none⟩ = some lv ∧ W.frozen? ⟨lb, o, none⟩ = false := by
  obtain ⟨css, h1, h2, h3⟩ := h.row
  have hl := css_len h1 h2
  have h4 := (hgr.block lb (World.heap_lt h3) (fun e => (h.own lb e.symm).2 rfl)).trans h3
  refine ⟨cellOf h4 o _ ?_, freeOf h4 o⟩
  subst ho
  rw [← hl]
  simp
/-- a list gains a tree, however the world came to be -/
theorem TlCur.pushAbs {w U U2 V : World} {tb lb n : Nat} {ts : List T} {null : Bool} {lv : Value} {xs : List T} {rest : List Value} {x : T} {c : List Value} {g cap o : Nat} {cs : List (List Value)} (h : TlCur w U tb lb n ts null lv xs rest) (ho : o = 5 * ts.length + 3) (k2 : Keep [] U U2) (h1 : cs.length = xs.length) (h2 : ∀ i (a : i < xs.length) (b : i < cs.length), HT U2 (Off (Nt w tb lb U2) lv) xs[i] cs[i])
    (hx : HT U2 (fun k => U.heap.size ≤ k ∧ k < U2.heap.size) x c) (hl : xs.length + 1 ≤ 1099511627776) (hrow : V.ownsRow w.heap.size 37 5 (.slice (some ⟨g, 0, none⟩) (xs.length + 1) cap) (xs.length + 1) (cs.flatten ++ c))
    (hat : lv.ownBlock = some g ∨ g = U2.heap.size) (hos : V.os = U2.os) (htp : V.tape = U2.tape) (hou : V.output = U2.output) (hsz : U2.heap.size ≤ V.heap.size)
    (hlbV : ∀ c0 : Array Value, U2.heap[lb]? = some (.cells c0 37 (0, 0)) → V.heap[lb]? = some (.cells (c0.setIfInBounds o (.slice (some ⟨g, 0, none⟩) (xs.length + 1) cap)) 37 (0, 0)))
    (hblk : ∀ k, k < U2.heap.size → k ≠ lb → lv.ownBlock ≠ some k → V.heap[k]? = U2.heap[k]?) :
    TlCur w V tb lb n ts null (.slice (some ⟨g, 0, none⟩) (xs.length + 1) cap) (xs ++ [x]) rest := by
  have hc := h.calm k2
  obtain ⟨xs0, hrow0⟩ := h.lst.row
  have htl := h.tl
  have hll := h.ll
  have hne := h.ne
  have hlt := World.heap_lt h.tree
  have hlU : lb < U.heap.size := by
    obtain ⟨css', _, _, r3'⟩ := h.row
    exact World.heap_lt r3'
  have hz2 := k2.size
  have hzw := h.keep.size
  obtain ⟨css, r1, r2, r3⟩ := hc.row
  have hlen := css_len r1 r2
  have hgl := hrow.lt g rfl
  have hgt : g ≠ tb ∧ g ≠ lb := by
    rcases hat with e | e
    · exact h.own g e
    · omega
  have hob : ∀ k, lv.ownBlock = some k → w.heap.size ≤ k ∧ k < U.heap.size := fun k e => hrow0.lt k e
  have sm : ∀ k, Off (Nt w tb lb U2) lv k → V.heap[k]? = U2.heap[k]? := fun k hk => hblk k hk.1.2.1 hk.1.2.2.2 (fun e => hk.2 e.symm)
  have gr : ∀ k, Off (Nt w tb lb U2) lv k → Off (Nt w tb lb V) (.slice (some ⟨g, 0, none⟩) (xs.length + 1) cap) k := fun k hk => ⟨⟨hk.1.1, by have := hk.1.2.1; omega, hk.1.2.2⟩, fun e => by
    have e' : k = g := by simpa [Value.ownBlock] using e
    subst e'
    rcases hat with h | h
    · exact hk.2 h.symm
    · have := hk.1.2.1; omega⟩
  have hx' : HT U2 (Off (Nt w tb lb U2) lv) x c := hx.keepF (fun _ _ => rfl) (fun k hk => by have a1 := hk.1; have a2 := hk.2; exact ⟨⟨by omega, a2, by omega, by omega⟩, fun e => by have := (hob k e.symm).2; omega⟩)
  refine ⟨(hblk tb (by omega) hne (fun e => (h.own tb e).1 rfl)).trans hc.tree, ⟨css, r1, fun i a b => (r2 i a b).keepF sm gr, ?_⟩, ⟨cs ++ [c], by simp [h1], ?_, by simpa using hl, by simpa using hrow⟩, (fun k e => ?_), ?_, htl, hll, hne⟩
  · rw [hlbV _ r3]
    subst ho
    rw [← hlen]
    simp [List.set_append_right]
  · exact fun i a b => (css_snoc h1 h2 hx' i a b).keepF sm gr
  · have e' : k = g := by simpa [Value.ownBlock] using e.symm
    subst e'
    exact hgt
  · refine ⟨hos.trans (k2.os.trans h.keep.os), htp.trans (k2.tape.trans h.keep.tape), hou.trans (k2.output.trans h.keep.output), by omega, fun k hk _ => ?_⟩
    rw [hblk k (by omega) (by omega) (fun e => by have := hob k e; omega), k2.block k (by omega) (by simp)]
    exact h.keep.block k hk (by simp)
theorem TlCur.apart {w U V : World} {tb lb n m cap g : Nat} {ts : List T} {null : Bool} {lv : Value} {xs : List T} {rest ys : List Value} (h : TlCur w U tb lb n ts null lv xs rest) (_hrow : V.ownsRow w.heap.size 37 5 (.slice (some ⟨g, 0, none⟩) m cap) m ys) (hat : lv.ownBlock = some g ∨ g = U.heap.size) : g ≠ lb := by
  obtain ⟨css, _, _, r3⟩ := h.row
  have := World.heap_lt r3
  rcases hat with e | e
  · exact (h.own g e).2
  · omega
theorem heap_set5 {w : World} {b i : Nat} {c : Array Value} {t : TypeId} {z : Nat × Nat} (h : w.heap[b]? = some (.cells c t z)) (v0 v1 v2 v3 v4 : Value) :
    (((((w.setCell ⟨b, i, none⟩ v0).setCell ⟨b, i + 1, none⟩ v1).setCell ⟨b, i + 2, none⟩ v2).setCell ⟨b, i + 3, none⟩ v3).setCell ⟨b, i + 4, none⟩ v4).heap[b]? = some (.cells (((((c.setIfInBounds i v0).setIfInBounds (i + 1) v1).setIfInBounds (i + 2) v2).setIfInBounds (i + 3) v3).setIfInBounds (i + 4) v4) t z) :=
  heap_set (heap_set (heap_set (heap_set (heap_set h v0) v1) v2) v3) v4
theorem own_set5 {w : World} {B E g cap n : Nat} {xs : List Value} {z0 z1 z2 z3 z4 : Value} (h : w.ownsRow B E 5 (.slice (some ⟨g, 0, none⟩) (n + 1) cap) (n + 1) (xs ++ [z0, z1, z2, z3, z4])) (v0 v1 v2 v3 v4 : Value) :
    (((((w.setCell ⟨g, n * 5, none⟩ v0).setCell ⟨g, n * 5 + 1, none⟩ v1).setCell ⟨g, n * 5 + 2, none⟩ v2).setCell ⟨g, n * 5 + 3, none⟩ v3).setCell ⟨g, n * 5 + 4, none⟩ v4).ownsRow B E 5 (.slice (some ⟨g, 0, none⟩) (n + 1) cap) (n + 1) (xs ++ [v0, v1, v2, v3, v4]) ∧
      ∃ cur : Array Value, w.heap[g]? = some (.cells cur E (0, 0)) ∧ cur[n * 5]? = some z0 ∧ cur[n * 5 + 1]? = some z1 ∧ cur[n * 5 + 2]? = some z2 ∧ cur[n * 5 + 3]? = some z3 ∧ cur[n * 5 + 4]? = some z4 := by
  obtain ⟨h0, ⟨e, _⟩ | ⟨g', cap', cur, e, hb, hg, hn, hm, hz, ht⟩⟩ := h
  · cases e
  · cases e
    have hxl : xs.length = n * 5 := by simp at h0; omega
    have hcl : cur.toList = (xs ++ [z0, z1, z2, z3, z4]) ++ cur.toList.drop ((n + 1) * 5) := by
      conv => lhs; rw [← List.take_append_drop ((n + 1) * 5) cur.toList]
      rw [ht]
    have hcur : cur = ((xs ++ [z0, z1, z2, z3, z4]) ++ cur.toList.drop ((n + 1) * 5)).toArray := by
      rw [← hcl]
    generalize cur.toList.drop ((n + 1) * 5) = tl at *
    have hset := heap_set5 (i := n * 5) hg v0 v1 v2 v3 v4
    have hs : ((((cur.setIfInBounds (n * 5) v0).setIfInBounds (n * 5 + 1) v1).setIfInBounds (n * 5 + 2) v2).setIfInBounds (n * 5 + 3) v3).setIfInBounds (n * 5 + 4) v4 = (xs ++ [v0, v1, v2, v3, v4] ++ tl).toArray := by
      rw [hcur, ← hxl]
      simp [List.set_append_right]
    rw [hs] at hset
    have hsz : cur.size = xs.length + 5 + tl.length := by rw [hcur]; simp; omega
    refine ⟨⟨by simp; omega, .inr ⟨g, cap, _, rfl, hb, hset, hn, hm, by simp; omega, ?_⟩⟩, cur, hg, ?_⟩
    · rw [List.take_append_of_le_length (by simp; omega), List.take_of_length_le (by simp; omega)]
    · rw [hcur, ← hxl]
      simp
theorem Pt.grownC {W W' : World} {pb po : Nat} {c : List Value} {row : Option Nat} (h : Pt W pb po c) (hg : W.grownBy W' row) (hn : row ≠ some pb) : Pt W' pb po c := by
  obtain ⟨pre, post, ty, h1, h2⟩ := h
  exact ⟨pre, post, ty, (hg.block pb (World.heap_lt h1) (fun e => hn e.symm)).trans h1, h2⟩
theorem TlCur.ownGe {w U : World} {tb lb n k : Nat} {ts : List T} {null : Bool} {lv : Value} {xs : List T} {rest : List Value} (h : TlCur w U tb lb n ts null lv xs rest) (e : lv.ownBlock = some k) : w.heap.size ≤ k := by
  obtain ⟨xs0, hrow0⟩ := h.lst.row
  exact (hrow0.lt k e).1
theorem TlCur.d3G {w U W : World} {tb lb n : Nat} {ts : List T} {null : Bool} {lv : Value} {xs : List T} {rest : List Value} (h : TlCur w U tb lb n ts null lv xs rest) (hgr : U.grownBy W lv.ownBlock) : W.cell? ⟨tb, 3, none⟩ = some (.slice (some ⟨lb, 0, none⟩) n n) :=
  cellOf ((hgr.block tb (World.heap_lt h.tree) (fun e => (h.own tb e.symm).1 rfl)).trans h.tree) 3 _ rfl
/-- a tree is stored into the row's new last place -/
theorem TlCur.pushSet {w U U2 U3 : World} {tb lb n : Nat} {ts : List T} {null : Bool} {lv : Value} {xs : List T} {rest : List Value} {x : T} {g cap o m : Nat} {cs : List (List Value)} {z0 z1 z2 z3 z4 v0 v1 v2 v3 v4 : Value} (h : TlCur w U tb lb n ts null lv xs rest) (ho : o = 5 * ts.length + 3) (hm : xs.length = m) (k2 : Keep [] U U2) (h1 : cs.length = xs.length) (h2 : ∀ i (a : i < xs.length) (b : i < cs.length), HT U2 (Off (Nt w tb lb U2) lv) xs[i] cs[i])
    (hl : m + 1 ≤ 1099511627776) (hown : U3.ownsRow w.heap.size 37 5 (.slice (some ⟨g, 0, none⟩) (m + 1) cap) (m + 1) (cs.flatten ++ [z0, z1, z2, z3, z4])) (hgr : U2.grownBy U3 lv.ownBlock) (hat : lv.ownBlock = some g ∨ g = U2.heap.size) :
    (∃ cur : Array Value, (U3.setCell ⟨lb, o, none⟩ (.slice (some ⟨g, 0, none⟩) (m + 1) cap)).heap[g]? = some (.cells cur 37 (0, 0)) ∧ cur[m * 5]? = some z0 ∧ cur[m * 5 + 1]? = some z1 ∧ cur[m * 5 + 2]? = some z2 ∧ cur[m * 5 + 3]? = some z3 ∧ cur[m * 5 + 4]? = some z4) ∧
    (HT U2 (fun k => U.heap.size ≤ k ∧ k < U2.heap.size) x [v0, v1, v2, v3, v4] → TlCur w ((((((U3.setCell ⟨lb, o, none⟩ (.slice (some ⟨g, 0, none⟩) (m + 1) cap)).setCell ⟨g, m * 5, none⟩ v0).setCell ⟨g, m * 5 + 1, none⟩ v1).setCell ⟨g, m * 5 + 2, none⟩ v2).setCell ⟨g, m * 5 + 3, none⟩ v3).setCell ⟨g, m * 5 + 4, none⟩ v4) tb lb n ts null (.slice (some ⟨g, 0, none⟩) (m + 1) cap) (xs ++ [x]) rest) := by
  subst hm
  have hgo := (h.calm k2).apart hown hat
  have hk := hown.kept (grown_set U3 ⟨lb, o, none⟩ (.slice (some ⟨g, 0, none⟩) (xs.length + 1) cap)) (.inr (by simp [Value.ownBlock]; exact hgo))
  obtain ⟨hV, hcur⟩ := own_set5 hk v0 v1 v2 v3 v4
  refine ⟨hcur, ?_⟩
  obtain ⟨V, hVe⟩ : ∃ V, V = ((((((U3.setCell ⟨lb, o, none⟩ (.slice (some ⟨g, 0, none⟩) (xs.length + 1) cap)).setCell ⟨g, xs.length * 5, none⟩ v0).setCell ⟨g, xs.length * 5 + 1, none⟩ v1).setCell ⟨g, xs.length * 5 + 2, none⟩ v2).setCell ⟨g, xs.length * 5 + 3, none⟩ v3).setCell ⟨g, xs.length * 5 + 4, none⟩ v4) := ⟨_, rfl⟩
  rw [← hVe] at hV ⊢
  have f1 : Keep [lb, g] U3 V := by
    rw [hVe]
    exact ((((((Keep.refl _ _).setCell (.inl (by simp)) _).setCell (.inl (by simp)) _).setCell (.inl (by simp)) _).setCell (.inl (by simp)) _).setCell (.inl (by simp)) _).setCell (.inl (by simp)) _
  have f2 : ∀ k, k ≠ g → V.heap[k]? = (U3.setCell ⟨lb, o, none⟩ (.slice (some ⟨g, 0, none⟩) (xs.length + 1) cap)).heap[k]? := fun k hk => by
    rw [hVe, Below.heap_setCell _ _ _ _ hk, Below.heap_setCell _ _ _ _ hk, Below.heap_setCell _ _ _ _ hk, Below.heap_setCell _ _ _ _ hk, Below.heap_setCell _ _ _ _ hk]
  clear hVe hcur hk
  refine fun hx => h.pushAbs ho k2 h1 h2 hx hl hV hat (f1.os.trans hgr.os) (f1.tape.trans hgr.tape) (f1.output.trans hgr.output) (Nat.le_trans hgr.size f1.size) (fun c0 hc0 => ?_) (fun k hk1 hk2 hk3 => ?_)
  · have hn : lv.ownBlock ≠ some lb := fun e => (h.own lb e).2 rfl
    have hlt := (h.calm k2).lts.1
    have hb := (hgr.block lb hlt (fun e => hn e.symm)).trans hc0
    rw [f2 lb hgo.symm]
    exact heap_set hb _
  · have hkg : k ≠ g := by
      rintro rfl
      rcases hat with e | e
      · exact hk3 e
      · omega
    rw [f2 k hkg, Below.heap_setCell _ _ _ _ hk2]
    exact hgr.block k hk1 (fun e => hk3 e.symm)
theorem TlSt.putText {w U : World} {tb lb n : Nat} {ts : List T} {rest : List Value} {a b c d e : Value} (h : TlSt w U tb lb n ts (a :: b :: c :: d :: e :: rest)) {o0 o1 o2 o3 o4 : Nat} (e0 : o0 = 5 * ts.length) (e1 : o1 = 5 * ts.length + 1) (e2 : o2 = 5 * ts.length + 2) (e3 : o3 = 5 * ts.length + 3) (e4 : o4 = 5 * ts.length + 4)
    (l : Bs) (hl : l.length ≤ 1000000) (cap : Nat) (ty : TypeId) (hc : l.length ≤ cap) (fr : Nat × Nat) :
    TlSt w ((((((U.alloc (.cells (bytesRow ⟨l.toArray⟩ cap) ty fr)).setCell ⟨lb, o0, none⟩ (.int .i64 0)).setCell ⟨lb, o1, none⟩ (.slice (some ⟨U.heap.size, 0, none⟩) l.length cap)).setCell ⟨lb, o2, none⟩ (.bool false)).setCell ⟨lb, o3, none⟩ (.slice none 0 0)).setCell ⟨lb, o4, none⟩ (.slice none 0 0)) tb lb n (ts ++ [.mk 0 l false [] []]) rest := by
  have hb := bytes_rb U l cap ty fr hc
  have hk : Keep [] U (U.alloc (.cells (bytesRow ⟨l.toArray⟩ cap) ty fr)) := keep_box _
  refine (h.calm hk).put e0 e1 e2 e3 e4 (HT.of 0 l false [] [] (hb.keepF (fun _ _ => rfl) (fun k hk => ?_)) (HTs.nil _ _) (HGs.nil _ _) (by decide) (by decide) (by omega) (by decide))
  subst hk
  exact h.ntNew _ ⟨Nat.le_refl _, by simp⟩
theorem TlSt.putText2 {w U : World} {tb lb n : Nat} {ts : List T} {rest : List Value} {a b c d e : Value} (h : TlSt w U tb lb n ts (a :: b :: c :: d :: e :: rest)) {o0 o1 o2 o3 o4 : Nat} (e0 : o0 = 5 * ts.length) (e1 : o1 = 5 * ts.length + 1) (e2 : o2 = 5 * ts.length + 2) (e3 : o3 = 5 * ts.length + 3) (e4 : o4 = 5 * ts.length + 4)
    (l : Bs) (hl : l.length ≤ 1000000) (cap : Nat) (ty : TypeId) (hc : l.length ≤ cap) (fr : Nat × Nat) :
    TlSt w ((((((U.setCell ⟨lb, o0, none⟩ (.int .i64 0)).setCell ⟨lb, o1, none⟩ (.slice (some ⟨U.heap.size, 0, none⟩) l.length cap)).setCell ⟨lb, o2, none⟩ (.bool false)).setCell ⟨lb, o3, none⟩ (.slice none 0 0)).setCell ⟨lb, o4, none⟩ (.slice none 0 0)).alloc (.cells (bytesRow ⟨l.toArray⟩ cap) ty fr)).drew.drew tb lb n (ts ++ [.mk 0 l false [] []]) rest := by
  have Q := h.putText e0 e1 e2 e3 e4 l hl cap ty hc fr
  have hlt := h.lts.1
  have hz : ∀ (W : World) (p : Addr) (v : Value), (W.setCell p v).heap.size = W.heap.size := fun W p v => by simp [World.setCell]
  rw [World.setCell_alloc_past _ _ _ _ hlt, World.setCell_alloc_past _ _ _ _ (by rw [hz]; exact hlt), World.setCell_alloc_past _ _ _ _ (by rw [hz, hz]; exact hlt), World.setCell_alloc_past _ _ _ _ (by rw [hz, hz, hz]; exact hlt), World.setCell_alloc_past _ _ _ _ (by rw [hz, hz, hz, hz]; exact hlt)] at Q
  exact Q.drew.drew
theorem TlSt.start {w w0 : World} {n : Nat} {rest : List Value} (hz : w0.heap.size = w.heap.size + 1) :
    TlSt w0 ((w0.alloc (.cells rest.toArray 37)).alloc (.cells #[.int .i64 0, .slice none 0 0, .bool false, .slice (some ⟨w.heap.size + 1, 0, none⟩) n n, .slice none 0 0] 37)) (w.heap.size + 1 + 1) (w.heap.size + 1) n [] rest := by
  have h2 := heap_alloc_new (w0.alloc (.cells rest.toArray 37)) (.cells #[.int .i64 0, .slice none 0 0, .bool false, .slice (some ⟨w.heap.size + 1, 0, none⟩) n n, .slice none 0 0] 37)
  have h1 := heap_alloc_new w0 (.cells rest.toArray 37)
  rw [World.size_alloc, hz] at h2
  rw [hz] at h1
  refine ⟨h2, ⟨[], rfl, fun i a => by simp at a, ?_⟩, (keep_box _).alloc _, by omega, by omega, by omega⟩
  rw [Below.heap_alloc _ _ _ (by simp [hz])]
  exact h1
end Go.Proofs.YtdebdgofomnpoaaGreatDoor
/-
  Which versions have a field.
-/
namespace Go.Proofs.YtdebdgofomnpoaaGreatDoor
section
variable {k a b nul tag d o v : Int} {sub : List F}
theorem has_yes (h1 : a ≤ v) (h2 : b < 0 ∨ v ≤ b) : F.has (.mk k a b nul tag d o sub) v = true := by
  show (decide (a ≤ v) && (decide (b < 0) || decide (v ≤ b))) = true
  simp [h1, h2]
theorem has_no1 (h1 : ¬ a ≤ v) : F.has (.mk k a b nul tag d o sub) v = false := by
  show (decide (a ≤ v) && (decide (b < 0) || decide (v ≤ b))) = false
  simp [h1]
theorem has_no2 (h1 : ¬ v ≤ b) (h2 : 0 ≤ b) : F.has (.mk k a b nul tag d o sub) v = false := by
  show (decide (a ≤ v) && (decide (b < 0) || decide (v ≤ b))) = false
  have h3 : ¬ b < 0 := by omega
  simp [h1, h3]
end
end Go.Proofs.YtdebdgofomnpoaaGreatDoor
/-
  To store what lies there changes nothing.
-/
namespace Go.Proofs.YtdebdgofomnpoaaGreatDoor
open Go.ChangeShapes Go.WideShapes Go.ChangeAt Go.RowKit

theorem setCell_self {w : World} {b i : Nat} {v : Value} (h : w.cell? ⟨b, i, none⟩ = some v) : w.setCell ⟨b, i, none⟩ v = w := by
  unfold World.cell? at h
  have hh : (w.setCell ⟨b, i, none⟩ v).heap = w.heap := by
    unfold World.setCell
    refine Array.ext (by simp) fun j h1 h2 => ?_
    simp only
    rw [Array.getElem_modify]
    split
    · rename_i e
      subst e
      rw [Array.getElem?_eq_getElem h2] at h
      split at h
      · rename_i c t f e
        rw [Option.some.inj e]
        simp only [Option.isSome_none, Bool.false_eq_true, if_false] at h ⊢
        congr 1
        refine Array.ext (by simp) fun k k1 k2 => ?_
        rw [Array.getElem_setIfInBounds]
        split
        · rename_i e2
          subst e2
          rw [Array.getElem?_eq_getElem k2] at h
          exact (Option.some.inj h).symm
        · rfl
      · cases h
    · rfl
  calc w.setCell ⟨b, i, none⟩ v = { w with heap := (w.setCell ⟨b, i, none⟩ v).heap } := rfl
    _ = w := by rw [hh]
end Go.Proofs.YtdebdgofomnpoaaGreatDoor
/-
  laws.zzFits1, zzFits2, zzFits3: of trees that hold nothing too long they are true.
-/
namespace Go.Proofs.YtdebdgofomnpoaaGreatDoor
open Go.ChangeShapes Go.WideShapes Go.ChangeAt Go.RowKit

theorem fits3_any {k : Int} {av : Option Addr} {n pv : Nat} {w : World} (hn : n ≤ 2147483647) :
    Calls Tryz.prog 141 #[.agg #[.int .u32 k, .slice av n pv]] w fun e w' => e = .returned (.bool true) ∧ Keep [] w w' := by
  go_enter Tryz.func141, Tryz.ntmps141
  go_wp2
  go_ret
  exact ⟨rfl, (Keep.refl _ _).alloc _⟩
set_option maxHeartbeats 400000 in
theorem fits2_any {G : Nat → Prop} {v : Value} {u : List Tg} {w : World} (hu : HGs w G v u) (hG : There G w) (h1 : u.length ≤ 2147483647) (h2 : ∀ x ∈ u, x.2.length ≤ 2147483647) :
    Calls Tryz.prog 57 #[v] w fun e w' => e = .returned (.bool true) ∧ Keep [] w w' := by
  obtain ⟨au, pu, rfl⟩ := hu.shape
  go_enter Tryz.func57, Tryz.ntmps57
  go_wp2_with fail
  go_loopw [10] (fun k wr => ∃ n : Nat, n ≤ u.length ∧ k = .int .i64 n ∧ Keep [] w wr) (fun k _ => u.length - (intOf k).toNat)
  case atStart => exact ⟨0, Nat.zero_le _, rfl, Keep.refl _ _⟩
  case round =>
    obtain ⟨n, hn, rfl, hkeep⟩ := hrel
    by_cases hlt : n < u.length
    · obtain ⟨b, o, av, pv, rfl, hGb, c0, c1, -, -⟩ := (hu.keepF (hG.same hkeep) (fun _ h => h)).elem hlt
      have hx := h2 _ (List.getElem_mem hlt)
      have F3 := fun W k => fits3_any (k := k) (av := av) (pv := pv) (w := W) hx
      have hbw : b < wr.heap.size := hG.keep hkeep b hGb
      go_wp2_with (go_at_call 141; refine (F3 _ _).mono ?_; rintro e w1 ⟨rfl, k1⟩)
      go_roundw
      case rel => exact ⟨n + 1, by omega, by go_num, hkeep.trans ((keep_box _).trans k1)⟩
      case measure => simp [intOf]; omega
    · go_wp2
      go_ret
      exact ⟨rfl, hkeep⟩
/-- nothing in the tree's own row is too long -/
structure T.Fits (t : T) : Prop where
  s : t.s.length ≤ 2147483647
  l : t.l.length ≤ 2147483647
  u : t.u.length ≤ 2147483647
  v : ∀ x ∈ t.u, x.2.length ≤ 2147483647
theorem fits1_any {G : Nat → Prop} {t : T} {c : List Value} {w : World} (ht : HT w G t c) (hG : There G w) (hf : t.Fits) :
    Calls Tryz.prog 15 #[.agg c.toArray] w fun e w' => e = .returned (.bool true) ∧ Keep [] w w' := by
  obtain ⟨az, ps, al, pl, au, pu, rfl, hs, hl, hu, hn1, hn2, hn3, hn4⟩ := ht.cells
  obtain ⟨f1, f2, f3, f4⟩ := hf
  have F2 := fun W (hW : Keep [] w W) => fits2_any (hu.keepF (hG.same hW) (fun _ h => h)) (hG.keep hW) f3 f4
  clear ht hs hl hu
  go_enter Tryz.func15, Tryz.ntmps15
  go_wp2_with (go_at_call 57; refine (F2 _ (keep_box _)).mono ?_; rintro e w1 ⟨rfl, k1⟩)
  go_ret
  exact ⟨rfl, (keep_box _).trans k1⟩
/-! of any value: they answer, and leave all alone -/
theorem fits3_some {k : Int} {av : Option Addr} {n pv : Nat} {w : World} :
    Calls Tryz.prog 141 #[.agg #[.int .u32 k, .slice av n pv]] w fun e w' => ∃ x, e = .returned (.bool x) ∧ Keep [] w w' := by
  by_cases hn : n ≤ 2147483647
  · exact (fits3_any hn).mono fun e w' h => ⟨true, h⟩
  go_enter Tryz.func141, Tryz.ntmps141
  go_wp2
  go_ret
  exact ⟨false, rfl, (Keep.refl _ _).alloc _⟩
set_option maxHeartbeats 400000 in
theorem fits2_some {G : Nat → Prop} {v : Value} {u : List Tg} {w : World} (hu : HGs w G v u) (hG : There G w) :
    Calls Tryz.prog 57 #[v] w fun e w' => ∃ x, e = .returned (.bool x) ∧ Keep [] w w' := by
  obtain ⟨au, pu, rfl⟩ := hu.shape
  go_enter Tryz.func57, Tryz.ntmps57
  by_cases h1 : u.length ≤ 2147483647
  · go_wp2_with fail
    go_loopw [10] (fun k wr => ∃ n : Nat, n ≤ u.length ∧ k = .int .i64 n ∧ Keep [] w wr) (fun k _ => u.length - (intOf k).toNat)
    case atStart => exact ⟨0, Nat.zero_le _, rfl, Keep.refl _ _⟩
    case round =>
      obtain ⟨n, hn, rfl, hkeep⟩ := hrel
      by_cases hlt : n < u.length
      · obtain ⟨b, o, av, pv, rfl, hGb, c0, c1, -, -⟩ := (hu.keepF (hG.same hkeep) (fun _ h => h)).elem hlt
        have F3 := fun W k n => fits3_some (k := k) (av := av) (n := n) (pv := pv) (w := W)
        have hbw : b < wr.heap.size := hG.keep hkeep b hGb
        go_wp2_with (go_at_call 141; refine (F3 _ _ _).mono ?_; rintro e w1 ⟨x, rfl, k1⟩; cases x)
        · go_ret
          exact ⟨false, rfl, hkeep.trans ((keep_box _).trans k1)⟩
        · go_roundw
          case rel => exact ⟨n + 1, by omega, by go_num, hkeep.trans ((keep_box _).trans k1)⟩
          case measure => simp [intOf]; omega
      · go_wp2
        go_ret
        exact ⟨true, rfl, hkeep⟩
  · go_wp2_with fail
    go_ret
    exact ⟨false, rfl, Keep.refl _ _⟩
theorem fits1_some {G : Nat → Prop} {t : T} {c : List Value} {w : World} (ht : HT w G t c) (hG : There G w) :
    Calls Tryz.prog 15 #[.agg c.toArray] w fun e w' => ∃ x, e = .returned (.bool x) ∧ Keep [] w w' := by
  obtain ⟨az, ps, al, pl, au, pu, rfl, hs, hl, hu, hn1, hn2, hn3, hn4⟩ := ht.cells
  have F2 := fun W (hW : Keep [] w W) => fits2_some (hu.keepF (hG.same hW) (fun _ h => h)) (hG.keep hW)
  clear ht hs hl hu
  go_enter Tryz.func15, Tryz.ntmps15
  by_cases f1 : t.s.length ≤ 2147483647
  · by_cases f2 : t.l.length ≤ 2147483647
    · go_wp2_with (go_at_call 57; refine (F2 _ (keep_box _)).mono ?_; rintro e w1 ⟨x, rfl, k1⟩; cases x)
      · go_ret
        exact ⟨false, rfl, (keep_box _).trans k1⟩
      · go_ret
        exact ⟨true, rfl, (keep_box _).trans k1⟩
    · go_wp2_with fail
      go_ret
      exact ⟨false, rfl, keep_box _⟩
  · go_wp2_with fail
    go_ret
    exact ⟨false, rfl, keep_box _⟩
end Go.Proofs.YtdebdgofomnpoaaGreatDoor
