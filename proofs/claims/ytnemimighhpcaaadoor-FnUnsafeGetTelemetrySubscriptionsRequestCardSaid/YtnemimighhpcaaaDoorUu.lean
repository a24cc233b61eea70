/-
  Sixteen octets in a message.
-/
import Derived.Test.YtnemimighhpcaaaDoorTellQ
import Derived.Test.YtnemimighhpcaaaDoorRdUuid
namespace Go.Proofs.YtnemimighhpcaaaDoor
open Go.ChangeShapes Go.WideShapes Go.ChangeAt Go.RowKit

theorem sixteen_of {l : Bs} (h : l.length = 16) : ∃ x0 x1 x2 x3 x4 x5 x6 x7 x8 x9 x10 x11 x12 x13 x14 x15, l = [x0, x1, x2, x3, x4, x5, x6, x7, x8, x9, x10, x11, x12, x13, x14, x15] := by
  match l, h with
  | [x0, x1, x2, x3, x4, x5, x6, x7, x8, x9, x10, x11, x12, x13, x14, x15], _ => exact ⟨x0, x1, x2, x3, x4, x5, x6, x7, x8, x9, x10, x11, x12, x13, x14, x15, rfl⟩
theorem uuid_lit {G : Nat → Prop} {b : Nat} {s : St} {w : World} (h : Rd w b G s) (hG : There G w) (hb : ¬ G b) :
    Calls Tryd.prog 139 #[.pointer (some ⟨b, 0, none⟩)] w fun e w' => ∃ x0 x1 x2 x3 x4 x5 x6 x7 x8 x9 x10 x11 x12 x13 x14 x15, (rdUuid s).1 = [x0, x1, x2, x3, x4, x5, x6, x7, x8, x9, x10, x11, x12, x13, x14, x15] ∧ e = .returned (.agg #[.int .u8 (x0.toNat : Int), .int .u8 (x1.toNat : Int), .int .u8 (x2.toNat : Int), .int .u8 (x3.toNat : Int), .int .u8 (x4.toNat : Int), .int .u8 (x5.toNat : Int), .int .u8 (x6.toNat : Int), .int .u8 (x7.toNat : Int), .int .u8 (x8.toNat : Int), .int .u8 (x9.toNat : Int), .int .u8 (x10.toNat : Int), .int .u8 (x11.toNat : Int), .int .u8 (x12.toNat : Int), .int .u8 (x13.toNat : Int), .int .u8 (x14.toNat : Int), .int .u8 (x15.toNat : Int)]) ∧ Rd w' b G (rdUuid s).2 ∧ Keep [b] w w' := by
  refine (uuid_any h hG hb).mono ?_
  rintro e w' ⟨rfl, h1, h2⟩
  obtain ⟨x0, x1, x2, x3, x4, x5, x6, x7, x8, x9, x10, x11, x12, x13, x14, x15, hx⟩ := sixteen_of (l := (rdUuid s).1) (pad16_length _)
  exact ⟨x0, x1, x2, x3, x4, x5, x6, x7, x8, x9, x10, x11, x12, x13, x14, x15, hx, by rw [hx]; rfl, h1, h2⟩
theorem RdSt.sets {w U : World} {b rb : Nat} {G : Nat → Prop} {s : St} {t : TypeId} {pre old post xs : List Value} (h : RdSt w U b rb G s (pre ++ old ++ post).toArray t) (hl : xs.length = old.length) : RdSt w (setAll U b pre.length xs) b rb G s (pre ++ xs ++ post).toArray t := by
  obtain ⟨q1, q2⟩ := setAll_heap hl h.blk
  have hn := h.new
  have hbl := h.lt
  exact ⟨h.rd.keepA h.hG h.rd.lt' q2 (by intro i hi; simp at hi; subst hi; exact h.nb) (by simp; omega), q1, h.keep.trans q2, h.there, h.nb, h.lt, h.new⟩
theorem rb_cells {W : World} {b : Nat} {pre post : List Value} {x : Bs} {t : TypeId} (h : W.heap[b]? = some (.cells (pre ++ x.map bv ++ post).toArray t (0, 0))) : RB W (fun k => k = b) (.slice (some ⟨b, pre.length, none⟩) x.length x.length) x := by
  refine ⟨_, _, rfl, Nat.le_refl _, (fun h => by cases h), fun a ha => ?_⟩
  cases ha
  refine ⟨rfl, fun i hi => ⟨rfl, ?_⟩⟩
  simp only [World.cell?, h, Option.isSome_none, Bool.false_eq_true, if_false]
  have hi' : i < x.length := by simpa using hi
  rw [List.getElem?_toArray, List.append_assoc, List.getElem?_append_right (by omega), List.getElem?_append_left (by simp; omega)]
  rw [Nat.add_sub_cancel_left]
  exact List.getElem?_eq_getElem hi
end Go.Proofs.YtnemimighhpcaaaDoor
