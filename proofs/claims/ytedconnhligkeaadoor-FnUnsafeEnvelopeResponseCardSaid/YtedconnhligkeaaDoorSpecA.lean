/-
  THE SMALL FUNCTIONS OF spec: what each returns, at every input.
-/
import Derived.Test.YtedconnhligkeaaDoorTree
import Derived.IntWalk
import Derived.Laws.AppendOwnNone
namespace Go.Proofs.YtedconnhligkeaaDoor
open Go.ChangeShapes Go.WideShapes Go.ChangeAt Go.RowKit

/-- a slice of the call's own that holds these octets -/
def OB (w : World) (B : Nat) (v : Value) (l : Bs) : Prop := w.ownsRow B 5 1 v l.length (l.map bv)

theorem info_u8 : (Tryd.prog.info? 5).map (fun i => (i.zero, i.size, i.bytes)) = some (some (.int .u8 0), 1, 1) := by kernel_rfl

theorem OB.rb {w : World} {B : Nat} {v : Value} {l : Bs} (h : OB w B v l) : RB w (fun k => B ≤ k ∧ k < w.heap.size) v l := by
  obtain ⟨h1, ⟨rfl, h2⟩ | ⟨g, cap, cur, rfl, hb, hg, hn, hm, hs, ht⟩⟩ := h
  · exact ⟨none, 0, by rw [h2], by omega, fun _ => ⟨h2, rfl, by simpa using h2⟩, (fun a ha => by cases ha)⟩
  · have hlt : g < w.heap.size := (Array.getElem?_eq_some_iff.1 hg).1
    refine ⟨_, cap, rfl, hn, (fun h => by cases h), fun a ha => ?_⟩
    cases ha
    refine ⟨rfl, fun i hi => ⟨⟨hb, hlt⟩, ?_⟩⟩
    have e : (l.map bv)[i]? = some (l.map bv)[i] := List.getElem?_eq_getElem hi
    rw [← e, ← ht, List.getElem?_take, if_pos (by simpa using hi)]
    simp [World.cell?, hg]
theorem OB.nil (w : World) (B : Nat) : OB w B (.slice none 0 0) [] := World.ownsRow_nil _ _ _ _

theorem OB.alloc {w : World} {B : Nat} {v : Value} {l : Bs} (h : OB w B v l) (o : Obj) : OB (w.alloc o) B v l := World.ownsRow.alloc h o
theorem OB.drew {w : World} {B : Nat} {v : Value} {l : Bs} (h : OB w B v l) : OB w.drew B v l := h

section
variable {w : World} {ops : Array Oper} {rest : List Oper} {o : Oper} {a : Act} {Q : Exit → Act → World → Prop}
set_option maxRecDepth 100000 in
theorem app_wp {K : Act → World → Prop} (s x : Operand) (ho : o.op = .call { callee := .builtin .append, args := #[s, x], argTypes := #[22, 22] })
    (B : Nat) (v : Value) (acc : Bs) (hs : a.eval s = v) (hown : OB w B v acc) (xv : Value) (l : Bs) (G : Nat → Prop) (hx : a.eval x = xv) (hl : RB w G xv l)
    (hlen : acc.length + l.length ≤ 70368744177664) (hB : B ≤ w.heap.size)
    (h : ∀ v' w', OB w' B v' (acc ++ l) → w.grownBy w' v.ownBlock → K (a.put o.dst v') w') : o.wp Tryd.prog a w K Q := by
  obtain ⟨i0, hi, hz0, hz1, hz2⟩ := info_parts info_u8
  obtain ⟨ao, cap, rfl, h1, h2, h3⟩ := hl
  cases ao with
  | none =>
    obtain ⟨g1, g2, g3⟩ := h2 rfl
    have hnil : l = [] := List.eq_nil_of_length_eq_zero g1
    subst hnil
    subst g2
    have hrun := run_append_owned_none (P := Tryd.prog) (w := w) B 22 o.type 5 i0 1 Tryd.underlying22 hi v _ _ hown
    have hx' : a.eval x = .slice none 0 0 := hx
    unfold Oper.wp
    simp [execOp, ho, resolve, invoke, builtin, hs, hx', hrun, Result.andThen]
    exact h v w (by simpa using hown) ⟨rfl, rfl, rfl, Nat.le_refl _, fun _ _ _ => rfl⟩
  | some ad =>
    obtain ⟨g1, g2⟩ := h3 ad rfl
    refine wp_append_own w s x _ ho B 5 i0 (.int .u8 0) 1 1 Tryd.underlying22 hi hz0 hz1 hz2 rfl (by decide) v acc.length (acc.map bv) hs hown ad l.length cap (l.map bv) hx (by simp) ?_ ?_ (by unfold maxLen; omega) (by omega) hB ?_
    · intro j u hj
      have hlt : j < (l.map bv).length := (List.getElem?_eq_some_iff.1 hj).1
      rw [List.getElem?_eq_getElem hlt] at hj
      have := (g2 j hlt).2
      rw [Option.some.inj hj] at this
      rw [← this]
      congr 1
      obtain ⟨b, o, sp⟩ := ad
      simp only at g1
      subst g1
      unfold Addr.add
      split
      · subst j; rfl
      · rfl
    · intro u hu
      obtain ⟨x, _, rfl⟩ := List.mem_map.1 hu
      rfl
    · intro v' w' hown' hg _
      exact h v' w' (by unfold OB; rw [List.length_append, List.map_append]; exact hown') hg
/-- append, onto octets of the call's own, of octets that lie anywhere -/
theorem app_ob (hgd : o.guard = none) (s x : Operand) (ho : o.op = .call { callee := .builtin .append, args := #[s, x], argTypes := #[22, 22] })
    (B : Nat) (v : Value) (acc : Bs) (hs : a.eval s = v) (hown : OB w B v acc) (xv : Value) (l : Bs) (G : Nat → Prop) (hx : a.eval x = xv) (hl : RB w G xv l)
    (hlen : acc.length + l.length ≤ 70368744177664) (hB : B ≤ w.heap.size)
    (h : ∀ v' w', OB w' B v' (acc ++ l) → w.grownBy w' v.ownBlock → wpList Tryd.prog ops Q rest (a.put o.dst v') w') : wpList Tryd.prog ops Q (o :: rest) a w :=
  wpList_plain hgd fun _ hK => app_wp s x ho B v acc hs hown xv l G hx hl hlen hB fun v' w' h1 h2 => hK _ _ (h v' w' h1 h2)
/-- the same, as a step of a region that draws its order -/
theorem app_step {K : Act → World → Prop} {E : Prop} (hgd : o.guard = none) (s x : Operand) (ho : o.op = .call { callee := .builtin .append, args := #[s, x], argTypes := #[22, 22] })
    (B : Nat) (v : Value) (acc : Bs) (hs : a.eval s = v) (hown : OB w B v acc) (xv : Value) (l : Bs) (G : Nat → Prop) (hx : a.eval x = xv) (hl : RB w G xv l)
    (hlen : acc.length + l.length ≤ 70368744177664) (hB : B ≤ w.heap.size)
    (h : ∀ v' w', OB w' B v' (acc ++ l) → w.grownBy w' v.ownBlock → K (a.put o.dst v') w') : if Region.wanted o (yielded ops a.tmps) = true then Oper.wp Tryd.prog o a w K Q else E := by
  have hw : Region.wanted o (yielded ops a.tmps) = true := by simp [Region.wanted, hgd]
  rw [if_pos hw]
  exact app_wp s x ho B v acc hs hown xv l G hx hl hlen hB h
/-- append of octets that have just been laid in a block of their own -/
theorem app_new (hgd : o.guard = none) (s x : Operand) (ho : o.op = .call { callee := .builtin .append, args := #[s, x], argTypes := #[22, 22] })
    (B : Nat) (v : Value) (acc : Bs) (hs : a.eval s = v) (hown : OB w B v acc) (cs : Array Value) (l : Bs) (n : Nat) (hx : a.eval x = .slice (some ⟨w.heap.size, 0, none⟩) n n) (hcs : cs.toList = l.map bv) (hn : n = l.length)
    (hlen : acc.length + l.length ≤ 70368744177664) (hB : B ≤ w.heap.size)
    (h : ∀ v' w', OB w' B v' (acc ++ l) → w.grownBy w' v.ownBlock → wpList Tryd.prog ops Q rest (a.put o.dst v') w') : wpList Tryd.prog ops Q (o :: rest) a (w.alloc (.cells cs 5)) := by
  subst hn
  refine app_ob hgd s x ho B v acc hs (hown.alloc _) _ l (fun _ => True) hx ?_ hlen (by simp; omega) ?_
  · refine ⟨_, _, rfl, Nat.le_refl _, (fun h => by cases h), fun ad had => ?_⟩
    cases had
    refine ⟨rfl, fun i hi => ⟨trivial, ?_⟩⟩
    have e : (l.map bv)[i]? = some (l.map bv)[i] := List.getElem?_eq_getElem hi
    rw [← e, ← hcs]
    have e2 : (w.alloc (.cells cs 5)).heap[w.heap.size]? = some (.cells cs 5) := heap_alloc_new w _
    simp only [World.cell?, e2]
    simp
  · intro v' w' h1 h2
    refine h v' w' h1 ⟨h2.os, h2.tape, h2.output, Nat.le_trans (by simp) h2.size, fun k hk hne => ?_⟩
    rw [h2.block k (by simp; omega) hne, Below.heap_alloc _ _ _ hk]
end

/-- a number's lowest octet -/
def u8 (z : Int) : UInt8 := UInt8.ofNat (z % 256).toNat
theorem u8_wrap (z : Int) : IntKind.u8.wrap z = ((u8 z).toNat : Int) := by
  have h1 : 0 ≤ z % 256 := Int.emod_nonneg _ (by decide)
  have h2 : z % 256 < 256 := Int.emod_lt_of_pos _ (by decide)
  have h3 : (u8 z).toNat = (z % 256).toNat := by
    simp only [u8, UInt8.toNat_ofNat']
    omega
  rw [h3]
  simp [IntKind.wrap, IntKind.bits, IntKind.signed]
  omega
theorem oct_cell (n : Int) (j : Nat) : bv (oct n j) = .int .u8 (n / 2 ^ (8 * j) % 256) := by
  have h1 : 0 ≤ (n / 2 ^ (8 * j)) % 256 := Int.emod_nonneg _ (by decide)
  have h2 : (n / 2 ^ (8 * j)) % 256 < 256 := Int.emod_lt_of_pos _ (by decide)
  unfold bv oct
  simp only [UInt8.toNat_ofNat']
  congr 1
  omega
theorem grow_keep {B : Nat} {w wr w' : World} {v : Value} {l : Bs} (hk : Keep [] w wr) (hown : OB wr B v l) (hB : w.heap.size ≤ B) (hg : wr.grownBy w' v.ownBlock) : Keep [] w w' :=
  hk.grown hg fun k e => .inr (Nat.le_trans hB (hown.lt k e).1)

end Go.Proofs.YtedconnhligkeaaDoor
