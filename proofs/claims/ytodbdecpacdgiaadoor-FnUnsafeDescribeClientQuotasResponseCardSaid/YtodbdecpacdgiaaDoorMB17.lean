/-
  Tags.Len, Tags.AppendEach: the tags by rising numbers onto octets of the call's own.
-/
import Derived.Test.YtodbdecpacdgiaaDoorMB9
import Derived.Test.YtodbdecpacdgiaaDoorMB16
import Derived.Test.YtodbdecpacdgiaaDoorMB12
import Derived.Test.YtodbdecpacdgiaaDoorMB14
import Derived.Test.YtodbdecpacdgiaaDoorMB1
import Derived.OrdersHeld
import Derived.Deep.RegionHeld
import Derived.Laws.Externs
namespace Go.Proofs.YtodbdecpacdgiaaDoor
open Go.ChangeShapes Go.WideShapes Go.ChangeAt Go.RowKit

theorem OB.shp {w : World} {B : Nat} {v : Value} {l : Bs} (h : OB w B v l) : ∃ a n c, v = .slice a n c := by
  obtain ⟨a, c, e⟩ := h.len
  exact ⟨a, _, c, e⟩
/-- the tags' octets are being gathered in the variable at bx: since W0 only J and new blocks have turned -/
structure TgCell (B bx : Nat) (J : Nat → Prop) (W0 W : World) (v : Value) (cur : Bs) : Prop where
  cell : W.heap[bx]? = some (.cells #[v] 22 (0, 0))
  own : OB W B v cur
  ne : v.ownBlock ≠ some bx
  here : ∀ k, v.ownBlock = some k → J k ∨ W0.heap.size ≤ k
  chg : Chg J W0 W
  jb : J bx
  lt : bx < W0.heap.size
  le : B ≤ W0.heap.size
theorem TgCell.rd {B bx : Nat} {J : Nat → Prop} {W0 W : World} {v : Value} {cur : Bs} (h : TgCell B bx J W0 W v cur) : W.cell? ⟨bx, 0, none⟩ = some v ∧ W.frozen? ⟨bx, 0, none⟩ = false := ⟨cellOf h.cell 0 _ rfl, freeOf h.cell 0⟩
theorem TgCell.step {B bx : Nat} {J : Nat → Prop} {W0 W W1 : World} {v v1 : Value} {cur p : Bs} (h : TgCell B bx J W0 W v cur) (ho : OB W1 B v1 (cur ++ p)) (m : Moved W W1 v v1) :
    (W1.cell? ⟨bx, 0, none⟩ = some v ∧ W1.frozen? ⟨bx, 0, none⟩ = false) ∧ TgCell B bx J W0 (W1.setCell ⟨bx, 0, none⟩ v1) v1 (cur ++ p) := by
  have hz := h.chg.size
  have hz1 := m.grown.size
  have hl := h.lt
  have hb : W1.heap[bx]? = some (.cells #[v] 22 (0, 0)) := (m.grown.block bx (by omega) (fun e => h.ne e.symm)).trans h.cell
  have hn1 : v1.ownBlock ≠ some bx := fun e => by
    rcases m.here bx e with q | q
    · exact h.ne q
    · omega
  have hs : ∀ k, k ≠ bx → (W1.setCell ⟨bx, 0, none⟩ v1).heap[k]? = W1.heap[k]? := fun k hk => Below.heap_setCell _ _ _ _ hk
  have hzz : (W1.setCell ⟨bx, 0, none⟩ v1).heap.size = W1.heap.size := by simp [World.setCell]
  refine ⟨⟨cellOf hb 0 _ rfl, freeOf hb 0⟩, ?_, ?_, hn1, fun k e => ?_, ⟨?_, ?_, ?_, by omega, fun k hk hj => ?_⟩, h.jb, hl, h.le⟩
  · simpa using heap_set (i := 0) hb v1
  · obtain ⟨h1, h2 | ⟨g, cap, cu, e, hbb, hg, r⟩⟩ := ho
    · exact ⟨h1, .inl h2⟩
    · refine ⟨h1, .inr ⟨g, cap, cu, e, hbb, ?_, r⟩⟩
      rw [hs g (fun q => hn1 (by rw [e, q]; rfl))]
      exact hg
  · rcases m.here k e with q | q
    · exact h.here k q
    · exact .inr (by omega)
  · exact m.grown.os.trans h.chg.os
  · exact m.grown.tape.trans h.chg.tape
  · exact m.grown.output.trans h.chg.output
  · have hkb : k ≠ bx := fun e => hj (e ▸ h.jb)
    rw [hs k hkb, m.grown.block k (by omega) (fun e => ?_), h.chg.block k hk hj]
    rcases h.here k e.symm with q | q
    · exact hj q
    · omega
/-- .. d tags are in -/
def TgSt (B bx : Nat) (acc : Bs) (us : List Tg) (d : Nat) (J : Nat → Prop) (W : World) : Prop :=
  ∃ v, TgCell B bx J W W v (acc ++ ((us.take d).map tagP).flatten) ∧ (∀ k, v.ownBlock = some k → J k) ∧ (∀ k, J k → B ≤ k)
end Go.Proofs.YtodbdecpacdgiaaDoor
/-
  impl.octetsTree.
-/
namespace Go.Proofs.YtodbdecpacdgiaaDoor
open Go.ChangeShapes Go.WideShapes Go.ChangeAt Go.RowKit

theorem oct_eq0 : ∀ u, (Sem.run Tryd.prog (binOp .eql 22 (.slice none 0 0) (.slice none 0 0)) u) = .ok (.bool true) u := fun u => Lib.run_eql_slice_nil u 22 5 none 0 0 0 0 Tryd.underlying22
theorem oct_eq1 (a : Addr) (n cap : Nat) : ∀ u, (Sem.run Tryd.prog (binOp .eql 22 (.slice (some a) n cap) (.slice none 0 0)) u) = .ok (.bool false) u := fun u => Lib.run_eql_slice_nil u 22 5 (some a) n cap 0 0 Tryd.underlying22
theorem oct_body : Tryd.f116.body.isNone = false := by kernel_rfl
theorem oct_name : (Tryd.f116.name == "runtime.NumGoroutine") = false := by kernel_rfl
set_option maxHeartbeats 800000 in
set_option maxRecDepth 100000 in
theorem oct_any {G : Nat → Prop} {v : Value} {o : Option Bs} {w : World} (h : OS w G v o) (hG : There G w) (hl : ∀ x, o = some x → x.length ≤ 1000000) :
    Calls Tryd.prog 116 #[v] w fun e w' => ∃ c, e = .returned (.agg c.toArray) ∧ HT w' (fun k => w.heap.size ≤ k ∧ k < w'.heap.size) (octT o) c ∧ Keep [] w w' := by
  obtain ⟨hb, hn⟩ := h
  obtain ⟨ao, cap, rfl⟩ := RS.shape hb
  cases ao with
  | none =>
    obtain ⟨hl0, rfl⟩ : (o.getD []).length = 0 ∧ cap = 0 := by
      obtain ⟨_, _, e, _, h2, _⟩ := hb
      cases e
      exact ⟨(h2 rfl).1, (h2 rfl).2.1⟩
    have ho : o = none := hn.1 (by rw [hl0])
    subst ho
    clear hl0
    have heq : ∀ u, (Sem.run Tryd.prog (binOp .eql 22 (.slice none 0 0) (.slice none 0 0)) u) = .ok (.bool true) u := oct_eq0
    go_enter Tryd.func116, Tryd.ntmps116
    go_wp2_with (at_builtin; go_loud (refine app_ob rfl (.const (.slice none 0 0)) (.tmp 3) rfl (w.heap.size + 1) (.slice none 0 0) [] rfl (OB.nil _ _) _ [] (fun _ => True) rfl (RB.nil _ _) (by simp) (by simp) ?_; intro v2 w2 hob hgr; obtain ⟨a2, cp, rfl⟩ := hob.len; have k2 : Keep [] w w2 := (keep_box _).grown hgr (by simp [Value.ownBlock]); have hz2 : w.heap.size + 1 ≤ w2.heap.size := (by have := hgr.size; simpa using this); have r2 := (hgr.block w.heap.size (by simp) (by simp [Value.ownBlock])).trans (heap_alloc_new w (.cells #[.int .i64 0, .slice none 0 0, .bool false, .slice none 0 0, .slice none 0 0] 27)); have p0 : w2.cell? ⟨w.heap.size, 0, none⟩ = some (.int .i64 0) := cellOf r2 0 _ rfl; have pf0 := freeOf r2 0; have p1 : w2.cell? ⟨w.heap.size, 1, none⟩ = some (.slice none 0 0) := cellOf r2 1 _ rfl; have pf1 := freeOf r2 1; have p2 : w2.cell? ⟨w.heap.size, 2, none⟩ = some (.bool false) := cellOf r2 2 _ rfl; have pf2 := freeOf r2 2; have p3 : w2.cell? ⟨w.heap.size, 3, none⟩ = some (.slice none 0 0) := cellOf r2 3 _ rfl; have pf3 := freeOf r2 3; have p4 : w2.cell? ⟨w.heap.size, 4, none⟩ = some (.slice none 0 0) := cellOf r2 4 _ rfl; have pf4 := freeOf r2 4; have R2 : Hid _ := r2; clear r2))
    have hr : (((((w2.setCell ⟨w.heap.size, 0, none⟩ (.int .i64 0)).setCell ⟨w.heap.size, 1, none⟩ (.slice a2 0 cp)).setCell ⟨w.heap.size, 2, none⟩ (.bool true)).setCell ⟨w.heap.size, 3, none⟩ (.slice none 0 0)).setCell ⟨w.heap.size, 4, none⟩ (.slice none 0 0)).heap[w.heap.size]? = some (.cells #[.int .i64 0, .slice a2 0 cp, .bool true, .slice none 0 0, .slice none 0 0] 27 (0, 0)) := (set5 (o := 0) R2.out).1
    have kr : Keep [w.heap.size] w2 (((((w2.setCell ⟨w.heap.size, 0, none⟩ (.int .i64 0)).setCell ⟨w.heap.size, 1, none⟩ (.slice a2 0 cp)).setCell ⟨w.heap.size, 2, none⟩ (.bool true)).setCell ⟨w.heap.size, 3, none⟩ (.slice none 0 0)).setCell ⟨w.heap.size, 4, none⟩ (.slice none 0 0)) := (set5 (o := 0) R2.out).2
    clear p0 pf0 p1 pf1 p2 pf2 p3 pf3 p4 pf4
    generalize (((((w2.setCell ⟨w.heap.size, 0, none⟩ (.int .i64 0)).setCell ⟨w.heap.size, 1, none⟩ (.slice a2 0 cp)).setCell ⟨w.heap.size, 2, none⟩ (.bool true)).setCell ⟨w.heap.size, 3, none⟩ (.slice none 0 0)).setCell ⟨w.heap.size, 4, none⟩ (.slice none 0 0)) = W7 at *
    have r0 : W7.cell? ⟨w.heap.size, 0, none⟩ = some (.int .i64 0) := cellOf hr 0 _ rfl
    have r1 : W7.cell? ⟨w.heap.size, 1, none⟩ = some (.slice a2 0 cp) := cellOf hr 1 _ rfl
    have r2 : W7.cell? ⟨w.heap.size, 2, none⟩ = some (.bool true) := cellOf hr 2 _ rfl
    have r3 : W7.cell? ⟨w.heap.size, 3, none⟩ = some (.slice none 0 0) := cellOf hr 3 _ rfl
    have r4 : W7.cell? ⟨w.heap.size, 4, none⟩ = some (.slice none 0 0) := cellOf hr 4 _ rfl
    have hzr := kr.size
    refine bodyPost_ret (v := .agg #[.int .i64 0, .slice a2 0 cp, .bool true, .slice none 0 0, .slice none 0 0]) (by simp [results, Tryd.results116, go_sem, r0, r1, r2, r3, r4]) rfl ⟨[.int .i64 0, .slice a2 0 cp, .bool true, .slice none 0 0, .slice none 0 0], rfl, ?_, ((k2.weaken (by simp)).trans kr).fresh (by simp)⟩
    have hrb : RB w2 (fun k => w.heap.size + 1 ≤ k ∧ k < w2.heap.size) (.slice a2 0 cp) [] := hob.rb
    exact HT.of 0 [] true [] [] (hrb.keepF (fun k hk => kr.block k hk.2 (by have := hk.1; simp; omega)) (fun k hk => ⟨by have := hk.1; omega, by have := hk.2; omega⟩)) (HTs.nil _ _) (HGs.nil _ _) (by decide) (by decide) (by decide) (by decide)
  | some a =>
    have ho : o ≠ none := fun h => by have := hn.2 h; cases this
    obtain ⟨l, rfl⟩ : ∃ l, o = some l := by cases o with | none => exact absurd rfl ho | some l => exact ⟨l, rfl⟩
    have hll := hl l rfl
    clear hn ho hl
    simp only [Option.getD_some] at hb ⊢
    have heq : ∀ u, (Sem.run Tryd.prog (binOp .eql 22 (.slice (some a) l.length cap) (.slice none 0 0)) u) = .ok (.bool false) u := oct_eq1 _ _ _
    go_enter Tryd.func116, Tryd.ntmps116
    go_wp2_with (at_builtin; go_loud (refine app_ob rfl (.const (.slice none 0 0)) (.tmp 3) rfl (w.heap.size + 1) (.slice none 0 0) [] rfl (OB.nil _ _) _ l G rfl (hb.keepF (hG.same (keep_box _)) (fun _ h => h)) (by simp; omega) (by simp) ?_; intro v2 w2 hob hgr; obtain ⟨a2, cp, rfl⟩ := hob.len; have k2 : Keep [] w w2 := (keep_box _).grown hgr (by simp [Value.ownBlock]); have hz2 : w.heap.size + 1 ≤ w2.heap.size := (by have := hgr.size; simpa using this); have r2 := (hgr.block w.heap.size (by simp) (by simp [Value.ownBlock])).trans (heap_alloc_new w (.cells #[.int .i64 0, .slice none 0 0, .bool false, .slice none 0 0, .slice none 0 0] 27)); have p0 : w2.cell? ⟨w.heap.size, 0, none⟩ = some (.int .i64 0) := cellOf r2 0 _ rfl; have pf0 := freeOf r2 0; have p1 : w2.cell? ⟨w.heap.size, 1, none⟩ = some (.slice none 0 0) := cellOf r2 1 _ rfl; have pf1 := freeOf r2 1; have p2 : w2.cell? ⟨w.heap.size, 2, none⟩ = some (.bool false) := cellOf r2 2 _ rfl; have pf2 := freeOf r2 2; have p3 : w2.cell? ⟨w.heap.size, 3, none⟩ = some (.slice none 0 0) := cellOf r2 3 _ rfl; have pf3 := freeOf r2 3; have p4 : w2.cell? ⟨w.heap.size, 4, none⟩ = some (.slice none 0 0) := cellOf r2 4 _ rfl; have pf4 := freeOf r2 4; have R2 : Hid _ := r2; clear r2))
    have hr : (((((w2.setCell ⟨w.heap.size, 0, none⟩ (.int .i64 0)).setCell ⟨w.heap.size, 1, none⟩ (.slice a2 l.length cp)).setCell ⟨w.heap.size, 2, none⟩ (.bool false)).setCell ⟨w.heap.size, 3, none⟩ (.slice none 0 0)).setCell ⟨w.heap.size, 4, none⟩ (.slice none 0 0)).heap[w.heap.size]? = some (.cells #[.int .i64 0, .slice a2 l.length cp, .bool false, .slice none 0 0, .slice none 0 0] 27 (0, 0)) := (set5 (o := 0) R2.out).1
    have kr : Keep [w.heap.size] w2 (((((w2.setCell ⟨w.heap.size, 0, none⟩ (.int .i64 0)).setCell ⟨w.heap.size, 1, none⟩ (.slice a2 l.length cp)).setCell ⟨w.heap.size, 2, none⟩ (.bool false)).setCell ⟨w.heap.size, 3, none⟩ (.slice none 0 0)).setCell ⟨w.heap.size, 4, none⟩ (.slice none 0 0)) := (set5 (o := 0) R2.out).2
    clear p0 pf0 p1 pf1 p2 pf2 p3 pf3 p4 pf4
    generalize (((((w2.setCell ⟨w.heap.size, 0, none⟩ (.int .i64 0)).setCell ⟨w.heap.size, 1, none⟩ (.slice a2 l.length cp)).setCell ⟨w.heap.size, 2, none⟩ (.bool false)).setCell ⟨w.heap.size, 3, none⟩ (.slice none 0 0)).setCell ⟨w.heap.size, 4, none⟩ (.slice none 0 0)) = W7 at *
    have r0 : W7.cell? ⟨w.heap.size, 0, none⟩ = some (.int .i64 0) := cellOf hr 0 _ rfl
    have r1 : W7.cell? ⟨w.heap.size, 1, none⟩ = some (.slice a2 l.length cp) := cellOf hr 1 _ rfl
    have r2 : W7.cell? ⟨w.heap.size, 2, none⟩ = some (.bool false) := cellOf hr 2 _ rfl
    have r3 : W7.cell? ⟨w.heap.size, 3, none⟩ = some (.slice none 0 0) := cellOf hr 3 _ rfl
    have r4 : W7.cell? ⟨w.heap.size, 4, none⟩ = some (.slice none 0 0) := cellOf hr 4 _ rfl
    have hzr := kr.size
    refine bodyPost_ret (v := .agg #[.int .i64 0, .slice a2 l.length cp, .bool false, .slice none 0 0, .slice none 0 0]) (by simp [results, Tryd.results116, go_sem, r0, r1, r2, r3, r4]) rfl ⟨[.int .i64 0, .slice a2 l.length cp, .bool false, .slice none 0 0, .slice none 0 0], rfl, ?_, ((k2.weaken (by simp)).trans kr).fresh (by simp)⟩
    have hrb : RB w2 (fun k => w.heap.size + 1 ≤ k ∧ k < w2.heap.size) (.slice a2 l.length cp) l := hob.rb
    exact HT.of 0 l false [] [] (hrb.keepF (fun k hk => kr.block k hk.2 (by have := hk.1; simp; omega)) (fun k hk => ⟨by have := hk.1; omega, by have := hk.2; omega⟩)) (HTs.nil _ _) (HGs.nil _ _) (by decide) (by decide) (by omega) (by decide)
end Go.Proofs.YtodbdecpacdgiaaDoor
/-
  A region whose one store breaks what its loads stood on: the loads may be taken first all the same, if the store waits for them.
-/
namespace Go.Proofs.YtodbdecpacdgiaaDoor
section
variable {P : Program} {ops : Array Oper} {Q : Exit → Act → World → Prop} {md : Region.Mode} {S : World → Prop} {brk : Nat}
/-- as 'wpAnyH', but behind the operation 'brk' nothing is asked -/
def wpAnyB (P : Program) (md : Region.Mode) (ops : Array Oper) (Q : Exit → Act → World → Prop) (S : World → Prop) (brk : Nat) : Nat → Array Bool → Act → World → Prop
  | 0, listed, a, w => Region.ready md ops listed = [] ∧ Q .normal a w
  | fuel + 1, listed, a, w =>
    (Region.ready md ops listed = [] → Q .normal a w) ∧
    ∀ i ∈ Region.ready md ops listed, wpOp P ops Q i (fun a' w' => (i ≠ brk → S w') ∧ wpAnyB P md ops Q S brk fuel (listed.setIfInBounds i true) a' w') a w
theorem wpAnyB.any : ∀ (fuel : Nat) (listed : Array Bool) (a : Act) (w : World), wpAnyB P md ops Q S brk fuel listed a w → wpAny P md ops Q fuel listed a w
  | 0, _, _, _, h => h
  | fuel + 1, _, _, _, h => ⟨h.1, fun i hi => wpOp_mono (fun a' w' h' => wpAnyB.any fuel _ a' w' h'.2) (h.2 i hi)⟩
/-- a set of operations that holds i and the breaking one; each but i waits for one of the set; none has come up -/
def chainB (md : Region.Mode) (ops : Array Oper) (listed : Array Bool) (i brk : Nat) (D : List Nat) : Bool :=
  D.contains brk && D.all fun d => !listed.getD d true && (d == i || match ops[d]? with
    | some o => o.after.any fun e => Region.binds md e && D.contains e.on
    | none => false)
theorem chain_keep {listed : Array Bool} {i j : Nat} {D : List Nat} (h : chainB md ops listed i brk D = true) (hj : j ∈ Region.ready md ops listed) (hji : j ≠ i) :
    j ≠ brk ∧ chainB md ops (listed.setIfInBounds j true) i brk D = true := by
  unfold chainB at *
  simp only [Bool.and_eq_true, List.all_eq_true] at h
  obtain ⟨hb, hD⟩ := h
  have hn : j ∉ D := fun hjD => by
    obtain ⟨_, o, ho, hall⟩ := mem_ready.1 hj
    obtain ⟨_, h2⟩ := hD j hjD
    simp only [Bool.or_eq_true, beq_iff_eq, hji, false_or, ho] at h2
    obtain ⟨e, he, h3⟩ := Array.any_eq_true'.1 h2
    simp only [Bool.and_eq_true] at h3
    have h4 := hall e he h3.1
    have h5 := (hD e.on (by simpa using h3.2)).1
    simp only [Bool.not_eq_true'] at h5
    rcases Nat.lt_or_ge e.on listed.size with h' | h'
    · simp [h'] at h4 h5; rw [h4] at h5; cases h5
    · simp [Array.getElem?_eq_none h'] at h4
  have hbD : brk ∈ D := by simpa using hb
  refine ⟨fun e => hn (e ▸ hbD), ?_⟩
  simp only [Bool.and_eq_true, List.all_eq_true]
  refine ⟨hb, fun d hd => ?_⟩
  have hdj : j ≠ d := fun e => hn (e ▸ hd)
  rw [getD_set_ne true hdj]
  exact hD d hd
theorem wpAnyB_first {i : Nat} {oi : Oper} {v : Value} (hi : ops[i]? = some oi) (hsel : ∀ (j : Nat) (o : Oper) cs b, ops[j]? = some o → o.op ≠ .select cs b)
    (hQ : ∀ c a w, Q (.panic c) (a.put oi.dst v) w → Q (.panic c) a w) (D : List Nat) :
    ∀ (fuel : Nat) (listed : Array Bool) (a : Act) (w : World),
      (∀ j oj, ops[j]? = some oj → j ≠ i → listed.getD j true = false → (∀ e ∈ oj.after, Region.binds md e = true → e.on ≠ i) → oi.apart ops oj = true) →
      chainB md ops listed i brk D = true →
      i ∈ Region.ready md ops listed → YieldsIf P ops S oi v a → S w →
      wpAnyB P md ops Q S brk fuel (listed.setIfInBounds i true) (a.put oi.dst v) w → wpAnyB P md ops Q S brk (fuel + 1) listed a w := by
  intro fuel
  induction fuel with
  | zero =>
    intro listed a w _ _ hr hy hS H
    refine ⟨fun h => (by rw [h] at hr; cases hr), fun j hj => ?_⟩
    by_cases hji : j = i
    · subst hji; exact hy.wpOp hi hS ⟨fun _ => hS, H⟩
    · have := ready_mono hj hji
      rw [H.1] at this
      cases this
  | succ fuel ih =>
    intro listed a w hfree hch hr hy hS H
    refine ⟨fun h => (by rw [h] at hr; cases hr), fun j hj => ?_⟩
    by_cases hji : j = i
    · subst hji; exact hy.wpOp hi hS ⟨fun _ => hS, H⟩
    · have h1 := H.2 j (ready_mono hj hji)
      obtain ⟨hjun, oj, hoj, hall⟩ := mem_ready.1 hj
      have hnot : ∀ e ∈ oj.after, Region.binds md e = true → e.on ≠ i := fun e he hb heq => by
        have h1 := hall e he hb
        have h0 := (mem_ready.1 hr).1
        rw [heq] at h1
        rcases Nat.lt_or_ge i listed.size with h' | h'
        · simp [h'] at h0 h1; rw [h0] at h1; cases h1
        · simp [Array.getElem?_eq_none h'] at h1
      have h2 := wpOp_putIf hoj (hfree j oj hoj hji hjun hnot) (fun cs b => hsel i oi cs b hi) (fun cs b => hsel j oj cs b hoj) hQ hy h1
      obtain ⟨hjb, hch'⟩ := chain_keep hch hj hji
      have hfree' : ∀ k ok, ops[k]? = some ok → k ≠ i → (listed.setIfInBounds j true).getD k true = false →
          (∀ e ∈ ok.after, Region.binds md e = true → e.on ≠ i) → oi.apart ops ok = true := fun k ok hk hki hun hno => by
        refine hfree k ok hk hki ?_ hno
        by_cases hjk : j = k
        · subst hjk; exact hjun
        · rw [getD_set_ne true hjk] at hun; exact hun
      refine wpOp_mono (fun a' w' h3 => ⟨h3.2.1, ih (listed.setIfInBounds j true) a' w' hfree' hch' (ready_mono hr (Ne.symm hji)) h3.1 (h3.2.1 hjb) ?_⟩) h2
      rw [Array.setIfInBounds_comm _ _ hji]
      exact h3.2.2
/-- take number i first -/
theorem wpAnyB_take {i : Nat} {oi : Oper} {v : Value} (D : List Nat) {fuel : Nat} {listed : Array Bool} {a : Act} {w : World} (hi' : ops.toList[i]? = some oi)
    (hs : Region.noSelect ops = true) (hf : Region.free md ops listed i = true) (hr : (Region.ready md ops listed).contains i = true) (hc : chainB md ops listed i brk D = true)
    (hQ : ∀ c a w, Q (.panic c) (a.put oi.dst v) w → Q (.panic c) a w) (hS : S w) (hy : YieldsIf P ops S oi v a)
    (h : wpAnyB P md ops Q S brk fuel (listed.setIfInBounds i true) (a.put oi.dst v) w) : wpAnyB P md ops Q S brk (fuel + 1) listed a w :=
  have hi : ops[i]? = some oi := by simpa using hi'
  wpAnyB_first hi (Region.noSelect_spec hs) hQ D fuel listed a w (Region.free_spec hi hf) hc (by simpa using hr) hy hS h
/-- all have come up -/
theorem wpAnyB_done {listed : Array Bool} {a : Act} {w : World} (hr : Region.ready md ops listed = []) (h : Q .normal a w) :
    ∀ fuel, wpAnyB P md ops Q S brk fuel listed a w
  | 0 => ⟨hr, h⟩
  | _ + 1 => ⟨fun _ => h, by rw [hr]; simp⟩
/-- one alone may come up: it is carried out -/
theorem wpAnyB_one {k : Nat} {o : Oper} {fuel : Nat} {listed : Array Bool} {a : Act} {w : World} (ho' : ops.toList[k]? = some o) (hr : Region.ready md ops listed = [k])
    (h : ∀ K : Act → World → Prop, Shut (∀ a w, (k ≠ brk → S w) → ((k ≠ brk → S w) → wpAnyB P md ops Q S brk fuel (listed.setIfInBounds k true) a w) → K a w) →
      if Region.wanted o (yielded ops a.tmps) = true then Oper.wp P o a w K Q else K (a.put o.dst undef) w) : wpAnyB P md ops Q S brk (fuel + 1) listed a w := by
  have ho : ops[k]? = some o := by simpa using ho'
  refine ⟨fun h0 => (by rw [h0] at hr; cases hr), fun i hi => ?_⟩
  rw [hr] at hi
  obtain rfl := List.mem_singleton.1 hi
  exact wpOp_step ho (fun K hK => h K (fun a w hS hW => hK a w ⟨hS, hW hS⟩))
/-- the beginning -/
theorem wp_region_B {id : Nat} {a : Act} {w : World} (brk : Nat) (S : World → Prop) (hm : P.follows .mixedOrders = true) (hS : S w.drew)
    (h : S w.drew → wpAnyB P .any ops Q S brk ops.size (Array.replicate ops.size false) a w.drew) : (Code.region id ops true).wp P Q a w :=
  wp_region_any hm ((h hS).any)
/-- two may come up -/
theorem wpAnyB_two {i j : Nat} {oi oj : Oper} {fuel : Nat} {listed : Array Bool} {a : Act} {w : World} (hi' : ops.toList[i]? = some oi) (hj' : ops.toList[j]? = some oj) (hr : Region.ready md ops listed = [i, j])
    (h1 : ∀ K : Act → World → Prop, Shut (∀ a w, (i ≠ brk → S w) → ((i ≠ brk → S w) → wpAnyB P md ops Q S brk fuel (listed.setIfInBounds i true) a w) → K a w) →
      if Region.wanted oi (yielded ops a.tmps) = true then Oper.wp P oi a w K Q else K (a.put oi.dst undef) w)
    (h2 : ∀ K : Act → World → Prop, Shut (∀ a w, (j ≠ brk → S w) → ((j ≠ brk → S w) → wpAnyB P md ops Q S brk fuel (listed.setIfInBounds j true) a w) → K a w) →
      if Region.wanted oj (yielded ops a.tmps) = true then Oper.wp P oj a w K Q else K (a.put oj.dst undef) w) : wpAnyB P md ops Q S brk (fuel + 1) listed a w := by
  have hi : ops[i]? = some oi := by simpa using hi'
  have hj : ops[j]? = some oj := by simpa using hj'
  refine ⟨fun h0 => (by rw [h0] at hr; cases hr), fun k hk => ?_⟩
  rw [hr] at hk
  rcases List.mem_cons.1 hk with rfl | hk
  · exact wpOp_step hi (fun K hK => h1 K (fun a w hS hW => hK a w ⟨hS, hW hS⟩))
  · obtain rfl := List.mem_singleton.1 hk
    exact wpOp_step hj (fun K hK => h2 K (fun a w hS hW => hK a w ⟨hS, hW hS⟩))
/-- three cells -/
def S3 (a1 a2 a3 : Addr) (v1 v2 v3 : Value) (w : World) : Prop := w.cell? a1 = some v1 ∧ w.cell? a2 = some v2 ∧ w.cell? a3 = some v3
theorem wp_region_B3 {id : Nat} {a : Act} {w : World} (brk : Nat) {a1 a2 a3 : Addr} {v1 v2 v3 : Value} (hm : P.follows .mixedOrders = true) (h1 : w.cell? a1 = some v1) (h2 : w.cell? a2 = some v2) (h3 : w.cell? a3 = some v3)
    (h : S3 a1 a2 a3 v1 v2 v3 w.drew → wpAnyB P .any ops Q (S3 a1 a2 a3 v1 v2 v3) brk ops.size (Array.replicate ops.size false) a w.drew) : (Code.region id ops true).wp P Q a w :=
  wp_region_B brk _ hm ⟨h1, h2, h3⟩ h
/-- four cells -/
def S4 (a1 a2 a3 a4 : Addr) (v1 v2 v3 v4 : Value) (w : World) : Prop := w.cell? a1 = some v1 ∧ w.cell? a2 = some v2 ∧ w.cell? a3 = some v3 ∧ w.cell? a4 = some v4
theorem wp_region_B4 {id : Nat} {a : Act} {w : World} (brk : Nat) {a1 a2 a3 a4 : Addr} {v1 v2 v3 v4 : Value} (hm : P.follows .mixedOrders = true) (h1 : w.cell? a1 = some v1) (h2 : w.cell? a2 = some v2) (h3 : w.cell? a3 = some v3) (h4 : w.cell? a4 = some v4)
    (h : S4 a1 a2 a3 a4 v1 v2 v3 v4 w.drew → wpAnyB P .any ops Q (S4 a1 a2 a3 a4 v1 v2 v3 v4) brk ops.size (Array.replicate ops.size false) a w.drew) : (Code.region id ops true).wp P Q a w :=
  wp_region_B brk _ hm ⟨h1, h2, h3, h4⟩ h
end
end Go.Proofs.YtodbdecpacdgiaaDoor
/-
  HOW FAR A TREE HAS BEEN TOLD: the states of tell's walks.
-/
namespace Go.Proofs.YtodbdecpacdgiaaDoor
open Go.ChangeShapes Go.WideShapes Go.ChangeAt Go.RowKit

def Nt (w : World) (tb lb : Nat) (U : World) (k : Nat) : Prop := w.heap.size ≤ k ∧ k < U.heap.size ∧ k ≠ tb ∧ k ≠ lb
theorem nt_grow {w U U' : World} {tb lb : Nat} (h : U.heap.size ≤ U'.heap.size) : ∀ k, Nt w tb lb U k → Nt w tb lb U' k := fun _ hk => ⟨hk.1, Nat.lt_of_lt_of_le hk.2.1 h, hk.2.2⟩
theorem nt_same {A : List Nat} {w U U' : World} {tb lb : Nat} (k : Keep A U U') (hA : ∀ i, i ∈ A → i = tb ∨ i = lb ∨ U.heap.size ≤ i) : SameOn (Nt w tb lb U) U U' := fun i hi => by
  refine k.block i hi.2.1 fun ha => ?_
  rcases hA i ha with e | e | e
  · exact hi.2.2.1 e
  · exact hi.2.2.2 e
  · have := hi.2.1; omega
/-- the trees ts are told; rest: the cells of those to come -/
structure TlSt (w U : World) (tb lb n : Nat) (ts : List T) (rest : List Value) : Prop where
  tree : U.heap[tb]? = some (.cells #[.int .i64 0, .slice none 0 0, .bool false, .slice (some ⟨lb, 0, none⟩) n n, .slice none 0 0] 27 (0, 0))
  row : ∃ css : List (List Value), css.length = ts.length ∧ (∀ i (h1 : i < ts.length) (h2 : i < css.length), HT U (Nt w tb lb U) ts[i] css[i]) ∧ U.heap[lb]? = some (.cells (css.flatten ++ rest).toArray 27 (0, 0))
  keep : Keep [] w U
  tl : w.heap.size ≤ tb
  ll : w.heap.size ≤ lb
  ne : tb ≠ lb
theorem css_len {w : World} {G : Nat → Prop} {ts : List T} {css : List (List Value)} (h1 : css.length = ts.length) (h2 : ∀ i (h1 : i < ts.length) (h2 : i < css.length), HT w G ts[i] css[i]) : css.flatten.length = 5 * ts.length := by
  rw [flatten_len css 5 fun c hc => ?_, h1]
  obtain ⟨i, hi, rfl⟩ := List.getElem_of_mem hc
  exact (h2 i (by omega) hi).five
theorem css_snoc {w : World} {G : Nat → Prop} {ts : List T} {css : List (List Value)} {t : T} {c : List Value} (h1 : css.length = ts.length) (h2 : ∀ i (h1 : i < ts.length) (h2 : i < css.length), HT w G ts[i] css[i]) (ht : HT w G t c) :
    ∀ i (h1 : i < (ts ++ [t]).length) (h2 : i < (css ++ [c]).length), HT w G (ts ++ [t])[i] (css ++ [c])[i] := fun i a b => by
  rcases Nat.lt_or_ge i ts.length with hi | hi
  · rw [List.getElem_append_left hi, List.getElem_append_left (by omega)]
    exact h2 i hi (by omega)
  · have hi' : i = ts.length := by simp at a; omega
    subst hi'
    rw [List.getElem_append_right (by omega), List.getElem_append_right (by omega)]
    simp only [h1, Nat.sub_self, List.getElem_singleton]
    exact ht
namespace TlSt
variable {w U U' : World} {tb lb n : Nat} {ts : List T} {rest : List Value}
theorem calm (h : TlSt w U tb lb n ts rest) (k : Keep [] U U') : TlSt w U' tb lb n ts rest := by
  obtain ⟨css, h1, h2, h3⟩ := h.row
  exact ⟨(k.block tb (World.heap_lt h.tree) (by simp)).trans h.tree, ⟨css, h1, fun i a b => (h2 i a b).keepF (nt_same k (by simp)) (nt_grow k.size), (k.block lb (World.heap_lt h3) (by simp)).trans h3⟩, h.keep.trans k, h.tl, h.ll, h.ne⟩
theorem d3 (h : TlSt w U tb lb n ts rest) : U.cell? ⟨tb, 3, none⟩ = some (.slice (some ⟨lb, 0, none⟩) n n) := cellOf h.tree 3 _ rfl
theorem at_ (h : TlSt w U tb lb n ts rest) {o j : Nat} {v : Value} (ho : o = 5 * ts.length + j) (hv : rest[j]? = some v) : U.cell? ⟨lb, o, none⟩ = some v ∧ U.frozen? ⟨lb, o, none⟩ = false := by
  obtain ⟨css, h1, h2, h3⟩ := h.row
  have hl := css_len h1 h2
  refine ⟨cellOf h3 o _ ?_, freeOf h3 o⟩
  subst ho
  rw [← hl]
  simp [List.getElem?_append_right, hv]
theorem put {a b c d e v0 v1 v2 v3 v4 : Value} {t : T} (h : TlSt w U tb lb n ts (a :: b :: c :: d :: e :: rest)) {o0 o1 o2 o3 o4 : Nat} (e0 : o0 = 5 * ts.length) (e1 : o1 = 5 * ts.length + 1) (e2 : o2 = 5 * ts.length + 2) (e3 : o3 = 5 * ts.length + 3) (e4 : o4 = 5 * ts.length + 4)
    (ht : HT U (Nt w tb lb U) t [v0, v1, v2, v3, v4]) : TlSt w (((((U.setCell ⟨lb, o0, none⟩ v0).setCell ⟨lb, o1, none⟩ v1).setCell ⟨lb, o2, none⟩ v2).setCell ⟨lb, o3, none⟩ v3).setCell ⟨lb, o4, none⟩ v4) tb lb n (ts ++ [t]) rest := by
  obtain ⟨css, h1, h2, h3⟩ := h.row
  have hl := css_len h1 h2
  have hll := h.ll
  subst e0 e1 e2 e3 e4
  have k : Keep [lb] U (((((U.setCell ⟨lb, 5 * ts.length, none⟩ v0).setCell ⟨lb, 5 * ts.length + 1, none⟩ v1).setCell ⟨lb, 5 * ts.length + 2, none⟩ v2).setCell ⟨lb, 5 * ts.length + 3, none⟩ v3).setCell ⟨lb, 5 * ts.length + 4, none⟩ v4) :=
    (((((Keep.refl _ _).setCell (.inl (by simp)) _).setCell (.inl (by simp)) _).setCell (.inl (by simp)) _).setCell (.inl (by simp)) _).setCell (.inl (by simp)) _
  refine ⟨(k.block tb (World.heap_lt h.tree) (by simp; exact h.ne)).trans h.tree, ⟨css ++ [[v0, v1, v2, v3, v4]], by simp [h1], css_snoc h1 h2 ht |> fun q i a b => (q i a b).keepF (nt_same k (by simp)) (nt_grow k.size), ?_⟩, ?_, h.tl, h.ll, h.ne⟩
  · rw [heap_set (heap_set (heap_set (heap_set (heap_set h3 v0) v1) v2) v3) v4, ← hl]
    simp [List.set_append_right]
  · exact ((h.keep.weaken (B := [lb]) (by simp)).trans k).fresh (by simp; omega)
end TlSt
/-- .. and a list is being told: xs are, in the slice lv -/
structure TlCur (w U : World) (tb lb n : Nat) (ts : List T) (null : Bool) (lv : Value) (xs : List T) (rest : List Value) : Prop where
  tree : U.heap[tb]? = some (.cells #[.int .i64 0, .slice none 0 0, .bool false, .slice (some ⟨lb, 0, none⟩) n n, .slice none 0 0] 27 (0, 0))
  row : ∃ css : List (List Value), css.length = ts.length ∧ (∀ i (h1 : i < ts.length) (h2 : i < css.length), HT U (Off (Nt w tb lb U) lv) ts[i] css[i]) ∧ U.heap[lb]? = some (.cells (css.flatten ++ ([.int .i64 0, .slice none 0 0, .bool null, lv, .slice none 0 0] ++ rest)).toArray 27 (0, 0))
  lst : OT U w.heap.size 27 (Nt w tb lb U) lv xs
  own : ∀ k, lv.ownBlock = some k → k ≠ tb ∧ k ≠ lb
  keep : Keep [] w U
  tl : w.heap.size ≤ tb
  ll : w.heap.size ≤ lb
  ne : tb ≠ lb
theorem TlSt.open {w U : World} {tb lb n : Nat} {ts : List T} {rest : List Value} (h : TlSt w U tb lb n ts (.int .i64 0 :: .slice none 0 0 :: .bool false :: .slice none 0 0 :: .slice none 0 0 :: rest)) {o : Nat} (ho : o = 5 * ts.length + 2) (null : Bool) :
    TlCur w (U.setCell ⟨lb, o, none⟩ (.bool null)) tb lb n ts null (.slice none 0 0) [] rest := by
  obtain ⟨css, h1, h2, h3⟩ := h.row
  have hl := css_len h1 h2
  have hll := h.ll
  subst ho
  have k : Keep [lb] U (U.setCell ⟨lb, 5 * ts.length + 2, none⟩ (.bool null)) := (Keep.refl _ _).setCell (.inl (by simp)) _
  refine ⟨(k.block tb (World.heap_lt h.tree) (by simp; exact h.ne)).trans h.tree, ⟨css, h1, fun i a b => (h2 i a b).keepF (nt_same k (by simp)) (fun i hi => ⟨nt_grow k.size i hi, by simp [Value.ownBlock]⟩), ?_⟩, OT.nil _ _ _ _, (fun k e => by cases e), ((h.keep.weaken (B := [lb]) (by simp)).trans k).fresh (by simp; omega), h.tl, h.ll, h.ne⟩
  rw [heap_set h3, ← hl]
  simp [List.set_append_right]
namespace TlCur
variable {w U U' : World} {tb lb n : Nat} {ts : List T} {null : Bool} {lv : Value} {xs : List T} {rest : List Value}
theorem calm (h : TlCur w U tb lb n ts null lv xs rest) (k : Keep [] U U') : TlCur w U' tb lb n ts null lv xs rest := by
  obtain ⟨css, h1, h2, h3⟩ := h.row
  refine ⟨(k.block tb (World.heap_lt h.tree) (by simp)).trans h.tree, ⟨css, h1, fun i a b => (h2 i a b).keepF (fun i hi => nt_same k (by simp) i hi.1) (fun i hi => ⟨nt_grow k.size i hi.1, hi.2⟩), (k.block lb (World.heap_lt h3) (by simp)).trans h3⟩, ?_, h.own, h.keep.trans k, h.tl, h.ll, h.ne⟩
  obtain ⟨xs0, hrow⟩ := h.lst.row
  exact h.lst.keepF (nt_same k (by simp)) (nt_grow k.size) (fun i e => k.block i (hrow.lt i e).2 (by simp))
theorem d3 (h : TlCur w U tb lb n ts null lv xs rest) : U.cell? ⟨tb, 3, none⟩ = some (.slice (some ⟨lb, 0, none⟩) n n) := cellOf h.tree 3 _ rfl
theorem l3 (h : TlCur w U tb lb n ts null lv xs rest) {o : Nat} (ho : o = 5 * ts.length + 3) : U.cell? ⟨lb, o, none⟩ = some lv ∧ U.frozen? ⟨lb, o, none⟩ = false := by
  obtain ⟨css, h1, h2, h3⟩ := h.row
  have hl := css_len h1 h2
  refine ⟨cellOf h3 o _ ?_, freeOf h3 o⟩
  subst ho
  rw [← hl]
  simp
/-- one tree more: U2 is U and new blocks, U3 is it with the grown row -/
theorem push {U2 U3 : World} {x : T} {c : List Value} {g cap o : Nat} {cs : List (List Value)} (h : TlCur w U tb lb n ts null lv xs rest) (ho : o = 5 * ts.length + 3) (k2 : Keep [] U U2) (h1 : cs.length = xs.length) (h2 : ∀ i (a : i < xs.length) (b : i < cs.length), HT U2 (Off (Nt w tb lb U2) lv) xs[i] cs[i])
    (hx : HT U2 (fun k => U.heap.size ≤ k ∧ k < U2.heap.size) x c) (hl : xs.length + 1 ≤ 1099511627776) (hrow : U3.ownsRow w.heap.size 27 5 (.slice (some ⟨g, 0, none⟩) (xs.length + 1) cap) (xs.length + 1) (cs.flatten ++ c)) (hgr : U2.grownBy U3 lv.ownBlock) (hat : lv.ownBlock = some g ∨ g = U2.heap.size) :
    TlCur w (U3.setCell ⟨lb, o, none⟩ (.slice (some ⟨g, 0, none⟩) (xs.length + 1) cap)) tb lb n ts null (.slice (some ⟨g, 0, none⟩) (xs.length + 1) cap) (xs ++ [x]) rest := by
  have hc := h.calm k2
  obtain ⟨xs0, hrow0⟩ := h.lst.row
  have htl := h.tl
  have hll := h.ll
  have hne := h.ne
  have hlt := World.heap_lt h.tree
  have hlU : lb < U.heap.size := by
    obtain ⟨css', _, _, r3'⟩ := h.row
    exact World.heap_lt r3'
  have hz2 := k2.size
  have hz3 := hgr.size
  have hzw := h.keep.size
  obtain ⟨css, r1, r2, r3⟩ := hc.row
  have hlb := World.heap_lt r3
  have hlen := css_len r1 r2
  have hgl := hrow.lt g rfl
  have hgt : g ≠ tb ∧ g ≠ lb := by
    rcases hat with e | e
    · exact h.own g e
    · omega
  have hob : ∀ k, lv.ownBlock = some k → k < U.heap.size := fun k e => (hrow0.lt k e).2
  have P := OT.push (w := U2) (w' := U3) (G := Nt w tb lb U2) h1 h2 (hx.keepF (fun _ _ => rfl) (fun k hk => by have a1 := hk.1; have a2 := hk.2; exact ⟨⟨by omega, a2, by omega, by omega⟩, fun e => by have := hob k e.symm; omega⟩)) (fun k hk => hk.2.1) hl hrow hgr (hat.imp id (fun e => by omega))
  have k3 : ∀ k, k < U2.heap.size → lv.ownBlock ≠ some k → U3.heap[k]? = U2.heap[k]? := fun k hk hn => hgr.block k hk (fun e => hn e.symm)
  have hs : ∀ k, k ≠ lb → (U3.setCell ⟨lb, o, none⟩ (.slice (some ⟨g, 0, none⟩) (xs.length + 1) cap)).heap[k]? = U3.heap[k]? := fun k hk => Below.heap_setCell _ _ _ _ (fun e => hk (by simpa using e))
  have hz4 : (U3.setCell ⟨lb, o, none⟩ (.slice (some ⟨g, 0, none⟩) (xs.length + 1) cap)).heap.size = U3.heap.size := by simp [World.setCell]
  have b3 := (k3 lb hlb (fun e => (h.own lb e).2 rfl)).trans r3
  have sm : ∀ k, Off (Nt w tb lb U2) lv k → (U3.setCell ⟨lb, o, none⟩ (.slice (some ⟨g, 0, none⟩) (xs.length + 1) cap)).heap[k]? = U2.heap[k]? := fun k hk => (hs k hk.1.2.2.2).trans (k3 k hk.1.2.1 (fun e => hk.2 e.symm))
  refine ⟨(hs tb hne).trans ((k3 tb (by omega) (fun e => (h.own tb e).1 rfl)).trans hc.tree), ⟨css, r1, fun i a b => ?_, ?_⟩, P.keepF (fun k hk => hs k hk.2.2.2) (fun k hk => ⟨hk.1, by have := hk.2.1; omega, hk.2.2⟩) (fun k e => ?_), (fun k e => ?_), ?_, htl, hll, hne⟩
  · refine (r2 i a b).keepF sm fun k hk => ⟨⟨hk.1.1, by have := hk.1.2.1; omega, hk.1.2.2⟩, fun e => ?_⟩
    have e' : k = g := by simpa [Value.ownBlock] using e
    subst e'
    rcases hat with h | h
    · exact hk.2 h.symm
    · have := hk.1.2.1; omega
  · subst ho
    rw [heap_set b3, ← hlen]
    simp [List.set_append_right]
  · have e' : k = g := by simpa [Value.ownBlock] using e.symm
    subst e'
    exact hs _ hgt.2
  · have e' : k = g := by simpa [Value.ownBlock] using e.symm
    subst e'
    exact hgt
  · refine ⟨hgr.os.trans (k2.os.trans h.keep.os), hgr.tape.trans (k2.tape.trans h.keep.tape), hgr.output.trans (k2.output.trans h.keep.output), by omega, fun k hk _ => ?_⟩
    rw [hs k (by omega), k3 k (by omega) (fun e => by have := hrow0.lt k e; omega), k2.block k (by omega) (by simp)]
    exact h.keep.block k hk (by simp)
/-- the list is told whole -/
theorem close (h : TlCur w U tb lb n ts null lv xs rest) : TlSt w U tb lb n (ts ++ [.mk 0 [] null xs []]) rest := by
  obtain ⟨css, h1, h2, h3⟩ := h.row
  obtain ⟨xs0, hrow0⟩ := h.lst.row
  have hts : HTs U (Nt w tb lb U) lv xs := by
    obtain ⟨cs, c1, c2, c3, c4⟩ := h.lst
    refine ⟨cs, c1, fun i a b => (c2 i a b).keepF (fun _ _ => rfl) (fun k hk => hk.1), Nat.le_trans c3 (by decide), ?_⟩
    rw [c1]
    obtain ⟨ao, cap, e, p1, p2, p3⟩ := ownsRow_rs c4
    refine ⟨ao, cap, e, p1, p2, fun a ha => ⟨(p3 a ha).1, fun i hi => ⟨⟨((p3 a ha).2 i hi).1.1, ((p3 a ha).2 i hi).1.2, ?_⟩, ((p3 a ha).2 i hi).2⟩⟩⟩
    refine h.own a.block ?_
    rw [e, ha]
    rcases c4.2 with ⟨q, _⟩ | ⟨g, cap', cur, q, _⟩
    · rw [q] at e; rw [ha] at e; cases e
    · rw [q] at e; rw [ha] at e; cases e; rfl
  exact ⟨h.tree, ⟨css ++ [_], by simp [h1], css_snoc h1 (fun i a b => (h2 i a b).keepF (fun _ _ => rfl) (fun k hk => hk.1)) (HT.of 0 [] null xs [] (RB.nil _ _) hts (HGs.nil _ _) (by decide) (by decide) (by decide) (by obtain ⟨_, _, _, c3, _⟩ := h.lst; exact c3)), by rw [h3]; simp⟩, h.keep, h.tl, h.ll, h.ne⟩
end TlCur
theorem run_f64bits (n : Nat) (w : World) : (callFunc 148 #[.float .f64 n]).run Tryd.prog w = .ok (.value (.int .u64 (n : Int))) w := by
  rw [run_callFunc_extern (fn := Tryd.f148) (e := Extern.MathFloatBits.float64bits) Tryd.func148 (by kernel_rfl) (by kernel_rfl) (by kernel_rfl) (by kernel_rfl)]
  rfl
/-- a call of a function for which the model stands in, as a step of a region that draws its order -/
theorem step_extern {P : Program} {w : World} {ops : Array Oper} {o : Oper} {a : Act} {Q : Exit → Act → World → Prop} {K : Act → World → Prop} {E : Prop} (hgd : o.guard = none) (k : Nat) (ps : Array Operand) (ts : Array TypeId)
    (ho : o.op = .call { callee := .value (.func k), args := ps, argTypes := ts }) (args : Array Value) (hargs : ps.map a.eval = args) (v : Value)
    (hc : ∀ w, (callFunc k args).run P w = .ok (.value v) w) (h : K (a.put o.dst v) w) : if Region.wanted o (yielded ops a.tmps) = true then Oper.wp P o a w K Q else E := by
  have hw : Region.wanted o (yielded ops a.tmps) = true := by simp [Region.wanted, hgd]
  rw [if_pos hw]
  have hrun : (execOp a.eval o).run P w = .ok (.value v) w := by
    have e1 : a.eval (.func k) = .func (.func k) #[] #[] := rfl
    simp [execOp, ho, resolve, Deferred.ofValue, invoke, e1, hargs, bind, pure, Sem.bind]
    exact hc w
  unfold Oper.wp
  rw [hrun]
  exact h
theorem f64_wrap {n : Nat} (h : n < 18446744073709551616) : IntKind.i64.wrap (n : Int) = sgn 8 n := by
  simp only [sgn, IntKind.wrap_i64]
  split <;> omega
theorem f64_range {n : Nat} (h : n < 18446744073709551616) : -9223372036854775808 ≤ sgn 8 n ∧ sgn 8 n ≤ 9223372036854775807 := by
  simp only [sgn]
  split <;> omega
end Go.Proofs.YtodbdecpacdgiaaDoor
/-
  FIELDS TAKEN APART, for tell's walks.
-/
namespace Go.Proofs.YtodbdecpacdgiaaDoor
open Go.ChangeShapes Go.WideShapes Go.ChangeAt Go.RowKit

theorem info_it : (Tryd.prog.info? 27).map (fun i => (i.size, i.bytes)) = some (5, 88) := by kernel_rfl
theorem zero_it : (Tryd.prog.info? 27).bind (fun i => i.zero) = some (.agg #[.int .i64 0, .slice none 0 0, .bool false, .slice none 0 0, .slice none 0 0]) := by kernel_rfl
theorem TlCur.drew {w U : World} {tb lb n : Nat} {ts : List T} {null : Bool} {lv : Value} {xs : List T} {rest : List Value} (h : TlCur w U tb lb n ts null lv xs rest) : TlCur w U.drew tb lb n ts null lv xs rest := h.calm (Keep.refl [] U).drew
theorem TlSt.lts {w U : World} {tb lb n : Nat} {ts : List T} {rest : List Value} (h : TlSt w U tb lb n ts rest) : lb < U.heap.size ∧ tb < U.heap.size := by
  obtain ⟨css, _, _, r3⟩ := h.row
  exact ⟨World.heap_lt r3, World.heap_lt h.tree⟩
theorem TlCur.lts {w U : World} {tb lb n : Nat} {ts : List T} {null : Bool} {lv : Value} {xs : List T} {rest : List Value} (h : TlCur w U tb lb n ts null lv xs rest) : lb < U.heap.size ∧ tb < U.heap.size := by
  obtain ⟨css, _, _, r3⟩ := h.row
  exact ⟨World.heap_lt r3, World.heap_lt h.tree⟩
theorem TlSt.drew {w U : World} {tb lb n : Nat} {ts : List T} {rest : List Value} (h : TlSt w U tb lb n ts rest) : TlSt w U.drew tb lb n ts rest := h.calm (Keep.refl [] U).drew
theorem TlSt.ntNew {w U W : World} {tb lb n : Nat} {ts : List T} {rest : List Value} (h : TlSt w U tb lb n ts rest) : ∀ k, (U.heap.size ≤ k ∧ k < W.heap.size) → Nt w tb lb W k := fun k hk => by
  have h1 := World.heap_lt h.tree
  obtain ⟨css, _, _, h3⟩ := h.row
  have h2 := World.heap_lt h3
  have h4 := h.keep.size
  exact ⟨by omega, hk.2, by omega, by omega⟩
theorem TlCur.row3 {w U W : World} {tb lb n : Nat} {ts : List T} {null : Bool} {lv : Value} {xs : List T} {rest : List Value} (h : TlCur w U tb lb n ts null lv xs rest) {o : Nat} (ho : o = 5 * ts.length + 3) (hgr : U.grownBy W lv.ownBlock) :
    W.cell? ⟨lb, o, none⟩ = some lv ∧ W.frozen? ⟨lb, o, none⟩ = false := by
  obtain ⟨css, h1, h2, h3⟩ := h.row
  have hl := css_len h1 h2
  have h4 := (hgr.block lb (World.heap_lt h3) (fun e => (h.own lb e.symm).2 rfl)).trans h3
  refine ⟨cellOf h4 o _ ?_, freeOf h4 o⟩
  subst ho
  rw [← hl]
  simp
/-- a list gains a tree, however the world came to be -/
theorem TlCur.pushAbs {w U U2 V : World} {tb lb n : Nat} {ts : List T} {null : Bool} {lv : Value} {xs : List T} {rest : List Value} {x : T} {c : List Value} {g cap o : Nat} {cs : List (List Value)} (h : TlCur w U tb lb n ts null lv xs rest) (ho : o = 5 * ts.length + 3) (k2 : Keep [] U U2) (h1 : cs.length = xs.length) (h2 : ∀ i (a : i < xs.length) (b : i < cs.length), HT U2 (Off (Nt w tb lb U2) lv) xs[i] cs[i])
    (hx : HT U2 (fun k => U.heap.size ≤ k ∧ k < U2.heap.size) x c) (hl : xs.length + 1 ≤ 1099511627776) (hrow : V.ownsRow w.heap.size 27 5 (.slice (some ⟨g, 0, none⟩) (xs.length + 1) cap) (xs.length + 1) (cs.flatten ++ c))
    (hat : lv.ownBlock = some g ∨ g = U2.heap.size) (hos : V.os = U2.os) (htp : V.tape = U2.tape) (hou : V.output = U2.output) (hsz : U2.heap.size ≤ V.heap.size)
    (hlbV : ∀ c0 : Array Value, U2.heap[lb]? = some (.cells c0 27 (0, 0)) → V.heap[lb]? = some (.cells (c0.setIfInBounds o (.slice (some ⟨g, 0, none⟩) (xs.length + 1) cap)) 27 (0, 0)))
    (hblk : ∀ k, k < U2.heap.size → k ≠ lb → lv.ownBlock ≠ some k → V.heap[k]? = U2.heap[k]?) :
    TlCur w V tb lb n ts null (.slice (some ⟨g, 0, none⟩) (xs.length + 1) cap) (xs ++ [x]) rest := by
  have hc := h.calm k2
  obtain ⟨xs0, hrow0⟩ := h.lst.row
  have htl := h.tl
  have hll := h.ll
  have hne := h.ne
  have hlt := World.heap_lt h.tree
  have hlU : lb < U.heap.size := by
    obtain ⟨css', _, _, r3'⟩ := h.row
    exact World.heap_lt r3'
  have hz2 := k2.size
  have hzw := h.keep.size
  obtain ⟨css, r1, r2, r3⟩ := hc.row
  have hlen := css_len r1 r2
  have hgl := hrow.lt g rfl
  have hgt : g ≠ tb ∧ g ≠ lb := by
    rcases hat with e | e
    · exact h.own g e
    · omega
  have hob : ∀ k, lv.ownBlock = some k → w.heap.size ≤ k ∧ k < U.heap.size := fun k e => hrow0.lt k e
  have sm : ∀ k, Off (Nt w tb lb U2) lv k → V.heap[k]? = U2.heap[k]? := fun k hk => hblk k hk.1.2.1 hk.1.2.2.2 (fun e => hk.2 e.symm)
  have gr : ∀ k, Off (Nt w tb lb U2) lv k → Off (Nt w tb lb V) (.slice (some ⟨g, 0, none⟩) (xs.length + 1) cap) k := fun k hk => ⟨⟨hk.1.1, by have := hk.1.2.1; omega, hk.1.2.2⟩, fun e => by
    have e' : k = g := by simpa [Value.ownBlock] using e
    subst e'
    rcases hat with h | h
    · exact hk.2 h.symm
    · have := hk.1.2.1; omega⟩
  have hx' : HT U2 (Off (Nt w tb lb U2) lv) x c := hx.keepF (fun _ _ => rfl) (fun k hk => by have a1 := hk.1; have a2 := hk.2; exact ⟨⟨by omega, a2, by omega, by omega⟩, fun e => by have := (hob k e.symm).2; omega⟩)
  refine ⟨(hblk tb (by omega) hne (fun e => (h.own tb e).1 rfl)).trans hc.tree, ⟨css, r1, fun i a b => (r2 i a b).keepF sm gr, ?_⟩, ⟨cs ++ [c], by simp [h1], ?_, by simpa using hl, by simpa using hrow⟩, (fun k e => ?_), ?_, htl, hll, hne⟩
  · rw [hlbV _ r3]
    subst ho
    rw [← hlen]
    simp [List.set_append_right]
  · exact fun i a b => (css_snoc h1 h2 hx' i a b).keepF sm gr
  · have e' : k = g := by simpa [Value.ownBlock] using e.symm
    subst e'
    exact hgt
  · refine ⟨hos.trans (k2.os.trans h.keep.os), htp.trans (k2.tape.trans h.keep.tape), hou.trans (k2.output.trans h.keep.output), by omega, fun k hk _ => ?_⟩
    rw [hblk k (by omega) (by omega) (fun e => by have := hob k e; omega), k2.block k (by omega) (by simp)]
    exact h.keep.block k hk (by simp)
theorem TlCur.apart {w U V : World} {tb lb n m cap g : Nat} {ts : List T} {null : Bool} {lv : Value} {xs : List T} {rest ys : List Value} (h : TlCur w U tb lb n ts null lv xs rest) (_hrow : V.ownsRow w.heap.size 27 5 (.slice (some ⟨g, 0, none⟩) m cap) m ys) (hat : lv.ownBlock = some g ∨ g = U.heap.size) : g ≠ lb := by
  obtain ⟨css, _, _, r3⟩ := h.row
  have := World.heap_lt r3
  rcases hat with e | e
  · exact (h.own g e).2
  · omega
theorem heap_set5 {w : World} {b i : Nat} {c : Array Value} {t : TypeId} {z : Nat × Nat} (h : w.heap[b]? = some (.cells c t z)) (v0 v1 v2 v3 v4 : Value) :
    (((((w.setCell ⟨b, i, none⟩ v0).setCell ⟨b, i + 1, none⟩ v1).setCell ⟨b, i + 2, none⟩ v2).setCell ⟨b, i + 3, none⟩ v3).setCell ⟨b, i + 4, none⟩ v4).heap[b]? = some (.cells (((((c.setIfInBounds i v0).setIfInBounds (i + 1) v1).setIfInBounds (i + 2) v2).setIfInBounds (i + 3) v3).setIfInBounds (i + 4) v4) t z) :=
  heap_set (heap_set (heap_set (heap_set (heap_set h v0) v1) v2) v3) v4
theorem own_set5 {w : World} {B E g cap n : Nat} {xs : List Value} {z0 z1 z2 z3 z4 : Value} (h : w.ownsRow B E 5 (.slice (some ⟨g, 0, none⟩) (n + 1) cap) (n + 1) (xs ++ [z0, z1, z2, z3, z4])) (v0 v1 v2 v3 v4 : Value) :
    (((((w.setCell ⟨g, n * 5, none⟩ v0).setCell ⟨g, n * 5 + 1, none⟩ v1).setCell ⟨g, n * 5 + 2, none⟩ v2).setCell ⟨g, n * 5 + 3, none⟩ v3).setCell ⟨g, n * 5 + 4, none⟩ v4).ownsRow B E 5 (.slice (some ⟨g, 0, none⟩) (n + 1) cap) (n + 1) (xs ++ [v0, v1, v2, v3, v4]) ∧
      ∃ cur : Array Value, w.heap[g]? = some (.cells cur E (0, 0)) ∧ cur[n * 5]? = some z0 ∧ cur[n * 5 + 1]? = some z1 ∧ cur[n * 5 + 2]? = some z2 ∧ cur[n * 5 + 3]? = some z3 ∧ cur[n * 5 + 4]? = some z4 := by
  obtain ⟨h0, ⟨e, _⟩ | ⟨g', cap', cur, e, hb, hg, hn, hm, hz, ht⟩⟩ := h
  · cases e
  · cases e
    have hxl : xs.length = n * 5 := by simp at h0; omega
    have hcl : cur.toList = (xs ++ [z0, z1, z2, z3, z4]) ++ cur.toList.drop ((n + 1) * 5) := by
      conv => lhs; rw [← List.take_append_drop ((n + 1) * 5) cur.toList]
      rw [ht]
    have hcur : cur = ((xs ++ [z0, z1, z2, z3, z4]) ++ cur.toList.drop ((n + 1) * 5)).toArray := by
      rw [← hcl]
    generalize cur.toList.drop ((n + 1) * 5) = tl at *
    have hset := heap_set5 (i := n * 5) hg v0 v1 v2 v3 v4
    have hs : ((((cur.setIfInBounds (n * 5) v0).setIfInBounds (n * 5 + 1) v1).setIfInBounds (n * 5 + 2) v2).setIfInBounds (n * 5 + 3) v3).setIfInBounds (n * 5 + 4) v4 = (xs ++ [v0, v1, v2, v3, v4] ++ tl).toArray := by
      rw [hcur, ← hxl]
      simp [List.set_append_right]
    rw [hs] at hset
    have hsz : cur.size = xs.length + 5 + tl.length := by rw [hcur]; simp; omega
    refine ⟨⟨by simp; omega, .inr ⟨g, cap, _, rfl, hb, hset, hn, hm, by simp; omega, ?_⟩⟩, cur, hg, ?_⟩
    · rw [List.take_append_of_le_length (by simp; omega), List.take_of_length_le (by simp; omega)]
    · rw [hcur, ← hxl]
      simp
theorem Pt.grownC {W W' : World} {pb po : Nat} {c : List Value} {row : Option Nat} (h : Pt W pb po c) (hg : W.grownBy W' row) (hn : row ≠ some pb) : Pt W' pb po c := by
  obtain ⟨pre, post, ty, h1, h2⟩ := h
  exact ⟨pre, post, ty, (hg.block pb (World.heap_lt h1) (fun e => hn e.symm)).trans h1, h2⟩
theorem TlCur.ownGe {w U : World} {tb lb n k : Nat} {ts : List T} {null : Bool} {lv : Value} {xs : List T} {rest : List Value} (h : TlCur w U tb lb n ts null lv xs rest) (e : lv.ownBlock = some k) : w.heap.size ≤ k := by
  obtain ⟨xs0, hrow0⟩ := h.lst.row
  exact (hrow0.lt k e).1
theorem TlCur.d3G {w U W : World} {tb lb n : Nat} {ts : List T} {null : Bool} {lv : Value} {xs : List T} {rest : List Value} (h : TlCur w U tb lb n ts null lv xs rest) (hgr : U.grownBy W lv.ownBlock) : W.cell? ⟨tb, 3, none⟩ = some (.slice (some ⟨lb, 0, none⟩) n n) :=
  cellOf ((hgr.block tb (World.heap_lt h.tree) (fun e => (h.own tb e.symm).1 rfl)).trans h.tree) 3 _ rfl
/-- a tree is stored into the row's new last place -/
theorem TlCur.pushSet {w U U2 U3 : World} {tb lb n : Nat} {ts : List T} {null : Bool} {lv : Value} {xs : List T} {rest : List Value} {x : T} {g cap o m : Nat} {cs : List (List Value)} {z0 z1 z2 z3 z4 v0 v1 v2 v3 v4 : Value} (h : TlCur w U tb lb n ts null lv xs rest) (ho : o = 5 * ts.length + 3) (hm : xs.length = m) (k2 : Keep [] U U2) (h1 : cs.length = xs.length) (h2 : ∀ i (a : i < xs.length) (b : i < cs.length), HT U2 (Off (Nt w tb lb U2) lv) xs[i] cs[i])
    (hl : m + 1 ≤ 1099511627776) (hown : U3.ownsRow w.heap.size 27 5 (.slice (some ⟨g, 0, none⟩) (m + 1) cap) (m + 1) (cs.flatten ++ [z0, z1, z2, z3, z4])) (hgr : U2.grownBy U3 lv.ownBlock) (hat : lv.ownBlock = some g ∨ g = U2.heap.size) :
    (∃ cur : Array Value, (U3.setCell ⟨lb, o, none⟩ (.slice (some ⟨g, 0, none⟩) (m + 1) cap)).heap[g]? = some (.cells cur 27 (0, 0)) ∧ cur[m * 5]? = some z0 ∧ cur[m * 5 + 1]? = some z1 ∧ cur[m * 5 + 2]? = some z2 ∧ cur[m * 5 + 3]? = some z3 ∧ cur[m * 5 + 4]? = some z4) ∧
    (HT U2 (fun k => U.heap.size ≤ k ∧ k < U2.heap.size) x [v0, v1, v2, v3, v4] → TlCur w ((((((U3.setCell ⟨lb, o, none⟩ (.slice (some ⟨g, 0, none⟩) (m + 1) cap)).setCell ⟨g, m * 5, none⟩ v0).setCell ⟨g, m * 5 + 1, none⟩ v1).setCell ⟨g, m * 5 + 2, none⟩ v2).setCell ⟨g, m * 5 + 3, none⟩ v3).setCell ⟨g, m * 5 + 4, none⟩ v4) tb lb n ts null (.slice (some ⟨g, 0, none⟩) (m + 1) cap) (xs ++ [x]) rest) := by
  subst hm
  have hgo := (h.calm k2).apart hown hat
  have hk := hown.kept (grown_set U3 ⟨lb, o, none⟩ (.slice (some ⟨g, 0, none⟩) (xs.length + 1) cap)) (.inr (by simp [Value.ownBlock]; exact hgo))
  obtain ⟨hV, hcur⟩ := own_set5 hk v0 v1 v2 v3 v4
  refine ⟨hcur, ?_⟩
  obtain ⟨V, hVe⟩ : ∃ V, V = ((((((U3.setCell ⟨lb, o, none⟩ (.slice (some ⟨g, 0, none⟩) (xs.length + 1) cap)).setCell ⟨g, xs.length * 5, none⟩ v0).setCell ⟨g, xs.length * 5 + 1, none⟩ v1).setCell ⟨g, xs.length * 5 + 2, none⟩ v2).setCell ⟨g, xs.length * 5 + 3, none⟩ v3).setCell ⟨g, xs.length * 5 + 4, none⟩ v4) := ⟨_, rfl⟩
  rw [← hVe] at hV ⊢
  have f1 : Keep [lb, g] U3 V := by
    rw [hVe]
    exact ((((((Keep.refl _ _).setCell (.inl (by simp)) _).setCell (.inl (by simp)) _).setCell (.inl (by simp)) _).setCell (.inl (by simp)) _).setCell (.inl (by simp)) _).setCell (.inl (by simp)) _
  have f2 : ∀ k, k ≠ g → V.heap[k]? = (U3.setCell ⟨lb, o, none⟩ (.slice (some ⟨g, 0, none⟩) (xs.length + 1) cap)).heap[k]? := fun k hk => by
    rw [hVe, Below.heap_setCell _ _ _ _ hk, Below.heap_setCell _ _ _ _ hk, Below.heap_setCell _ _ _ _ hk, Below.heap_setCell _ _ _ _ hk, Below.heap_setCell _ _ _ _ hk]
  clear hVe hcur hk
  refine fun hx => h.pushAbs ho k2 h1 h2 hx hl hV hat (f1.os.trans hgr.os) (f1.tape.trans hgr.tape) (f1.output.trans hgr.output) (Nat.le_trans hgr.size f1.size) (fun c0 hc0 => ?_) (fun k hk1 hk2 hk3 => ?_)
  · have hn : lv.ownBlock ≠ some lb := fun e => (h.own lb e).2 rfl
    have hlt := (h.calm k2).lts.1
    have hb := (hgr.block lb hlt (fun e => hn e.symm)).trans hc0
    rw [f2 lb hgo.symm]
    exact heap_set hb _
  · have hkg : k ≠ g := by
      rintro rfl
      rcases hat with e | e
      · exact hk3 e
      · omega
    rw [f2 k hkg, Below.heap_setCell _ _ _ _ hk2]
    exact hgr.block k hk1 (fun e => hk3 e.symm)
theorem TlSt.putText {w U : World} {tb lb n : Nat} {ts : List T} {rest : List Value} {a b c d e : Value} (h : TlSt w U tb lb n ts (a :: b :: c :: d :: e :: rest)) {o0 o1 o2 o3 o4 : Nat} (e0 : o0 = 5 * ts.length) (e1 : o1 = 5 * ts.length + 1) (e2 : o2 = 5 * ts.length + 2) (e3 : o3 = 5 * ts.length + 3) (e4 : o4 = 5 * ts.length + 4)
    (l : Bs) (hl : l.length ≤ 1000000) (cap : Nat) (ty : TypeId) (hc : l.length ≤ cap) (fr : Nat × Nat) :
    TlSt w ((((((U.alloc (.cells (bytesRow ⟨l.toArray⟩ cap) ty fr)).setCell ⟨lb, o0, none⟩ (.int .i64 0)).setCell ⟨lb, o1, none⟩ (.slice (some ⟨U.heap.size, 0, none⟩) l.length cap)).setCell ⟨lb, o2, none⟩ (.bool false)).setCell ⟨lb, o3, none⟩ (.slice none 0 0)).setCell ⟨lb, o4, none⟩ (.slice none 0 0)) tb lb n (ts ++ [.mk 0 l false [] []]) rest := by
  have hb := bytes_rb U l cap ty fr hc
  have hk : Keep [] U (U.alloc (.cells (bytesRow ⟨l.toArray⟩ cap) ty fr)) := keep_box _
  refine (h.calm hk).put e0 e1 e2 e3 e4 (HT.of 0 l false [] [] (hb.keepF (fun _ _ => rfl) (fun k hk => ?_)) (HTs.nil _ _) (HGs.nil _ _) (by decide) (by decide) (by omega) (by decide))
  subst hk
  exact h.ntNew _ ⟨Nat.le_refl _, by simp⟩
theorem TlSt.putText2 {w U : World} {tb lb n : Nat} {ts : List T} {rest : List Value} {a b c d e : Value} (h : TlSt w U tb lb n ts (a :: b :: c :: d :: e :: rest)) {o0 o1 o2 o3 o4 : Nat} (e0 : o0 = 5 * ts.length) (e1 : o1 = 5 * ts.length + 1) (e2 : o2 = 5 * ts.length + 2) (e3 : o3 = 5 * ts.length + 3) (e4 : o4 = 5 * ts.length + 4)
    (l : Bs) (hl : l.length ≤ 1000000) (cap : Nat) (ty : TypeId) (hc : l.length ≤ cap) (fr : Nat × Nat) :
    TlSt w ((((((U.setCell ⟨lb, o0, none⟩ (.int .i64 0)).setCell ⟨lb, o1, none⟩ (.slice (some ⟨U.heap.size, 0, none⟩) l.length cap)).setCell ⟨lb, o2, none⟩ (.bool false)).setCell ⟨lb, o3, none⟩ (.slice none 0 0)).setCell ⟨lb, o4, none⟩ (.slice none 0 0)).alloc (.cells (bytesRow ⟨l.toArray⟩ cap) ty fr)).drew.drew tb lb n (ts ++ [.mk 0 l false [] []]) rest := by
  have Q := h.putText e0 e1 e2 e3 e4 l hl cap ty hc fr
  have hlt := h.lts.1
  have hz : ∀ (W : World) (p : Addr) (v : Value), (W.setCell p v).heap.size = W.heap.size := fun W p v => by simp [World.setCell]
  rw [World.setCell_alloc_past _ _ _ _ hlt, World.setCell_alloc_past _ _ _ _ (by rw [hz]; exact hlt), World.setCell_alloc_past _ _ _ _ (by rw [hz, hz]; exact hlt), World.setCell_alloc_past _ _ _ _ (by rw [hz, hz, hz]; exact hlt), World.setCell_alloc_past _ _ _ _ (by rw [hz, hz, hz, hz]; exact hlt)] at Q
  exact Q.drew.drew
theorem TlSt.start {w w0 : World} {n : Nat} {rest : List Value} (hz : w0.heap.size = w.heap.size + 1) :
    TlSt w0 ((w0.alloc (.cells rest.toArray 27)).alloc (.cells #[.int .i64 0, .slice none 0 0, .bool false, .slice (some ⟨w.heap.size + 1, 0, none⟩) n n, .slice none 0 0] 27)) (w.heap.size + 1 + 1) (w.heap.size + 1) n [] rest := by
  have h2 := heap_alloc_new (w0.alloc (.cells rest.toArray 27)) (.cells #[.int .i64 0, .slice none 0 0, .bool false, .slice (some ⟨w.heap.size + 1, 0, none⟩) n n, .slice none 0 0] 27)
  have h1 := heap_alloc_new w0 (.cells rest.toArray 27)
  rw [World.size_alloc, hz] at h2
  rw [hz] at h1
  refine ⟨h2, ⟨[], rfl, fun i a => by simp at a, ?_⟩, (keep_box _).alloc _, by omega, by omega, by omega⟩
  rw [Below.heap_alloc _ _ _ (by simp [hz])]
  exact h1
end Go.Proofs.YtodbdecpacdgiaaDoor
/-
  Which versions have a field.
-/
namespace Go.Proofs.YtodbdecpacdgiaaDoor
section
variable {k a b nul tag d o v : Int} {sub : List F}
theorem has_yes (h1 : a ≤ v) (h2 : b < 0 ∨ v ≤ b) : F.has (.mk k a b nul tag d o sub) v = true := by
  show (decide (a ≤ v) && (decide (b < 0) || decide (v ≤ b))) = true
  simp [h1, h2]
theorem has_no1 (h1 : ¬ a ≤ v) : F.has (.mk k a b nul tag d o sub) v = false := by
  show (decide (a ≤ v) && (decide (b < 0) || decide (v ≤ b))) = false
  simp [h1]
theorem has_no2 (h1 : ¬ v ≤ b) (h2 : 0 ≤ b) : F.has (.mk k a b nul tag d o sub) v = false := by
  show (decide (a ≤ v) && (decide (b < 0) || decide (v ≤ b))) = false
  have h3 : ¬ b < 0 := by omega
  simp [h1, h3]
end
end Go.Proofs.YtodbdecpacdgiaaDoor
/-
  To store what lies there changes nothing.
-/
namespace Go.Proofs.YtodbdecpacdgiaaDoor
open Go.ChangeShapes Go.WideShapes Go.ChangeAt Go.RowKit

theorem setCell_self {w : World} {b i : Nat} {v : Value} (h : w.cell? ⟨b, i, none⟩ = some v) : w.setCell ⟨b, i, none⟩ v = w := by
  unfold World.cell? at h
  have hh : (w.setCell ⟨b, i, none⟩ v).heap = w.heap := by
    unfold World.setCell
    refine Array.ext (by simp) fun j h1 h2 => ?_
    simp only
    rw [Array.getElem_modify]
    split
    · rename_i e
      subst e
      rw [Array.getElem?_eq_getElem h2] at h
      split at h
      · rename_i c t f e
        rw [Option.some.inj e]
        simp only [Option.isSome_none, Bool.false_eq_true, if_false] at h ⊢
        congr 1
        refine Array.ext (by simp) fun k k1 k2 => ?_
        rw [Array.getElem_setIfInBounds]
        split
        · rename_i e2
          subst e2
          rw [Array.getElem?_eq_getElem k2] at h
          exact (Option.some.inj h).symm
        · rfl
      · cases h
    · rfl
  calc w.setCell ⟨b, i, none⟩ v = { w with heap := (w.setCell ⟨b, i, none⟩ v).heap } := rfl
    _ = w := by rw [hh]
end Go.Proofs.YtodbdecpacdgiaaDoor
