/-
  impl.octetsTree.
-/
import Derived.Test.YtedconnhligkeaaDoorTellQ
import Derived.Test.YtedconnhligkeaaDoorRdNb
import Derived.Test.YtedconnhligkeaaDoorTagsQ
namespace Go.Proofs.YtedconnhligkeaaDoor
open Go.ChangeShapes Go.WideShapes Go.ChangeAt Go.RowKit

def octT : Option Bs → T
  | none => .mk 0 [] true [] []
  | some l => .mk 0 l false [] []
theorem octT_eq (o : Option Bs) : octT o = .mk 0 (o.getD []) (decide (o = none)) [] [] := by cases o <;> rfl
theorem oct_eq0 : ∀ u, (Sem.run Tryd.prog (binOp .eql 22 (.slice none 0 0) (.slice none 0 0)) u) = .ok (.bool true) u := fun u => Lib.run_eql_slice_nil u 22 5 none 0 0 0 0 Tryd.underlying22
theorem oct_eq1 (a : Addr) (n cap : Nat) : ∀ u, (Sem.run Tryd.prog (binOp .eql 22 (.slice (some a) n cap) (.slice none 0 0)) u) = .ok (.bool false) u := fun u => Lib.run_eql_slice_nil u 22 5 (some a) n cap 0 0 Tryd.underlying22
theorem oct_body : Tryd.f34.body.isNone = false := by kernel_rfl
theorem oct_name : (Tryd.f34.name == "runtime.NumGoroutine") = false := by kernel_rfl
theorem OS.keepF {w w' : World} {F G : Nat → Prop} {v : Value} {o : Option Bs} (h : OS w F v o) (hs : SameOn F w w') (hg : ∀ k, F k → G k) : OS w' G v o := ⟨h.1.keepF hs hg, h.2⟩
set_option maxHeartbeats 800000 in
set_option maxRecDepth 100000 in
theorem oct_any {G : Nat → Prop} {v : Value} {o : Option Bs} {w : World} (h : OS w G v o) (hG : There G w) (hl : ∀ x, o = some x → x.length ≤ 1000000) :
    Calls Tryd.prog 34 #[v] w fun e w' => ∃ c, e = .returned (.agg c.toArray) ∧ HT w' (fun k => w.heap.size ≤ k ∧ k < w'.heap.size) (octT o) c ∧ Keep [] w w' := by
  obtain ⟨hb, hn⟩ := h
  obtain ⟨ao, cap, rfl⟩ := RS.shape hb
  cases ao with
  | none =>
    obtain ⟨hl0, rfl⟩ : (o.getD []).length = 0 ∧ cap = 0 := by
      obtain ⟨_, _, e, _, h2, _⟩ := hb
      cases e
      exact ⟨(h2 rfl).1, (h2 rfl).2.1⟩
    have ho : o = none := hn.1 (by rw [hl0])
    subst ho
    clear hl0
    have heq : ∀ u, (Sem.run Tryd.prog (binOp .eql 22 (.slice none 0 0) (.slice none 0 0)) u) = .ok (.bool true) u := oct_eq0
    go_enter Tryd.func34, Tryd.ntmps34
    go_wp2_with (at_builtin; go_loud (refine app_ob rfl (.const (.slice none 0 0)) (.tmp 3) rfl (w.heap.size + 1) (.slice none 0 0) [] rfl (OB.nil _ _) _ [] (fun _ => True) rfl (RB.nil _ _) (by simp) (by simp) ?_; intro v2 w2 hob hgr; obtain ⟨a2, cp, rfl⟩ := hob.len; have k2 : Keep [] w w2 := (keep_box _).grown hgr (by simp [Value.ownBlock]); have hz2 : w.heap.size + 1 ≤ w2.heap.size := (by have := hgr.size; simpa using this); have r2 := (hgr.block w.heap.size (by simp) (by simp [Value.ownBlock])).trans (heap_alloc_new w (.cells #[.int .i64 0, .slice none 0 0, .bool false, .slice none 0 0, .slice none 0 0] 27)); have p0 : w2.cell? ⟨w.heap.size, 0, none⟩ = some (.int .i64 0) := cellOf r2 0 _ rfl; have pf0 := freeOf r2 0; have p1 : w2.cell? ⟨w.heap.size, 1, none⟩ = some (.slice none 0 0) := cellOf r2 1 _ rfl; have pf1 := freeOf r2 1; have p2 : w2.cell? ⟨w.heap.size, 2, none⟩ = some (.bool false) := cellOf r2 2 _ rfl; have pf2 := freeOf r2 2; have p3 : w2.cell? ⟨w.heap.size, 3, none⟩ = some (.slice none 0 0) := cellOf r2 3 _ rfl; have pf3 := freeOf r2 3; have p4 : w2.cell? ⟨w.heap.size, 4, none⟩ = some (.slice none 0 0) := cellOf r2 4 _ rfl; have pf4 := freeOf r2 4; have R2 : Hid _ := r2; clear r2))
    have hr : (((((w2.setCell ⟨w.heap.size, 0, none⟩ (.int .i64 0)).setCell ⟨w.heap.size, 1, none⟩ (.slice a2 0 cp)).setCell ⟨w.heap.size, 2, none⟩ (.bool true)).setCell ⟨w.heap.size, 3, none⟩ (.slice none 0 0)).setCell ⟨w.heap.size, 4, none⟩ (.slice none 0 0)).heap[w.heap.size]? = some (.cells #[.int .i64 0, .slice a2 0 cp, .bool true, .slice none 0 0, .slice none 0 0] 27 (0, 0)) := (set5 (o := 0) R2.out).1
    have kr : Keep [w.heap.size] w2 (((((w2.setCell ⟨w.heap.size, 0, none⟩ (.int .i64 0)).setCell ⟨w.heap.size, 1, none⟩ (.slice a2 0 cp)).setCell ⟨w.heap.size, 2, none⟩ (.bool true)).setCell ⟨w.heap.size, 3, none⟩ (.slice none 0 0)).setCell ⟨w.heap.size, 4, none⟩ (.slice none 0 0)) := (set5 (o := 0) R2.out).2
    clear p0 pf0 p1 pf1 p2 pf2 p3 pf3 p4 pf4
    generalize (((((w2.setCell ⟨w.heap.size, 0, none⟩ (.int .i64 0)).setCell ⟨w.heap.size, 1, none⟩ (.slice a2 0 cp)).setCell ⟨w.heap.size, 2, none⟩ (.bool true)).setCell ⟨w.heap.size, 3, none⟩ (.slice none 0 0)).setCell ⟨w.heap.size, 4, none⟩ (.slice none 0 0)) = W7 at *
    have r0 : W7.cell? ⟨w.heap.size, 0, none⟩ = some (.int .i64 0) := cellOf hr 0 _ rfl
    have r1 : W7.cell? ⟨w.heap.size, 1, none⟩ = some (.slice a2 0 cp) := cellOf hr 1 _ rfl
    have r2 : W7.cell? ⟨w.heap.size, 2, none⟩ = some (.bool true) := cellOf hr 2 _ rfl
    have r3 : W7.cell? ⟨w.heap.size, 3, none⟩ = some (.slice none 0 0) := cellOf hr 3 _ rfl
    have r4 : W7.cell? ⟨w.heap.size, 4, none⟩ = some (.slice none 0 0) := cellOf hr 4 _ rfl
    have hzr := kr.size
    refine bodyPost_ret (v := .agg #[.int .i64 0, .slice a2 0 cp, .bool true, .slice none 0 0, .slice none 0 0]) (by simp [results, Tryd.results34, go_sem, r0, r1, r2, r3, r4]) rfl ⟨[.int .i64 0, .slice a2 0 cp, .bool true, .slice none 0 0, .slice none 0 0], rfl, ?_, ((k2.weaken (by simp)).trans kr).fresh (by simp)⟩
    have hrb : RB w2 (fun k => w.heap.size + 1 ≤ k ∧ k < w2.heap.size) (.slice a2 0 cp) [] := hob.rb
    exact HT.of 0 [] true [] [] (hrb.keepF (fun k hk => kr.block k hk.2 (by have := hk.1; simp; omega)) (fun k hk => ⟨by have := hk.1; omega, by have := hk.2; omega⟩)) (HTs.nil _ _) (HGs.nil _ _) (by decide) (by decide) (by decide) (by decide)
  | some a =>
    have ho : o ≠ none := fun h => by have := hn.2 h; cases this
    obtain ⟨l, rfl⟩ : ∃ l, o = some l := by cases o with | none => exact absurd rfl ho | some l => exact ⟨l, rfl⟩
    have hll := hl l rfl
    clear hn ho hl
    simp only [Option.getD_some] at hb ⊢
    have heq : ∀ u, (Sem.run Tryd.prog (binOp .eql 22 (.slice (some a) l.length cap) (.slice none 0 0)) u) = .ok (.bool false) u := oct_eq1 _ _ _
    go_enter Tryd.func34, Tryd.ntmps34
    go_wp2_with (at_builtin; go_loud (refine app_ob rfl (.const (.slice none 0 0)) (.tmp 3) rfl (w.heap.size + 1) (.slice none 0 0) [] rfl (OB.nil _ _) _ l G rfl (hb.keepF (hG.same (keep_box _)) (fun _ h => h)) (by simp; omega) (by simp) ?_; intro v2 w2 hob hgr; obtain ⟨a2, cp, rfl⟩ := hob.len; have k2 : Keep [] w w2 := (keep_box _).grown hgr (by simp [Value.ownBlock]); have hz2 : w.heap.size + 1 ≤ w2.heap.size := (by have := hgr.size; simpa using this); have r2 := (hgr.block w.heap.size (by simp) (by simp [Value.ownBlock])).trans (heap_alloc_new w (.cells #[.int .i64 0, .slice none 0 0, .bool false, .slice none 0 0, .slice none 0 0] 27)); have p0 : w2.cell? ⟨w.heap.size, 0, none⟩ = some (.int .i64 0) := cellOf r2 0 _ rfl; have pf0 := freeOf r2 0; have p1 : w2.cell? ⟨w.heap.size, 1, none⟩ = some (.slice none 0 0) := cellOf r2 1 _ rfl; have pf1 := freeOf r2 1; have p2 : w2.cell? ⟨w.heap.size, 2, none⟩ = some (.bool false) := cellOf r2 2 _ rfl; have pf2 := freeOf r2 2; have p3 : w2.cell? ⟨w.heap.size, 3, none⟩ = some (.slice none 0 0) := cellOf r2 3 _ rfl; have pf3 := freeOf r2 3; have p4 : w2.cell? ⟨w.heap.size, 4, none⟩ = some (.slice none 0 0) := cellOf r2 4 _ rfl; have pf4 := freeOf r2 4; have R2 : Hid _ := r2; clear r2))
    have hr : (((((w2.setCell ⟨w.heap.size, 0, none⟩ (.int .i64 0)).setCell ⟨w.heap.size, 1, none⟩ (.slice a2 l.length cp)).setCell ⟨w.heap.size, 2, none⟩ (.bool false)).setCell ⟨w.heap.size, 3, none⟩ (.slice none 0 0)).setCell ⟨w.heap.size, 4, none⟩ (.slice none 0 0)).heap[w.heap.size]? = some (.cells #[.int .i64 0, .slice a2 l.length cp, .bool false, .slice none 0 0, .slice none 0 0] 27 (0, 0)) := (set5 (o := 0) R2.out).1
    have kr : Keep [w.heap.size] w2 (((((w2.setCell ⟨w.heap.size, 0, none⟩ (.int .i64 0)).setCell ⟨w.heap.size, 1, none⟩ (.slice a2 l.length cp)).setCell ⟨w.heap.size, 2, none⟩ (.bool false)).setCell ⟨w.heap.size, 3, none⟩ (.slice none 0 0)).setCell ⟨w.heap.size, 4, none⟩ (.slice none 0 0)) := (set5 (o := 0) R2.out).2
    clear p0 pf0 p1 pf1 p2 pf2 p3 pf3 p4 pf4
    generalize (((((w2.setCell ⟨w.heap.size, 0, none⟩ (.int .i64 0)).setCell ⟨w.heap.size, 1, none⟩ (.slice a2 l.length cp)).setCell ⟨w.heap.size, 2, none⟩ (.bool false)).setCell ⟨w.heap.size, 3, none⟩ (.slice none 0 0)).setCell ⟨w.heap.size, 4, none⟩ (.slice none 0 0)) = W7 at *
    have r0 : W7.cell? ⟨w.heap.size, 0, none⟩ = some (.int .i64 0) := cellOf hr 0 _ rfl
    have r1 : W7.cell? ⟨w.heap.size, 1, none⟩ = some (.slice a2 l.length cp) := cellOf hr 1 _ rfl
    have r2 : W7.cell? ⟨w.heap.size, 2, none⟩ = some (.bool false) := cellOf hr 2 _ rfl
    have r3 : W7.cell? ⟨w.heap.size, 3, none⟩ = some (.slice none 0 0) := cellOf hr 3 _ rfl
    have r4 : W7.cell? ⟨w.heap.size, 4, none⟩ = some (.slice none 0 0) := cellOf hr 4 _ rfl
    have hzr := kr.size
    refine bodyPost_ret (v := .agg #[.int .i64 0, .slice a2 l.length cp, .bool false, .slice none 0 0, .slice none 0 0]) (by simp [results, Tryd.results34, go_sem, r0, r1, r2, r3, r4]) rfl ⟨[.int .i64 0, .slice a2 l.length cp, .bool false, .slice none 0 0, .slice none 0 0], rfl, ?_, ((k2.weaken (by simp)).trans kr).fresh (by simp)⟩
    have hrb : RB w2 (fun k => w.heap.size + 1 ≤ k ∧ k < w2.heap.size) (.slice a2 l.length cp) l := hob.rb
    exact HT.of 0 l false [] [] (hrb.keepF (fun k hk => kr.block k hk.2 (by have := hk.1; simp; omega)) (fun k hk => ⟨by have := hk.1; omega, by have := hk.2; omega⟩)) (HTs.nil _ _) (HGs.nil _ _) (by decide) (by decide) (by omega) (by decide)
theorem rdN_bad (k : Nat) (s : St) (h : (rdN k s).2.2 = false) : s.2 = false := by
  unfold rdN at h
  split at h
  · cases h
  · exact h
theorem rdI_bad (k : Nat) (s : St) (h : (rdI k s).2.2 = false) : s.2 = false := rdN_bad k s h
theorem rdUv_bad (s : St) (h : (rdUv s).2.2 = false) : s.2 = false := by
  unfold rdUv at h
  split at h
  · cases h
  · exact h
theorem rdSpan_bad (n : Int) (s : St) (h : (rdSpan n s).2.2 = false) : s.2 = false := by
  unfold rdSpan at h
  split at h
  · cases h
  · exact h
theorem rdTagsN_bad : ∀ (n : Nat) (s : St) (l : List Tg), (rdTagsN n s l).2.2 = false → s.2 = false
  | 0, _, _, h => h
  | n + 1, _, _, h => rdUv_bad _ (rdUv_bad _ (rdSpan_bad _ _ (rdTagsN_bad n _ _ h)))
theorem rdTags_bad (s : St) (h : (rdTags s).2.2 = false) : s.2 = false := rdUv_bad _ (rdTagsN_bad _ _ _ h)
theorem rdCNB_len (s : St) : (∀ x, (rdCNB s).1 = some x → x.length ≤ s.1.length) ∧ (rdCNB s).2.1.length ≤ s.1.length := by
  have a := (rdUv_len s).1
  have b := rdSpan_len ((rdUv s).1 - 1) (rdUv s).2
  unfold rdCNB
  split
  · exact ⟨(fun x h => by cases h), a⟩
  · exact ⟨(fun x h => by cases h; exact Nat.le_trans b.1 a), Nat.le_trans b.2 a⟩
end Go.Proofs.YtedconnhligkeaaDoor
