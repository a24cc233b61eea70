/-
  impl.textTree; octets of a text.
-/
import Derived.Test.YtnemimighhpcaaaDoorTellQ
import Derived.Laws.IdiomStrings
namespace Go.Proofs.YtnemimighhpcaaaDoor
open Go.ChangeShapes Go.WideShapes Go.ChangeAt Go.RowKit

theorem bytes_rb (w : World) (l : Bs) (cap : Nat) (e : TypeId) (fr : Nat × Nat) (hc : l.length ≤ cap) : RB (w.drew.alloc (.cells (bytesRow ⟨l.toArray⟩ cap) e fr)) (fun k => k = w.heap.size) (.slice (some ⟨w.heap.size, 0, none⟩) l.length cap) l := by
  refine ⟨_, cap, rfl, hc, (fun h => by cases h), fun a ha => ?_⟩
  cases ha
  refine ⟨rfl, fun i hi => ⟨rfl, ?_⟩⟩
  have hb : (w.drew.alloc (.cells (bytesRow ⟨l.toArray⟩ cap) e fr)).heap[w.heap.size]? = some (.cells (bytesRow ⟨l.toArray⟩ cap) e fr) := by
    show (w.heap.push _)[w.heap.size]? = _
    simp
  have hi' : i < (⟨l.toArray⟩ : ByteArray).data.size := by simpa using hi
  have h := bytesRow_at ⟨l.toArray⟩ cap i hi'
  simp only [World.cell?, hb, Nat.zero_add]
  simpa [bv] using h
def nstrT : Option Bs → T
  | none => .mk 0 [] true [] []
  | some l => .mk 0 l false [] []
set_option maxHeartbeats 800000 in
set_option maxRecDepth 100000 in
theorem text_any {G : Nat → Prop} {v : Value} {o : Option Bs} {w : World} (h : PS w G v o) (hl : ∀ x, o = some x → x.length ≤ 1000000) :
    Calls Tryd.prog 128 #[v] w fun e w' => ∃ c, e = .returned (.agg c.toArray) ∧ HT w' (fun k => w.heap.size ≤ k ∧ k < w'.heap.size) (nstrT o) c ∧ Keep [] w w' := by
  rcases h with ⟨rfl, rfl⟩ | ⟨k, l, rfl, rfl, hG, hk⟩
  · go_enter Tryd.func128, Tryd.ntmps128
    go_wp2_with fail
    refine bodyPost_ret (v := .agg #[.int .i64 0, .slice none 0 0, .bool true, .slice none 0 0, .slice none 0 0]) (by simp [results, Tryd.results128, go_sem]) rfl ⟨[.int .i64 0, .slice none 0 0, .bool true, .slice none 0 0, .slice none 0 0], rfl, ?_, keep_box _⟩
    exact HT.of 0 [] true [] [] (RB.nil _ _) (HTs.nil _ _) (HGs.nil _ _) (by decide) (by decide) (by decide) (by decide)
  · have hlen := hl l rfl
    have ck : w.cell? ⟨k, 0, none⟩ = some (.string ⟨l.toArray⟩) := cellOf hk 0 _ rfl
    have hkl : k < w.heap.size := (Array.getElem?_eq_some_iff.1 hk).1
    have hcv := fun w => run_bytes_of_string (P := Tryd.prog) w 9 22 5 ⟨l.toArray⟩ Tryd.underlying9 Tryd.underlying22 Tryd.underlying5
    go_enter Tryd.func128, Tryd.ntmps128
    go_wp2_with fail
    have hcap := grownCap_ge (w.alloc (.cells #[.int .i64 0, .slice none 0 0, .bool false, .slice none 0 0, .slice none 0 0] 42)) l.length 0 5
    generalize grownCap (w.alloc (.cells #[.int .i64 0, .slice none 0 0, .bool false, .slice none 0 0, .slice none 0 0] 42)) l.length 0 5 = cap at *
    refine bodyPost_ret (v := .agg #[.int .i64 0, .slice (some ⟨w.heap.size + 1, 0, none⟩) l.length cap, .bool false, .slice none 0 0, .slice none 0 0]) (by simp [results, Tryd.results128, go_sem]) rfl ⟨[.int .i64 0, .slice (some ⟨w.heap.size + 1, 0, none⟩) l.length cap, .bool false, .slice none 0 0, .slice none 0 0], rfl, ?_, ((keep_box _).alloc _).drew⟩
    refine HT.of 0 l false [] [] ?_ (HTs.nil _ _) (HGs.nil _ _) (by decide) (by decide) (by omega) (by decide)
    have h := bytes_rb (w.alloc (.cells #[.int .i64 0, .slice (some ⟨w.heap.size + 1, 0, none⟩) l.length cap, .bool false, .slice none 0 0, .slice none 0 0] 42)) l cap 5 ((bytesRow ⟨l.toArray⟩ cap).size, (bytesRow ⟨l.toArray⟩ cap).size + 1) hcap
    simp only [World.size_alloc] at h
    exact h.keepF (fun k hk => rfl) (fun k hk => by subst hk; simp)
theorem text_body : Tryd.f128.body.isNone = false := by kernel_rfl
theorem text_name : (Tryd.f128.name == "runtime.NumGoroutine") = false := by kernel_rfl
end Go.Proofs.YtnemimighhpcaaaDoor
