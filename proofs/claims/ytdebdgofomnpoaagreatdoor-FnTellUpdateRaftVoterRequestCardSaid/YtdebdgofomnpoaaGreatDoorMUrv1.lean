/-
  Reader.Uint16.
-/
import Derived.Test.YtdebdgofomnpoaaGreatDoorMB5
import Derived.Test.YtdebdgofomnpoaaGreatDoorMB1
import Derived.Test.YtdebdgofomnpoaaGreatDoorMB13
import Derived.Test.YtdebdgofomnpoaaGreatDoorMB17
import Derived.Deep.CutBlock
import Derived.Deep.DeepCutAuto
namespace Go.Proofs.YtdebdgofomnpoaaGreatDoor
open Go.ChangeShapes Go.WideShapes Go.ChangeAt Go.RowKit

theorem u16_val (b0 b1 : UInt8) (r : Bs) (bad : Bool) : ((rdN 2 (b0 :: b1 :: r, bad)).1 : Int) = 256 * (b0.toNat : Int) + b1.toNat := by
  simp only [rdN, List.length_cons, if_neg (show ¬ r.length + 1 + 1 < 2 by omega), List.take_succ_cons, List.take_zero, be, List.foldl_cons, List.foldl_nil]
  omega
theorem rdU_range2 (s : St) : 0 ≤ ((rdN 2 s).1 : Int) ∧ ((rdN 2 s).1 : Int) ≤ 65535 := by
  have h := rdN_lt 2 s
  omega
set_option maxHeartbeats 400000 in
set_option maxRecDepth 100000 in
theorem uint16_any {G : Nat → Prop} {b : Nat} {s : St} {w : World} (h : Rd w b G s) (hG : There G w) (hb : ¬ G b) :
    Calls Tryz.prog 260 #[.pointer (some ⟨b, 0, none⟩)] w fun e w' => e = .returned (.int .u16 ((rdN 2 s).1 : Int)) ∧ Rd w' b G (rdN 2 s).2 ∧ Keep [b] w w' := by
  obtain ⟨src, bad⟩ := s
  obtain ⟨v, hh, hr⟩ := h
  obtain ⟨ao, cap, rfl⟩ := RS.shape hr
  have c0 : w.cell? ⟨b, 0, none⟩ = some (.slice ao src.length cap) := cellOf hh 0 _ rfl
  have c1 : w.cell? ⟨b, 1, none⟩ = some (.bool bad) := cellOf hh 1 _ rfl
  have f0 := freeOf hh 0
  have f1 := freeOf hh 1
  go_enter Tryz.func260, Tryz.ntmps260
  by_cases hl : src.length < 2
  · go_wp2_with fail
    go_ret
    exact ⟨by simp [rdN, hl], ⟨.slice none 0 0, by simp only [rdN, hl, if_true]; exact heap_set (heap_set hh _) _, by simp only [rdN, hl, if_true]; exact RB.nil _ _⟩, ((Keep.refl _ _).setCell (.inl (by simp)) _).setCell (.inl (by simp)) _⟩
  · obtain ⟨b0, b1, r, rfl⟩ : ∃ b0 b1 r, src = b0 :: b1 :: r := by
      match src, hl with
      | b0 :: b1 :: r, _ => exact ⟨b0, b1, r, rfl⟩
      | [_], h => simp at h
      | [], h => simp at h
    have HH : Hid _ := hh
    clear hh
    have hS := c0
    go_wp2_with fail
    go_region_held3 (fun w' => w'.cell? ⟨b, 0, none⟩ = some (.slice ao (b0 :: b1 :: r).length cap)) (exact hS) (first
      | (go_at_call 291; refine (u16_any G _ ao _ cap b0 b1 r (hr.keepF (hG.same (Keep.refl _ _).drew) (fun _ h => h))).mono ?_; rintro e w2 ⟨rfl, hk2⟩; have kx : Keep [] w w2 := (Keep.refl _ _).drew.trans hk2; have hS := kx.cs c0))
    obtain ⟨bs, o, rfl, hGb, -, hcap, -⟩ := hr.spot (by simp)
    have hbw : b < w.heap.size := World.block_lt_of_cell? w _ c0
    have hh2 := (kx.block b hbw (by simp)).trans HH.out
    have d0 : w2.cell? ⟨b, 0, none⟩ = some (.slice (some ⟨bs, o, none⟩) (b0 :: b1 :: r).length cap) := cellOf hh2 0 _ rfl
    have e0 := freeOf hh2 0
    have HH2 : Hid _ := hh2
    clear hh2
    by_cases hcap : cap = 2
    · subst hcap
      go_wp2
      go_ret
      obtain ⟨q1, q2⟩ := rd_done (k := 2) (b := b) (v := .slice (some ⟨bs, o, none⟩) r.length 0) hG hb hr hl kx HH2.out (.inl ⟨by simp at hcap ⊢; omega, by simp at hcap ⊢; omega⟩)
      exact ⟨by simp [u16_val], q1, q2⟩
    · go_wp2
      go_ret
      obtain ⟨q1, q2⟩ := rd_done (k := 2) (b := b) (v := .slice (some ⟨bs, o + 2, none⟩) r.length (cap - 2)) hG hb hr hl kx HH2.out (.inr (by simp))
      exact ⟨by simp [u16_val], q1, q2⟩
end Go.Proofs.YtdebdgofomnpoaaGreatDoor
/-
  The fields of UpdateRaftVoterRequest, as plain lists.
-/
namespace Go.Proofs.YtdebdgofomnpoaaGreatDoor

def q_UpdateRaftVoterRequestListener : List F := [.mk 8 0 (-1) (-1) (-1) 0 0 [], .mk 8 0 (-1) (-1) (-1) 0 0 [], .mk 5 0 (-1) (-1) (-1) 0 0 []]
def q_UpdateRaftVoterRequestKRaftVersionFeature : List F := [.mk 2 0 (-1) (-1) (-1) 0 0 [], .mk 2 0 (-1) (-1) (-1) 0 0 []]
def q_UpdateRaftVoterRequest : List F := [.mk 8 0 (-1) 0 (-1) 0 0 [], .mk 3 0 (-1) (-1) (-1) 0 0 [], .mk 3 0 (-1) (-1) (-1) 0 0 [], .mk 7 0 (-1) (-1) (-1) 0 0 [], .mk 11 0 (-1) (-1) (-1) 0 10 q_UpdateRaftVoterRequestListener, .mk 10 0 (-1) (-1) (-1) 0 0 q_UpdateRaftVoterRequestKRaftVersionFeature]
end Go.Proofs.YtdebdgofomnpoaaGreatDoor
/-
  UpdateRaftVoterRequest: reading.
-/
namespace Go.Proofs.YtdebdgofomnpoaaGreatDoor
open Go.ChangeShapes Go.WideShapes Go.ChangeAt Go.RowKit

set_option maxRecDepth 100000 in
theorem d_UpdateRaftVoterRequest (w : World) (x : Addr) : Calls Tryz.prog 187 #[.pointer (some x)] w fun e w' => e = .returned (.tuple #[]) ∧ w = w' := by
  go_enter Tryz.func187, Tryz.ntmps187
  go_wp2
  refine bodyPost_end (v := .tuple #[]) (by simp [results, Tryz.results187, go_sem]) rfl ?_
  exact ⟨rfl, rfl⟩
set_option maxRecDepth 100000 in
theorem d_UpdateRaftVoterRequestListener (w : World) (x : Value) : Calls Tryz.prog 259 #[x] w fun e w' => e = .returned (.tuple #[]) ∧ w = w' := by
  go_enter Tryz.func259, Tryz.ntmps259
  go_wp2
  refine bodyPost_end (v := .tuple #[]) (by simp [results, Tryz.results259, go_sem]) rfl ?_
  exact ⟨rfl, rfl⟩
set_option maxRecDepth 100000 in
theorem d_UpdateRaftVoterRequestKRaftVersionFeature (w : World) (x : Value) : Calls Tryz.prog 261 #[x] w fun e w' => e = .returned (.tuple #[]) ∧ w = w' := by
  go_enter Tryz.func261, Tryz.ntmps261
  go_wp2
  refine bodyPost_end (v := .tuple #[]) (by simp [results, Tryz.results261, go_sem]) rfl ?_
  exact ⟨rfl, rfl⟩
set_option maxRecDepth 100000 in
theorem info_UpdateRaftVoterRequestListener : (Tryz.prog.info? 190).map (fun i => (i.zero, i.size, decide (i.bytes ≤ 65536))) = some (some (.agg #[.string ⟨#[]⟩, .string ⟨#[]⟩, .int .u16 0, .map none]), 4, true) := by kernel_rfl
set_option maxRecDepth 100000 in
theorem info_UpdateRaftVoterRequestKRaftVersionFeature : (Tryz.prog.info? 183).map (fun i => (i.zero, i.size, decide (i.bytes ≤ 65536))) = some (some (.agg #[.int .i16 0, .int .i16 0, .map none]), 3, true) := by kernel_rfl
end Go.Proofs.YtdebdgofomnpoaaGreatDoor
/-
  A LOOP OF readFrom AS A DECLARATION OF ITS OWN: the code at a place of a function's body, and what a return says.
-/
namespace Go.Proofs.YtdebdgofomnpoaaGreatDoor
open Go.ChangeShapes Go.WideShapes Go.ChangeAt Go.RowKit

/-- the code at a place of a code: the way to it, 'true' being the second of two -/
def codeAt : List Bool → Code → Code
  | [], c => c
  | i :: r, .seq a b => codeAt r (bif i then b else a)
  | i :: r, .cond _ a b => codeAt r (bif i then b else a)
  | _ :: r, .loop c => codeAt r c
  | _ :: r, .block _ c => codeAt r c
  | _ :: r, .scope c => codeAt r c
  | _ :: _, c => c
theorem ret_post {P : Program} {fn : Func} {R : Ending → World → Prop} {a : Act} {w : World} {v : Value} {t : Tmp} (hr : fn.results = #[.tmp t]) (h1 : a.defers = []) (h2 : a.tmps.getD t undef = v) (hR : R (.returned v) w) : bodyPost P fn R .ret a w := by
  refine bodyPost_ret (v := v) ?_ h1 hR
  subst h2
  simp [results, hr]
theorem inBlock_ret {Q : Exit → Act → World → Prop} {n : Nat} {a : Act} {w : World} (h : Q .ret a w) : Exit.inBlock n Q .ret a w := h
theorem then_ret {K : Act → World → Prop} {Q : Exit → Act → World → Prop} {a : Act} {w : World} (h : Q .ret a w) : Exit.then K Q .ret a w := h
theorem RowRel.at_end {U1 w U : World} {rb : Nat} {G : Nat → Prop} {g : St → T × St} {s0 : St} {N m k : Nat} {zs : List Value} {ty : TypeId} {ofk : Int} {fs : List F} {v0 av : Value} (h : RowRel U1 w U rb G g s0 N m k zs ty ofk fs v0 av) (hk : ¬ k < N) : RowRel U1 w U rb G g s0 N m N zs ty ofk fs v0 av := by
  have e : k = N := by
    rcases h with ⟨h1, h2, _⟩ | ⟨h1, h2, _⟩ <;> omega
  subst e
  exact h
end Go.Proofs.YtdebdgofomnpoaaGreatDoor
