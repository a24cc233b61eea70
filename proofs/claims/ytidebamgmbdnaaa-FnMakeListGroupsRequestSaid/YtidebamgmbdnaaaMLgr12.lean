/-
  PROVED: laws.FnMakeListGroupsRequest, whatever number and tree it is given, returns true (a ListGroupsRequest that is made of the tree is written as the reference writes it), and all that was handed in reads behind the call as before. CONDITIONS: those of the given row alone.
  The row. The frame began as the worked toy of a law over a package-level table.
-/
import Derived.Test.YtidebamgmbdnaaaMLgr10
import Derived.Test.YtidebamgmbdnaaaMB14
import Derived.Test.YtidebamgmbdnaaaMLgr11
import Derived.Carry
import Derived.Deep.DeepHandedRow
import Derived.LaidLaws
namespace Go.Proofs.Ytidebamgmbdnaaa.fnMakeListGroupsRequest
open Go.ChangeShapes Go.WideShapes Go.ChangeAt Go.RowKit

theorem own : ownKnob Try.prog.godebug = none := by kernel_rfl
theorem keptBut_of {w w' : World} (h : Keep [] w w') (may : MemPlace → Prop) : w.keptBut w' may := by
  refine ⟨h.os, h.output, fun i hi => ?_⟩
  rw [h.block i hi (by simp)]
  cases w.heap[i]? with
  | none => trivial
  | some o => cases o <;> simp
theorem wf_u8 {n : Int} (h : (Lit.int .u8 n).wf = true) : 0 ≤ n ∧ n ≤ 255 := by
  simpa [Lit.wf, IntKind.has, IntKind.min, IntKind.max, IntKind.bits, IntKind.signed] using h
/-- the end of a call that leaves all old memory alone -/
theorem post_of_keep {H : Type} {enc : TypeId × Value → H} {P : Program} {f : Func} {s : ChangeSpec} {apart fresh handsOn again : Bool} {W W' : World} {args : Array Value} {v : Value} {ds gs : List (DataW H)} {before pa pv : List MemPlace}
    (hW : DataW.Whole enc P f.params.toList s.vars apart W args.toList ds gs before)
    (hres : ∀ (b : Nat) (sp : Nat → Bool) (hd : Bool), DataW.TrodAll enc P W' b sp hd f.resultTypes.toList (v.resultList f.resultTypes.size) (s.fn H (ds ++ gs)).results [])
    (hargs : ∀ sp : Nat → Bool, (∀ p ∈ before, sp p.block = true) → DataW.TrodAll enc P W' 0 sp true f.params.toList args.toList (s.fn H (ds ++ gs)).args pa)
    (hvars : ∀ sp : Nat → Bool, (∀ p ∈ before, sp p.block = true) → DataW.TrodVars enc P W' sp s.vars (s.fn H (ds ++ gs)).vars pv)
    (hps : before = pa ++ pv) (hk : Keep [] W W')
    (hok : ∀ (j : Nat) (t : TypeId) (r : Value), f.resultTypes[j]? = some t → (v.resultList f.resultTypes.size)[j]? = some r → Value.okWide P W' .any 0 t r) :
    s.post enc P f apart fresh handsOn again W args v W' := by
  have hold : ∀ p ∈ before, (fun b => decide (b < W.heap.size)) p.block = true := fun p hp => by simpa using hW.lt p hp
  have hlt := hW.lt
  refine ⟨ds, gs, before, [], pa, pv, hW, hres _ _ _, hargs _ hold, hvars _ hold, World.keptBut_mono (fun p hp => ⟨hp, ?_⟩) (keptBut_of hk (· ∈ before)), fun _ => ?_⟩
  · rw [hps, List.mem_append] at hp
    exact Or.inr hp
  · obtain ⟨_, _, _, _, _, hz, hn⟩ := hW
    refine ⟨hok, _, _, ([] ++ pa) ++ pv, ⟨[] ++ pa, pv, trodAll_append (hargs _ (fun _ _ => rfl)) (hres _ _ _), hvars _ (fun _ _ => rfl), rfl, ?_, ?_⟩, ?_⟩
    · intro b off hp
      have hm : MemPlace.cell b off ∈ before := by rw [hps]; simpa using hp
      exact (World.frozen?_of_block (w := W) (a := ⟨b, off, none⟩) (hk.block b (hlt _ hm) (by simp))).trans (hz b off hm)
    · intro ha
      have := hn ha
      rw [hps] at this
      simpa using this
    · intro p hp _
      rw [hps]
      simpa using hp

set_option maxRecDepth 100000 in
theorem contract (H : Type) (enc : TypeId × Value → H) (W : World) (base : Nat) (args : Array Value) (ds gs : List (DataW H)) (before : List MemPlace)
    (hval : ∀ (j : Nat) t v, Try.f4.params[j]? = some t → args[j]? = some v → Value.okWide Try.prog W .any base t v)
    (hW : DataW.Whole enc Try.prog Try.f4.params.toList Rows.fnMakeListGroupsRequestSpec.vars false W args.toList ds gs before) :
    Calls Try.prog 4 args W fun e W' => ∃ v, e = .returned v ∧ Rows.fnMakeListGroupsRequestSpec.post enc Try.prog Try.f4 false true false false W args v W' := by
  have hW' := hW
  obtain ⟨p, q, hA0, hV, rfl, hfz, hnd⟩ := hW
  have hA : DataW.TrodAll enc Try.prog W 0 (fun _ => true) true Try.f4.params.toList args.toList ds p := hA0
  rw [Try.params4] at hA hval
  obtain ⟨vn, vs0, dn, ds0, pn, qn, hargs0, rfl, rfl, hn0, r00⟩ := trodAll_cons hA
  obtain ⟨vt, vs2, dt, ds2, pt, qt, hargs, rfl, rfl, ht0, rt⟩ := trodAll_cons r00
  obtain ⟨rfl, rfl, rfl⟩ := trodAll_nil rt
  obtain rfl : args = #[vn, vt] := by cases args; simp_all
  obtain ⟨rfl, rfl⟩ := trodVars_none hV
  have hvn := hval 0 5 vn rfl rfl
  have hvt := hval 1 26 vt rfl rfl
  obtain ⟨n8, rfl, rfl, rfl, hw8⟩ := open_int Try.underlying5 hvn hn0
  have hr8 : 0 ≤ n8 ∧ n8 ≤ 255 := wf_u8 hw8
  simp only [Value.okWide, Try.underlying26] at hvt
  obtain ⟨ca, rfl, -, -⟩ := hvt
  obtain ⟨c, rfl⟩ : ∃ c : List Value, ca = c.toArray := ⟨ca.toList, by simp⟩
  clear hA0 hval
  have hlt := hW'.lt
  obtain ⟨t, ht, hk⟩ : ∃ t, HT W (fun k => k < W.heap.size) t c ∧ keysT t := by
    obtain ⟨fuel0, hf0⟩ := ht0
    exact tree_open fuel0 (cs := c) hf0
  refine (lgr_law hr8 ht (fun v _ => partP_listed (wfFs_untagged (lgr_wf v)) (by decide) (by decide) v _ hk) (fun _ h => h)).mono fun e W' ⟨he, hk'⟩ => ?_
  subst he
  have hb := hk'.below
  exact ⟨_, rfl, post_of_keep (pa := [] ++ (pt ++ [])) (pv := []) hW' (fun _ _ _ => trodAll_cons_mk (shut_bool Try.underlying4 _) trodAll_mk0)
    (fun sp hsp => trodAll_cons_mk (shut_int Try.underlying5 hw8) (trodAll_cons_mk (stays (by kernel_rfl) (of_decide_eq_true (by kernel_rfl)) ht0 hb (fun x hx => hlt x (by simp [hx])) (fun x hx => hsp x (by simp [hx]))) trodAll_mk0))
    (fun _ _ => rfl) rfl hk' (ok_one (by kernel_rfl) rfl (okWide_bool_mk Try.underlying4 _))⟩
/-- a world for the witness -/
noncomputable def laidWorld (os : Os) : World := World.holding Try.prog os ⟨#[], #[], []⟩
theorem laid_met (os : Os) : laidMet Try.prog Rows.fnMakeListGroupsRequestRow.laid ((laidWorld os).forCall (fun _ _ => 0) ⟨#[], #[.int .u8 0, .agg #[.int .i64 0, .slice none 0 0, .bool false, .slice none 0 0, .slice none 0 0]], []⟩).memory :=
  laidMet_of_run' 8 (by kernel_rfl) (by kernel_rfl)
theorem reads (os : Os) {H : Type} (enc : TypeId × Value → H) : ∃ places, DataW.whole enc Try.prog ((laidWorld os).forCall (fun _ _ => 0) ⟨#[], #[.int .u8 0, .agg #[.int .i64 0, .slice none 0 0, .bool false, .slice none 0 0, .slice none 0 0]], []⟩).memory Try.f4.params.toList Rows.fnMakeListGroupsRequestSpec.vars false #[Value.int .u8 0, Value.agg #[.int .i64 0, .slice none 0 0, .bool false, .slice none 0 0, .slice none 0 0]].toList 8 = some ([.lit (.int .u8 0), .agg [.lit (.int .i64 0), .nil, .lit (.bool false), .nil, .nil]], [], places) :=
  ⟨[], by kernel_rfl⟩
set_option maxRecDepth 100000 in
theorem lifted (os : Os) (started : os.Started) (H : Type) (enc : TypeId × Value → H) (F : Stop.Interp) :
    ReturnsInHanded {} Try.checked os 4 .any ((OpenSpec.ofChange Rows.fnMakeListGroupsRequestSpec).preRow enc Try.prog Try.f4 Rows.fnMakeListGroupsRequestRow.domain false Rows.fnMakeListGroupsRequestRow.laid) (((OpenSpec.ofChange Rows.fnMakeListGroupsRequestSpec).at F).post enc Try.prog Try.f4 false true false false) := by
  obtain ⟨places, hx⟩ := reads os enc
  refine returnsInHanded_of_row (C := Try.checked) (s := OpenSpec.ofChange Rows.fnMakeListGroupsRequestSpec) own started (by kernel_rfl) Try.func4
    (witness_row_at (enc := enc) (C := Try.checked) false (laidWorld os) #[.int .u8 0, .agg #[.int .i64 0, .slice none 0 0, .bool false, .slice none 0 0, .slice none 0 0]] rfl (by kernel_rfl) (by kernel_rfl) (by kernel_rfl)
      (OpenSpec.preRow_of_cond 8 hx (by kernel_rfl) (fun k hk => by cases hk) (by kernel_rfl) (laid_met os))) ?_
  intro W base args ds gs before hval hW _ _ _ _ _ _
  exact contract H enc W base args ds gs before hval hW
theorem said : Rows.FnMakeListGroupsRequestSaid :=
  OpenClaim.holds_of_cond 4 Try.f4 rfl rfl rfl rfl rfl rfl rfl ⟨rfl, rfl, rfl, rfl, rfl⟩ rfl rfl rfl rfl rfl (by kernel_rfl) Try.func4 facts
    (of_decide_eq_true (by kernel_rfl)) (by unfold Func.isWrapper; first | (rw [if_pos (by decide +kernel)]; kernel_rfl) | (rw [if_neg (by decide +kernel)]; exact ⟨rfl, rfl⟩))
    (fun os started H enc _ F => by rw [OpenClaim.pre_eq_preRow]; exact lifted os started H enc F)
end Go.Proofs.Ytidebamgmbdnaaa.fnMakeListGroupsRequest
