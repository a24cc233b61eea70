/-
  PROVED: laws.FnUnsafeDescribeClientQuotasResponse, whatever number and octets it is given, returns true (both ways of reading tell the same of them as a DescribeClientQuotasResponse), and the octets read behind the call as before. CONDITIONS: those of the given row alone (when the call begins, the error variable reads as its initialiser lays it); the card ties that to the program's text.
  The row and the card. The frame began as the worked toy of a law over a package-level table.
-/
import Derived.Test.YtodbdecpacdgiaaDoorMDcq22
import Derived.Test.YtodbdecpacdgiaaDoorMDcq23
import Derived.Test.YtodbdecpacdgiaaDoorMDcq24
import Derived.Test.YtodbdecpacdgiaaDoorCards
import Derived.Test.YtodbdecpacdgiaaDoorTie
import Derived.Carry
import Derived.Deep.DeepHandedRow
import Derived.Stop.LaidErr
import Derived.LaidLaws
namespace Go.Proofs.YtodbdecpacdgiaaDoor.fnUnsafeDescribeClientQuotasResponse
open Go.ChangeShapes Go.WideShapes Go.ChangeAt Go.RowKit

theorem own : ownKnob Tryd.prog.godebug = none := by kernel_rfl
theorem gErr : Tryd.prog.globalNamed "pub-mailsack/pub/kmsg/inner/kbin.ErrNotEnoughData" = some 0 := by kernel_rfl
theorem gErrType : (Tryd.prog.globals[0]?).map (·.type) = some 44 := by kernel_rfl
theorem rowErr (u : TypeId) (h : Tryd.prog.typeName? 3 u = some "*errors.errorString") : u = 217 :=
  typeName_ptr_named (nm := "errors.errorString") (by rw [show "*" ++ "errors.errorString" = "*errors.errorString" by decide]; kernel_rfl) (by kernel_rfl) (by decide) u (by rw [show "*" ++ "errors.errorString" = "*errors.errorString" by decide]; exact h)
theorem cellsU8 : Tryd.prog.cellsOf 5 = 1 := by kernel_rfl

/-- what the row's list gives: the error's variable -/
theorem gl {W : World} (h : laidMetH Tryd.prog Rows.fnUnsafeDescribeClientQuotasResponseRow.laid W) : ∃ p, Gl W p := by
  obtain ⟨a, s, hv, _⟩ := laid_sentinel (r := []) h gErr gErrType Tryd.underlying44 rowErr Tryd.underlying217 Tryd.underlying235 rfl rfl Tryd.underlying9 (by kernel_rfl) (by kernel_rfl)
  exact ⟨a, by simpa [Gl] using World.var?_cell gErr hv 0⟩
theorem keptBut_of {w w' : World} (h : Keep [] w w') (may : MemPlace → Prop) : w.keptBut w' may := by
  refine ⟨h.os, h.output, fun i hi => ?_⟩
  rw [h.block i hi (by simp)]
  cases w.heap[i]? with
  | none => trivial
  | some o => cases o <;> simp
theorem wf_u8 {n : Int} (h : (Lit.int .u8 n).wf = true) : 0 ≤ n ∧ n ≤ 255 := by
  simpa [Lit.wf, IntKind.has, IntKind.min, IntKind.max, IntKind.bits, IntKind.signed] using h
theorem rb_of_ints {W : World} {a : Addr} {len cap : Nat} {zs : List Int} {G : Nat → Prop} (ha : a.spot = none) (hl : len ≤ cap) (hz : zs.length = cap) (hcell : ∀ i, i < zs.length → W.cell? (a.add i) = some (.int .u8 (zs.getD i 0))) (hwz : ∀ n ∈ zs, (Lit.int .u8 n).wf = true) (hG : G a.block) :
    RB W G (.slice (some a) len cap) ((zs.take len).map fun z => UInt8.ofNat z.toNat) := by
  obtain ⟨b, o, sp⟩ := a
  simp only at ha
  subst ha
  have hlen : ((zs.take len).map fun z => UInt8.ofNat z.toNat).length = len := by simp; omega
  refine ⟨_, _, by rw [hlen], by omega, (fun h => by cases h), fun a' ha' => ?_⟩
  cases ha'
  refine ⟨fun _ => rfl, fun i hi => ⟨hG, ?_⟩⟩
  have hi' : i < zs.length := by simp at hi; omega
  have h := hcell i hi'
  rw [addr_add] at h
  simp only
  rw [h]
  have hw := wf_u8 (hwz _ (List.getElem_mem hi'))
  simp [bv, List.getD, hi']
  omega

/-- the end of a call that leaves all old memory alone -/
theorem post_of_keep {H : Type} {enc : TypeId × Value → H} {P : Program} {f : Func} {s : ChangeSpec} {apart fresh handsOn again : Bool} {W W' : World} {args : Array Value} {v : Value} {ds gs : List (DataW H)} {before pa pv : List MemPlace}
    (hW : DataW.Whole enc P f.params.toList s.vars apart W args.toList ds gs before)
    (hres : ∀ (b : Nat) (sp : Nat → Bool) (hd : Bool), DataW.TrodAll enc P W' b sp hd f.resultTypes.toList (v.resultList f.resultTypes.size) (s.fn H (ds ++ gs)).results [])
    (hargs : ∀ sp : Nat → Bool, (∀ p ∈ before, sp p.block = true) → DataW.TrodAll enc P W' 0 sp true f.params.toList args.toList (s.fn H (ds ++ gs)).args pa)
    (hvars : ∀ sp : Nat → Bool, (∀ p ∈ before, sp p.block = true) → DataW.TrodVars enc P W' sp s.vars (s.fn H (ds ++ gs)).vars pv)
    (hps : before = pa ++ pv) (hk : Keep [] W W')
    (hok : ∀ (j : Nat) (t : TypeId) (r : Value), f.resultTypes[j]? = some t → (v.resultList f.resultTypes.size)[j]? = some r → Value.okWide P W' .any 0 t r) :
    s.post enc P f apart fresh handsOn again W args v W' := by
  have hold : ∀ p ∈ before, (fun b => decide (b < W.heap.size)) p.block = true := fun p hp => by simpa using hW.lt p hp
  have hlt := hW.lt
  refine ⟨ds, gs, before, [], pa, pv, hW, hres _ _ _, hargs _ hold, hvars _ hold, World.keptBut_mono (fun p hp => ⟨hp, ?_⟩) (keptBut_of hk (· ∈ before)), fun _ => ?_⟩
  · rw [hps, List.mem_append] at hp
    exact Or.inr hp
  · obtain ⟨_, _, _, _, _, hz, hn⟩ := hW
    refine ⟨hok, _, _, ([] ++ pa) ++ pv, ⟨[] ++ pa, pv, trodAll_append (hargs _ (fun _ _ => rfl)) (hres _ _ _), hvars _ (fun _ _ => rfl), rfl, ?_, ?_⟩, ?_⟩
    · intro b off hp
      have hm : MemPlace.cell b off ∈ before := by rw [hps]; simpa using hp
      exact (World.frozen?_of_block (w := W) (a := ⟨b, off, none⟩) (hk.block b (hlt _ hm) (by simp))).trans (hz b off hm)
    · intro ha
      have := hn ha
      rw [hps] at this
      simpa using this
    · intro p hp _
      rw [hps]
      simpa using hp

/-- octets that lie as they lay read as they read -/
theorem rd {H : Type} {enc : TypeId × Value → H} (W' : World) (sp : Nat → Bool) (a : Addr) (len cap : Nat) (z : List Int) (hl : len ≤ cap) (hm : cap ≤ maxLen) (hz : z.length = cap) (hcell : ∀ i, i < z.length → W'.cell? (a.add i) = some (.int .u8 (z.getD i 0))) (hwz : ∀ n ∈ z, (Lit.int .u8 n).wf = true) (hsp' : ∀ p ∈ MemPlace.row a z.length, sp p.block = true) :
    DataW.Trod enc Tryd.prog W' 0 sp true 22 (.slice (some a) len cap) (.slice (lits .u8 (z.take len)) (lits .u8 (z.drop len))) (MemPlace.row a z.length) := by
  by_cases hz0 : z.length = 0
  · have hc0 : cap = 0 := by omega
    have hl0 : len = 0 := by omega
    subst hc0; subst hl0
    have t0 := shut_ints (enc := enc) (w := W') (base := 0) (spare := sp) (held := true) (a := a) (len := 0) (cap := 0) (zs := z) 0 Tryd.underlying22 Tryd.underlying5 cellsU8 (Nat.zero_le _) (Nat.le_refl _) hm (by simp [hz0]) hcell hwz
    exact ⟨2, by simpa [Value.cells] using t0⟩
  · have hspb : sp a.block = true := hsp' (.cell a.block a.off) (MemPlace.mem_row.2 ⟨0, by omega, by simp⟩)
    have t0 := shut_ints (enc := enc) (w := W') (base := 0) (spare := sp) (held := true) (a := a) (len := len) (cap := cap) (zs := z) 0 Tryd.underlying22 Tryd.underlying5 cellsU8 (Nat.zero_le _) hl hm (by simp [hspb, hz]) hcell hwz
    exact ⟨2, by simpa [Value.cells] using t0⟩
theorem rd_nil {H : Type} {enc : TypeId × Value → H} (W' : World) (sp : Nat → Bool) : DataW.Trod enc Tryd.prog W' 0 sp true 22 (.slice none 0 0) .nil [] :=
  ⟨1, by simp [DataW.trod, Tryd.underlying22, Value.cells]⟩
set_option maxRecDepth 100000 in
theorem contract (H : Type) (enc : TypeId × Value → H) (W : World) (base : Nat) (args : Array Value) (ds gs : List (DataW H)) (before : List MemPlace)
    (hval : ∀ (j : Nat) t v, Tryd.f7.params[j]? = some t → args[j]? = some v → Value.okWide Tryd.prog W .any base t v)
    (hW : DataW.Whole enc Tryd.prog Tryd.f7.params.toList Rows.fnUnsafeDescribeClientQuotasResponseSpec.vars false W args.toList ds gs before) (hL : laidMetH Tryd.prog Rows.fnUnsafeDescribeClientQuotasResponseRow.laid W) :
    Calls Tryd.prog 7 args W fun e W' => ∃ v, e = .returned v ∧ Rows.fnUnsafeDescribeClientQuotasResponseSpec.post enc Tryd.prog Tryd.f7 false true false false W args v W' := by
  have hW' := hW
  obtain ⟨p, q, hA0, hV, rfl, hfz, hnd⟩ := hW
  have hA : DataW.TrodAll enc Tryd.prog W 0 (fun _ => true) true Tryd.f7.params.toList args.toList ds p := hA0
  rw [Tryd.params7] at hA hval
  obtain ⟨vn, vs0, dn, ds0, pn, qn, hargs0, rfl, rfl, hn0, r00⟩ := trodAll_cons hA
  obtain ⟨v0, vs1, d0, ds1, p0, q0, hargs, rfl, rfl, h0, r0⟩ := trodAll_cons r00
  obtain ⟨rfl, rfl, rfl⟩ := trodAll_nil r0
  obtain rfl : args = #[vn, v0] := by cases args; simp_all
  obtain ⟨rfl, rfl⟩ := trodVars_none hV
  have hvn := hval 0 5 vn rfl rfl
  have hv0 := hval 1 22 v0 rfl rfl
  obtain ⟨n8, rfl, rfl, rfl, hw8⟩ := open_int Tryd.underlying5 hvn hn0
  have hr8 : 0 ≤ n8 ∧ n8 ≤ 255 := wf_u8 hw8
  obtain ⟨ao, n, cap, rfl⟩ := okWide_slice Tryd.underlying22 hv0
  obtain ⟨pe, hg⟩ := gl hL
  clear hA0 hval
  simp only [List.append_nil, List.nil_append] at hW'
  obtain ⟨fuel0, hf0⟩ := h0
  rcases open_ints Tryd.underlying22 Tryd.underlying5 cellsU8 hf0 with ⟨hcs, hx⟩ | ⟨a, len, cap', zs, hcs, _, hl, hm, hz, hx, hcell, hwz⟩
  · simp only [Value.cells, List.cons.injEq, and_true, Value.slice.injEq] at hcs
    obtain ⟨rfl, rfl, rfl⟩ := hcs
    simp only [Prod.mk.injEq] at hx
    obtain ⟨rfl, rfl⟩ := hx
    refine (dcq_law (G := fun _ => False) hr8 (RB.nil W _) (fun _ h => h.elim) hg).mono fun e W' ⟨he, hk⟩ => ?_
    subst he
    exact ⟨_, rfl, post_of_keep (pa := []) (pv := []) hW' (fun _ _ _ => trodAll_cons_mk (shut_bool Tryd.underlying4 _) trodAll_mk0) (fun sp _ => trodAll_cons_mk (shut_int Tryd.underlying5 hw8) (trodAll_cons_mk (rd_nil W' sp) trodAll_mk0)) (fun _ _ => rfl) rfl hk (ok_one (by kernel_rfl) rfl (okWide_bool_mk Tryd.underlying4 _))⟩
  · simp only [Value.cells, List.cons.injEq, and_true, Value.slice.injEq] at hcs
    obtain ⟨rfl, rfl, rfl⟩ := hcs
    simp only [Prod.mk.injEq] at hx
    obtain ⟨rfl, rfl⟩ := hx
    simp only [if_true] at hz
    have hsp : a.spot = none ∧ a.block < W.heap.size := by
      simp only [Value.okWide, Tryd.underlying22, Cell.okWide, Cell.ok] at hv0
      obtain ⟨_, _, _, h2, row, cells, h3, _⟩ := hv0
      refine ⟨h2, ?_⟩
      unfold World.shape? at h3
      rcases Nat.lt_or_ge a.block W.heap.size with h | h
      · exact h
      · simp [Array.getElem?_eq_none h] at h3
    have hrb := rb_of_ints (G := fun k => k < W.heap.size) hsp.1 hl hz hcell hwz hsp.2
    refine (dcq_law hr8 hrb (fun _ h => h) hg).mono fun e W' ⟨he, hk⟩ => ?_
    subst he
    have hcell' : ∀ i, i < zs.length → W'.cell? (a.add i) = some (.int .u8 (zs.getD i 0)) := fun i hi => (hk.cell (p := a.add i) (by rw [block_add]; exact hsp.2) (by simp)).trans (hcell i hi)
    exact ⟨_, rfl, post_of_keep (pa := [] ++ (MemPlace.row a zs.length ++ [])) (pv := []) hW' (fun _ _ _ => trodAll_cons_mk (shut_bool Tryd.underlying4 _) trodAll_mk0) (fun sp hspb => trodAll_cons_mk (shut_int Tryd.underlying5 hw8) (trodAll_cons_mk (rd W' sp a n cap zs hl hm hz hcell' hwz hspb) trodAll_mk0)) (fun _ _ => rfl) (by simp) hk (ok_one (by kernel_rfl) rfl (okWide_bool_mk Tryd.underlying4 _))⟩
abbrev errS : ByteArray := { data := #[114, 101, 115, 112, 111, 110, 115, 101, 32, 100, 105, 100, 32, 110, 111, 116, 32, 99, 111, 110, 116, 97, 105, 110, 32, 101, 110, 111, 117, 103, 104, 32, 100, 97, 116, 97, 32, 116, 111, 32, 98, 101, 32, 118, 97, 108, 105, 100] }
noncomputable def low : Nat := (World.holding Tryd.prog default ⟨#[], #[], []⟩).heap.size
/-- a world for the witness: the error as its initialiser lays it -/
noncomputable def laidWorld (os : Os) : World :=
  let w0 := World.holding Tryd.prog os ⟨#[.cells #[.string errS] 235], #[], []⟩
  { w0 with heap := w0.heap.modify 0 fun
      | .cells _ t frozen => .cells #[.iface 217 (.pointer (some ⟨low, 0, none⟩))] t frozen
      | o => o }
theorem laid_met (os : Os) : laidMet Tryd.prog Rows.fnUnsafeDescribeClientQuotasResponseRow.laid ((laidWorld os).forCall (fun _ _ => 0) ⟨#[], #[.int .u8 0, .slice none 0 0], []⟩).memory :=
  laidMet_of_run' 8 (by kernel_rfl) (by kernel_rfl)
theorem reads (os : Os) {H : Type} (enc : TypeId × Value → H) : ∃ places, DataW.whole enc Tryd.prog ((laidWorld os).forCall (fun _ _ => 0) ⟨#[], #[.int .u8 0, .slice none 0 0], []⟩).memory Tryd.f7.params.toList Rows.fnUnsafeDescribeClientQuotasResponseSpec.vars false #[Value.int .u8 0, Value.slice none 0 0].toList 8 = some ([.lit (.int .u8 0), .nil], [], places) :=
  ⟨[], by kernel_rfl⟩
set_option maxRecDepth 100000 in
theorem lifted (os : Os) (started : os.Started) (H : Type) (enc : TypeId × Value → H) (F : Stop.Interp) :
    ReturnsInHanded {} Tryd.checked os 7 .any ((OpenSpec.ofChange Rows.fnUnsafeDescribeClientQuotasResponseSpec).preRow enc Tryd.prog Tryd.f7 Rows.fnUnsafeDescribeClientQuotasResponseRow.domain false Rows.fnUnsafeDescribeClientQuotasResponseRow.laid) (((OpenSpec.ofChange Rows.fnUnsafeDescribeClientQuotasResponseSpec).at F).post enc Tryd.prog Tryd.f7 false true false false) := by
  obtain ⟨places, hx⟩ := reads os enc
  refine returnsInHanded_of_row (C := Tryd.checked) (s := OpenSpec.ofChange Rows.fnUnsafeDescribeClientQuotasResponseSpec) own started (by kernel_rfl) Tryd.func7
    (witness_row_at (enc := enc) (C := Tryd.checked) false (laidWorld os) #[.int .u8 0, .slice none 0 0] rfl (by kernel_rfl) (by kernel_rfl) (by kernel_rfl)
      (OpenSpec.preRow_of_cond 8 hx (by kernel_rfl) (fun k hk => by cases hk) (by kernel_rfl) (laid_met os))) ?_
  intro W base args ds gs before hval hW _ _ _ hL _ _
  exact contract H enc W base args ds gs before hval hW hL
theorem said : Rows.FnUnsafeDescribeClientQuotasResponseSaid :=
  OpenClaim.holds_of_cond 7 Tryd.f7 rfl rfl rfl rfl rfl rfl rfl ⟨rfl, rfl, rfl, rfl, rfl⟩ rfl rfl rfl rfl rfl (by kernel_rfl) Tryd.func7 facts
    (of_decide_eq_true (by kernel_rfl)) (by unfold Func.isWrapper; first | (rw [if_pos (by decide +kernel)]; kernel_rfl) | (rw [if_neg (by decide +kernel)]; exact ⟨rfl, rfl⟩))
    (fun os started H enc _ F => by rw [OpenClaim.pre_eq_preRow]; exact lifted os started H enc F)
theorem plain (f : FuncId) (fn : Func) (hf : Tryd.pinned.checked.prog.funcNamed "pub-mailsack/laws.FnUnsafeDescribeClientQuotasResponse" = some f) (hfn : Tryd.pinned.checked.prog.funcs[f]? = some fn) :
    false = Tryd.pinned.checked.prog.looks [] ∧ ∀ (j : Nat) t, fn.params[j]? = some t → Tryd.pinned.checked.prog.wantsStandIn t = false := by
  obtain rfl : f = 7 := Option.some.inj ((show Tryd.prog.funcNamed "pub-mailsack/laws.FnUnsafeDescribeClientQuotasResponse" = some 7 by kernel_rfl).symm.trans hf) |>.symm
  obtain rfl : fn = Tryd.f7 := (Option.some.inj (Tryd.func7.symm.trans hfn)).symm
  refine ⟨j_looks, fun j t ht => ?_⟩
  rw [Tryd.params7] at ht
  have h := Array.mem_of_getElem? ht
  simp at h
  rcases h with rfl | rfl
  · exact (show Tryd.prog.wantsStandIn 5 = false by kernel_rfl)
  · exact (show Tryd.prog.wantsStandIn 22 = false by kernel_rfl)
theorem card : Rows.FnUnsafeDescribeClientQuotasResponseCardSaid :=
  Claim7.holds_tied_plain_at .later [] _ _ _ _ said (fun _ h => by cases h) (by kernel_rfl) (fun _ h => by cases h) fnUnsafeDescribeClientQuotasResponse_row_tie rfl ⟨rfl, rfl⟩ j_main rfl plain j_goes
end Go.Proofs.YtodbdecpacdgiaaDoor.fnUnsafeDescribeClientQuotasResponse
