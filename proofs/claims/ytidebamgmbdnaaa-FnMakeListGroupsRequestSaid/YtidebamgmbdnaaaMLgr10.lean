/-
  laws.FnMakeListGroupsRequest.
-/
import Derived.Test.YtidebamgmbdnaaaMLgr9
import Derived.Test.YtidebamgmbdnaaaMB21
import Derived.Test.YtidebamgmbdnaaaMB5
import Derived.Test.YtidebamgmbdnaaaMB14
import Derived.Test.YtidebamgmbdnaaaMB17
namespace Go.Proofs.Ytidebamgmbdnaaa
open Go.ChangeShapes Go.WideShapes Go.ChangeAt Go.RowKit

theorem lgr_wf (v : Int) : wfFs (m_ListGroupsRequest.flexible v) m_ListGroupsRequest.fields = true := by
  cases m_ListGroupsRequest.flexible v <;> decide
theorem lgr_narrow : narrows 1000000 m_ListGroupsRequest.fields ∧ m_ListGroupsRequest.fields.length ≤ 1000000 := by
  simp [m_ListGroupsRequest, narrows, narrow]
theorem lgr_plain : plainFs m_ListGroupsRequest.fields = true := by decide
set_option maxHeartbeats 1600000 in
set_option maxRecDepth 100000 in
theorem lgr_law {G : Nat → Prop} {n : Int} {t : T} {c : List Value} {w : World} (hn : 0 ≤ n ∧ n ≤ 255) (ht : HT w G t c) (hsz : ∀ v, 0 ≤ v → (writeP m_ListGroupsRequest v t).length ≤ 35990000000000) (hG : There G w) :
    Calls Try.prog 4 #[.int .u8 n, .agg c.toArray] w fun e w' => e = .returned (.bool true) ∧ Keep [] w w' := by
  have hv : 0 ≤ n % (5 + 1) ∧ n % (5 + 1) ≤ 5 := by omega
  have VA := fun W => version_any hn (m := 5) (by omega) W
  have hlen := hsz (n % (5 + 1)) hv.1
  have hap : apPart q_ListGroupsRequest (n % (5 + 1)) (m_ListGroupsRequest.flexible (n % (5 + 1))) (flPart q_ListGroupsRequest (fitPart q_ListGroupsRequest (n % (5 + 1)) t)) = writeP m_ListGroupsRequest (n % (5 + 1)) t := apPart_fit (lgr_wf (n % (5 + 1))) lgr_plain t
  have hsm : small 1000000 (flPart q_ListGroupsRequest (fitPart q_ListGroupsRequest (n % (5 + 1)) t)) := by
    rw [show flPart q_ListGroupsRequest (fitPart q_ListGroupsRequest (n % (5 + 1)) t) = mkPart q_ListGroupsRequest (n % (5 + 1)) t from fl_fit lgr_plain _ _]
    exact mkPart_small (by omega) lgr_narrow.1 lgr_narrow.2 _ t
  have hsl : slim (fitPart q_ListGroupsRequest (n % (5 + 1)) t) := fitPart_slim lgr_narrow.1 lgr_narrow.2 _ t
  have hri : Rising (fitPart q_ListGroupsRequest (n % (5 + 1)) t).u := tdU_rising _ _
  have hul : (fitPart q_ListGroupsRequest (n % (5 + 1)) t).u.length ≤ 1000000 := by have := tdU_len q_ListGroupsRequest t.u; show (tdU q_ListGroupsRequest t.u).length ≤ _; omega
  have hsl0 : (atT (fitPart q_ListGroupsRequest (n % (5 + 1)) t) 0).l.length ≤ 32767 := fitF_len q_ListGroupsRequest[0] rfl _ _
  have hnn0 : ∀ y ∈ (atT (fitPart q_ListGroupsRequest (n % (5 + 1)) t) 0).l, y.null = false := fitF_elems q_ListGroupsRequest[0] rfl
  have hsl1 : (atT (fitPart q_ListGroupsRequest (n % (5 + 1)) t) 1).l.length ≤ 32767 := fitF_len q_ListGroupsRequest[1] rfl _ _
  have hnn1 : ∀ y ∈ (atT (fitPart q_ListGroupsRequest (n % (5 + 1)) t) 1).l, y.null = false := fitF_elems q_ListGroupsRequest[1] rfl
  have FT := fun W (hW : Keep [] w W) => fits1_some (ht.keepF (hG.same hW) (fun _ h => h)) (hG.keep hW)
  have WR := fun (cm : List Value) W (hW : Keep [] w W) (hm : HM W (fun k => w.heap.size ≤ k ∧ k < W.heap.size) m_ListGroupsRequest cm) =>
    write_any (G := fun k => G k ∨ (w.heap.size ≤ k ∧ k < W.heap.size)) (v := (n % (5 + 1))) (partSaid_wf _ _ _ (fun e => by have := lgr_wf (n % (5 + 1)); rw [e] at this; exact this)) (hm.keepF (fun k h => rfl) (fun k h => .inr h)) (ht.keepF (hG.same hW) (fun _ h => .inl h)) (fun k h => h.elim (fun h => hG.keep hW k h) (fun h => h.2)) (by omega)
  have FI : ∀ (G' : Nat → Prop) W vs, HFs W G' vs q_ListGroupsRequest → HT W G' t c → There G' W → _ := fun G' W vs h1 h2 h3 => fitSaid_ok (fs := q_ListGroupsRequest) lgr_plain (n % (5 + 1)) G' vs t c W h1 h2 h3
  have MK : ∀ (G' : Nat → Prop) W cx, HT W G' (fitPart q_ListGroupsRequest (n % (5 + 1)) t) cx → There G' W → _ := fun G' W cx h1 h2 => lgr_Make (w := W) (c := cx) hv h1 h2 hri hul hsl0 hnn0 hsl1 hnn1 hsm (by rw [hap]; omega)
  rw [hap] at MK
  have GI := givSaid _ hsl
  generalize fitPart q_ListGroupsRequest (n % (5 + 1)) t = X at *
  generalize hvv : n % (5 + 1) = v at *
  clear hvv hsz hap hsm hsl hsl0 hnn0 hsl1 hnn1
  generalize writeP m_ListGroupsRequest v t = WP at *
  obtain ⟨az, ps, al, pl, au, pu, rfl, -⟩ := id ht.cells
  have HLEN : Hid _ := hlen
  have HFI : Hid _ := FI
  have HMK : Hid _ := MK
  have HGI : Hid _ := GI
  have HWR : Hid _ := WR
  clear hlen FI MK GI WR
  go_enter Try.func4, Try.ntmps4
  go_wp2_with (first
    | (go_at_call 8; go_loud (refine (FT _ (keep_box _)).mono ?_; rintro e w0 ⟨x0, rfl, k0⟩; cases x0))
    | (go_at_call 17; refine (lgr_Max _).mono ?_; rintro e w1 ⟨rfl, k1⟩)
    | (go_at_call 11; refine (VA _).mono ?_; rintro e wv ⟨rfl, rfl⟩)
    | (go_at_call 18; go_loud (refine (c_ListGroupsRequest _).mono ?_; rintro e w2 ⟨cm, rfl, hm, k2⟩; obtain ⟨am, pm, rfl, -⟩ := id hm)))
  · go_ret
    exact ⟨rfl, (keep_box _).trans k0⟩
  have K2b : Keep [] (w.alloc (.cells #[.int .i64 t.n, .slice az t.s.length ps, .bool t.null, .slice al t.l.length pl, .slice au t.u.length pu] 26)) (w2.alloc (.cells #[.slice am m_ListGroupsRequest.fields.length pm, .int .i64 m_ListGroupsRequest.flex] 31)) := (k0.trans (k1.trans k2)).alloc _
  have hbT := (K2b.block w.heap.size (by simp) (by simp)).trans (heap_alloc_new w _)
  have hbM := heap_alloc_new w2 (.cells #[.slice am m_ListGroupsRequest.fields.length pm, .int .i64 m_ListGroupsRequest.flex] 31)
  have hmk := hm.keepF (w' := w2.alloc (.cells #[.slice am m_ListGroupsRequest.fields.length pm, .int .i64 m_ListGroupsRequest.flex] 31)) (G := fun k => w.heap.size ≤ k ∧ k < (w2.alloc (.cells #[.slice am m_ListGroupsRequest.fields.length pm, .int .i64 m_ListGroupsRequest.flex] 31)).heap.size) (fun k hk => Keep.block (keep_box (A := []) _) k hk.2 List.not_mem_nil) (fun k hk => ⟨by have a1 := hk.1; have a2 := k1.size; have a3 := k0.size; simp at a3; omega, by have a2 := hk.2; simp; omega⟩)
  have K5 : Keep [] w (w2.alloc (.cells #[.slice am m_ListGroupsRequest.fields.length pm, .int .i64 m_ListGroupsRequest.flex] 31)) := (keep_box _).trans K2b
  obtain ⟨am2, pm2, e2, hmF⟩ := id hmk
  simp only [List.cons.injEq, Value.slice.injEq, and_true] at e2
  obtain ⟨rfl, -, rfl⟩ := e2
  generalize hW5 : w2.alloc (.cells #[.slice am m_ListGroupsRequest.fields.length pm, .int .i64 m_ListGroupsRequest.flex] 31) = W5 at *
  have HA := fun W (k : Keep [] W5 W) => And.intro (k.cs (cellOf hbM 0 _ rfl)) (And.intro (k.cs (cellOf hbM 1 _ rfl)) (And.intro (k.cs (cellOf hbT 0 _ rfl)) (And.intro (k.cs (cellOf hbT 1 _ rfl)) (And.intro (k.cs (cellOf hbT 2 _ rfl)) (And.intro (k.cs (cellOf hbT 3 _ rfl)) (k.cs (cellOf hbT 4 _ rfl)))))))
  have HAH : Hid _ := HA
  have HMM : Hid _ := hmk
  have HMF : Hid _ := hmF
  have hz5 := K5.size
  clear HA hmk hmF hbT hbM hW5 hm K2b
  have HG5 : Hid (∀ W, Keep [] W5 W → There (fun k => G k ∨ (w.heap.size ≤ k ∧ k < W5.heap.size)) W) := fun W k' j hj => by
    have h1 := k'.size
    rcases hj with h | h
    · have := hG j h; omega
    · omega
  have HS5 : Hid (∀ W, Keep [] W5 W → SameOn (fun k => w.heap.size ≤ k ∧ k < W5.heap.size) W5 W) := fun W k' j hj => k'.block j hj.2 (by simp)
  have kc : Keep [] W5 W5.drew := (Keep.refl _ _).drew
  go_region_held3 (fun w' => w'.cell? ⟨w2.heap.size, 0, none⟩ = some (.slice am m_ListGroupsRequest.fields.length pm) ∧ w'.cell? ⟨w2.heap.size, 1, none⟩ = some (.int .i64 m_ListGroupsRequest.flex) ∧ w'.cell? ⟨w.heap.size, 0, none⟩ = some (.int .i64 t.n) ∧ w'.cell? ⟨w.heap.size, 1, none⟩ = some (.slice az t.s.length ps) ∧ w'.cell? ⟨w.heap.size, 2, none⟩ = some (.bool t.null) ∧ w'.cell? ⟨w.heap.size, 3, none⟩ = some (.slice al t.l.length pl) ∧ w'.cell? ⟨w.heap.size, 4, none⟩ = some (.slice au t.u.length pu)) (first | exact HAH.out _ kc | exact HAH.out _ (Keep.refl _ _).drew | exact HAH.out _ (Keep.refl _ _)) (first
    | (go_at_call 15; (refine (HFI.out (fun k => G k ∨ (w.heap.size ≤ k ∧ k < W5.heap.size)) _ _ (HFs.keepF HMF.out (HS5.out _ kc) (fun _ h => .inr h)) (ht.keepF (hG.same (K5.trans kc)) (fun _ h => .inl h)) (HG5.out _ kc)).mono ?_; rintro e wf ⟨cf, rfl, hf, k'⟩; obtain ⟨f1, f2, f3, f4, f5, f6, rfl, -⟩ := id hf.cells; have HF : Hid _ := hf; clear hf; (try have kw := kw.trans k'); have kc := kc.trans k'; have kf : Keep [] wf wf := Keep.refl _ _; clear k'))
    | (go_at_call 14; (refine (HGI.out _ _ _ (HT.keepF HF.out (fun k hk => kf.block k hk.2 (by simp)) (fun _ h => h)) (fun k hk => Nat.lt_of_lt_of_le hk.2 kf.size)).mono ?_; rintro e wg ⟨cg, rfl, hg, k'⟩; obtain ⟨g1, g2, g3, g4, g5, g6, rfl, -⟩ := id hg.cells; have HGV : Hid _ := hg; clear hg; (try have kw := kw.trans k'); have kc := kc.trans k'; have kg : Keep [] wg wg := Keep.refl _ _; clear k'))
    | (go_at_call 19; (refine (HMK.out _ _ _ (HT.keepF HGV.out (fun k hk => kg.block k hk.2 (by simp)) (fun _ h => h)) (fun k hk => Nat.lt_of_lt_of_le hk.2 kg.size)).mono ?_; rintro e wm ⟨dm, rfl, hm, k'⟩; obtain ⟨m1, m2, rfl⟩ := hm.len; have HMD : Hid _ := hm; clear hm; (try have kw := kw.trans k'); have kc := kc.trans k'; have km : Keep [] wm wm := Keep.refl _ _; clear k'))
    | (go_at_call 16; (refine (HWR.out _ _ (K5.trans kc) (HM.keepF HMM.out (HS5.out _ kc) (fun k hk => ⟨hk.1, by have := hk.2; have := kc.size; omega⟩))).mono ?_; rintro e ww ⟨dw, rfl, hw, k'⟩; obtain ⟨d1, d2, rfl⟩ := hw.len; have HWD : Hid _ := hw; clear hw; (try have kf := kf.trans k'); (try have kg := kg.trans k'); (try have km := km.trans k'); have kc := kc.trans k'; have kw : Keep [] ww ww := Keep.refl _ _; clear k'))
    | (go_at_call 12; (refine (same_any (OB.rb (OB.keep HMD.out km)) (OB.rb (OB.keep HWD.out kw)) (by have := HLEN.out; omega) (by have := HLEN.out; omega)).mono ?_; rintro e ws ⟨rfl, k'⟩; have kc := kc.trans k'; clear k')))
  all_goals go_wp2
  all_goals go_ret
  all_goals exact ⟨by simp, K5.trans kc⟩
end Go.Proofs.Ytidebamgmbdnaaa
