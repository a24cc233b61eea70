/-
  SASLHandshakeRequest: reading, writing, and impl.BehindSASLHandshakeRequest.
-/
import Derived.Test.YtbdlilalihgdeaaDoorMB16
import Derived.Test.YtbdlilalihgdeaaDoorMSah1
import Derived.Test.YtbdlilalihgdeaaDoorMSah2
import Derived.Deep.Cut
namespace Go.Proofs.YtbdlilalihgdeaaDoor
open Go.ChangeShapes Go.WideShapes Go.ChangeAt Go.RowKit

theorem sah_default (w : World) (x : Value) : Calls Tryd.prog 19 #[x] w fun e w' => e = .returned (.tuple #[]) ∧ w = w' := by
  go_enter Tryd.func19, Tryd.ntmps19
  go_wp2
  refine bodyPost_end (v := .tuple #[]) (by simp [results, Tryd.results19, go_sem]) rfl ?_
  exact ⟨rfl, rfl⟩
set_option maxHeartbeats 1600000 in
set_option maxRecDepth 100000 in
theorem sah_read {G : Nat → Prop} {b : Nat} {p : Addr} {l : Bs} {src : Value} {w : World} {ver : Int} (hb : w.heap[b]? = some (.cells #[.int .i16 ver, .string ⟨#[]⟩] 57 (0, 0))) (hl : RB w G src l) (hG : There G w) (hGb : ¬ G b) (hg : Gl w p) (hp : b ≠ 0) :
    Calls Tryd.prog 28 #[.pointer (some ⟨b, 0, none⟩), src, .bool false] w fun e w' => e = .returned (errV p (rdStr (l, false)).2.2) ∧ w'.heap[b]? = some (.cells #[.int .i16 ver, str (rdStr (l, false)).1] 57 (0, 0)) ∧ Keep [b] w w' := by
  obtain ⟨ao, cap, rfl⟩ := RS.shape hl
  have hbl : b < w.heap.size := World.heap_lt hb
  have cv : (w.alloc (.cells #[.slice ao l.length cap, .bool false] 76)).cell? ⟨b, 0, none⟩ = some (.int .i16 ver) := ((keep_box (A := []) _).cell (p := ⟨b, 0, none⟩) hbl (by simp)).trans (cellOf hb 0 _ rfl)
  have h0 : RdSt w (w.alloc (.cells #[.slice ao l.length cap, .bool false] 76)) b w.heap.size G (l, false) _ 57 :=
    ⟨⟨_, heap_alloc_new w _, hl.keepF (hG.same (keep_box _)) (fun _ h => h)⟩, ((keep_box (A := []) _).block b hbl (by simp)).trans hb, (keep_box (A := []) _).weaken (by simp), hG, hGb, hbl, Nat.le_refl _⟩
  have HB : Hid _ := hb
  clear hb
  go_enter Tryd.func28, Tryd.ntmps28
  go_wp2_with (first
    | (go_at_call 19; refine (sah_default _ _).mono ?_; rintro e wd ⟨rfl, rfl⟩)
    | (go_at_call 37; go_loud (refine (string_any h0.rd h0.hG h0.nrb).mono ?_; rintro e w1 ⟨he, r1, k1⟩; unfold str at he; subst he; have h1 := h0.call r1 k1; have c1 := h1.cell 1 _ rfl; have f1 := h1.free 1; have h2 := h1.set 1 (.string ⟨(rdStr (l, false)).1.toArray⟩); clear h0))
    | (go_at_call 38; go_loud (refine (complete_any h2.rd (hg.keep h2.keep (by simpa using hp.symm))).mono ?_; rintro e wz ⟨rfl, kz⟩; have hz := h2.calm kz)))
  go_ret
  exact ⟨rfl, hz.blk, hz.keep⟩
theorem sah_ReadFrom {G : Nat → Prop} {b : Nat} {p : Addr} {l : Bs} {src : Value} {w : World} {ver : Int} (hb : w.heap[b]? = some (.cells #[.int .i16 ver, .string ⟨#[]⟩] 57 (0, 0))) (hl : RB w G src l) (hG : There G w) (hGb : ¬ G b) (hg : Gl w p) (hp : b ≠ 0) :
    Calls Tryd.prog 16 #[.pointer (some ⟨b, 0, none⟩), src] w fun e w' => e = .returned (errV p (rdStr (l, false)).2.2) ∧ w'.heap[b]? = some (.cells #[.int .i16 ver, str (rdStr (l, false)).1] 57 (0, 0)) ∧ Keep [b] w w' := by
  go_enter Tryd.func16, Tryd.ntmps16
  go_wp2_with (go_at_call 28; refine (sah_read hb hl hG hGb hg hp).mono ?_; rintro e w1 ⟨rfl, h1⟩)
  go_ret
  exact ⟨rfl, h1⟩
/-- AppendTo: behind octets of the call's own, the message lying below them -/
theorem sah_append {b B : Nat} {ver : Int} {s acc : Bs} {v : Value} {w : World} (hb : w.heap[b]? = some (.cells #[.int .i16 ver, str s] 57 (0, 0))) (ho : OB w B v acc) (hB : B ≤ w.heap.size) (hl : acc.length ≤ 36000000000000) (hs : s.length ≤ 1000000000000) :
    Calls Tryd.prog 17 #[.pointer (some ⟨b, 0, none⟩), v] w fun e w' => ∃ v', e = .returned v' ∧ OB w' B v' (acc ++ (fixedP s.length 2 ++ s)) ∧ Below B w w' := by
  obtain ⟨ao, cap, rfl⟩ := ho.len
  have c0 := cellOf hb 0 _ rfl
  have c1 := cellOf hb 1 _ rfl
  go_enter Tryd.func17, Tryd.ntmps17
  go_wp2_with (go_at_call 29; go_loud (refine (appstr_any ho hB (by omega) hs).mono ?_; rintro e w1 ⟨v1, rfl, h1, b1⟩))
  go_ret
  exact ⟨_, rfl, h1, b1⟩
theorem sah_new (w : World) : Calls Tryd.prog 12 #[] w fun e w' => e = .returned (.pointer (some ⟨w.heap.size, 0, none⟩)) ∧ w.alloc (.cells #[.int .i16 0, .string ⟨#[]⟩] 57) = w' := by
  go_enter Tryd.func12, Tryd.ntmps12
  go_wp2_with (go_at_call 19; refine (sah_default _ _).mono ?_; rintro e w1 ⟨rfl, rfl⟩)
  go_ret
  exact ⟨rfl, rfl⟩
theorem sah_max (w : World) (x : Value) : Calls Tryd.prog 13 #[x] w fun e w' => e = .returned (.int .i16 1) ∧ w = w' := by
  go_enter Tryd.func13, Tryd.ntmps13
  go_wp2
  go_ret
  exact ⟨rfl, rfl⟩
theorem sah_Max (w : World) : Calls Tryd.prog 5 #[] w fun e w' => e = .returned (.int .i64 1) ∧ Keep [] w w' := by
  go_enter Tryd.func5, Tryd.ntmps5
  go_wp2_with (first
    | (go_at_call 12; refine (sah_new _).mono ?_; rintro e w1 ⟨rfl, rfl⟩)
    | (go_at_call 13; refine (sah_max _ _).mono ?_; rintro e w2 ⟨rfl, rfl⟩))
  go_ret
  exact ⟨rfl, keep_box _⟩
theorem sah_setv {w : World} {b : Nat} {v : Int} {x : Value} (h : w.cell? ⟨b, 0, none⟩ = some x) (hf : w.frozen? ⟨b, 0, none⟩ = false) : Calls Tryd.prog 15 #[.pointer (some ⟨b, 0, none⟩), .int .i16 v] w fun e w' => e = .returned (.tuple #[]) ∧ w.setCell ⟨b, 0, none⟩ (.int .i16 v) = w' := by
  go_enter Tryd.func15, Tryd.ntmps15
  go_wp2
  refine bodyPost_end (v := .tuple #[]) (by simp [results, Tryd.results15, go_sem]) rfl ⟨rfl, rfl⟩
set_option maxHeartbeats 1000000 in
set_option maxRecDepth 100000 in
theorem sah_Behind0 {G : Nat → Prop} {p : Addr} {l acc : Bs} {src dst : Value} {w : World} {v : Int} (hv : 0 ≤ v ∧ v ≤ 1) (hl : RB w G src l) (hd : RB w G dst acc) (hll : l.length ≤ 36000000000000) (hdl : acc.length ≤ 36000000000000) (hG : There G w) (hg : Gl w p) (hbad : (rdStr (l, false)).2.2 = false) (hsl : (rdStr (l, false)).1.length ≤ 1000000000000) :
    Calls Tryd.prog 9 #[.int .i64 v, dst, src] w fun e w' => ∃ d, e = .returned (.tuple #[d, .bool true]) ∧ OB w' w.heap.size d (acc ++ (fixedP (rdStr (l, false)).1.length 2 ++ (rdStr (l, false)).1)) ∧ Keep [] w w' := by
  obtain ⟨ao, cap, rfl⟩ := RS.shape hl
  obtain ⟨ad, capd, rfl⟩ := RS.shape hd
  have hp1 : 0 < w.heap.size := World.block_lt_of_cell? w _ hg
  have hwr : IntKind.i16.wrap v = v := by rw [wrap_i16']; split <;> omega
  go_enter Tryd.func9, Tryd.ntmps9
  have k0 : Keep [] w (w.alloc (.cells #[.int .i16 v, .string ⟨#[]⟩] 57)) := keep_box _
  have h1 : (w.alloc (.cells #[.int .i16 v, .string ⟨#[]⟩] 57)).heap[w.heap.size]? = some (.cells #[.int .i16 v, .string ⟨#[]⟩] 57) := heap_alloc_new w _
  have hu0 : (w.alloc (.cells #[.int .i16 0, .string ⟨#[]⟩] 57)).heap[w.heap.size]? = some (.cells #[.int .i16 0, .string ⟨#[]⟩] 57) := heap_alloc_new w _
  have hz0 : (w.alloc (.cells #[.int .i16 v, .string ⟨#[]⟩] 57)).heap.size = w.heap.size + 1 := by simp
  have hc0 := cellOf hu0 0 (.int .i16 0) rfl
  have hf0 := freeOf hu0 0
  clear hu0
  have SV := sah_setv (v := v) hc0 hf0
  go_upto_region 3 with (first
    | (go_at_call 12; refine (sah_new _).mono ?_; rintro e w1 ⟨rfl, rfl⟩)
    | (go_at_call 15; go_loud (refine SV.mono ?_; rintro e w1 ⟨rfl, rfl⟩)))
  clear SV hc0 hf0
  generalize (w.alloc (.cells #[.int .i16 v, .string ⟨#[]⟩] 57)) = W0 at *
  have H1 : Hid _ := h1
  clear h1
  go_wp2_with (first
    | (go_at_call 17; go_loud (refine AP.mono ?_; rintro e w5 ⟨v5, rfl, h5, b5⟩))
    | (go_at_call 16; go_loud (refine RF.mono ?_; rintro e w3 ⟨rfl, b3, k3⟩; rw [hbad, errV_false]; have hz3 := k3.size; have K3 := ((K2.weaken (B := [w.heap.size]) (by simp)).trans k3).fresh (B := []) (by simp); have B3 : Hid _ := b3; clear b3))
    | (at_builtin; go_loud (refine app_ob rfl (.const (.slice none 0 0)) (.tmp 20) rfl w3.heap.size (.slice none 0 0) [] rfl (OB.nil _ _) _ acc G rfl (hd.keepF (hG.same K3) (fun _ h => h)) (by simp; omega) (Nat.le_refl _) ?_; intro v4 w4 hown4 hgr4; have k4 : Keep [] w3 w4 := (Keep.refl _ _).grown hgr4 (by simp [Value.ownBlock]); have AP := sah_append ((k4.block w.heap.size (by omega) (by simp)).trans B3.out) hown4 k4.size (by simp; omega) (by omega)))
    | (at_builtin; go_loud (refine app_ob rfl (.const (.slice none 0 0)) (.tmp 15) rfl W0.heap.size (.slice none 0 0) [] rfl (OB.nil _ _) _ l G rfl (hl.keepF (hG.same k0) (fun _ h => h)) (by simp; omega) (Nat.le_refl _) ?_; intro v2 w2 hown hgr; have k2 : Keep [] W0 w2 := (Keep.refl _ _).grown hgr (by simp [Value.ownBlock]); have K2 := k0.trans k2; have hz2 := k2.size; have b2 := (k2.block w.heap.size (by omega) (by simp)).trans H1.out; have hB2 : RB w2 (fun k => W0.heap.size ≤ k ∧ k < w2.heap.size) v2 l := hown.rb; have RF := sah_ReadFrom b2 hB2 (fun k h => h.2) (by omega) (hg.keep K2 List.not_mem_nil) (by omega); clear b2)))
  refine bodyPost_ret (v := .tuple #[v5, .bool true]) (by simp [results, Tryd.results9, go_sem]) rfl ⟨v5, rfl, ?_, ?_⟩
  · exact h5.lower (by omega)
  · exact K3.trans (k4.andBelow b5)
theorem sah_Behind {G : Nat → Prop} {p : Addr} {l acc : Bs} {src dst : Value} {w : World} {v : Int} {t : T} (hv : 0 ≤ v ∧ v ≤ 1) (hl : RB w G src l) (hd : RB w G dst acc) (hll : l.length ≤ 36000000000000) (hdl : acc.length ≤ 36000000000000) (hG : There G w) (hg : Gl w p) (hrd : rdPart q_SASLHandshakeRequest v (m_SASLHandshakeRequest.flexible v) (l, false) = (t, ([], false))) (hsm : small 1000000 t) (_hap : (acc ++ apPart q_SASLHandshakeRequest v (m_SASLHandshakeRequest.flexible v) t).length ≤ 40000000000000) :
    Calls Tryd.prog 9 #[.int .i64 v, dst, src] w fun e w' => ∃ d, e = .returned (.tuple #[d, .bool true]) ∧ OB w' w.heap.size d (acc ++ apPart q_SASLHandshakeRequest v (m_SASLHandshakeRequest.flexible v) t) ∧ Keep [] w w' := by
  have hf : m_SASLHandshakeRequest.flexible v = false := by simp [Msg.flexible, m_SASLHandshakeRequest]
  have hh : F.has (.mk 8 0 (-1) (-1) (-1) 0 0 []) v = true := has_yes hv.1 (.inl (by decide))
  have e : rdPart q_SASLHandshakeRequest v false (l, false) = (.mk 0 [] false [.mk 0 (rdStr (l, false)).1 false [] []] [], (rdStr (l, false)).2) := by
    simp [rdPart, rdPartOf, q_SASLHandshakeRequest, rdFs, hh, rdF, rdK]
  rw [hf] at hrd ⊢
  rw [e] at hrd
  obtain ⟨rfl, h2⟩ := Prod.mk.inj hrd
  have ea : apPart q_SASLHandshakeRequest v false (.mk 0 [] false [.mk 0 (rdStr (l, false)).1 false [] []] []) = fixedP (rdStr (l, false)).1.length 2 ++ (rdStr (l, false)).1 := by
    simp [apPart_plain, q_SASLHandshakeRequest, apFs, hh, apF_str]
  rw [ea]
  have hs : (rdStr (l, false)).1.length ≤ 1000000 := by
    simp only [small, smalls] at hsm
    exact hsm.2.2.2.2.1.1
  exact sah_Behind0 hv hl hd hll hdl hG hg (by rw [h2]) (by omega)
end Go.Proofs.YtbdlilalihgdeaaDoor
