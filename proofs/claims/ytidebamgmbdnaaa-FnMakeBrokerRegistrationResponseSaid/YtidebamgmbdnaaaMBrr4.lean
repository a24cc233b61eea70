/-
  BrokerRegistrationResponse: its doors, and what fills it.
-/
import Derived.Test.YtidebamgmbdnaaaMBrr2
import Derived.Test.YtidebamgmbdnaaaMB21
import Derived.Test.YtidebamgmbdnaaaMB16
import Derived.Test.YtidebamgmbdnaaaMBrr3
import Derived.Deep.Cut
namespace Go.Proofs.Ytidebamgmbdnaaa
open Go.ChangeShapes Go.WideShapes Go.ChangeAt Go.RowKit

theorem brr_app {G : Nat → Prop} {b B : Nat} {c : List Value} {t : T} {w : World} {ver : Int} {v : Value} {acc : Bs} (hp : Pt w b 1 c) (hver : w.cell? ⟨b, 0, none⟩ = some (.int .i16 ver)) (hv : VK w G 10 (-1) (VFs w G q_BrokerRegistrationResponse) c t) (hb : b < B) (hG : ∀ k, G k → k < B) (ho : OB w B v acc) (hB : B ≤ w.heap.size) (hs : small 1000000 t) (hl : (acc ++ apPart q_BrokerRegistrationResponse ver (m_BrokerRegistrationResponse.flexible ver) t).length ≤ 40000000000000) (hv0 : 0 ≤ ver) :
    Calls Try.prog 34 #[.pointer (some ⟨b, 0, none⟩), v] w fun e w' => ∃ v', e = .returned v' ∧ OB w' B v' (acc ++ apPart q_BrokerRegistrationResponse ver (m_BrokerRegistrationResponse.flexible ver) t) ∧ Below B w w' := by
  rw [show m_BrokerRegistrationResponse.flexible ver = true from by simp [Msg.flexible, m_BrokerRegistrationResponse, hv0]] at hl ⊢
  exact brr_app_0 hp hver hv hb hG ho hB hs hl hv0 
theorem brr_dfl0 {w : World} {b : Nat} (h : w.heap[b]? = some (.cells #[.int .i16 0, .int .i32 0, .int .i16 0, .int .i64 0, .map none] 55 (0, 0))) : Calls Try.prog 62 #[.pointer (some ⟨b, 0, none⟩)] w fun e w' => e = .returned (.tuple #[]) ∧ (w.setCell ⟨b, 3, none⟩ (.int .i64 (-1))) = w' := by
  have c3 := cellOf h 3 _ rfl
  have f3 := freeOf h 3
  clear h
  go_enter Try.func62, Try.ntmps62
  go_wp2
  refine bodyPost_end (v := .tuple #[]) (by simp [results, Try.results62, go_sem]) rfl ⟨rfl, rfl⟩
theorem brr_new (w : World) : Calls Try.prog 30 #[] w fun e w' => e = .returned (.pointer (some ⟨w.heap.size, 0, none⟩)) ∧ (w.alloc (.cells #[.int .i16 0, .int .i32 0, .int .i16 0, .int .i64 (-1), .map none] 55)) = w' := by
  have DF := brr_dfl0 (b := w.heap.size) (heap_alloc_new w (.cells #[.int .i16 0, .int .i32 0, .int .i16 0, .int .i64 0, .map none] 55))
  go_enter Try.func30, Try.ntmps30
  go_wp2_with (go_at_call 62; go_loud (refine DF.mono ?_; rintro e w1 ⟨rfl, rfl⟩))
  go_ret
  exact ⟨rfl, by simp [go_sem]⟩
theorem brr_max (w : World) (x : Value) : Calls Try.prog 31 #[x] w fun e w' => e = .returned (.int .i16 4) ∧ w = w' := by
  go_enter Try.func31, Try.ntmps31
  go_wp2
  go_ret
  exact ⟨rfl, rfl⟩
theorem brr_Max (w : World) : Calls Try.prog 9 #[] w fun e w' => e = .returned (.int .i64 4) ∧ Keep [] w w' := by
  go_enter Try.func9, Try.ntmps9
  go_wp2_with (first
    | (go_at_call 30; refine (brr_new _).mono ?_; rintro e w1 ⟨rfl, rfl⟩)
    | (go_at_call 31; refine (brr_max _ _).mono ?_; rintro e w2 ⟨rfl, rfl⟩))
  go_ret
  exact ⟨rfl, keep_box _⟩
theorem brr_setv {w : World} {b : Nat} {v : Int} {x : Value} (h : w.cell? ⟨b, 0, none⟩ = some x) (hf : w.frozen? ⟨b, 0, none⟩ = false) : Calls Try.prog 32 #[.pointer (some ⟨b, 0, none⟩), .int .i16 v] w fun e w' => e = .returned (.tuple #[]) ∧ w.setCell ⟨b, 0, none⟩ (.int .i16 v) = w' := by
  go_enter Try.func32, Try.ntmps32
  go_wp2
  refine bodyPost_end (v := .tuple #[]) (by simp [results, Try.results32, go_sem]) rfl ⟨rfl, rfl⟩
set_option maxHeartbeats 1600000 in
set_option maxRecDepth 100000 in
theorem brr_fill {G : Nat → Prop} {b : Nat} {c : List Value} {x : T} {w : World} {ver : Int} (hb : w.heap[b]? = some (.cells #[.int .i16 ver, .int .i32 0, .int .i16 0, .int .i64 0, .map none] 55 (0, 0))) (hx : HT w G x c) (hG : There G w) (hGb : ¬ G b) (hr : Rising x.u) (hul : x.u.length ≤ 1000000) :
    Calls Try.prog 33 #[.pointer (some ⟨b, 0, none⟩), .agg c.toArray] w fun e w' => e = .returned (.tuple #[]) ∧ Keep [b] w w' ∧ VM w' (New G w w') b q_BrokerRegistrationResponse 55 ver (flPart q_BrokerRegistrationResponse x) := by
  obtain ⟨az, ps, al, pl, au, pu, rfl, hs, hl, hu, hn1, hn2, hn3, -⟩ := id hx.cells
  have hbw := World.heap_lt' hb
  have hkeys : ∀ y ∈ x.u, y.1 < 4294967296 := by obtain ⟨_, _, _, h3, _⟩ := id hu; exact fun y hy => (h3 y hy).1
  have hsG : ∀ W, Keep [b] w W → SameOn G w W := fun W hW k hk => hW.block k (hG k hk) (by simp; rintro rfl; exact hGb hk)
  have hGW : ∀ W, Keep [b] w W → There G W := fun W hW k hk => Nat.lt_of_lt_of_le (hG k hk) hW.size
  have AT : ∀ W i, Keep [b] w W → _ := fun W i hW => iat_any (hx.keepF (hsG W hW) (fun _ h => h)) (hGW W hW) i
  have K0 : Keep [b] w (w.alloc (.cells #[.int .i64 x.n, .slice az x.s.length ps, .bool x.null, .slice al x.l.length pl, .slice au x.u.length pu] 39)) := (Keep.refl _ _).alloc _
  have hxb0 : (w.alloc (.cells #[.int .i64 x.n, .slice az x.s.length ps, .bool x.null, .slice al x.l.length pl, .slice au x.u.length pu] 39)).heap[w.heap.size]? = some _ := heap_alloc_new w _
  have hbk0 : (w.alloc (.cells #[.int .i64 x.n, .slice az x.s.length ps, .bool x.null, .slice al x.l.length pl, .slice au x.u.length pu] 39)).heap[b]? = some _ := ((keep_box (A := []) _).block b hbw (by simp)).trans hb
  have hfd0 := fld0
  clear hb hs hl
  go_enter Try.func33, Try.ntmps33
  go_upto_region 1 with fail
  generalize (w.alloc (.cells #[.int .i64 x.n, .slice az x.s.length ps, .bool x.null, .slice al x.l.length pl, .slice au x.u.length pu] 39)) = W0 at *
  have HXB0 : Hid _ := hxb0
  have HBK0 : Hid _ := hbk0
  have a0 := cellOf hxb0 0 _ rfl
  have a1 := cellOf hxb0 1 _ rfl
  have a2 := cellOf hxb0 2 _ rfl
  have a3 := cellOf hxb0 3 _ rfl
  have a4 := cellOf hxb0 4 _ rfl
  clear hxb0 hbk0
  go_upto_region 2 with (go_at_call 63; go_loud (refine (AT W0 0 K0).mono ?_; rintro e V0 ⟨ca, rfl, ha, ka0⟩; obtain ⟨z1, z2, z3, z4, z5, z6, rfl, -, -, -, rn0, rm0, -⟩ := id ha.cells; have bA := (ka0.block b (by have := K0.size; omega) (by simp)).trans HBK0.out; have d0 := cellOf bA 1 _ rfl; have g0 := freeOf bA 1; have BA0 : Hid _ := bA; clear bA a0 a1 a2 a3 a4))
  have hbk1 : (V0.setCell ⟨b, 1, none⟩ (.int .i32 (wrap32 (atT x 0).n))).heap[b]? = some _ := heap_set BA0.out _
  have K1 : Keep [b] w (V0.setCell ⟨b, 1, none⟩ (.int .i32 (wrap32 (atT x 0).n))) := (K0.trans (ka0.weaken (by simp))).setCell (.inl (by simp)) _
  have hxb1 : (V0.setCell ⟨b, 1, none⟩ (.int .i32 (wrap32 (atT x 0).n))).heap[w.heap.size]? = some _ := (Below.heap_setCell _ _ _ _ (fun e => by simp only at e; omega)).trans ((ka0.block w.heap.size (by have := World.heap_lt' HXB0.out; omega) (by simp)).trans HXB0.out)
  clear d0 g0 ha
  generalize (V0.setCell ⟨b, 1, none⟩ (.int .i32 (wrap32 (atT x 0).n))) = W1 at *
  have HXB1 : Hid _ := hxb1
  have HBK1 : Hid _ := hbk1
  have a0 := cellOf hxb1 0 _ rfl
  have a1 := cellOf hxb1 1 _ rfl
  have a2 := cellOf hxb1 2 _ rfl
  have a3 := cellOf hxb1 3 _ rfl
  have a4 := cellOf hxb1 4 _ rfl
  clear hxb1 hbk1
  go_upto_region 3 with (go_at_call 63; go_loud (refine (AT W1 1 K1).mono ?_; rintro e V1 ⟨ca, rfl, ha, ka1⟩; obtain ⟨z1, z2, z3, z4, z5, z6, rfl, -, -, -, rn1, rm1, -⟩ := id ha.cells; have bA := (ka1.block b (by have := K1.size; omega) (by simp)).trans HBK1.out; have d1 := cellOf bA 2 _ rfl; have g1 := freeOf bA 2; have BA1 : Hid _ := bA; clear bA a0 a1 a2 a3 a4))
  have hbk2 : (V1.setCell ⟨b, 2, none⟩ (.int .i16 (IntKind.i16.wrap (atT x 1).n))).heap[b]? = some _ := heap_set BA1.out _
  have K2 : Keep [b] w (V1.setCell ⟨b, 2, none⟩ (.int .i16 (IntKind.i16.wrap (atT x 1).n))) := (K1.trans (ka1.weaken (by simp))).setCell (.inl (by simp)) _
  have hxb2 : (V1.setCell ⟨b, 2, none⟩ (.int .i16 (IntKind.i16.wrap (atT x 1).n))).heap[w.heap.size]? = some _ := (Below.heap_setCell _ _ _ _ (fun e => by simp only at e; omega)).trans ((ka1.block w.heap.size (by have := World.heap_lt' HXB1.out; omega) (by simp)).trans HXB1.out)
  clear d1 g1 ha
  generalize (V1.setCell ⟨b, 2, none⟩ (.int .i16 (IntKind.i16.wrap (atT x 1).n))) = W2 at *
  have HXB2 : Hid _ := hxb2
  have HBK2 : Hid _ := hbk2
  have a0 := cellOf hxb2 0 _ rfl
  have a1 := cellOf hxb2 1 _ rfl
  have a2 := cellOf hxb2 2 _ rfl
  have a3 := cellOf hxb2 3 _ rfl
  have a4 := cellOf hxb2 4 _ rfl
  clear hxb2 hbk2
  go_upto_region 4 with (go_at_call 63; go_loud (refine (AT W2 2 K2).mono ?_; rintro e V2 ⟨ca, rfl, ha, ka2⟩; obtain ⟨z1, z2, z3, z4, z5, z6, rfl, -, -, -, rn2, rm2, -⟩ := id ha.cells; have bA := (ka2.block b (by have := K2.size; omega) (by simp)).trans HBK2.out; have d2 := cellOf bA 3 _ rfl; have g2 := freeOf bA 3; have BA2 : Hid _ := bA; clear bA a0 a1 a2 a3 a4))
  have hbk3 : (V2.setCell ⟨b, 3, none⟩ (.int .i64 (atT x 2).n)).heap[b]? = some _ := heap_set BA2.out _
  have K3 : Keep [b] w (V2.setCell ⟨b, 3, none⟩ (.int .i64 (atT x 2).n)) := (K2.trans (ka2.weaken (by simp))).setCell (.inl (by simp)) _
  have hxb3 : (V2.setCell ⟨b, 3, none⟩ (.int .i64 (atT x 2).n)).heap[w.heap.size]? = some _ := (Below.heap_setCell _ _ _ _ (fun e => by simp only at e; omega)).trans ((ka2.block w.heap.size (by have := World.heap_lt' HXB2.out; omega) (by simp)).trans HXB2.out)
  clear d2 g2 ha
  generalize (V2.setCell ⟨b, 3, none⟩ (.int .i64 (atT x 2).n)) = W3 at *
  have a4 := cellOf hxb3 4 _ rfl
  have hti : TI w W3 b G [.int .i16 ver, .int .i32 (wrapN 4 (atT x 0).n), .int .i16 (wrapN 2 (atT x 1).n), .int .i64 ((atT x 2).n)] 55 x.u 0 := TI.start (by rw [hbk3]; simp [w32_mk, wrapN_i16]) K3
  have HTI : Hid _ := hti
  clear hxb3 hbk3 hti
  go_wp2_with fail
  clear a4
  go_loopw [29] (fun k wr => ∃ n : Nat, n ≤ x.u.length ∧ k = .int .i64 n ∧ TI w wr b G [.int .i16 ver, .int .i32 (wrapN 4 (atT x 0).n), .int .i16 (wrapN 2 (atT x 1).n), .int .i64 ((atT x 2).n)] 55 x.u n) (fun k _ => x.u.length - (intOf k).toNat)
  case atStart => exact ⟨0, Nat.zero_le _, rfl, HTI.out⟩
  case round =>
    obtain ⟨n, hn, rfl, hti⟩ := hrel
    have kq := hti.k
    have hsz := kq.size
    by_cases hlt : n < x.u.length
    · obtain ⟨tb, tf, av, pv, e, hGb2, c0, c1, hrb, hrl⟩ := (hu.keepF (hsG _ kq) (fun _ h => h)).elem hlt
      cases e
      have hkey := hkeys _ (List.getElem_mem hlt)
      have htb : tb < wr.heap.size := by have := hG tb hGb2; omega
      have hy : x.u[n] = ((x.u[n]).1, (x.u[n]).2) := rfl
      generalize (x.u[n]).1 = key at *
      generalize (x.u[n]).2 = vl at *
      have TS : ∀ W', Keep [] wr W' → _ := fun W' k' => TI.set (i := 4) (key := key) (x := .slice av vl.length pv) (y := vl) hti hG hGb hbw k' rfl hlt hy hr hkey (hrb.keepF (fun j hj => k'.block j (by have := hG j hj; omega) (by simp)) (fun _ h => h)) (by omega)
      have HTS : Hid _ := TS
      clear TS hti hrb hy
      go_wp2_with fail
      clear c0 c1
      go_region_law (refine step_call (by rfl) 64 #[.tmp 35, .tmp 37, .tmp 39] #[53, 59, 22] (by rfl) #[.pointer (some ⟨b, 4, none⟩), .int .u32 (key : Int), .slice av vl.length pv] (by simp [go_sem]) _ (by rfl) tset_body tset_name (HTS.out _ (keep_box _).drew) ?_; rintro e w2 ⟨rfl, t2, k2⟩; refine ⟨_, rfl, ?_⟩)
      all_goals (go_wp2; go_roundw; (case rel => exact ⟨n + 1, by omega, by go_num, t2⟩); (case measure => (simp [intOf]; omega)))
    · obtain rfl : n = x.u.length := by omega
      obtain ⟨vt, hbv, hmp, kk⟩ := hti.fin hG (by omega)
      clear hti
      go_wp2_with fail
      refine bodyPost_end (v := .tuple #[]) (by simp [results, Try.results33, go_sem]) rfl ⟨rfl, kk, ⟨[.int .i32 (wrapN 4 (atT x 0).n), .int .i16 (wrapN 2 (atT x 1).n), .int .i64 ((atT x 2).n)], vt, _, x.u, hbv, ?_, hmp, rfl⟩⟩
      unfold q_BrokerRegistrationResponse
      exact ⟨[.int .i32 (wrapN 4 (atT x 0).n)], [.int .i16 (wrapN 2 (atT x 1).n), .int .i64 ((atT x 2).n)], _, _, rfl, rfl, ⟨_, rfl, rng4 _, rfl⟩, ⟨[.int .i16 (wrapN 2 (atT x 1).n)], [.int .i64 ((atT x 2).n)], _, _, rfl, rfl, ⟨_, rfl, rng2 _, rfl⟩, ⟨[.int .i64 ((atT x 2).n)], [], _, _, rfl, rfl, ⟨_, rfl, ⟨rn2, rm2⟩, fl64 rn2 rm2⟩, ⟨rfl, rfl⟩⟩⟩⟩
set_option maxHeartbeats 1600000 in
set_option maxRecDepth 100000 in
theorem brr_Make {G : Nat → Prop} {c : List Value} {x : T} {w : World} {v : Int} (hv : 0 ≤ v ∧ v ≤ 4) (hx : HT w G x c) (hG : There G w) (hr : Rising x.u) (hul : x.u.length ≤ 1000000) (hsm : small 1000000 (flPart q_BrokerRegistrationResponse x)) (hap : (apPart q_BrokerRegistrationResponse v (m_BrokerRegistrationResponse.flexible v) (flPart q_BrokerRegistrationResponse x)).length ≤ 40000000000000) :
    Calls Try.prog 13 #[.int .i64 v, .agg c.toArray] w fun e w' => ∃ d, e = .returned d ∧ OB w' w.heap.size d (apPart q_BrokerRegistrationResponse v (m_BrokerRegistrationResponse.flexible v) (flPart q_BrokerRegistrationResponse x)) ∧ Keep [] w w' := by
  obtain ⟨az, ps, al, pl, au, pu, rfl, -⟩ := id hx.cells
  have hwr : IntKind.i16.wrap v = v := by rw [wrap_i16']; split <;> omega
  have HAP : Hid (([] ++ (apPart q_BrokerRegistrationResponse v (m_BrokerRegistrationResponse.flexible v) (flPart q_BrokerRegistrationResponse x))).length ≤ 40000000000000) := by rw [List.nil_append]; exact hap
  have HNL : Hid (([] : Bs) ++ (apPart q_BrokerRegistrationResponse v (m_BrokerRegistrationResponse.flexible v) (flPart q_BrokerRegistrationResponse x)) = (apPart q_BrokerRegistrationResponse v (m_BrokerRegistrationResponse.flexible v) (flPart q_BrokerRegistrationResponse x))) := List.nil_append _
  clear hap
  have k0 : Keep [] w ((w.alloc (.cells #[.int .i64 x.n, .slice az x.s.length ps, .bool x.null, .slice al x.l.length pl, .slice au x.u.length pu] 39)).alloc (.cells #[.int .i16 v, .int .i32 0, .int .i16 0, .int .i64 0, .map none] 55)) := (keep_box (A := []) _).alloc _
  have h0 : (w.alloc (.cells #[.int .i64 x.n, .slice az x.s.length ps, .bool x.null, .slice al x.l.length pl, .slice au x.u.length pu] 39)).heap[w.heap.size]? = some _ := heap_alloc_new w _
  have h1 : ((w.alloc (.cells #[.int .i64 x.n, .slice az x.s.length ps, .bool x.null, .slice al x.l.length pl, .slice au x.u.length pu] 39)).alloc (.cells #[.int .i16 v, .int .i32 0, .int .i16 0, .int .i64 0, .map none] 55)).heap[w.heap.size + 1]? = some (.cells #[.int .i16 v, .int .i32 0, .int .i16 0, .int .i64 0, .map none] 55 (0, 0)) := by
    have h := heap_alloc_new (w.alloc (.cells #[.int .i64 x.n, .slice az x.s.length ps, .bool x.null, .slice al x.l.length pl, .slice au x.u.length pu] 39)) (.cells #[.int .i16 v, .int .i32 0, .int .i16 0, .int .i64 0, .map none] 55)
    simpa using h
  have hu0 : ((w.alloc (.cells #[.int .i64 x.n, .slice az x.s.length ps, .bool x.null, .slice al x.l.length pl, .slice au x.u.length pu] 39)).alloc (.cells #[.int .i16 0, .int .i32 0, .int .i16 0, .int .i64 0, .map none] 55)).heap[w.heap.size + 1]? = some (.cells #[.int .i16 0, .int .i32 0, .int .i16 0, .int .i64 0, .map none] 55 (0, 0)) := by
    have h := heap_alloc_new (w.alloc (.cells #[.int .i64 x.n, .slice az x.s.length ps, .bool x.null, .slice al x.l.length pl, .slice au x.u.length pu] 39)) (.cells #[.int .i16 0, .int .i32 0, .int .i16 0, .int .i64 0, .map none] 55)
    simpa using h
  have hx0 : ((w.alloc (.cells #[.int .i64 x.n, .slice az x.s.length ps, .bool x.null, .slice al x.l.length pl, .slice au x.u.length pu] 39)).alloc (.cells #[.int .i16 v, .int .i32 0, .int .i16 0, .int .i64 0, .map none] 55)).heap[w.heap.size]? = some _ := ((keep_box (A := []) _).block w.heap.size (by simp) (by simp)).trans h0
  have hz0 : ((w.alloc (.cells #[.int .i64 x.n, .slice az x.s.length ps, .bool x.null, .slice al x.l.length pl, .slice au x.u.length pu] 39)).alloc (.cells #[.int .i16 v, .int .i32 0, .int .i16 0, .int .i64 0, .map none] 55)).heap.size = w.heap.size + 2 := by simp
  have hc0 := cellOf hu0 0 (.int .i16 0) rfl
  have hf0 := freeOf hu0 0
  clear hu0 h0
  have SV := brr_setv (v := v) hc0 hf0
  go_enter Try.func13, Try.ntmps13
  go_upto_region 3 with (go_at_call 32; go_loud (refine SV.mono ?_; rintro e w1 ⟨rfl, rfl⟩))
  clear SV hc0 hf0
  generalize ((w.alloc (.cells #[.int .i64 x.n, .slice az x.s.length ps, .bool x.null, .slice al x.l.length pl, .slice au x.u.length pu] 39)).alloc (.cells #[.int .i16 v, .int .i32 0, .int .i16 0, .int .i64 0, .map none] 55)) = W0 at *
  have a0 := cellOf hx0 0 _ rfl
  have a1 := cellOf hx0 1 _ rfl
  have a2 := cellOf hx0 2 _ rfl
  have a3 := cellOf hx0 3 _ rfl
  have a4 := cellOf hx0 4 _ rfl
  have FL := brr_fill h1 (hx.keepF (hG.same k0) (fun _ h => h)) (hG.keep k0) (fun h => by have := hG _ h; omega) hr hul
  have HFL : Hid _ := FL
  clear FL h1 hx0
  go_wp2_with (first
    | (go_at_call 33; go_loud (refine Calls.mono HFL.out ?_; rintro e w3 ⟨rfl, k3, vm3⟩; clear a0 a1 a2 a3 a4; have hz3 := k3.size; have K3 : Keep [] w w3 := ((k0.weaken (B := [w.heap.size + 1]) (by simp)).trans k3).fresh (by simp); obtain ⟨cc, pt3, cv3, vk3⟩ := VM.seen vm3 (fun k h => h.2) (Keep.refl _ _); have AP : Hid _ := brr_app pt3 cv3 vk3 (B := w3.heap.size) (by omega) (fun k h => h.2) (OB.nil _ _) (Nat.le_refl _) hsm HAP.out hv.1; clear pt3 cv3 vk3 vm3))
    | (go_at_call 34; go_loud (refine Calls.mono AP.out ?_; rw [HNL.out]; rintro e w5 ⟨v5, rfl, h5, b5⟩)))
  refine bodyPost_ret (v := v5) (by simp [results, Try.results13, go_sem]) rfl ⟨v5, rfl, ?_, ?_⟩
  · exact h5.lower (by omega)
  · exact K3.trans ((Keep.refl _ _).andBelow b5)
end Go.Proofs.Ytidebamgmbdnaaa
