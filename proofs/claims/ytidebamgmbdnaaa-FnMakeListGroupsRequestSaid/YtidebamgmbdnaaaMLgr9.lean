/-
  ListGroupsRequest: its doors, and what fills it.
-/
import Derived.Test.YtidebamgmbdnaaaMLgr2
import Derived.Test.YtidebamgmbdnaaaMLgr3
import Derived.Test.YtidebamgmbdnaaaMLgr5
import Derived.Test.YtidebamgmbdnaaaMLgr7
import Derived.Test.YtidebamgmbdnaaaMB21
import Derived.Test.YtidebamgmbdnaaaMB16
import Derived.Test.YtidebamgmbdnaaaMLgr8
import Derived.Deep.Cut
namespace Go.Proofs.Ytidebamgmbdnaaa
open Go.ChangeShapes Go.WideShapes Go.ChangeAt Go.RowKit

theorem lgr_app {G : Nat → Prop} {b B : Nat} {c : List Value} {t : T} {w : World} {ver : Int} {v : Value} {acc : Bs} (hp : Pt w b 1 c) (hver : w.cell? ⟨b, 0, none⟩ = some (.int .i16 ver)) (hv : VK w G 10 (-1) (VFs w G q_ListGroupsRequest) c t) (hb : b < B) (hG : ∀ k, G k → k < B) (ho : OB w B v acc) (hB : B ≤ w.heap.size) (hs : small 1000000 t) (hl : (acc ++ apPart q_ListGroupsRequest ver (m_ListGroupsRequest.flexible ver) t).length ≤ 40000000000000) (hv0 : 0 ≤ ver) :
    Calls Try.prog 44 #[.pointer (some ⟨b, 0, none⟩), v] w fun e w' => ∃ v', e = .returned v' ∧ OB w' B v' (acc ++ apPart q_ListGroupsRequest ver (m_ListGroupsRequest.flexible ver) t) ∧ Below B w w' := by
  by_cases b5 : (5 : Int) ≤ ver
  · rw [show m_ListGroupsRequest.flexible ver = true from by simp [Msg.flexible, m_ListGroupsRequest, (show (3 : Int) ≤ ver by omega)]] at hl ⊢
    exact lgr_app_3 hp hver hv hb hG ho hB hs hl hv0 (by omega) (by omega) (by omega)
  ·
    by_cases b4 : (4 : Int) ≤ ver
    · rw [show m_ListGroupsRequest.flexible ver = true from by simp [Msg.flexible, m_ListGroupsRequest, (show (3 : Int) ≤ ver by omega)]] at hl ⊢
      exact lgr_app_2 hp hver hv hb hG ho hB hs hl hv0 (by omega) (by omega) (by omega)
    ·
      by_cases b3 : (3 : Int) ≤ ver
      · rw [show m_ListGroupsRequest.flexible ver = true from by simp [Msg.flexible, m_ListGroupsRequest, (show (3 : Int) ≤ ver by omega)]] at hl ⊢
        exact lgr_app_1 hp hver hv hb hG ho hB hs hl hv0 (by omega) (by omega) (by omega)
      · rw [show m_ListGroupsRequest.flexible ver = false from by simp [Msg.flexible, m_ListGroupsRequest, (show ¬ (3 : Int) ≤ ver by omega)]] at hl ⊢
        exact lgr_app_0 hp hver hv hb hG ho hB hs hl hv0 (by omega) (by omega) (by omega)
theorem lgr_dfl0 (w : World) (x : Value) : Calls Try.prog 78 #[x] w fun e w' => e = .returned (.tuple #[]) ∧ w = w' := by
  go_enter Try.func78, Try.ntmps78
  go_wp2
  refine bodyPost_end (v := .tuple #[]) (by simp [results, Try.results78, go_sem]) rfl ⟨rfl, rfl⟩
theorem lgr_new (w : World) : Calls Try.prog 40 #[] w fun e w' => e = .returned (.pointer (some ⟨w.heap.size, 0, none⟩)) ∧ (w.alloc (.cells #[.int .i16 0, .slice none 0 0, .slice none 0 0, .map none] 71)) = w' := by
  go_enter Try.func40, Try.ntmps40
  go_wp2_with (go_at_call 78; refine (lgr_dfl0 _ _).mono ?_; rintro e w1 ⟨rfl, rfl⟩)
  go_ret
  exact ⟨rfl, rfl⟩
theorem lgr_max (w : World) (x : Value) : Calls Try.prog 41 #[x] w fun e w' => e = .returned (.int .i16 5) ∧ w = w' := by
  go_enter Try.func41, Try.ntmps41
  go_wp2
  go_ret
  exact ⟨rfl, rfl⟩
theorem lgr_Max (w : World) : Calls Try.prog 17 #[] w fun e w' => e = .returned (.int .i64 5) ∧ Keep [] w w' := by
  go_enter Try.func17, Try.ntmps17
  go_wp2_with (first
    | (go_at_call 40; refine (lgr_new _).mono ?_; rintro e w1 ⟨rfl, rfl⟩)
    | (go_at_call 41; refine (lgr_max _ _).mono ?_; rintro e w2 ⟨rfl, rfl⟩))
  go_ret
  exact ⟨rfl, keep_box _⟩
theorem lgr_setv {w : World} {b : Nat} {v : Int} {x : Value} (h : w.cell? ⟨b, 0, none⟩ = some x) (hf : w.frozen? ⟨b, 0, none⟩ = false) : Calls Try.prog 42 #[.pointer (some ⟨b, 0, none⟩), .int .i16 v] w fun e w' => e = .returned (.tuple #[]) ∧ w.setCell ⟨b, 0, none⟩ (.int .i16 v) = w' := by
  go_enter Try.func42, Try.ntmps42
  go_wp2
  refine bodyPost_end (v := .tuple #[]) (by simp [results, Try.results42, go_sem]) rfl ⟨rfl, rfl⟩
set_option maxHeartbeats 1600000 in
set_option maxRecDepth 100000 in
theorem lgr_fill {G : Nat → Prop} {b : Nat} {c : List Value} {x : T} {w : World} {ver : Int} (hb : w.heap[b]? = some (.cells #[.int .i16 ver, .slice none 0 0, .slice none 0 0, .map none] 71 (0, 0))) (hx : HT w G x c) (hG : There G w) (hGb : ¬ G b) (hr : Rising x.u) (hul : x.u.length ≤ 1000000) (hsl0 : (atT x 0).l.length ≤ 32767) (hnn0 : ∀ y ∈ (atT x 0).l, y.null = false) (hsl1 : (atT x 1).l.length ≤ 32767) (hnn1 : ∀ y ∈ (atT x 1).l, y.null = false) :
    Calls Try.prog 43 #[.pointer (some ⟨b, 0, none⟩), .agg c.toArray] w fun e w' => e = .returned (.tuple #[]) ∧ Keep [b] w w' ∧ VM w' (New G w w') b q_ListGroupsRequest 71 ver (flPart q_ListGroupsRequest x) := by
  obtain ⟨az, ps, al, pl, au, pu, rfl, hs, hl, hu, hn1, hn2, hn3, -⟩ := id hx.cells
  have hbw := World.heap_lt' hb
  have hkeys : ∀ y ∈ x.u, y.1 < 4294967296 := by obtain ⟨_, _, _, h3, _⟩ := id hu; exact fun y hy => (h3 y hy).1
  have hsG : ∀ W, Keep [b] w W → SameOn G w W := fun W hW k hk => hW.block k (hG k hk) (by simp; rintro rfl; exact hGb hk)
  have hGW : ∀ W, Keep [b] w W → There G W := fun W hW k hk => Nat.lt_of_lt_of_le (hG k hk) hW.size
  have AT : ∀ W i, Keep [b] w W → _ := fun W i hW => iat_any (hx.keepF (hsG W hW) (fun _ h => h)) (hGW W hW) i
  have K0 : Keep [b] w (w.alloc (.cells #[.int .i64 x.n, .slice az x.s.length ps, .bool x.null, .slice al x.l.length pl, .slice au x.u.length pu] 39)) := (Keep.refl _ _).alloc _
  have hxb0 : (w.alloc (.cells #[.int .i64 x.n, .slice az x.s.length ps, .bool x.null, .slice al x.l.length pl, .slice au x.u.length pu] 39)).heap[w.heap.size]? = some _ := heap_alloc_new w _
  have hbk0 : (w.alloc (.cells #[.int .i64 x.n, .slice az x.s.length ps, .bool x.null, .slice al x.l.length pl, .slice au x.u.length pu] 39)).heap[b]? = some _ := ((keep_box (A := []) _).block b hbw (by simp)).trans hb
  have hfd2 := fld2
  have hfd3 := fld3
  clear hb hs hl
  go_enter Try.func43, Try.ntmps43
  go_upto_region 1 with fail
  generalize (w.alloc (.cells #[.int .i64 x.n, .slice az x.s.length ps, .bool x.null, .slice al x.l.length pl, .slice au x.u.length pu] 39)) = W0 at *
  have HXB0 : Hid _ := hxb0
  have HBK0 : Hid _ := hbk0
  have a0 := cellOf hxb0 0 _ rfl
  have a1 := cellOf hxb0 1 _ rfl
  have a2 := cellOf hxb0 2 _ rfl
  have a3 := cellOf hxb0 3 _ rfl
  have a4 := cellOf hxb0 4 _ rfl
  clear hxb0 hbk0
  by_cases hnu0 : (atT x 0).null = true
  · go_upto_region 8 with (go_at_call 63; go_loud (refine (AT W0 0 K0).mono ?_; rintro e V0 ⟨ca, rfl, ha, ka0⟩; obtain ⟨z1, z2, z3, z4, z5, z6, rfl, hzs, hzl, hzu, rn0, rm0, -⟩ := id ha.cells; have bA := (ka0.block b (by have := (K0).size; omega) (by simp)).trans HBK0.out; have BA0 : Hid _ := bA; clear bA a0 a1 a2 a3 a4))
    have hbk1 := BA0.out
    have KS1 : Keep [b] W0 V0 := ka0.weaken (by simp)
    have K1 : Keep [b] w V0 := K0.trans KS1
    have hxb1 : V0.heap[w.heap.size]? = some _ := (ka0.block w.heap.size (by have := World.heap_lt' HXB0.out; omega) (by simp)).trans HXB0.out
    clear ha hzs hzl hzu
    obtain ⟨W1, rfl⟩ : ∃ z : World, z = V0 := ⟨_, rfl⟩
    have HXB1 : Hid _ := hxb1
    have HBK1 : Hid _ := hbk1
    have a0 := cellOf hxb1 0 _ rfl
    have a1 := cellOf hxb1 1 _ rfl
    have a2 := cellOf hxb1 2 _ rfl
    have a3 := cellOf hxb1 3 _ rfl
    have a4 := cellOf hxb1 4 _ rfl
    clear hxb1 hbk1
    by_cases hnu1 : (atT x 1).null = true
    · go_upto_region 15 with (go_at_call 63; go_loud (refine (AT W1 1 K1).mono ?_; rintro e V1 ⟨ca, rfl, ha, ka1⟩; obtain ⟨z1, z2, z3, z4, z5, z6, rfl, hzs, hzl, hzu, rn1, rm1, -⟩ := id ha.cells; have bA := (ka1.block b (by have := (K1).size; omega) (by simp)).trans HBK1.out; have BA1 : Hid _ := bA; clear bA a0 a1 a2 a3 a4))
      have hbk2 := BA1.out
      have KS2 : Keep [b] W1 V1 := ka1.weaken (by simp)
      have K2 : Keep [b] w V1 := K1.trans KS2
      have hxb2 : V1.heap[w.heap.size]? = some _ := (ka1.block w.heap.size (by have := World.heap_lt' HXB1.out; omega) (by simp)).trans HXB1.out
      clear ha hzs hzl hzu
      obtain ⟨W2, rfl⟩ : ∃ z : World, z = V1 := ⟨_, rfl⟩
      have a4 := cellOf hxb2 4 _ rfl
      have hti : TI W2 W2 b G [.int .i16 ver, .slice none 0 0, .slice none 0 0] 71 x.u 0 := TI.start (by rw [hbk2]; rfl) (Keep.refl _ _)
      have HTI : Hid _ := hti
      have hGJ := hGW _ K2
      have hszJ := K2.size
      clear hxb2 hbk2 hti
      go_wp2_with fail
      clear a4
      go_loopw [79] (fun k wr => ∃ n : Nat, n ≤ x.u.length ∧ k = .int .i64 n ∧ TI W2 wr b G [.int .i16 ver, .slice none 0 0, .slice none 0 0] 71 x.u n) (fun k _ => x.u.length - (intOf k).toNat)
      case atStart => exact ⟨0, Nat.zero_le _, rfl, HTI.out⟩
      case round =>
        obtain ⟨n, hn, rfl, hti⟩ := hrel
        have kq : Keep [b] w wr := K2.trans hti.k
        have hsz := kq.size
        by_cases hlt : n < x.u.length
        · obtain ⟨tb, tf, av, pv, e, hGb2, c0, c1, hrb, hrl⟩ := (hu.keepF (hsG _ kq) (fun _ h => h)).elem hlt
          cases e
          have hkey := hkeys _ (List.getElem_mem hlt)
          have htb : tb < wr.heap.size := by have := hG tb hGb2; omega
          have hy : x.u[n] = ((x.u[n]).1, (x.u[n]).2) := rfl
          generalize (x.u[n]).1 = key at *
          generalize (x.u[n]).2 = vl at *
          have TS : ∀ W', Keep [] wr W' → _ := fun W' k' => TI.set (i := 3) (key := key) (x := .slice av vl.length pv) (y := vl) hti hGJ hGb (by omega) k' rfl hlt hy hr hkey (hrb.keepF (fun j hj => k'.block j (by have := hG j hj; omega) (by simp)) (fun _ h => h)) (by omega)
          have HTS : Hid _ := TS
          clear TS hti hrb hy
          go_wp2_with fail
          clear c0 c1
          go_region_law (refine step_call (by rfl) 64 #[.tmp 85, .tmp 87, .tmp 89] #[53, 59, 22] (by rfl) #[.pointer (some ⟨b, 3, none⟩), .int .u32 (key : Int), .slice av vl.length pv] (by simp [go_sem]) _ (by rfl) tset_body tset_name (HTS.out _ (keep_box _).drew) ?_; rintro e w2 ⟨rfl, t2, k2⟩; refine ⟨_, rfl, ?_⟩)
          all_goals (go_wp2; go_roundw; (case rel => exact ⟨n + 1, by omega, by go_num, t2⟩); (case measure => (simp [intOf]; omega)))
        · obtain rfl : n = x.u.length := by omega
          obtain ⟨vt, hbv, hmp, kk⟩ := hti.fin hGJ (by omega)
          clear hti
          go_wp2_with fail
          have hmp2 : MP wr (New G w wr) vt x.u := hmp.keepF (fun _ _ => rfl) (fun z hz => ⟨hz.1.imp id (fun h => by omega), hz.2⟩)
          refine bodyPost_end (v := .tuple #[]) (by simp [results, Try.results43, go_sem]) rfl ⟨rfl, kq, ⟨[.slice none 0 0, .slice none 0 0], vt, _, x.u, hbv, ?_, hmp2, rfl⟩⟩
          unfold q_ListGroupsRequest
          exact ⟨[.slice none 0 0], [.slice none 0 0], _, _, rfl, rfl, (show VF _ _ _ _ (flF _ (atT x 0)) from by rw [fl_null hnu0]; exact ⟨_, rfl, vl_null⟩), ⟨[.slice none 0 0], [], _, _, rfl, rfl, (show VF _ _ _ _ (flF _ (atT x 1)) from by rw [fl_null hnu1]; exact ⟨_, rfl, vl_null⟩), ⟨rfl, rfl⟩⟩⟩
    · have hnf1 : (atT x 1).null = false := by simpa using hnu1
      clear hnu1
      obtain ⟨ii1, hii1, hiz1, his1, hib1⟩ := info_agg info_str zero_str
      have hll1 := hsl1
      go_upto_region 9 with (go_at_call 63; go_loud (refine (AT W1 1 K1).mono ?_; rintro e V1a ⟨ca, rfl, ha, ka1a⟩; obtain ⟨z1, z2, z3, z4, z5, z6, rfl, hzs, hzl, hzu, rn1, rm1, -⟩ := id ha.cells; have bA := (ka1a.block b (by have := (K1).size; omega) (by simp)).trans HBK1.out; have BA1a : Hid _ := bA; clear bA a0 a1 a2 a3 a4))
      have K1a : Keep [b] w V1a := K1.trans (ka1a.weaken (by simp))
      have hxa1 : V1a.heap[w.heap.size]? = some _ := (ka1a.block w.heap.size (by have := World.heap_lt' HXB1.out; omega) (by simp)).trans HXB1.out
      have HXA1 : Hid _ := hxa1
      have a0 := cellOf hxa1 0 _ rfl
      have a1 := cellOf hxa1 1 _ rfl
      have a2 := cellOf hxa1 2 _ rfl
      have a3 := cellOf hxa1 3 _ rfl
      have a4 := cellOf hxa1 4 _ rfl
      clear ha hxa1 hzs hzl hzu
      go_upto_region 10 with (go_at_call 63; go_loud (refine (AT V1a 1 K1a).mono ?_; rintro e V1b ⟨ca, rfl, ha, ka1b⟩; obtain ⟨z1, z2, z3, z4, z5, z6, rfl, hzs, hzl, hzu, rn1, rm1, -⟩ := id ha.cells; have bA := (ka1b.block b (by have := (K1a).size; omega) (by simp)).trans BA1a.out; obtain ⟨wM, hms, howM, hgrM⟩ := run_makeSlice_owned (P := Try.prog) (w := V1b) V1b.heap.size 69 9 ii1 _ 1 Try.underlying69 hii1 hiz1 his1 .i64 .i64 (atT x 1).l.length (by omega) (by rw [hib1]; omega) (by unfold maxLen; omega) (Nat.le_refl _); have kM : Keep [] V1b wM := (Keep.refl _ _).grown hgrM (by simp); have bM := (kM.block b (by have := ka1b.size; have := K1a.size; omega) (by simp)).trans bA; have dM := cellOf bM 2 _ rfl; have gM := freeOf bM 2; have BM : Hid _ := bM; have HOM : Hid _ := howM; clear bM howM hgrM; have BA1b : Hid _ := bA; clear bA a0 a1 a2 a3 a4))
      have KB1 : Keep [b] w V1b := K1a.trans (ka1b.weaken (by simp))
      have HXV1 : Hid (V1b.heap[w.heap.size]? = some _) := (ka1b.block w.heap.size (by have := World.heap_lt' HXA1.out; omega) (by simp)).trans HXA1.out
      have hbB1 : b < V1b.heap.size := by have := KB1.size; omega
      have hli : LI V1b (wM.setCell ⟨b, 2, none⟩ (.slice (some ⟨V1b.heap.size, 0, none⟩) 0 (atT x 1).l.length)) b [.int .i16 ver, .slice none 0 0] [.map none] 71 9 1 (atT x 1).l.length 0 [] V1b.heap.size (atT x 1).l.length := LI.next (v := .slice none 0 0) (by rw [BM.out]; rfl) rfl (by have h := HOM.out; simpa [World.ownsRow] using h) hbB1 (fun _ => rfl) (kM.weaken (by simp))
      have hxu1 : (wM.setCell ⟨b, 2, none⟩ (.slice (some ⟨V1b.heap.size, 0, none⟩) 0 (atT x 1).l.length)).heap[w.heap.size]? = some _ := (Below.heap_setCell _ _ _ _ (fun e => by simp only at e; omega)).trans ((kM.block w.heap.size (by have := KB1.size; have := World.heap_lt' HXA1.out; have := ka1b.size; omega) (by simp)).trans ((ka1b.block w.heap.size (by have := World.heap_lt' HXA1.out; omega) (by simp)).trans HXA1.out))
      clear dM gM ha hzs hzl hzu hms
      generalize (wM.setCell ⟨b, 2, none⟩ (.slice (some ⟨V1b.heap.size, 0, none⟩) 0 (atT x 1).l.length)) = U1 at *
      have KU1 : Keep [b] w U1 := KB1.trans hli.k
      have HOU1 : Hid _ := hli.2.1
      have KLI1 := hli.k
      have HBU1 : Hid (U1.heap[b]? = some (.cells #[.int .i16 ver, .slice none 0 0, .slice (some ⟨V1b.heap.size, 0, none⟩) 0 (atT x 1).l.length, .map none] 71 (0, 0))) := hli.1
      have HXU1 : Hid _ := hxu1
      have a0 := cellOf hxu1 0 _ rfl
      have a1 := cellOf hxu1 1 _ rfl
      have a2 := cellOf hxu1 2 _ rfl
      have a3 := cellOf hxu1 3 _ rfl
      have a4 := cellOf hxu1 4 _ rfl
      clear hxu1 hli
      go_wp2_with (go_at_call 63; go_loud (refine (AT U1 1 KU1).mono ?_; rintro e V1c ⟨ca, rfl, ha, ka1c⟩; obtain ⟨z1, z2, z3, z4, z5, z6, rfl, hzs, hzl, hzu, rn1, rm1, -⟩ := id ha.cells; have bA := (ka1c.block b (by have := (KU1).size; omega) (by simp)).trans HBU1.out; have BA1c : Hid _ := bA; clear bA a0 a1 a2 a3 a4))
      have hli1 : LI V1b V1c b [.int .i16 ver, .slice none 0 0] [.map none] 71 9 1 (atT x 1).l.length 0 [] V1b.heap.size (atT x 1).l.length := LI.mono (W := U1) ⟨HBU1.out, (by have h := HOU1.out; simpa [World.ownsRow] using h), fun _ => rfl, KLI1⟩ ka1c
      have KC1 : Keep [b] w V1c := KU1.trans (ka1c.weaken (by simp))
      have HXC1 : Hid (V1c.heap[w.heap.size]? = some _) := (ka1c.block w.heap.size (by have := World.heap_lt' HXU1.out; omega) (by simp)).trans HXU1.out
      have HZL1 : Hid _ := hzl
      have hsz1c := KC1.size
      clear ha hzs hzl hzu
      go_loopw [59] (fun k wr => ∃ n : Nat, n ≤ (atT x 1).l.length ∧ k = .int .i64 n ∧ ∃ g cap, LI V1b wr b [.int .i16 ver, .slice none 0 0] [.map none] 71 9 1 (atT x 1).l.length n (((atT x 1).l.map fun y => str y.s).take n) g cap) (fun k _ => (atT x 1).l.length - (intOf k).toNat)
      case atStart => exact ⟨0, Nat.zero_le _, rfl, _, _, hli1⟩
      case round =>
        obtain ⟨n, hn, rfl, g1, p1, hli⟩ := hrel
        have kq : Keep [b] w wr := KB1.trans hli.k
        have hszq := kq.size
        have hszk := hli.k.size
        by_cases hlt : n < (atT x 1).l.length
        · obtain ⟨bx, ox, cx, rfl, hGx, hcx, hcell⟩ := (HTs.keepF HZL1.out (fun k hk => (hsG _ kq k hk).trans (hsG _ KC1 k hk).symm) (fun _ h => h)).cells hlt
          obtain ⟨y1, y2, y3, y4, y5, y6, rfl, hys, -⟩ := id hcx.cells
          have hbl : bx < wr.heap.size := by have := hG bx hGx; omega
          have c0 : wr.cell? ⟨bx, ox + n * 5, none⟩ = some _ := hcell 0 (by simp)
          have c1 : wr.cell? ⟨bx, ox + n * 5 + 1, none⟩ = some _ := hcell 1 (by simp)
          have c2 : wr.cell? ⟨bx, ox + n * 5 + 2, none⟩ = some _ := hcell 2 (by simp)
          have c3 : wr.cell? ⟨bx, ox + n * 5 + 3, none⟩ = some _ := hcell 3 (by simp)
          have c4 : wr.cell? ⟨bx, ox + n * 5 + 4, none⟩ = some _ := hcell 4 (by simp)
          simp only [List.getElem_cons_zero, List.getElem_cons_succ] at c0 c1 c2 c3 c4
          have hxn : (atT x 1).l[n] = (atT x 1).l[n] := rfl
          have HLT : Hid (n < (atT x 1).l.length) := hlt
          have hlm : n < ((atT x 1).l.map (fun y => str y.s)).length := by simpa using hlt
          have htk : ((atT x 1).l.map (fun y => str y.s)).take (n + 1) = ((atT x 1).l.map (fun y => str y.s)).take n ++ [str ((atT x 1).l[n]).s] := by rw [List.take_succ_eq_append_getElem hlm, List.getElem_map]; rfl
          clear hlm
          clear hcell hcx hxn
          generalize (atT x 1).l[n] = y at *
          have HTK : Hid _ := htk
          clear htk
          have hgb : V1b.heap.size ≤ g1 := LI.ge hli
          have z1 : wr.cell? ⟨b, 2, none⟩ = some (.slice (some ⟨g1, 0, none⟩) n p1) := cellOf hli.1 2 _ rfl
          have hbw2 : b < wr.heap.size := by omega
          have HLQ : Hid _ := hli
          have hcv : (convert 22 9 (.slice y1 y.s.length y2)).run Try.prog (wr.alloc (.cells #[.int .i64 y.n, .slice y1 y.s.length y2, .bool y.null, .slice y3 y.l.length y4, .slice y5 y.u.length y6] 39)).drew = .ok (.string ⟨y.s.toArray⟩) (wr.alloc (.cells #[.int .i64 y.n, .slice y1 y.s.length y2, .bool y.null, .slice y3 y.l.length y4, .slice y5 y.u.length y6] 39)).drew := conv_any (RB.keepF (w' := (wr.alloc (.cells #[.int .i64 y.n, .slice y1 y.s.length y2, .bool y.null, .slice y3 y.l.length y4, .slice y5 y.u.length y6] 39)).drew) hys (fun k hk => Keep.block (keep_box (A := []) _).drew k (by have := hG k hk; omega) (by simp)) (fun _ h => h))
          have hnb : ((wr.alloc (.cells #[.int .i64 y.n, .slice y1 y.s.length y2, .bool y.null, .slice y3 y.l.length y4, .slice y5 y.u.length y6] 39)).alloc (.cells #[str y.s] 9)).heap[wr.heap.size + 1]? = some (.cells #[str y.s] 9 (0, 0)) := by
            have h := heap_alloc_new (wr.alloc (.cells #[.int .i64 y.n, .slice y1 y.s.length y2, .bool y.null, .slice y3 y.l.length y4, .slice y5 y.u.length y6] 39)) (.cells #[str y.s] 9)
            simpa using h
          have HNB : Hid _ := hnb
          clear hli hys hnb
          go_wp2_with fail
          clear c0 c1 c2 c3 c4
          trace_state
          go_region_law (refine step_append_lies _ (by rfl) (.tmp 67) (.tmp 71) _ (by rfl) V1b.heap.size 9 ii1 _ 1 16 Try.underlying69 hii1 hiz1 his1 hib1 rfl (by omega) _ n _ (by rfl) (LI.keep HLQ.out ((keep_box (A := []) _).alloc _).drew).1 ⟨wr.heap.size + 1, 0, none⟩ 1 1 [str y.s] (by rfl) (by rfl) (World.news_of_block (cs := #[str y.s]) HNB.out) (by intro u hu; simp at hu; subst hu; rfl) (by omega) (by unfold maxLen; omega) (by omega) (by simp; omega) (wr.heap.size + 1 + 1) (by simp) ?_; intro g2 cap2 w3 hown1 hgr hat hlt3; have kA : Keep [] wr (((wr.alloc (.cells #[.int .i64 y.n, .slice y1 y.s.length y2, .bool y.null, .slice y3 y.l.length y4, .slice y5 y.u.length y6] 39)).alloc (.cells #[str y.s] 9)).drew) := ((keep_box (A := []) _).alloc _).drew; have x3 := (hgr.block b (by simp; omega) (by simp [Value.ownBlock]; omega)).trans (LI.keep HLQ.out kA).2; have z5 := cellOf x3 2 _ rfl; have f5 := freeOf x3 2; have KK : Keep [b] V1b w3 := (((LI.k HLQ.out).trans (kA.weaken (by simp))).weaken (B := [b, g1]) (by simp)).trans ((Keep.refl _ _).grown hgr (by simp [Value.ownBlock])) |>.fresh (by simp; omega); have HOW : Hid _ := hown1; have HX3 : Hid _ := x3; clear hown1 x3)
          all_goals (go_wp2; go_roundw; (case rel => (refine ⟨n + 1, by omega, by go_num, g2, cap2, ?_⟩; rw [HTK.out]; exact LI.next HX3.out rfl HOW.out (by omega) (fun h => absurd h (by omega)) KK)); (case measure => (simp [intOf]; omega)))
        · obtain rfl : n = (atT x 1).l.length := by omega
          have hnt : ((atT x 1).l.map fun y => str y.s).take (atT x 1).l.length = (atT x 1).l.map fun y => str y.s := List.take_of_length_le (by simp)
          rw [hnt] at hli
          have HVL1 : Hid (VL wr (fun k => V1b.heap.size ≤ k ∧ k < wr.heap.size) (VK wr (fun k => V1b.heap.size ≤ k ∧ k < wr.heap.size) 8 (-1) (VFs wr (fun k => V1b.heap.size ≤ k ∧ k < wr.heap.size) [])) 1 (.slice (some ⟨g1, 0, none⟩) (atT x 1).l.length p1) (.mk 0 [] false ((atT x 1).l.map fun y => .mk 0 y.s false [] []) [])) := vl_texts (LI.rw hli) (fun e => by cases e)
          have hbk2 : wr.heap[b]? = some (.cells #[.int .i16 ver, .slice none 0 0, .slice (some ⟨g1, 0, none⟩) (atT x 1).l.length p1, .map none] 71 (0, 0)) := hli.1
          have KS2 : Keep [b] W1 wr := ((ka1a.weaken (by simp)).trans (ka1b.weaken (by simp))).trans (LI.k hli)
          have K2 : Keep [b] w wr := kq
          have hxb2 : wr.heap[w.heap.size]? = some _ := ((LI.k hli).block w.heap.size (World.heap_lt' HXV1.out) (by simp; omega)).trans HXV1.out
          clear hli hnt hlt
          obtain ⟨W2, rfl⟩ : ∃ z : World, z = wr := ⟨_, rfl⟩
          have a4 := cellOf hxb2 4 _ rfl
          have hti : TI W2 W2 b G [.int .i16 ver, .slice none 0 0, .slice (some ⟨g1, 0, none⟩) (atT x 1).l.length p1] 71 x.u 0 := TI.start (by rw [hbk2]; rfl) (Keep.refl _ _)
          have HTI : Hid _ := hti
          have hGJ := hGW _ K2
          have hszJ := K2.size
          clear hxb2 hbk2 hti
          go_wp2_with fail
          clear a4
          go_loopw [79] (fun k wr => ∃ n : Nat, n ≤ x.u.length ∧ k = .int .i64 n ∧ TI W2 wr b G [.int .i16 ver, .slice none 0 0, .slice (some ⟨g1, 0, none⟩) (atT x 1).l.length p1] 71 x.u n) (fun k _ => x.u.length - (intOf k).toNat)
          case atStart => exact ⟨0, Nat.zero_le _, rfl, HTI.out⟩
          case round =>
            obtain ⟨n, hn, rfl, hti⟩ := hrel
            have kq : Keep [b] w wr := K2.trans hti.k
            have hsz := kq.size
            by_cases hlt : n < x.u.length
            · obtain ⟨tb, tf, av, pv, e, hGb2, c0, c1, hrb, hrl⟩ := (hu.keepF (hsG _ kq) (fun _ h => h)).elem hlt
              cases e
              have hkey := hkeys _ (List.getElem_mem hlt)
              have htb : tb < wr.heap.size := by have := hG tb hGb2; omega
              have hy : x.u[n] = ((x.u[n]).1, (x.u[n]).2) := rfl
              generalize (x.u[n]).1 = key at *
              generalize (x.u[n]).2 = vl at *
              have TS : ∀ W', Keep [] wr W' → _ := fun W' k' => TI.set (i := 3) (key := key) (x := .slice av vl.length pv) (y := vl) hti hGJ hGb (by omega) k' rfl hlt hy hr hkey (hrb.keepF (fun j hj => k'.block j (by have := hG j hj; omega) (by simp)) (fun _ h => h)) (by omega)
              have HTS : Hid _ := TS
              clear TS hti hrb hy
              go_wp2_with fail
              clear c0 c1
              go_region_law (refine step_call (by rfl) 64 #[.tmp 85, .tmp 87, .tmp 89] #[53, 59, 22] (by rfl) #[.pointer (some ⟨b, 3, none⟩), .int .u32 (key : Int), .slice av vl.length pv] (by simp [go_sem]) _ (by rfl) tset_body tset_name (HTS.out _ (keep_box _).drew) ?_; rintro e w2 ⟨rfl, t2, k2⟩; refine ⟨_, rfl, ?_⟩)
              all_goals (go_wp2; go_roundw; (case rel => exact ⟨n + 1, by omega, by go_num, t2⟩); (case measure => (simp [intOf]; omega)))
            · obtain rfl : n = x.u.length := by omega
              obtain ⟨vt, hbv, hmp, kk⟩ := hti.fin hGJ (by omega)
              clear hti
              go_wp2_with fail
              have KT1 : Keep [b] W2 wr := kk
              have hvf1 := VL.keepF (W' := wr) (G := New G w wr) (q := VK wr (New G w wr) 8 (-1) (VFs wr (New G w wr) [])) (fun z hz => KT1.block z hz.2 (by have := hz.1; simp; omega)) (fun z hz => ⟨.inr (by have := hz.1; have := KB1.size; omega), Nat.lt_of_lt_of_le hz.2 KT1.size⟩) (fun c t h => h) HVL1.out
              have hmp2 : MP wr (New G w wr) vt x.u := hmp.keepF (fun _ _ => rfl) (fun z hz => ⟨hz.1.imp id (fun h => by omega), hz.2⟩)
              refine bodyPost_end (v := .tuple #[]) (by simp [results, Try.results43, go_sem]) rfl ⟨rfl, kq, ⟨[.slice none 0 0, .slice (some ⟨g1, 0, none⟩) (atT x 1).l.length p1], vt, _, x.u, hbv, ?_, hmp2, rfl⟩⟩
              unfold q_ListGroupsRequest
              exact ⟨[.slice none 0 0], [.slice (some ⟨g1, 0, none⟩) (atT x 1).l.length p1], _, _, rfl, rfl, (show VF _ _ _ _ (flF _ (atT x 0)) from by rw [fl_null hnu0]; exact ⟨_, rfl, vl_null⟩), ⟨[.slice (some ⟨g1, 0, none⟩) (atT x 1).l.length p1], [], _, _, rfl, rfl, (show VF _ _ _ _ (flF _ (atT x 1)) from by rw [fl_texts hnf1 hnn1]; exact ⟨_, rfl, hvf1⟩), ⟨rfl, rfl⟩⟩⟩
  · have hnf0 : (atT x 0).null = false := by simpa using hnu0
    clear hnu0
    obtain ⟨ii0, hii0, hiz0, his0, hib0⟩ := info_agg info_str zero_str
    have hll0 := hsl0
    go_upto_region 2 with (go_at_call 63; go_loud (refine (AT W0 0 K0).mono ?_; rintro e V0a ⟨ca, rfl, ha, ka0a⟩; obtain ⟨z1, z2, z3, z4, z5, z6, rfl, hzs, hzl, hzu, rn0, rm0, -⟩ := id ha.cells; have bA := (ka0a.block b (by have := (K0).size; omega) (by simp)).trans HBK0.out; have BA0a : Hid _ := bA; clear bA a0 a1 a2 a3 a4))
    have K0a : Keep [b] w V0a := K0.trans (ka0a.weaken (by simp))
    have hxa0 : V0a.heap[w.heap.size]? = some _ := (ka0a.block w.heap.size (by have := World.heap_lt' HXB0.out; omega) (by simp)).trans HXB0.out
    have HXA0 : Hid _ := hxa0
    have a0 := cellOf hxa0 0 _ rfl
    have a1 := cellOf hxa0 1 _ rfl
    have a2 := cellOf hxa0 2 _ rfl
    have a3 := cellOf hxa0 3 _ rfl
    have a4 := cellOf hxa0 4 _ rfl
    clear ha hxa0 hzs hzl hzu
    go_upto_region 3 with (go_at_call 63; go_loud (refine (AT V0a 0 K0a).mono ?_; rintro e V0b ⟨ca, rfl, ha, ka0b⟩; obtain ⟨z1, z2, z3, z4, z5, z6, rfl, hzs, hzl, hzu, rn0, rm0, -⟩ := id ha.cells; have bA := (ka0b.block b (by have := (K0a).size; omega) (by simp)).trans BA0a.out; obtain ⟨wM, hms, howM, hgrM⟩ := run_makeSlice_owned (P := Try.prog) (w := V0b) V0b.heap.size 69 9 ii0 _ 1 Try.underlying69 hii0 hiz0 his0 .i64 .i64 (atT x 0).l.length (by omega) (by rw [hib0]; omega) (by unfold maxLen; omega) (Nat.le_refl _); have kM : Keep [] V0b wM := (Keep.refl _ _).grown hgrM (by simp); have bM := (kM.block b (by have := ka0b.size; have := K0a.size; omega) (by simp)).trans bA; have dM := cellOf bM 1 _ rfl; have gM := freeOf bM 1; have BM : Hid _ := bM; have HOM : Hid _ := howM; clear bM howM hgrM; have BA0b : Hid _ := bA; clear bA a0 a1 a2 a3 a4))
    have KB0 : Keep [b] w V0b := K0a.trans (ka0b.weaken (by simp))
    have HXV0 : Hid (V0b.heap[w.heap.size]? = some _) := (ka0b.block w.heap.size (by have := World.heap_lt' HXA0.out; omega) (by simp)).trans HXA0.out
    have hbB0 : b < V0b.heap.size := by have := KB0.size; omega
    have hli : LI V0b (wM.setCell ⟨b, 1, none⟩ (.slice (some ⟨V0b.heap.size, 0, none⟩) 0 (atT x 0).l.length)) b [.int .i16 ver] [.slice none 0 0, .map none] 71 9 1 (atT x 0).l.length 0 [] V0b.heap.size (atT x 0).l.length := LI.next (v := .slice none 0 0) (by rw [BM.out]; rfl) rfl (by have h := HOM.out; simpa [World.ownsRow] using h) hbB0 (fun _ => rfl) (kM.weaken (by simp))
    have hxu0 : (wM.setCell ⟨b, 1, none⟩ (.slice (some ⟨V0b.heap.size, 0, none⟩) 0 (atT x 0).l.length)).heap[w.heap.size]? = some _ := (Below.heap_setCell _ _ _ _ (fun e => by simp only at e; omega)).trans ((kM.block w.heap.size (by have := KB0.size; have := World.heap_lt' HXA0.out; have := ka0b.size; omega) (by simp)).trans ((ka0b.block w.heap.size (by have := World.heap_lt' HXA0.out; omega) (by simp)).trans HXA0.out))
    clear dM gM ha hzs hzl hzu hms
    generalize (wM.setCell ⟨b, 1, none⟩ (.slice (some ⟨V0b.heap.size, 0, none⟩) 0 (atT x 0).l.length)) = U0 at *
    have KU0 : Keep [b] w U0 := KB0.trans hli.k
    have HOU0 : Hid _ := hli.2.1
    have KLI0 := hli.k
    have HBU0 : Hid (U0.heap[b]? = some (.cells #[.int .i16 ver, .slice (some ⟨V0b.heap.size, 0, none⟩) 0 (atT x 0).l.length, .slice none 0 0, .map none] 71 (0, 0))) := hli.1
    have HXU0 : Hid _ := hxu0
    have a0 := cellOf hxu0 0 _ rfl
    have a1 := cellOf hxu0 1 _ rfl
    have a2 := cellOf hxu0 2 _ rfl
    have a3 := cellOf hxu0 3 _ rfl
    have a4 := cellOf hxu0 4 _ rfl
    clear hxu0 hli
    go_wp2_with (go_at_call 63; go_loud (refine (AT U0 0 KU0).mono ?_; rintro e V0c ⟨ca, rfl, ha, ka0c⟩; obtain ⟨z1, z2, z3, z4, z5, z6, rfl, hzs, hzl, hzu, rn0, rm0, -⟩ := id ha.cells; have bA := (ka0c.block b (by have := (KU0).size; omega) (by simp)).trans HBU0.out; have BA0c : Hid _ := bA; clear bA a0 a1 a2 a3 a4))
    have hli0 : LI V0b V0c b [.int .i16 ver] [.slice none 0 0, .map none] 71 9 1 (atT x 0).l.length 0 [] V0b.heap.size (atT x 0).l.length := LI.mono (W := U0) ⟨HBU0.out, (by have h := HOU0.out; simpa [World.ownsRow] using h), fun _ => rfl, KLI0⟩ ka0c
    have KC0 : Keep [b] w V0c := KU0.trans (ka0c.weaken (by simp))
    have HXC0 : Hid (V0c.heap[w.heap.size]? = some _) := (ka0c.block w.heap.size (by have := World.heap_lt' HXU0.out; omega) (by simp)).trans HXU0.out
    have HZL0 : Hid _ := hzl
    have hsz0c := KC0.size
    clear ha hzs hzl hzu
    go_loopw [26] (fun k wr => ∃ n : Nat, n ≤ (atT x 0).l.length ∧ k = .int .i64 n ∧ ∃ g cap, LI V0b wr b [.int .i16 ver] [.slice none 0 0, .map none] 71 9 1 (atT x 0).l.length n (((atT x 0).l.map fun y => str y.s).take n) g cap) (fun k _ => (atT x 0).l.length - (intOf k).toNat)
    case atStart => exact ⟨0, Nat.zero_le _, rfl, _, _, hli0⟩
    case round =>
      obtain ⟨n, hn, rfl, g0, p0, hli⟩ := hrel
      have kq : Keep [b] w wr := KB0.trans hli.k
      have hszq := kq.size
      have hszk := hli.k.size
      by_cases hlt : n < (atT x 0).l.length
      · obtain ⟨bx, ox, cx, rfl, hGx, hcx, hcell⟩ := (HTs.keepF HZL0.out (fun k hk => (hsG _ kq k hk).trans (hsG _ KC0 k hk).symm) (fun _ h => h)).cells hlt
        obtain ⟨y1, y2, y3, y4, y5, y6, rfl, hys, -⟩ := id hcx.cells
        have hbl : bx < wr.heap.size := by have := hG bx hGx; omega
        have c0 : wr.cell? ⟨bx, ox + n * 5, none⟩ = some _ := hcell 0 (by simp)
        have c1 : wr.cell? ⟨bx, ox + n * 5 + 1, none⟩ = some _ := hcell 1 (by simp)
        have c2 : wr.cell? ⟨bx, ox + n * 5 + 2, none⟩ = some _ := hcell 2 (by simp)
        have c3 : wr.cell? ⟨bx, ox + n * 5 + 3, none⟩ = some _ := hcell 3 (by simp)
        have c4 : wr.cell? ⟨bx, ox + n * 5 + 4, none⟩ = some _ := hcell 4 (by simp)
        simp only [List.getElem_cons_zero, List.getElem_cons_succ] at c0 c1 c2 c3 c4
        have hxn : (atT x 0).l[n] = (atT x 0).l[n] := rfl
        have HLT : Hid (n < (atT x 0).l.length) := hlt
        have hlm : n < ((atT x 0).l.map (fun y => str y.s)).length := by simpa using hlt
        have htk : ((atT x 0).l.map (fun y => str y.s)).take (n + 1) = ((atT x 0).l.map (fun y => str y.s)).take n ++ [str ((atT x 0).l[n]).s] := by rw [List.take_succ_eq_append_getElem hlm, List.getElem_map]; rfl
        clear hlm
        clear hcell hcx hxn
        generalize (atT x 0).l[n] = y at *
        have HTK : Hid _ := htk
        clear htk
        have hgb : V0b.heap.size ≤ g0 := LI.ge hli
        have z1 : wr.cell? ⟨b, 1, none⟩ = some (.slice (some ⟨g0, 0, none⟩) n p0) := cellOf hli.1 1 _ rfl
        have hbw2 : b < wr.heap.size := by omega
        have HLQ : Hid _ := hli
        have hcv : (convert 22 9 (.slice y1 y.s.length y2)).run Try.prog (wr.alloc (.cells #[.int .i64 y.n, .slice y1 y.s.length y2, .bool y.null, .slice y3 y.l.length y4, .slice y5 y.u.length y6] 39)).drew = .ok (.string ⟨y.s.toArray⟩) (wr.alloc (.cells #[.int .i64 y.n, .slice y1 y.s.length y2, .bool y.null, .slice y3 y.l.length y4, .slice y5 y.u.length y6] 39)).drew := conv_any (RB.keepF (w' := (wr.alloc (.cells #[.int .i64 y.n, .slice y1 y.s.length y2, .bool y.null, .slice y3 y.l.length y4, .slice y5 y.u.length y6] 39)).drew) hys (fun k hk => Keep.block (keep_box (A := []) _).drew k (by have := hG k hk; omega) (by simp)) (fun _ h => h))
        have hnb : ((wr.alloc (.cells #[.int .i64 y.n, .slice y1 y.s.length y2, .bool y.null, .slice y3 y.l.length y4, .slice y5 y.u.length y6] 39)).alloc (.cells #[str y.s] 9)).heap[wr.heap.size + 1]? = some (.cells #[str y.s] 9 (0, 0)) := by
          have h := heap_alloc_new (wr.alloc (.cells #[.int .i64 y.n, .slice y1 y.s.length y2, .bool y.null, .slice y3 y.l.length y4, .slice y5 y.u.length y6] 39)) (.cells #[str y.s] 9)
          simpa using h
        have HNB : Hid _ := hnb
        clear hli hys hnb
        go_wp2_with fail
        clear c0 c1 c2 c3 c4
        trace_state
        go_region_law (refine step_append_lies _ (by rfl) (.tmp 34) (.tmp 38) _ (by rfl) V0b.heap.size 9 ii0 _ 1 16 Try.underlying69 hii0 hiz0 his0 hib0 rfl (by omega) _ n _ (by rfl) (LI.keep HLQ.out ((keep_box (A := []) _).alloc _).drew).1 ⟨wr.heap.size + 1, 0, none⟩ 1 1 [str y.s] (by rfl) (by rfl) (World.news_of_block (cs := #[str y.s]) HNB.out) (by intro u hu; simp at hu; subst hu; rfl) (by omega) (by unfold maxLen; omega) (by omega) (by simp; omega) (wr.heap.size + 1 + 1) (by simp) ?_; intro g2 cap2 w3 hown1 hgr hat hlt3; have kA : Keep [] wr (((wr.alloc (.cells #[.int .i64 y.n, .slice y1 y.s.length y2, .bool y.null, .slice y3 y.l.length y4, .slice y5 y.u.length y6] 39)).alloc (.cells #[str y.s] 9)).drew) := ((keep_box (A := []) _).alloc _).drew; have x3 := (hgr.block b (by simp; omega) (by simp [Value.ownBlock]; omega)).trans (LI.keep HLQ.out kA).2; have z5 := cellOf x3 1 _ rfl; have f5 := freeOf x3 1; have KK : Keep [b] V0b w3 := (((LI.k HLQ.out).trans (kA.weaken (by simp))).weaken (B := [b, g0]) (by simp)).trans ((Keep.refl _ _).grown hgr (by simp [Value.ownBlock])) |>.fresh (by simp; omega); have HOW : Hid _ := hown1; have HX3 : Hid _ := x3; clear hown1 x3)
        all_goals (go_wp2; go_roundw; (case rel => (refine ⟨n + 1, by omega, by go_num, g2, cap2, ?_⟩; rw [HTK.out]; exact LI.next HX3.out rfl HOW.out (by omega) (fun h => absurd h (by omega)) KK)); (case measure => (simp [intOf]; omega)))
      · obtain rfl : n = (atT x 0).l.length := by omega
        have hnt : ((atT x 0).l.map fun y => str y.s).take (atT x 0).l.length = (atT x 0).l.map fun y => str y.s := List.take_of_length_le (by simp)
        rw [hnt] at hli
        have HVL0 : Hid (VL wr (fun k => V0b.heap.size ≤ k ∧ k < wr.heap.size) (VK wr (fun k => V0b.heap.size ≤ k ∧ k < wr.heap.size) 8 (-1) (VFs wr (fun k => V0b.heap.size ≤ k ∧ k < wr.heap.size) [])) 1 (.slice (some ⟨g0, 0, none⟩) (atT x 0).l.length p0) (.mk 0 [] false ((atT x 0).l.map fun y => .mk 0 y.s false [] []) [])) := vl_texts (LI.rw hli) (fun e => by cases e)
        have hbk1 : wr.heap[b]? = some (.cells #[.int .i16 ver, .slice (some ⟨g0, 0, none⟩) (atT x 0).l.length p0, .slice none 0 0, .map none] 71 (0, 0)) := hli.1
        have KS1 : Keep [b] W0 wr := ((ka0a.weaken (by simp)).trans (ka0b.weaken (by simp))).trans (LI.k hli)
        have K1 : Keep [b] w wr := kq
        have hxb1 : wr.heap[w.heap.size]? = some _ := ((LI.k hli).block w.heap.size (World.heap_lt' HXV0.out) (by simp; omega)).trans HXV0.out
        clear hli hnt hlt
        obtain ⟨W1, rfl⟩ : ∃ z : World, z = wr := ⟨_, rfl⟩
        have HXB1 : Hid _ := hxb1
        have HBK1 : Hid _ := hbk1
        have a0 := cellOf hxb1 0 _ rfl
        have a1 := cellOf hxb1 1 _ rfl
        have a2 := cellOf hxb1 2 _ rfl
        have a3 := cellOf hxb1 3 _ rfl
        have a4 := cellOf hxb1 4 _ rfl
        clear hxb1 hbk1
        by_cases hnu1 : (atT x 1).null = true
        · go_upto_region 15 with (go_at_call 63; go_loud (refine (AT W1 1 K1).mono ?_; rintro e V1 ⟨ca, rfl, ha, ka1⟩; obtain ⟨z1, z2, z3, z4, z5, z6, rfl, hzs, hzl, hzu, rn1, rm1, -⟩ := id ha.cells; have bA := (ka1.block b (by have := (K1).size; omega) (by simp)).trans HBK1.out; have BA1 : Hid _ := bA; clear bA a0 a1 a2 a3 a4))
          have hbk2 := BA1.out
          have KS2 : Keep [b] W1 V1 := ka1.weaken (by simp)
          have K2 : Keep [b] w V1 := K1.trans KS2
          have hxb2 : V1.heap[w.heap.size]? = some _ := (ka1.block w.heap.size (by have := World.heap_lt' HXB1.out; omega) (by simp)).trans HXB1.out
          clear ha hzs hzl hzu
          obtain ⟨W2, rfl⟩ : ∃ z : World, z = V1 := ⟨_, rfl⟩
          have a4 := cellOf hxb2 4 _ rfl
          have hti : TI W2 W2 b G [.int .i16 ver, .slice (some ⟨g0, 0, none⟩) (atT x 0).l.length p0, .slice none 0 0] 71 x.u 0 := TI.start (by rw [hbk2]; rfl) (Keep.refl _ _)
          have HTI : Hid _ := hti
          have hGJ := hGW _ K2
          have hszJ := K2.size
          clear hxb2 hbk2 hti
          go_wp2_with fail
          clear a4
          go_loopw [79] (fun k wr => ∃ n : Nat, n ≤ x.u.length ∧ k = .int .i64 n ∧ TI W2 wr b G [.int .i16 ver, .slice (some ⟨g0, 0, none⟩) (atT x 0).l.length p0, .slice none 0 0] 71 x.u n) (fun k _ => x.u.length - (intOf k).toNat)
          case atStart => exact ⟨0, Nat.zero_le _, rfl, HTI.out⟩
          case round =>
            obtain ⟨n, hn, rfl, hti⟩ := hrel
            have kq : Keep [b] w wr := K2.trans hti.k
            have hsz := kq.size
            by_cases hlt : n < x.u.length
            · obtain ⟨tb, tf, av, pv, e, hGb2, c0, c1, hrb, hrl⟩ := (hu.keepF (hsG _ kq) (fun _ h => h)).elem hlt
              cases e
              have hkey := hkeys _ (List.getElem_mem hlt)
              have htb : tb < wr.heap.size := by have := hG tb hGb2; omega
              have hy : x.u[n] = ((x.u[n]).1, (x.u[n]).2) := rfl
              generalize (x.u[n]).1 = key at *
              generalize (x.u[n]).2 = vl at *
              have TS : ∀ W', Keep [] wr W' → _ := fun W' k' => TI.set (i := 3) (key := key) (x := .slice av vl.length pv) (y := vl) hti hGJ hGb (by omega) k' rfl hlt hy hr hkey (hrb.keepF (fun j hj => k'.block j (by have := hG j hj; omega) (by simp)) (fun _ h => h)) (by omega)
              have HTS : Hid _ := TS
              clear TS hti hrb hy
              go_wp2_with fail
              clear c0 c1
              go_region_law (refine step_call (by rfl) 64 #[.tmp 85, .tmp 87, .tmp 89] #[53, 59, 22] (by rfl) #[.pointer (some ⟨b, 3, none⟩), .int .u32 (key : Int), .slice av vl.length pv] (by simp [go_sem]) _ (by rfl) tset_body tset_name (HTS.out _ (keep_box _).drew) ?_; rintro e w2 ⟨rfl, t2, k2⟩; refine ⟨_, rfl, ?_⟩)
              all_goals (go_wp2; go_roundw; (case rel => exact ⟨n + 1, by omega, by go_num, t2⟩); (case measure => (simp [intOf]; omega)))
            · obtain rfl : n = x.u.length := by omega
              obtain ⟨vt, hbv, hmp, kk⟩ := hti.fin hGJ (by omega)
              clear hti
              go_wp2_with fail
              have KT0 : Keep [b] W1 wr := (KS2.trans kk)
              have hvf0 := VL.keepF (W' := wr) (G := New G w wr) (q := VK wr (New G w wr) 8 (-1) (VFs wr (New G w wr) [])) (fun z hz => KT0.block z hz.2 (by have := hz.1; simp; omega)) (fun z hz => ⟨.inr (by have := hz.1; have := KB0.size; omega), Nat.lt_of_lt_of_le hz.2 KT0.size⟩) (fun c t h => h) HVL0.out
              have hmp2 : MP wr (New G w wr) vt x.u := hmp.keepF (fun _ _ => rfl) (fun z hz => ⟨hz.1.imp id (fun h => by omega), hz.2⟩)
              refine bodyPost_end (v := .tuple #[]) (by simp [results, Try.results43, go_sem]) rfl ⟨rfl, kq, ⟨[.slice (some ⟨g0, 0, none⟩) (atT x 0).l.length p0, .slice none 0 0], vt, _, x.u, hbv, ?_, hmp2, rfl⟩⟩
              unfold q_ListGroupsRequest
              exact ⟨[.slice (some ⟨g0, 0, none⟩) (atT x 0).l.length p0], [.slice none 0 0], _, _, rfl, rfl, (show VF _ _ _ _ (flF _ (atT x 0)) from by rw [fl_texts hnf0 hnn0]; exact ⟨_, rfl, hvf0⟩), ⟨[.slice none 0 0], [], _, _, rfl, rfl, (show VF _ _ _ _ (flF _ (atT x 1)) from by rw [fl_null hnu1]; exact ⟨_, rfl, vl_null⟩), ⟨rfl, rfl⟩⟩⟩
        · have hnf1 : (atT x 1).null = false := by simpa using hnu1
          clear hnu1
          obtain ⟨ii1, hii1, hiz1, his1, hib1⟩ := info_agg info_str zero_str
          have hll1 := hsl1
          go_upto_region 9 with (go_at_call 63; go_loud (refine (AT W1 1 K1).mono ?_; rintro e V1a ⟨ca, rfl, ha, ka1a⟩; obtain ⟨z1, z2, z3, z4, z5, z6, rfl, hzs, hzl, hzu, rn1, rm1, -⟩ := id ha.cells; have bA := (ka1a.block b (by have := (K1).size; omega) (by simp)).trans HBK1.out; have BA1a : Hid _ := bA; clear bA a0 a1 a2 a3 a4))
          have K1a : Keep [b] w V1a := K1.trans (ka1a.weaken (by simp))
          have hxa1 : V1a.heap[w.heap.size]? = some _ := (ka1a.block w.heap.size (by have := World.heap_lt' HXB1.out; omega) (by simp)).trans HXB1.out
          have HXA1 : Hid _ := hxa1
          have a0 := cellOf hxa1 0 _ rfl
          have a1 := cellOf hxa1 1 _ rfl
          have a2 := cellOf hxa1 2 _ rfl
          have a3 := cellOf hxa1 3 _ rfl
          have a4 := cellOf hxa1 4 _ rfl
          clear ha hxa1 hzs hzl hzu
          go_upto_region 10 with (go_at_call 63; go_loud (refine (AT V1a 1 K1a).mono ?_; rintro e V1b ⟨ca, rfl, ha, ka1b⟩; obtain ⟨z1, z2, z3, z4, z5, z6, rfl, hzs, hzl, hzu, rn1, rm1, -⟩ := id ha.cells; have bA := (ka1b.block b (by have := (K1a).size; omega) (by simp)).trans BA1a.out; obtain ⟨wM, hms, howM, hgrM⟩ := run_makeSlice_owned (P := Try.prog) (w := V1b) V1b.heap.size 69 9 ii1 _ 1 Try.underlying69 hii1 hiz1 his1 .i64 .i64 (atT x 1).l.length (by omega) (by rw [hib1]; omega) (by unfold maxLen; omega) (Nat.le_refl _); have kM : Keep [] V1b wM := (Keep.refl _ _).grown hgrM (by simp); have bM := (kM.block b (by have := ka1b.size; have := K1a.size; omega) (by simp)).trans bA; have dM := cellOf bM 2 _ rfl; have gM := freeOf bM 2; have BM : Hid _ := bM; have HOM : Hid _ := howM; clear bM howM hgrM; have BA1b : Hid _ := bA; clear bA a0 a1 a2 a3 a4))
          have KB1 : Keep [b] w V1b := K1a.trans (ka1b.weaken (by simp))
          have HXV1 : Hid (V1b.heap[w.heap.size]? = some _) := (ka1b.block w.heap.size (by have := World.heap_lt' HXA1.out; omega) (by simp)).trans HXA1.out
          have hbB1 : b < V1b.heap.size := by have := KB1.size; omega
          have hli : LI V1b (wM.setCell ⟨b, 2, none⟩ (.slice (some ⟨V1b.heap.size, 0, none⟩) 0 (atT x 1).l.length)) b [.int .i16 ver, .slice (some ⟨g0, 0, none⟩) (atT x 0).l.length p0] [.map none] 71 9 1 (atT x 1).l.length 0 [] V1b.heap.size (atT x 1).l.length := LI.next (v := .slice none 0 0) (by rw [BM.out]; rfl) rfl (by have h := HOM.out; simpa [World.ownsRow] using h) hbB1 (fun _ => rfl) (kM.weaken (by simp))
          have hxu1 : (wM.setCell ⟨b, 2, none⟩ (.slice (some ⟨V1b.heap.size, 0, none⟩) 0 (atT x 1).l.length)).heap[w.heap.size]? = some _ := (Below.heap_setCell _ _ _ _ (fun e => by simp only at e; omega)).trans ((kM.block w.heap.size (by have := KB1.size; have := World.heap_lt' HXA1.out; have := ka1b.size; omega) (by simp)).trans ((ka1b.block w.heap.size (by have := World.heap_lt' HXA1.out; omega) (by simp)).trans HXA1.out))
          clear dM gM ha hzs hzl hzu hms
          generalize (wM.setCell ⟨b, 2, none⟩ (.slice (some ⟨V1b.heap.size, 0, none⟩) 0 (atT x 1).l.length)) = U1 at *
          have KU1 : Keep [b] w U1 := KB1.trans hli.k
          have HOU1 : Hid _ := hli.2.1
          have KLI1 := hli.k
          have HBU1 : Hid (U1.heap[b]? = some (.cells #[.int .i16 ver, .slice (some ⟨g0, 0, none⟩) (atT x 0).l.length p0, .slice (some ⟨V1b.heap.size, 0, none⟩) 0 (atT x 1).l.length, .map none] 71 (0, 0))) := hli.1
          have HXU1 : Hid _ := hxu1
          have a0 := cellOf hxu1 0 _ rfl
          have a1 := cellOf hxu1 1 _ rfl
          have a2 := cellOf hxu1 2 _ rfl
          have a3 := cellOf hxu1 3 _ rfl
          have a4 := cellOf hxu1 4 _ rfl
          clear hxu1 hli
          go_wp2_with (go_at_call 63; go_loud (refine (AT U1 1 KU1).mono ?_; rintro e V1c ⟨ca, rfl, ha, ka1c⟩; obtain ⟨z1, z2, z3, z4, z5, z6, rfl, hzs, hzl, hzu, rn1, rm1, -⟩ := id ha.cells; have bA := (ka1c.block b (by have := (KU1).size; omega) (by simp)).trans HBU1.out; have BA1c : Hid _ := bA; clear bA a0 a1 a2 a3 a4))
          have hli1 : LI V1b V1c b [.int .i16 ver, .slice (some ⟨g0, 0, none⟩) (atT x 0).l.length p0] [.map none] 71 9 1 (atT x 1).l.length 0 [] V1b.heap.size (atT x 1).l.length := LI.mono (W := U1) ⟨HBU1.out, (by have h := HOU1.out; simpa [World.ownsRow] using h), fun _ => rfl, KLI1⟩ ka1c
          have KC1 : Keep [b] w V1c := KU1.trans (ka1c.weaken (by simp))
          have HXC1 : Hid (V1c.heap[w.heap.size]? = some _) := (ka1c.block w.heap.size (by have := World.heap_lt' HXU1.out; omega) (by simp)).trans HXU1.out
          have HZL1 : Hid _ := hzl
          have hsz1c := KC1.size
          clear ha hzs hzl hzu
          go_loopw [59] (fun k wr => ∃ n : Nat, n ≤ (atT x 1).l.length ∧ k = .int .i64 n ∧ ∃ g cap, LI V1b wr b [.int .i16 ver, .slice (some ⟨g0, 0, none⟩) (atT x 0).l.length p0] [.map none] 71 9 1 (atT x 1).l.length n (((atT x 1).l.map fun y => str y.s).take n) g cap) (fun k _ => (atT x 1).l.length - (intOf k).toNat)
          case atStart => exact ⟨0, Nat.zero_le _, rfl, _, _, hli1⟩
          case round =>
            obtain ⟨n, hn, rfl, g1, p1, hli⟩ := hrel
            have kq : Keep [b] w wr := KB1.trans hli.k
            have hszq := kq.size
            have hszk := hli.k.size
            by_cases hlt : n < (atT x 1).l.length
            · obtain ⟨bx, ox, cx, rfl, hGx, hcx, hcell⟩ := (HTs.keepF HZL1.out (fun k hk => (hsG _ kq k hk).trans (hsG _ KC1 k hk).symm) (fun _ h => h)).cells hlt
              obtain ⟨y1, y2, y3, y4, y5, y6, rfl, hys, -⟩ := id hcx.cells
              have hbl : bx < wr.heap.size := by have := hG bx hGx; omega
              have c0 : wr.cell? ⟨bx, ox + n * 5, none⟩ = some _ := hcell 0 (by simp)
              have c1 : wr.cell? ⟨bx, ox + n * 5 + 1, none⟩ = some _ := hcell 1 (by simp)
              have c2 : wr.cell? ⟨bx, ox + n * 5 + 2, none⟩ = some _ := hcell 2 (by simp)
              have c3 : wr.cell? ⟨bx, ox + n * 5 + 3, none⟩ = some _ := hcell 3 (by simp)
              have c4 : wr.cell? ⟨bx, ox + n * 5 + 4, none⟩ = some _ := hcell 4 (by simp)
              simp only [List.getElem_cons_zero, List.getElem_cons_succ] at c0 c1 c2 c3 c4
              have hxn : (atT x 1).l[n] = (atT x 1).l[n] := rfl
              have HLT : Hid (n < (atT x 1).l.length) := hlt
              have hlm : n < ((atT x 1).l.map (fun y => str y.s)).length := by simpa using hlt
              have htk : ((atT x 1).l.map (fun y => str y.s)).take (n + 1) = ((atT x 1).l.map (fun y => str y.s)).take n ++ [str ((atT x 1).l[n]).s] := by rw [List.take_succ_eq_append_getElem hlm, List.getElem_map]; rfl
              clear hlm
              clear hcell hcx hxn
              generalize (atT x 1).l[n] = y at *
              have HTK : Hid _ := htk
              clear htk
              have hgb : V1b.heap.size ≤ g1 := LI.ge hli
              have z1 : wr.cell? ⟨b, 2, none⟩ = some (.slice (some ⟨g1, 0, none⟩) n p1) := cellOf hli.1 2 _ rfl
              have hbw2 : b < wr.heap.size := by omega
              have HLQ : Hid _ := hli
              have hcv : (convert 22 9 (.slice y1 y.s.length y2)).run Try.prog (wr.alloc (.cells #[.int .i64 y.n, .slice y1 y.s.length y2, .bool y.null, .slice y3 y.l.length y4, .slice y5 y.u.length y6] 39)).drew = .ok (.string ⟨y.s.toArray⟩) (wr.alloc (.cells #[.int .i64 y.n, .slice y1 y.s.length y2, .bool y.null, .slice y3 y.l.length y4, .slice y5 y.u.length y6] 39)).drew := conv_any (RB.keepF (w' := (wr.alloc (.cells #[.int .i64 y.n, .slice y1 y.s.length y2, .bool y.null, .slice y3 y.l.length y4, .slice y5 y.u.length y6] 39)).drew) hys (fun k hk => Keep.block (keep_box (A := []) _).drew k (by have := hG k hk; omega) (by simp)) (fun _ h => h))
              have hnb : ((wr.alloc (.cells #[.int .i64 y.n, .slice y1 y.s.length y2, .bool y.null, .slice y3 y.l.length y4, .slice y5 y.u.length y6] 39)).alloc (.cells #[str y.s] 9)).heap[wr.heap.size + 1]? = some (.cells #[str y.s] 9 (0, 0)) := by
                have h := heap_alloc_new (wr.alloc (.cells #[.int .i64 y.n, .slice y1 y.s.length y2, .bool y.null, .slice y3 y.l.length y4, .slice y5 y.u.length y6] 39)) (.cells #[str y.s] 9)
                simpa using h
              have HNB : Hid _ := hnb
              clear hli hys hnb
              go_wp2_with fail
              clear c0 c1 c2 c3 c4
              trace_state
              go_region_law (refine step_append_lies _ (by rfl) (.tmp 67) (.tmp 71) _ (by rfl) V1b.heap.size 9 ii1 _ 1 16 Try.underlying69 hii1 hiz1 his1 hib1 rfl (by omega) _ n _ (by rfl) (LI.keep HLQ.out ((keep_box (A := []) _).alloc _).drew).1 ⟨wr.heap.size + 1, 0, none⟩ 1 1 [str y.s] (by rfl) (by rfl) (World.news_of_block (cs := #[str y.s]) HNB.out) (by intro u hu; simp at hu; subst hu; rfl) (by omega) (by unfold maxLen; omega) (by omega) (by simp; omega) (wr.heap.size + 1 + 1) (by simp) ?_; intro g2 cap2 w3 hown1 hgr hat hlt3; have kA : Keep [] wr (((wr.alloc (.cells #[.int .i64 y.n, .slice y1 y.s.length y2, .bool y.null, .slice y3 y.l.length y4, .slice y5 y.u.length y6] 39)).alloc (.cells #[str y.s] 9)).drew) := ((keep_box (A := []) _).alloc _).drew; have x3 := (hgr.block b (by simp; omega) (by simp [Value.ownBlock]; omega)).trans (LI.keep HLQ.out kA).2; have z5 := cellOf x3 2 _ rfl; have f5 := freeOf x3 2; have KK : Keep [b] V1b w3 := (((LI.k HLQ.out).trans (kA.weaken (by simp))).weaken (B := [b, g1]) (by simp)).trans ((Keep.refl _ _).grown hgr (by simp [Value.ownBlock])) |>.fresh (by simp; omega); have HOW : Hid _ := hown1; have HX3 : Hid _ := x3; clear hown1 x3)
              all_goals (go_wp2; go_roundw; (case rel => (refine ⟨n + 1, by omega, by go_num, g2, cap2, ?_⟩; rw [HTK.out]; exact LI.next HX3.out rfl HOW.out (by omega) (fun h => absurd h (by omega)) KK)); (case measure => (simp [intOf]; omega)))
            · obtain rfl : n = (atT x 1).l.length := by omega
              have hnt : ((atT x 1).l.map fun y => str y.s).take (atT x 1).l.length = (atT x 1).l.map fun y => str y.s := List.take_of_length_le (by simp)
              rw [hnt] at hli
              have HVL1 : Hid (VL wr (fun k => V1b.heap.size ≤ k ∧ k < wr.heap.size) (VK wr (fun k => V1b.heap.size ≤ k ∧ k < wr.heap.size) 8 (-1) (VFs wr (fun k => V1b.heap.size ≤ k ∧ k < wr.heap.size) [])) 1 (.slice (some ⟨g1, 0, none⟩) (atT x 1).l.length p1) (.mk 0 [] false ((atT x 1).l.map fun y => .mk 0 y.s false [] []) [])) := vl_texts (LI.rw hli) (fun e => by cases e)
              have hbk2 : wr.heap[b]? = some (.cells #[.int .i16 ver, .slice (some ⟨g0, 0, none⟩) (atT x 0).l.length p0, .slice (some ⟨g1, 0, none⟩) (atT x 1).l.length p1, .map none] 71 (0, 0)) := hli.1
              have KS2 : Keep [b] W1 wr := ((ka1a.weaken (by simp)).trans (ka1b.weaken (by simp))).trans (LI.k hli)
              have K2 : Keep [b] w wr := kq
              have hxb2 : wr.heap[w.heap.size]? = some _ := ((LI.k hli).block w.heap.size (World.heap_lt' HXV1.out) (by simp; omega)).trans HXV1.out
              clear hli hnt hlt
              obtain ⟨W2, rfl⟩ : ∃ z : World, z = wr := ⟨_, rfl⟩
              have a4 := cellOf hxb2 4 _ rfl
              have hti : TI W2 W2 b G [.int .i16 ver, .slice (some ⟨g0, 0, none⟩) (atT x 0).l.length p0, .slice (some ⟨g1, 0, none⟩) (atT x 1).l.length p1] 71 x.u 0 := TI.start (by rw [hbk2]; rfl) (Keep.refl _ _)
              have HTI : Hid _ := hti
              have hGJ := hGW _ K2
              have hszJ := K2.size
              clear hxb2 hbk2 hti
              go_wp2_with fail
              clear a4
              go_loopw [79] (fun k wr => ∃ n : Nat, n ≤ x.u.length ∧ k = .int .i64 n ∧ TI W2 wr b G [.int .i16 ver, .slice (some ⟨g0, 0, none⟩) (atT x 0).l.length p0, .slice (some ⟨g1, 0, none⟩) (atT x 1).l.length p1] 71 x.u n) (fun k _ => x.u.length - (intOf k).toNat)
              case atStart => exact ⟨0, Nat.zero_le _, rfl, HTI.out⟩
              case round =>
                obtain ⟨n, hn, rfl, hti⟩ := hrel
                have kq : Keep [b] w wr := K2.trans hti.k
                have hsz := kq.size
                by_cases hlt : n < x.u.length
                · obtain ⟨tb, tf, av, pv, e, hGb2, c0, c1, hrb, hrl⟩ := (hu.keepF (hsG _ kq) (fun _ h => h)).elem hlt
                  cases e
                  have hkey := hkeys _ (List.getElem_mem hlt)
                  have htb : tb < wr.heap.size := by have := hG tb hGb2; omega
                  have hy : x.u[n] = ((x.u[n]).1, (x.u[n]).2) := rfl
                  generalize (x.u[n]).1 = key at *
                  generalize (x.u[n]).2 = vl at *
                  have TS : ∀ W', Keep [] wr W' → _ := fun W' k' => TI.set (i := 3) (key := key) (x := .slice av vl.length pv) (y := vl) hti hGJ hGb (by omega) k' rfl hlt hy hr hkey (hrb.keepF (fun j hj => k'.block j (by have := hG j hj; omega) (by simp)) (fun _ h => h)) (by omega)
                  have HTS : Hid _ := TS
                  clear TS hti hrb hy
                  go_wp2_with fail
                  clear c0 c1
                  go_region_law (refine step_call (by rfl) 64 #[.tmp 85, .tmp 87, .tmp 89] #[53, 59, 22] (by rfl) #[.pointer (some ⟨b, 3, none⟩), .int .u32 (key : Int), .slice av vl.length pv] (by simp [go_sem]) _ (by rfl) tset_body tset_name (HTS.out _ (keep_box _).drew) ?_; rintro e w2 ⟨rfl, t2, k2⟩; refine ⟨_, rfl, ?_⟩)
                  all_goals (go_wp2; go_roundw; (case rel => exact ⟨n + 1, by omega, by go_num, t2⟩); (case measure => (simp [intOf]; omega)))
                · obtain rfl : n = x.u.length := by omega
                  obtain ⟨vt, hbv, hmp, kk⟩ := hti.fin hGJ (by omega)
                  clear hti
                  go_wp2_with fail
                  have KT0 : Keep [b] W1 wr := (KS2.trans kk)
                  have hvf0 := VL.keepF (W' := wr) (G := New G w wr) (q := VK wr (New G w wr) 8 (-1) (VFs wr (New G w wr) [])) (fun z hz => KT0.block z hz.2 (by have := hz.1; simp; omega)) (fun z hz => ⟨.inr (by have := hz.1; have := KB0.size; omega), Nat.lt_of_lt_of_le hz.2 KT0.size⟩) (fun c t h => h) HVL0.out
                  have KT1 : Keep [b] W2 wr := kk
                  have hvf1 := VL.keepF (W' := wr) (G := New G w wr) (q := VK wr (New G w wr) 8 (-1) (VFs wr (New G w wr) [])) (fun z hz => KT1.block z hz.2 (by have := hz.1; simp; omega)) (fun z hz => ⟨.inr (by have := hz.1; have := KB1.size; omega), Nat.lt_of_lt_of_le hz.2 KT1.size⟩) (fun c t h => h) HVL1.out
                  have hmp2 : MP wr (New G w wr) vt x.u := hmp.keepF (fun _ _ => rfl) (fun z hz => ⟨hz.1.imp id (fun h => by omega), hz.2⟩)
                  refine bodyPost_end (v := .tuple #[]) (by simp [results, Try.results43, go_sem]) rfl ⟨rfl, kq, ⟨[.slice (some ⟨g0, 0, none⟩) (atT x 0).l.length p0, .slice (some ⟨g1, 0, none⟩) (atT x 1).l.length p1], vt, _, x.u, hbv, ?_, hmp2, rfl⟩⟩
                  unfold q_ListGroupsRequest
                  exact ⟨[.slice (some ⟨g0, 0, none⟩) (atT x 0).l.length p0], [.slice (some ⟨g1, 0, none⟩) (atT x 1).l.length p1], _, _, rfl, rfl, (show VF _ _ _ _ (flF _ (atT x 0)) from by rw [fl_texts hnf0 hnn0]; exact ⟨_, rfl, hvf0⟩), ⟨[.slice (some ⟨g1, 0, none⟩) (atT x 1).l.length p1], [], _, _, rfl, rfl, (show VF _ _ _ _ (flF _ (atT x 1)) from by rw [fl_texts hnf1 hnn1]; exact ⟨_, rfl, hvf1⟩), ⟨rfl, rfl⟩⟩⟩
set_option maxHeartbeats 1600000 in
set_option maxRecDepth 100000 in
theorem lgr_Make {G : Nat → Prop} {c : List Value} {x : T} {w : World} {v : Int} (hv : 0 ≤ v ∧ v ≤ 5) (hx : HT w G x c) (hG : There G w) (hr : Rising x.u) (hul : x.u.length ≤ 1000000) (hsl0 : (atT x 0).l.length ≤ 32767) (hnn0 : ∀ y ∈ (atT x 0).l, y.null = false) (hsl1 : (atT x 1).l.length ≤ 32767) (hnn1 : ∀ y ∈ (atT x 1).l, y.null = false) (hsm : small 1000000 (flPart q_ListGroupsRequest x)) (hap : (apPart q_ListGroupsRequest v (m_ListGroupsRequest.flexible v) (flPart q_ListGroupsRequest x)).length ≤ 40000000000000) :
    Calls Try.prog 19 #[.int .i64 v, .agg c.toArray] w fun e w' => ∃ d, e = .returned d ∧ OB w' w.heap.size d (apPart q_ListGroupsRequest v (m_ListGroupsRequest.flexible v) (flPart q_ListGroupsRequest x)) ∧ Keep [] w w' := by
  obtain ⟨az, ps, al, pl, au, pu, rfl, -⟩ := id hx.cells
  have hwr : IntKind.i16.wrap v = v := by rw [wrap_i16']; split <;> omega
  have HAP : Hid (([] ++ (apPart q_ListGroupsRequest v (m_ListGroupsRequest.flexible v) (flPart q_ListGroupsRequest x))).length ≤ 40000000000000) := by rw [List.nil_append]; exact hap
  have HNL : Hid (([] : Bs) ++ (apPart q_ListGroupsRequest v (m_ListGroupsRequest.flexible v) (flPart q_ListGroupsRequest x)) = (apPart q_ListGroupsRequest v (m_ListGroupsRequest.flexible v) (flPart q_ListGroupsRequest x))) := List.nil_append _
  clear hap
  have k0 : Keep [] w ((w.alloc (.cells #[.int .i64 x.n, .slice az x.s.length ps, .bool x.null, .slice al x.l.length pl, .slice au x.u.length pu] 39)).alloc (.cells #[.int .i16 v, .slice none 0 0, .slice none 0 0, .map none] 71)) := (keep_box (A := []) _).alloc _
  have h0 : (w.alloc (.cells #[.int .i64 x.n, .slice az x.s.length ps, .bool x.null, .slice al x.l.length pl, .slice au x.u.length pu] 39)).heap[w.heap.size]? = some _ := heap_alloc_new w _
  have h1 : ((w.alloc (.cells #[.int .i64 x.n, .slice az x.s.length ps, .bool x.null, .slice al x.l.length pl, .slice au x.u.length pu] 39)).alloc (.cells #[.int .i16 v, .slice none 0 0, .slice none 0 0, .map none] 71)).heap[w.heap.size + 1]? = some (.cells #[.int .i16 v, .slice none 0 0, .slice none 0 0, .map none] 71 (0, 0)) := by
    have h := heap_alloc_new (w.alloc (.cells #[.int .i64 x.n, .slice az x.s.length ps, .bool x.null, .slice al x.l.length pl, .slice au x.u.length pu] 39)) (.cells #[.int .i16 v, .slice none 0 0, .slice none 0 0, .map none] 71)
    simpa using h
  have hu0 : ((w.alloc (.cells #[.int .i64 x.n, .slice az x.s.length ps, .bool x.null, .slice al x.l.length pl, .slice au x.u.length pu] 39)).alloc (.cells #[.int .i16 0, .slice none 0 0, .slice none 0 0, .map none] 71)).heap[w.heap.size + 1]? = some (.cells #[.int .i16 0, .slice none 0 0, .slice none 0 0, .map none] 71 (0, 0)) := by
    have h := heap_alloc_new (w.alloc (.cells #[.int .i64 x.n, .slice az x.s.length ps, .bool x.null, .slice al x.l.length pl, .slice au x.u.length pu] 39)) (.cells #[.int .i16 0, .slice none 0 0, .slice none 0 0, .map none] 71)
    simpa using h
  have hx0 : ((w.alloc (.cells #[.int .i64 x.n, .slice az x.s.length ps, .bool x.null, .slice al x.l.length pl, .slice au x.u.length pu] 39)).alloc (.cells #[.int .i16 v, .slice none 0 0, .slice none 0 0, .map none] 71)).heap[w.heap.size]? = some _ := ((keep_box (A := []) _).block w.heap.size (by simp) (by simp)).trans h0
  have hz0 : ((w.alloc (.cells #[.int .i64 x.n, .slice az x.s.length ps, .bool x.null, .slice al x.l.length pl, .slice au x.u.length pu] 39)).alloc (.cells #[.int .i16 v, .slice none 0 0, .slice none 0 0, .map none] 71)).heap.size = w.heap.size + 2 := by simp
  have hc0 := cellOf hu0 0 (.int .i16 0) rfl
  have hf0 := freeOf hu0 0
  clear hu0 h0
  have SV := lgr_setv (v := v) hc0 hf0
  go_enter Try.func19, Try.ntmps19
  go_upto_region 3 with (go_at_call 42; go_loud (refine SV.mono ?_; rintro e w1 ⟨rfl, rfl⟩))
  clear SV hc0 hf0
  generalize ((w.alloc (.cells #[.int .i64 x.n, .slice az x.s.length ps, .bool x.null, .slice al x.l.length pl, .slice au x.u.length pu] 39)).alloc (.cells #[.int .i16 v, .slice none 0 0, .slice none 0 0, .map none] 71)) = W0 at *
  have a0 := cellOf hx0 0 _ rfl
  have a1 := cellOf hx0 1 _ rfl
  have a2 := cellOf hx0 2 _ rfl
  have a3 := cellOf hx0 3 _ rfl
  have a4 := cellOf hx0 4 _ rfl
  have FL := lgr_fill h1 (hx.keepF (hG.same k0) (fun _ h => h)) (hG.keep k0) (fun h => by have := hG _ h; omega) hr hul hsl0 hnn0 hsl1 hnn1
  have HFL : Hid _ := FL
  clear FL h1 hx0
  go_wp2_with (first
    | (go_at_call 43; go_loud (refine Calls.mono HFL.out ?_; rintro e w3 ⟨rfl, k3, vm3⟩; clear a0 a1 a2 a3 a4; have hz3 := k3.size; have K3 : Keep [] w w3 := ((k0.weaken (B := [w.heap.size + 1]) (by simp)).trans k3).fresh (by simp); obtain ⟨cc, pt3, cv3, vk3⟩ := VM.seen vm3 (fun k h => h.2) (Keep.refl _ _); have AP : Hid _ := lgr_app pt3 cv3 vk3 (B := w3.heap.size) (by omega) (fun k h => h.2) (OB.nil _ _) (Nat.le_refl _) hsm HAP.out hv.1; clear pt3 cv3 vk3 vm3))
    | (go_at_call 44; go_loud (refine Calls.mono AP.out ?_; rw [HNL.out]; rintro e w5 ⟨v5, rfl, h5, b5⟩)))
  refine bodyPost_ret (v := v5) (by simp [results, Try.results19, go_sem]) rfl ⟨v5, rfl, ?_, ?_⟩
  · exact h5.lower (by omega)
  · exact K3.trans ((Keep.refl _ _).andBelow b5)
end Go.Proofs.Ytidebamgmbdnaaa
