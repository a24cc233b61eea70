/-
  AddPartitionsToTxnRequest: reading.
-/
import Derived.Test.YtalgpkkphlfooaaGreatDoorMApt1
import Derived.Test.YtalgpkkphlfooaaGreatDoorMB13
import Derived.Test.YtalgpkkphlfooaaGreatDoorMApt16
import Derived.Deep.CutBlock
import Derived.Deep.DeepCutAuto
namespace Go.Proofs.YtalgpkkphlfooaaGreatDoor
open Go.ChangeShapes Go.WideShapes Go.ChangeAt Go.RowKit

set_option maxHeartbeats 40000000 in
set_option maxRecDepth 100000 in
theorem apt_read_2s {G : Nat → Prop} {b : Nat} {p : Addr} {l : Bs} {src : Value} {w : World} {ver : Int} (hb : w.heap[b]? = some (.cells #[.int .i16 ver, .string ⟨#[]⟩, .int .i64 0, .int .i16 0, .slice none 0 0, .slice none 0 0, .map none] 98 (0, 0))) (hl : RB w G src l) (hG : There G w) (hGb : ¬ G b) (hg : Gl w p) (hp : b ≠ 1) (hv0 : 0 ≤ ver) (_B3 : 3 ≤ ver) (_B4 : 4 ≤ ver) :
    Calls Tryz.prog 86 #[.pointer (some ⟨b, 0, none⟩), src, .bool false] w fun e w' => e = .returned (errV p (rdPart q_AddPartitionsToTxnRequest ver true (l, false)).2.2) ∧ Keep [b] w w' ∧ ((rdPart q_AddPartitionsToTxnRequest ver true (l, false)).2.2 = false → VM w' (New G w w') b q_AddPartitionsToTxnRequest 98 ver (rdPart q_AddPartitionsToTxnRequest ver true (l, false)).1) := by
  obtain ⟨ao, cap, rfl⟩ := RS.shape hl
  have hbl : b < w.heap.size := World.heap_lt hb
  have hp1 : 1 < w.heap.size := World.block_lt_of_cell? w _ hg
  have cv : (w.alloc (.cells #[.slice ao l.length cap, .bool false] 161)).cell? ⟨b, 0, none⟩ = some (.int .i16 ver) := ((keep_box (A := []) _).cell (p := ⟨b, 0, none⟩) hbl (by simp)).trans (cellOf hb 0 _ rfl)
  have h0 : ElSt w (w.alloc (.cells #[.slice ao l.length cap, .bool false] 161)) b w.heap.size G (l, false) [.int .i16 ver] [] [.string ⟨#[]⟩, .int .i64 0, .int .i16 0, .slice none 0 0, .slice none 0 0, .map none] [] 98 [] [] :=
    ⟨⟨_, heap_alloc_new w _, hl.keepF (hG.same (keep_box _)) (fun _ h => h), fun e => absurd e (by simp)⟩, ((keep_box (A := []) _).block b hbl (by simp)).trans hb, ⟨rfl, rfl⟩, (keep_box (A := []) _).weaken (by simp), hG, hGb, (fun e => by have := hG _ e; omega), hbl, by omega⟩
  clear hb
  have HEQ0 : Hid (rdPart q_AddPartitionsToTxnRequest ver true (l, false) = (.mk 0 [] false [(.mk 0 [] false [] []), (.mk 0 [] false [] []), (.mk 0 [] false [] []), (.mk 0 [] true [] []), (rdF (.mk 11 4 (-1) (-1) (-1) 0 10 q_AddPartitionsToTxnRequestTransaction) ver true (l, false)).1] (rdTags (rdF (.mk 11 4 (-1) (-1) (-1) 0 10 q_AddPartitionsToTxnRequestTransaction) ver true (l, false)).2).1, (rdTags (rdF (.mk 11 4 (-1) (-1) (-1) 0 10 q_AddPartitionsToTxnRequestTransaction) ver true (l, false)).2).2)) := by
    show _ = _
    simp [rdPart, rdPartOf, q_AddPartitionsToTxnRequest, rdFs, (has_no2 (show ¬ ver ≤ (3 : Int) by omega) (by decide) : F.has (.mk 8 0 3 (-1) (-1) 0 0 []) ver = false), (has_no2 (show ¬ ver ≤ (3 : Int) by omega) (by decide) : F.has (.mk 4 0 3 (-1) (-1) 0 0 []) ver = false), (has_no2 (show ¬ ver ≤ (3 : Int) by omega) (by decide) : F.has (.mk 2 0 3 (-1) (-1) 0 0 []) ver = false), (has_no2 (show ¬ ver ≤ (3 : Int) by omega) (by decide) : F.has (.mk 11 0 3 (-1) (-1) 0 10 q_AddPartitionsToTxnRequestTopic) ver = false), (has_yes (show (4 : Int) ≤ ver by omega) (.inl (by decide)) : F.has (.mk 11 4 (-1) (-1) (-1) 0 10 q_AddPartitionsToTxnRequestTransaction) ver = true), rdF, dflF]
  go_enter Tryz.func86, Tryz.ntmps86
  have h1 : ElSt w (w.alloc (.cells #[.slice ao l.length cap, .bool false] 161)) b w.heap.size G (l, false) [.int .i16 ver] [.string ⟨#[]⟩] [.int .i64 0, .int .i16 0, .slice none 0 0, .slice none 0 0, .map none] [] 98 [.mk 8 0 3 (-1) (-1) 0 0 []] [(.mk 0 [] false [] [])] := h0.pass (vf_str (by decide) [])
  clear h0
  have h2 : ElSt w (w.alloc (.cells #[.slice ao l.length cap, .bool false] 161)) b w.heap.size G (l, false) [.int .i16 ver] [.string ⟨#[]⟩, .int .i64 0] [.int .i16 0, .slice none 0 0, .slice none 0 0, .map none] [] 98 [.mk 8 0 3 (-1) (-1) 0 0 [], .mk 4 0 3 (-1) (-1) 0 0 []] [(.mk 0 [] false [] []), (.mk 0 [] false [] [])] := h1.pass (vf_i64 (by decide))
  clear h1
  have h3 : ElSt w (w.alloc (.cells #[.slice ao l.length cap, .bool false] 161)) b w.heap.size G (l, false) [.int .i16 ver] [.string ⟨#[]⟩, .int .i64 0, .int .i16 0] [.slice none 0 0, .slice none 0 0, .map none] [] 98 [.mk 8 0 3 (-1) (-1) 0 0 [], .mk 4 0 3 (-1) (-1) 0 0 [], .mk 2 0 3 (-1) (-1) 0 0 []] [(.mk 0 [] false [] []), (.mk 0 [] false [] []), (.mk 0 [] false [] [])] := h2.pass (vf_i16 (by decide))
  clear h2
  have h4 : ElSt w (w.alloc (.cells #[.slice ao l.length cap, .bool false] 161)) b w.heap.size G (l, false) [.int .i16 ver] [.string ⟨#[]⟩, .int .i64 0, .int .i16 0, .slice none 0 0] [.slice none 0 0, .map none] [] 98 [.mk 8 0 3 (-1) (-1) 0 0 [], .mk 4 0 3 (-1) (-1) 0 0 [], .mk 2 0 3 (-1) (-1) 0 0 [], .mk 11 0 3 (-1) (-1) 0 10 q_AddPartitionsToTxnRequestTopic] [(.mk 0 [] false [] []), (.mk 0 [] false [] []), (.mk 0 [] false [] []), (.mk 0 [] true [] [])] := h3.pass (vf_list rfl (VL.nil _ _ _ _))
  clear h3
  have cl5 := h4.cellAt (o := 5) rfl
  go_wp2_with (first
    | (go_at_call 84; refine (d_AddPartitionsToTxnRequest _ _).mono ?_; rintro e wd ⟨rfl, rfl⟩)
    | (go_at_call 111; go_loud (refine (clen_any h4.rd h4.hG h4.nrb).mono ?_; rintro e w5 ⟨rfl, r5, k5⟩; have lr5 := rdCLen_range (l, false); have h6 := h4.call r5 k5; clear r5 k5; generalize hl5 : (rdCLen (l, false)).1 = L5 at *; have HL5 : Hid _ := hl5; clear h4 hl5)))
  cases hbad5 : (rdCLen (l, false)).2.2
  case true =>
    have HB : (rdPart q_AddPartitionsToTxnRequest ver true (l, false)).2.2 = true := by rw [HEQ0.out]; (try dsimp only); exact rdTags_b _ ((show (rdF (.mk 11 4 (-1) (-1) (-1) 0 10 q_AddPartitionsToTxnRequestTransaction) ver true (l, false)).2.2 = true from clist_bad hbad5))
    have HBB : Hid _ := HB
    clear HB
    go_wp2_with (first
      | (go_at_call 113; refine (ok_any h6.rd).mono ?_; rintro e wo ⟨rfl, rfl⟩; rw [hbad5])
      | (go_at_call 114; go_loud (refine (complete_any h6.rd (hg.keep (h6.keep) (by simp; omega))).mono ?_; rintro e wz ⟨rfl, kz⟩; rw [hbad5])))
    go_ret
    rw [HBB.out]
    exact ⟨by simp, (Keep.fresh (B := [b]) (h6.keep) (by simp)).trans (kz.weaken (by simp)), fun e => by cases e⟩
  case false =>
    go_upto_if 205 with (go_at_call 113; refine (ok_any h6.rd).mono ?_; rintro e wo ⟨rfl, rfl⟩; rw [hbad5])
    go_cut [27] (fun av wx => RowIni w5 wx (.slice none 0 0) av L5.toNat [.string ⟨#[]⟩, .int .i64 0, .int .i16 0, .bool false, .slice none 0 0, .map none] 106)
    case first =>
      by_cases hp : 0 < L5
      · obtain ⟨N, rfl⟩ : ∃ N : Nat, L5 = N := ⟨L5.toNat, by omega⟩
        obtain ⟨i0, hi, hz0, hz1, hz2⟩ := info_bd info_AddPartitionsToTxnRequestTransaction
        have AP := run_append_empty_zeros (P := Tryz.prog) w5 96 21 96 106 i0 _ .i32 .i32 Tryz.underlying96 Tryz.underlying21 hi hz0 N (by omega) (by omega) (by omega) (Nat.le_trans (Nat.mul_le_mul_left N hz2) (by omega)) none
        go_wp2_with (first
          | (at_builtin; go_loud (refine Lib.wpList_append_run _ rfl (.tmp 206) (.tmp 207) 96 21 rfl _ _ rfl rfl _ _ AP ?_))
          | (go_meet; rw [Int.toNat_natCast]; exact RowIni.made2 (w := w5) (z := .agg #[.string ⟨#[]⟩, .int .i64 0, .int .i16 0, .bool false, .slice none 0 0, .map none]) (N := N) (e := 106) (show 0 < N by omega) rfl _))
      · go_wp2_with (go_meet; exact .inl ⟨by omega, rfl, rfl⟩)
    case rest =>
      have RR5 := RowRel.start hcut h6.rd h6.hG h6.nrb (gOf 10 true q_AddPartitionsToTxnRequestTransaction ver) 6 10 q_AddPartitionsToTxnRequestTransaction
      clear hcut
      obtain ⟨wl5, rfl⟩ : ∃ x : World, x = wc := ⟨_, rfl⟩
      obtain ⟨av5, rfl⟩ : ∃ x : Value, x = u27 := ⟨_, rfl⟩
      go_wp2_with fail
      refine apt_l2fs (p := p) (by first | rfl | (simp; done) | (simp; omega)) RR5 lr5 h6.hG h6.nrb h6.rd.lt' (hg.keep (h6.keep) (by simp; omega)) (by have := hp1; omega) hv0 ?hret ?hexit
      case hret =>
        show ∀ (a' : Act) (wz : World), _
        intro a' wz z1 z2 z3 z4
        have HB : (rdPart q_AddPartitionsToTxnRequest ver true (l, false)).2.2 = true := by rw [HEQ0.out]; (try dsimp only); exact rdTags_b _ ((show (rdF (.mk 11 4 (-1) (-1) (-1) 0 10 q_AddPartitionsToTxnRequestTransaction) ver true (l, false)).2.2 = true by rw [rdF_clist HL5.out]; exact z4))
        repeat (first | refine inBlock_ret ?_ | refine then_ret ?_)
        refine ret_post (fn := Tryz.f86) rfl z1 z2 ?_
        rw [HB]
        exact ⟨by simp, Keep.fresh (B := [b]) (Keep.trans (h6.keep) (z3.weaken (by simp))) (by simp), fun e => by cases e⟩
      case hexit =>
        intro wr5 y6 y29 y30 y31 y32 y33 y34 y35 y36 y37 y38 y39 y40 y41 y42 y43 y44 y45 y46 y47 y209 y210 y211 y212 y213 y214 y215 y216 y217 y218 y219 y220 y221 y222 y223 y224 y225 y226 y227 y228 y229 y230 y231 y232 y233 y234 y235 y236 y237 y238 y239 y240 y241 y242 y243 y244 y245 y246 y247 y248 y249 y250 y251 y252 y253 y254 y255 y256 y257 y258 y259 y260 y261 y262 y263 y264 y265 y266 y267 y268 y269 y270 y271 y272 y273 y274 y275 y276 y277 y278 y279 y280 y281 y282 y283 y284 y285 y286 y287 y288 y289 y290 y291 y292 y293 y294 y295 y296 y297 y298 y299 y300 y301 y302 y303 y304 y305 y306 y307 y308 y309 y310 y311 y312 y313 y314 y315 y316 y317 y318 y319 y320 y321 y322 y323 y324 y325 y326 y327 y328 y329 y330 y331 y332 y333 RR
        have KR5 := RR.keep
        obtain ⟨rr, kr, ⟨ao5, cp5, rfl⟩, vl⟩ := RR.fin (by omega) (.inl rfl)
        clear RR RR5
        have LE := rdF_clist (a := 4) (b := (-1)) (c := (-1)) (d := 0) (ofk := 10) (v := ver) (sub := q_AddPartitionsToTxnRequestTransaction) HL5.out
        have rr2 : Rd wr5 w.heap.size G (rdF (.mk 11 4 (-1) (-1) (-1) 0 10 q_AddPartitionsToTxnRequestTransaction) ver true (l, false)).2 := by rw [LE]; exact rr
        have vl2 := vl (decide (L5 ≤ 0)) (by simp)
        have vl3 : VL wr5 (Nw G w5 w.heap.size wr5) (VK wr5 (Nw G w5 w.heap.size wr5) 10 (-1) (VFs wr5 (Nw G w5 w.heap.size wr5) q_AddPartitionsToTxnRequestTransaction)) 6 (.slice ao5 L5.toNat cp5) (rdF (.mk 11 4 (-1) (-1) (-1) 0 10 q_AddPartitionsToTxnRequestTransaction) ver true (l, false)).1 := by rw [LE]; exact vl2
        have gr : ∀ i, Nw G w5 w.heap.size wr5 i → Nw G w w.heap.size wr5 i := fun i hi => ⟨hi.1.imp id (Nat.le_trans h6.keep.size), hi.2⟩
        have vl4 := VL.keepF (fun _ _ => rfl) gr (fun c t => VK.keepF (fun _ _ => rfl) gr (fun c l => VFs.keepF (fun _ _ => rfl) gr q_AddPartitionsToTxnRequestTransaction)) vl3
        have h7 := h6.call rr2 kr
        clear rr rr2 vl vl2 vl3 LE
        have c5 := h7.cellAt (o := 5) rfl
        have f5 := h7.free (5)
        have h8 : ElSt w (wr5.setCell ⟨b, 5, none⟩ (.slice ao5 L5.toNat cp5)) b w.heap.size G (rdF (.mk 11 4 (-1) (-1) (-1) 0 10 q_AddPartitionsToTxnRequestTransaction) ver true (l, false)).2 [.int .i16 ver] [.string ⟨#[]⟩, .int .i64 0, .int .i16 0, .slice none 0 0, .slice ao5 L5.toNat cp5] [.map none] [] 98 [.mk 8 0 3 (-1) (-1) 0 0 [], .mk 4 0 3 (-1) (-1) 0 0 [], .mk 2 0 3 (-1) (-1) 0 0 [], .mk 11 0 3 (-1) (-1) 0 10 q_AddPartitionsToTxnRequestTopic, .mk 11 4 (-1) (-1) (-1) 0 10 q_AddPartitionsToTxnRequestTransaction] [(.mk 0 [] false [] []), (.mk 0 [] false [] []), (.mk 0 [] false [] []), (.mk 0 [] true [] []), (rdF (.mk 11 4 (-1) (-1) (-1) 0 10 q_AddPartitionsToTxnRequestTransaction) ver true (l, false)).1] := h7.put (o := 5) rfl (vf_list rfl vl4)
        clear h6 h7 vl4 gr
        generalize (rdF (.mk 11 4 (-1) (-1) (-1) 0 10 q_AddPartitionsToTxnRequestTransaction) ver true (l, false)).2 = zs5 at *
        go_wp2_with (first
          | (go_at_call 121; go_loud (refine (rtags_any h8.rd h8.hG h8.nrb).mono ?_; rintro e w9 ⟨tv9, rfl, mp9, mb9, r9, k9⟩; obtain ⟨mr9, rfl⟩ := mp9.shape; have mq9 := mp9.keepF (fun _ _ => rfl) (h8.nwNew (W := w9)); have h10 := h8.call r9 k9; have c9 := h10.cellAt (o := 6) rfl; have f9 := h10.free (6); have he11 := h10.tags (o := 6) rfl mq9; clear r9 k9 h8 h10))
          | (go_at_call 114; go_loud (refine (complete_any he11.rd (hg.keep he11.keep (by simp; omega))).mono ?_; rintro e wz ⟨rfl, kz⟩)))
        go_ret
        have hz := he11.calm hG hGb hbl he11.rd.lt' kz
        obtain ⟨q1, q2⟩ := hz.vm (Nat.le_refl _)
        rw [HEQ0.out]
        dsimp only
        exact ⟨by simp, q1, fun _ => q2⟩
end Go.Proofs.YtalgpkkphlfooaaGreatDoor
