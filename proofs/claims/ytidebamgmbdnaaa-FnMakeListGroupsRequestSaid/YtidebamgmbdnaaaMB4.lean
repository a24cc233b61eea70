/-
  spec.unknown, walked.
-/
import Derived.Test.YtidebamgmbdnaaaMB3
import Derived.Lib.Hide
namespace Go.Proofs.Ytidebamgmbdnaaa
open Go.ChangeShapes Go.WideShapes Go.ChangeAt Go.RowKit

set_option maxHeartbeats 4000000 in
set_option maxRecDepth 100000 in
theorem unknown_short {G : Nat → Prop} {fs : List F} {vs : Value} {u : List Tg} {vu : Value} {w : World} (hF : HFs w G vs fs) (hu : HGs w G vu u) (hG : There G w) (hn : noTags fs = true) (hle : u.length ≤ 32767) :
    Calls Try.prog 37 #[vs, vu] w fun e w' => ∃ d, e = .returned d ∧ HGs w' (fun k => G k ∨ (w.heap.size ≤ k ∧ k < w'.heap.size)) d (unknownFrom 0 u) ∧ Keep [] w w' := by
  have hub := hu.bd
  have hkeys : ∀ x ∈ u, x.1 < 4294967296 ∧ x.2.length ≤ 9223372036854775807 := by obtain ⟨_, _, _, h3, _⟩ := hu; exact h3
  have KN := known_any hF hG hn
  obtain ⟨aF, pF, rfl, hpF⟩ := hF.shape
  obtain ⟨au, pu, rfl⟩ := hu.shape
  have hcap : u.length ≤ pu := by
    obtain ⟨_, _, _, _, _, ao, cap, e, h1, _⟩ := hu
    cases e
    exact h1
  have HF0 : Hid _ := hF
  clear hF
  obtain ⟨i0, hi, hz0, hz1, hz2⟩ := info_agg info_sg zero_sg
  go_enter Try.func37, Try.ntmps37
  go_wp2_with (go_at_call 73; refine KN.mono ?_; rintro e w1 ⟨rfl, k1⟩)
  go_loopw [19, 6] (fun k o wr => ∃ (n : Nat) (L : List (Nat × (Value × Bs))), n ≤ u.length ∧ k = .int .i64 (n : Int) ∧ UnkSt w wr G u n o L) (fun k _ _ => u.length - (intOf k).toNat)
  case atStart => exact ⟨0, [], Nat.zero_le _, rfl, ⟨World.ownsRow_nil _ _ _ _, by simp [unknownFrom], by simp, k1, by simp⟩⟩
  case round =>
    obtain ⟨wo, rfl⟩ : ∃ x : World, x = wr := ⟨_, rfl⟩
    obtain ⟨n, L, hn, rfl, hst⟩ := hrel
    have hLn := hst.len
    obtain ⟨ao, cap, rfl⟩ := hst.len'
    by_cases hlt : n < u.length
    · have hlu : n < u.length := by omega
      obtain ⟨tb, tf, av, pv, rfl, hGb, c0, c1, hrb, -⟩ := hu.elem hlu
      have HRB : Hid _ := hrb
      have hxk := hkeys _ (List.getElem_mem hlu)
      have hbw := hG tb hGb
      have d0 := (hst.keep.cell (p := ⟨tb, tf + n * 2, none⟩) hbw (by simp)).trans c0
      have d1 := (hst.keep.cell (p := ⟨tb, tf + n * 2 + 1, none⟩) hbw (by simp)).trans c1
      have hsp := spotG_le L u[n].1
      have HOB := fun k e => hst.row.lt k e
      have HLT : Hid _ := spotG_lt L u[n].1
      have HGE : Hid _ := spotG_ge L u[n].1
      have HUN : Hid (u[n].1 = u[n].1) := Lib.hid rfl
      clear hrb c0 c1
      generalize hkey : u[n].1 = key at *
      have HKEY : Hid (u[n].1 = key) := Lib.hid hkey
      clear hkey
      generalize hsl : u[n].2.length = sl at *
      have HSL : Hid (u[n].2.length = sl) := Lib.hid hsl
      clear hsl
      obtain ⟨W, hW⟩ : ∃ W, W = wo.alloc (.cells #[.int .u32 (key : Int), .slice av sl pv] 61) := ⟨_, rfl⟩
      have kW : Keep [] wo W := by rw [hW]; exact keep_box _
      have hbx : W.heap[wo.heap.size]? = some (.cells #[.int .u32 (key : Int), .slice av sl pv] 61 (0, 0)) := by rw [hW]; exact heap_alloc_new wo _
      have hzW : W.heap.size = wo.heap.size + 1 := by rw [hW]; simp
      have HBX : Hid _ := Lib.hid hbx
      clear hbx
      go_upto_region 7 with fail
      rw [← hW]
      clear hW d0 d1
      go_loopw [9] (fun i wr => ∃ j : Nat, j ≤ spotG L key ∧ i = .int .i64 (j : Int) ∧ Keep [] W wr) (fun i _ => spotG L key - (intOf i).toNat)
      case atStart => exact ⟨0, Nat.zero_le _, rfl, Keep.refl _ _⟩
      case round =>
        obtain ⟨wq, rfl⟩ : ∃ x : World, x = wr := ⟨_, rfl⟩
        obtain ⟨j, hj, rfl, kq⟩ := hrel
        have hbq := (kq.block wo.heap.size (by omega) (by simp)).trans HBX.out
        have t0 : _ := cellOf hbq 0 _ rfl
        have t1 : _ := cellOf hbq 1 _ rfl
        have HBQ : Hid _ := Lib.hid hbq
        clear hbq
        have hstq := hst.calm (kW.trans kq)
        have hzq := kq.size
        by_cases hjs : j < spotG L key
        · have hjl : j < L.length := by omega
          obtain ⟨g, rfl, e0, e1⟩ := hstq.at_ hjl
          have hlk := HLT.out j hjs hjl
          generalize L[j].1 = lk at *
          go_wp2_with fail
          go_quiet (fail)
          go_wp2_with fail
          go_roundw
          case rel => exact ⟨j + 1, by omega, by go_num, kq.drewN _⟩
          case measure => simp [intOf]; omega
        · have hje : j = spotG L key := by omega
          have HJE : Hid _ := Lib.hid hje
          clear hje
          have hkz : decide ((key : Int) < 0) = false := by simp
          by_cases hjl : j < L.length
          · obtain ⟨g0, rfl, e0, e1⟩ := hstq.at_ hjl
            have hge : ¬ L[j].1 < key := by have q := HGE.out; rw [← HJE.out] at q; exact q hjl
            by_cases heq : L[j].1 = key
            · have hlk : L[j].1 = key := heq
              rw [hlk] at e0
              have HEQ : Hid (L[j].1 = key) := Lib.hid heq
              clear heq hlk hge
              go_wp2_with fail
              go_quiet (fail)
              go_wp2_with fail
              go_quiet (fail)
              go_wp2_with fail
              go_roundw
              case rel =>
                have hk1 := HKEY.out
                subst hk1
                have hs := HEQ.out
                refine ⟨n + 1, L, by omega, by go_num, (UnkSt.skip hstq hlu (by omega) ?_).calm ((Keep.refl _ _).drewN _)⟩
                rw [← HJE.out, List.getElem?_eq_getElem hjl]
                simpa using hs
              case measure => simp [intOf]; omega
            · have hd : decide (j < L.length) = true := by simpa using hjl
              have HNO : Hid (¬ L[spotG L key]?.any (fun x => x.1 == key) = true) := Lib.hid (by rw [← HJE.out, List.getElem?_eq_getElem hjl]; simpa using heq)
              have hne : decide ((L[j].1 : Int) = (key : Int)) = false := by simp; omega
              generalize L[j].1 = lk at *
              go_wp2_with fail
              go_quiet (fail)
              go_wp2_with fail
              go_quiet (fail)
              go_wp2_with (at_builtin; go_loud (refine wpList_append_lies _ rfl (.tmp 59) (.tmp 61) _ rfl w.heap.size 61 i0 _ 2 32 Try.underlying24 hi hz0 hz1 hz2 rfl (by omega) (.slice (some ⟨g0, 0, none⟩) L.length cap) _ (cellsL L) rfl ((hstq.calm (((Keep.refl [] wq).drewN _).alloc _)).row) ⟨wq.heap.size, 0, none⟩ 1 1 [.int .u32 0, .slice none 0 0] rfl rfl (World.news_of_block (cs := #[.int .u32 0, .slice none 0 0]) (heap_alloc_new _ _)) (by intro y hy; simp at hy; rcases hy with rfl | rfl <;> rfl) (by omega) (by unfold maxLen; omega) (by omega) (by have := hstq.keep.size; simp; omega) (wq.heap.size + 1) (by simp) ?_; intro g cap2 w3 hown hgr hat hlt3; have hgx : g ≠ wo.heap.size := hat.elim (fun e h => (by have := HOB g e; omega)) (fun e h => (by omega)); have hb3 := (hgr.block wo.heap.size (by simp; omega) (fun e => by have := HOB _ e.symm; omega)).trans ((((Keep.refl [] wq).drewN _).alloc _).block wo.heap.size (by omega) (by simp) |>.trans HBQ.out); have k3 : Keep [] w w3 := (hstq.keep.trans (((Keep.refl [] wq).drewN _).alloc _)).grown hgr (fun k e => .inr (HOB k e).1); have hown3 : w3.ownsRow w.heap.size 61 2 (.slice (some ⟨g, 0, none⟩) (L.length + 1) cap2) (L.length + 1) (cellsL (L.take L.length ++ (0, (.slice none 0 0, [])) :: L.drop L.length)) := (by rw [List.take_length, List.drop_length, cellsL_app]; exact hown); have HB3 : Hid _ := Lib.hid hb3; have HG2 : w.heap.size ≤ g := (hown.lt g rfl).1; clear hown hgr hat hb3))
              go_loopw [10] (fun kk wr => ∃ (k : Nat) (y : Nat × (Value × Bs)), j ≤ k ∧ k ≤ L.length ∧ kk = .int .i64 (k : Int) ∧ wr.ownsRow w.heap.size 61 2 (.slice (some ⟨g, 0, none⟩) (L.length + 1) cap2) (L.length + 1) (cellsL (L.take k ++ y :: L.drop k)) ∧ wr.heap[wo.heap.size]? = some (.cells #[.int .u32 (key : Int), .slice av sl pv] 61 (0, 0)) ∧ Keep [] w wr) (fun kk _ => (intOf kk).toNat - j)
              case atStart => exact ⟨L.length, (0, (.slice none 0 0, [])), by omega, Nat.le_refl _, by first | rfl | go_num, hown3, HB3.out, k3⟩
              case round =>
                obtain ⟨ws, rfl⟩ : ∃ x : World, x = wr := ⟨_, rfl⟩
                obtain ⟨k, y, hjk, hkl, rfl, hrow, hbs, ks⟩ := hrel
                have HBS : Hid _ := Lib.hid hbs
                have HROW : Hid _ := Lib.hid hrow
                clear hown3 hbs
                by_cases hlk2 : j < k
                · obtain ⟨k, rfl⟩ : ∃ k', k = k' + 1 := ⟨k - 1, by omega⟩
                  have hm := cellsL_mid (L.take (k + 1)) (L.drop (k + 1)) y (k + 1) (by rw [List.length_take]; omega)
                  have hm2 : (cellsL (L.take (k + 1) ++ y :: L.drop (k + 1)))[k * 2]? = some (.int .u32 (L[k].1 : Int)) ∧ (cellsL (L.take (k + 1) ++ y :: L.drop (k + 1)))[k * 2 + 1]? = some L[k].2.1 := by
                    rw [List.take_succ_eq_append_getElem (by omega), List.append_assoc]
                    exact cellsL_mid (L.take k) _ L[k] k (by rw [List.length_take]; omega)
                  obtain ⟨q0, qf0, _⟩ := own_at hrow hm.1
                  obtain ⟨q1, qf1, _⟩ := own_at hrow hm.2
                  obtain ⟨p0, _, _⟩ := own_at hrow hm2.1
                  obtain ⟨p1, _, _⟩ := own_at hrow hm2.2
                  have hsub : ((k + 1 : Nat) : Int) - 1 = k := by omega
                  clear hm hm2 hrow
                  have hshift := shift_put (L := L) (k := k + 1) (by omega) hkl y
                  simp only [Nat.add_sub_cancel] at hshift
                  have HSH : Hid _ := Lib.hid hshift
                  clear hshift
                  obtain ⟨vao, vcp, hva⟩ := RS.shape (hst.oct L[k] (List.getElem_mem _)).1
                  generalize L[k] = lk at *
                  obtain ⟨ka, va, ba⟩ := lk
                  simp only at p0 p1 hva
                  subst hva
                  go_wp2_with fail
                  go_roundw
                  case rel => exact ⟨k, (ka, (.slice vao ba.length vcp, ba)), by omega, by omega, by first | rfl | go_num, by rw [← HSH.out]; exact own_put HROW.out _ _, by rw [Below.heap_setCell _ _ _ _ (by simp; exact fun e => hgx e.symm), Below.heap_setCell _ _ _ _ (by simp; exact fun e => hgx e.symm)]; exact HBS.out, (ks.setCell (.inr HG2) _).setCell (.inr HG2) _⟩
                  case measure => simp [intOf]; omega
                · obtain rfl : j = k := by omega
                  have hm := cellsL_mid (L.take j) (L.drop j) y j (by rw [List.length_take]; omega)
                  obtain ⟨q0, qf0, _⟩ := own_at hrow hm.1
                  obtain ⟨q1, qf1, _⟩ := own_at hrow hm.2
                  have s0 := cellOf HBS.out 0 _ rfl
                  have s1 := cellOf HBS.out 1 _ rfl
                  simp only [List.getElem_toArray, List.getElem_cons_zero, List.getElem_cons_succ] at s0 s1
                  clear hm hrow t0 t1
                  go_wp2_with fail
                  go_roundw
                  case rel =>
                    have hk1 := HKEY.out
                    subst hk1
                    have hs1 := HSL.out
                    subst hs1
                    have hp := own_put (j := j) HROW.out (.int .u32 (u[n].1 : Int)) (.slice av u[n].2.length pv)
                    rw [cellsL_put _ _ y (u[n].1, (.slice av u[n].2.length pv, u[n].2)) j (by rw [List.length_take]; omega)] at hp
                    have hje := HJE.out
                    rw [hje] at hp ⊢
                    refine ⟨n + 1, _, by omega, by go_num, UnkSt.took hlu (by omega) hst.eq hst.oct hst.len rfl HNO.out HRB.out hxk ((ks.setCell (.inr HG2) _).setCell (.inr HG2) _) hp⟩
                  case measure => simp [intOf]; omega
          · have HJL2 : Hid (j = L.length) := Lib.hid (by omega)
            have hd : decide (j < L.length) = false := by simpa using hjl
            go_wp2_with fail
            go_quiet (fail)
            go_wp2_with fail
            go_quiet (fail)
            have HNO : Hid (¬ L[spotG L key]?.any (fun x => x.1 == key) = true) := Lib.hid (by rw [← HJE.out, HJL2.out]; simp)
            go_wp2_with (at_builtin; go_loud (refine wpList_append_lies _ rfl (.tmp 59) (.tmp 61) _ rfl w.heap.size 61 i0 _ 2 32 Try.underlying24 hi hz0 hz1 hz2 rfl (by omega) (.slice ao L.length cap) _ (cellsL L) rfl ((hstq.calm (((Keep.refl [] wq).drewN _).alloc _)).row) ⟨wq.heap.size, 0, none⟩ 1 1 [.int .u32 0, .slice none 0 0] rfl rfl (World.news_of_block (cs := #[.int .u32 0, .slice none 0 0]) (heap_alloc_new _ _)) (by intro y hy; simp at hy; rcases hy with rfl | rfl <;> rfl) (by omega) (by unfold maxLen; omega) (by omega) (by have := hstq.keep.size; simp; omega) (wq.heap.size + 1) (by simp) ?_; intro g cap2 w3 hown hgr hat hlt3; have hgx : g ≠ wo.heap.size := hat.elim (fun e h => (by have := HOB g e; omega)) (fun e h => (by omega)); have hb3 := (hgr.block wo.heap.size (by simp; omega) (fun e => by have := HOB _ e.symm; omega)).trans ((((Keep.refl [] wq).drewN _).alloc _).block wo.heap.size (by omega) (by simp) |>.trans HBQ.out); have k3 : Keep [] w w3 := (hstq.keep.trans (((Keep.refl [] wq).drewN _).alloc _)).grown hgr (fun k e => .inr (HOB k e).1); have hown3 : w3.ownsRow w.heap.size 61 2 (.slice (some ⟨g, 0, none⟩) (L.length + 1) cap2) (L.length + 1) (cellsL (L.take L.length ++ (0, (.slice none 0 0, [])) :: L.drop L.length)) := (by rw [List.take_length, List.drop_length, cellsL_app]; exact hown); have HB3 : Hid _ := Lib.hid hb3; have HG2 : w.heap.size ≤ g := (hown.lt g rfl).1; clear hown hgr hat hb3))
            go_loopw [10] (fun kk wr => ∃ (k : Nat) (y : Nat × (Value × Bs)), j ≤ k ∧ k ≤ L.length ∧ kk = .int .i64 (k : Int) ∧ wr.ownsRow w.heap.size 61 2 (.slice (some ⟨g, 0, none⟩) (L.length + 1) cap2) (L.length + 1) (cellsL (L.take k ++ y :: L.drop k)) ∧ wr.heap[wo.heap.size]? = some (.cells #[.int .u32 (key : Int), .slice av sl pv] 61 (0, 0)) ∧ Keep [] w wr) (fun kk _ => (intOf kk).toNat - j)
            case atStart => exact ⟨L.length, (0, (.slice none 0 0, [])), by omega, Nat.le_refl _, by first | rfl | go_num, hown3, HB3.out, k3⟩
            case round =>
              obtain ⟨ws, rfl⟩ : ∃ x : World, x = wr := ⟨_, rfl⟩
              obtain ⟨k, y, hjk, hkl, rfl, hrow, hbs, ks⟩ := hrel
              have HBS : Hid _ := Lib.hid hbs
              have HROW : Hid _ := Lib.hid hrow
              clear hown3 hbs
              by_cases hlk2 : j < k
              · have := HJL2.out
                omega
              · obtain rfl : j = k := by omega
                have hm := cellsL_mid (L.take j) (L.drop j) y j (by rw [List.length_take]; omega)
                obtain ⟨q0, qf0, _⟩ := own_at hrow hm.1
                obtain ⟨q1, qf1, _⟩ := own_at hrow hm.2
                have s0 := cellOf HBS.out 0 _ rfl
                have s1 := cellOf HBS.out 1 _ rfl
                simp only [List.getElem_toArray, List.getElem_cons_zero, List.getElem_cons_succ] at s0 s1
                clear hm hrow t0 t1
                go_wp2_with fail
                go_roundw
                case rel =>
                  have hk1 := HKEY.out
                  subst hk1
                  have hs1 := HSL.out
                  subst hs1
                  have hp := own_put (j := j) HROW.out (.int .u32 (u[n].1 : Int)) (.slice av u[n].2.length pv)
                  rw [cellsL_put _ _ y (u[n].1, (.slice av u[n].2.length pv, u[n].2)) j (by rw [List.length_take]; omega)] at hp
                  have hje := HJE.out
                  rw [hje] at hp ⊢
                  refine ⟨n + 1, _, by omega, by go_num, UnkSt.took hlu (by omega) hst.eq hst.oct hst.len rfl HNO.out HRB.out hxk ((ks.setCell (.inr HG2) _).setCell (.inr HG2) _) hp⟩
                case measure => simp [intOf]; omega
    · obtain rfl : n = u.length := by omega
      go_wp2_with fail
      go_ret
      exact ⟨_, rfl, hst.done hG (by omega), hst.keep⟩

set_option maxHeartbeats 4000000 in
set_option maxRecDepth 100000 in
theorem unknown_long {G : Nat → Prop} {fs : List F} {vs : Value} {u : List Tg} {vu : Value} {w : World} (hF : HFs w G vs fs) (hu : HGs w G vu u) (hG : There G w) (hn : noTags fs = true) (hle : 32767 < u.length) :
    Calls Try.prog 37 #[vs, vu] w fun e w' => ∃ d, e = .returned d ∧ HGs w' (fun k => G k ∨ (w.heap.size ≤ k ∧ k < w'.heap.size)) d (unknownFrom 0 u) ∧ Keep [] w w' := by
  have hub := hu.bd
  have hkeys : ∀ x ∈ u, x.1 < 4294967296 ∧ x.2.length ≤ 9223372036854775807 := by obtain ⟨_, _, _, h3, _⟩ := hu; exact h3
  have KN := known_any hF hG hn
  obtain ⟨aF, pF, rfl, hpF⟩ := hF.shape
  obtain ⟨au, pu, rfl⟩ := hu.shape
  have hcap : u.length ≤ pu := by
    obtain ⟨_, _, _, _, _, ao, cap, e, h1, _⟩ := hu
    cases e
    exact h1
  have HF0 : Hid _ := hF
  clear hF
  obtain ⟨i0, hi, hz0, hz1, hz2⟩ := info_agg info_sg zero_sg
  go_enter Try.func37, Try.ntmps37
  go_wp2_with (go_at_call 73; refine KN.mono ?_; rintro e w1 ⟨rfl, k1⟩)
  obtain ⟨m, hm, hma, hmb, hmc⟩ : ∃ m : Nat, 32767 = m ∧ m ≤ 32767 ∧ 32767 ≤ m ∧ m ≤ u.length := ⟨32767, rfl, by omega, by omega, by omega⟩
  have hmi : (32767 : Int) = (m : Int) := by omega
  rw [hmi, hm]
  clear hm hmi hle
  go_loopw [19, 6] (fun k o wr => ∃ (n : Nat) (L : List (Nat × (Value × Bs))), n ≤ m ∧ k = .int .i64 (n : Int) ∧ UnkSt w wr G u n o L) (fun k _ _ => m - (intOf k).toNat)
  case atStart => exact ⟨0, [], Nat.zero_le _, rfl, ⟨World.ownsRow_nil _ _ _ _, by simp [unknownFrom], by simp, k1, by simp⟩⟩
  case round =>
    obtain ⟨wo, rfl⟩ : ∃ x : World, x = wr := ⟨_, rfl⟩
    obtain ⟨n, L, hn, rfl, hst⟩ := hrel
    have hLn := hst.len
    obtain ⟨ao, cap, rfl⟩ := hst.len'
    by_cases hlt : n < m
    · have hlu : n < u.length := by omega
      obtain ⟨tb, tf, av, pv, rfl, hGb, c0, c1, hrb, -⟩ := hu.elem hlu
      have HRB : Hid _ := hrb
      have hxk := hkeys _ (List.getElem_mem hlu)
      have hbw := hG tb hGb
      have d0 := (hst.keep.cell (p := ⟨tb, tf + n * 2, none⟩) hbw (by simp)).trans c0
      have d1 := (hst.keep.cell (p := ⟨tb, tf + n * 2 + 1, none⟩) hbw (by simp)).trans c1
      have hsp := spotG_le L u[n].1
      have HOB := fun k e => hst.row.lt k e
      have HLT : Hid _ := spotG_lt L u[n].1
      have HGE : Hid _ := spotG_ge L u[n].1
      have HUN : Hid (u[n].1 = u[n].1) := Lib.hid rfl
      clear hrb c0 c1
      generalize hkey : u[n].1 = key at *
      have HKEY : Hid (u[n].1 = key) := Lib.hid hkey
      clear hkey
      generalize hsl : u[n].2.length = sl at *
      have HSL : Hid (u[n].2.length = sl) := Lib.hid hsl
      clear hsl
      obtain ⟨W, hW⟩ : ∃ W, W = wo.alloc (.cells #[.int .u32 (key : Int), .slice av sl pv] 61) := ⟨_, rfl⟩
      have kW : Keep [] wo W := by rw [hW]; exact keep_box _
      have hbx : W.heap[wo.heap.size]? = some (.cells #[.int .u32 (key : Int), .slice av sl pv] 61 (0, 0)) := by rw [hW]; exact heap_alloc_new wo _
      have hzW : W.heap.size = wo.heap.size + 1 := by rw [hW]; simp
      have HBX : Hid _ := Lib.hid hbx
      clear hbx
      go_upto_region 7 with fail
      rw [← hW]
      clear hW d0 d1
      go_loopw [9] (fun i wr => ∃ j : Nat, j ≤ spotG L key ∧ i = .int .i64 (j : Int) ∧ Keep [] W wr) (fun i _ => spotG L key - (intOf i).toNat)
      case atStart => exact ⟨0, Nat.zero_le _, rfl, Keep.refl _ _⟩
      case round =>
        obtain ⟨wq, rfl⟩ : ∃ x : World, x = wr := ⟨_, rfl⟩
        obtain ⟨j, hj, rfl, kq⟩ := hrel
        have hbq := (kq.block wo.heap.size (by omega) (by simp)).trans HBX.out
        have t0 : _ := cellOf hbq 0 _ rfl
        have t1 : _ := cellOf hbq 1 _ rfl
        have HBQ : Hid _ := Lib.hid hbq
        clear hbq
        have hstq := hst.calm (kW.trans kq)
        have hzq := kq.size
        by_cases hjs : j < spotG L key
        · have hjl : j < L.length := by omega
          obtain ⟨g, rfl, e0, e1⟩ := hstq.at_ hjl
          have hlk := HLT.out j hjs hjl
          generalize L[j].1 = lk at *
          go_wp2_with fail
          go_quiet (fail)
          go_wp2_with fail
          go_roundw
          case rel => exact ⟨j + 1, by omega, by go_num, kq.drewN _⟩
          case measure => simp [intOf]; omega
        · have hje : j = spotG L key := by omega
          have HJE : Hid _ := Lib.hid hje
          clear hje
          have hkz : decide ((key : Int) < 0) = false := by simp
          by_cases hjl : j < L.length
          · obtain ⟨g0, rfl, e0, e1⟩ := hstq.at_ hjl
            have hge : ¬ L[j].1 < key := by have q := HGE.out; rw [← HJE.out] at q; exact q hjl
            by_cases heq : L[j].1 = key
            · have hlk : L[j].1 = key := heq
              rw [hlk] at e0
              have HEQ : Hid (L[j].1 = key) := Lib.hid heq
              clear heq hlk hge
              go_wp2_with fail
              go_quiet (fail)
              go_wp2_with fail
              go_quiet (fail)
              go_wp2_with fail
              go_roundw
              case rel =>
                have hk1 := HKEY.out
                subst hk1
                have hs := HEQ.out
                refine ⟨n + 1, L, by omega, by go_num, (UnkSt.skip hstq hlu (by omega) ?_).calm ((Keep.refl _ _).drewN _)⟩
                rw [← HJE.out, List.getElem?_eq_getElem hjl]
                simpa using hs
              case measure => simp [intOf]; omega
            · have hd : decide (j < L.length) = true := by simpa using hjl
              have HNO : Hid (¬ L[spotG L key]?.any (fun x => x.1 == key) = true) := Lib.hid (by rw [← HJE.out, List.getElem?_eq_getElem hjl]; simpa using heq)
              have hne : decide ((L[j].1 : Int) = (key : Int)) = false := by simp; omega
              generalize L[j].1 = lk at *
              go_wp2_with fail
              go_quiet (fail)
              go_wp2_with fail
              go_quiet (fail)
              go_wp2_with (at_builtin; go_loud (refine wpList_append_lies _ rfl (.tmp 59) (.tmp 61) _ rfl w.heap.size 61 i0 _ 2 32 Try.underlying24 hi hz0 hz1 hz2 rfl (by omega) (.slice (some ⟨g0, 0, none⟩) L.length cap) _ (cellsL L) rfl ((hstq.calm (((Keep.refl [] wq).drewN _).alloc _)).row) ⟨wq.heap.size, 0, none⟩ 1 1 [.int .u32 0, .slice none 0 0] rfl rfl (World.news_of_block (cs := #[.int .u32 0, .slice none 0 0]) (heap_alloc_new _ _)) (by intro y hy; simp at hy; rcases hy with rfl | rfl <;> rfl) (by omega) (by unfold maxLen; omega) (by omega) (by have := hstq.keep.size; simp; omega) (wq.heap.size + 1) (by simp) ?_; intro g cap2 w3 hown hgr hat hlt3; have hgx : g ≠ wo.heap.size := hat.elim (fun e h => (by have := HOB g e; omega)) (fun e h => (by omega)); have hb3 := (hgr.block wo.heap.size (by simp; omega) (fun e => by have := HOB _ e.symm; omega)).trans ((((Keep.refl [] wq).drewN _).alloc _).block wo.heap.size (by omega) (by simp) |>.trans HBQ.out); have k3 : Keep [] w w3 := (hstq.keep.trans (((Keep.refl [] wq).drewN _).alloc _)).grown hgr (fun k e => .inr (HOB k e).1); have hown3 : w3.ownsRow w.heap.size 61 2 (.slice (some ⟨g, 0, none⟩) (L.length + 1) cap2) (L.length + 1) (cellsL (L.take L.length ++ (0, (.slice none 0 0, [])) :: L.drop L.length)) := (by rw [List.take_length, List.drop_length, cellsL_app]; exact hown); have HB3 : Hid _ := Lib.hid hb3; have HG2 : w.heap.size ≤ g := (hown.lt g rfl).1; clear hown hgr hat hb3))
              go_loopw [10] (fun kk wr => ∃ (k : Nat) (y : Nat × (Value × Bs)), j ≤ k ∧ k ≤ L.length ∧ kk = .int .i64 (k : Int) ∧ wr.ownsRow w.heap.size 61 2 (.slice (some ⟨g, 0, none⟩) (L.length + 1) cap2) (L.length + 1) (cellsL (L.take k ++ y :: L.drop k)) ∧ wr.heap[wo.heap.size]? = some (.cells #[.int .u32 (key : Int), .slice av sl pv] 61 (0, 0)) ∧ Keep [] w wr) (fun kk _ => (intOf kk).toNat - j)
              case atStart => exact ⟨L.length, (0, (.slice none 0 0, [])), by omega, Nat.le_refl _, by first | rfl | go_num, hown3, HB3.out, k3⟩
              case round =>
                obtain ⟨ws, rfl⟩ : ∃ x : World, x = wr := ⟨_, rfl⟩
                obtain ⟨k, y, hjk, hkl, rfl, hrow, hbs, ks⟩ := hrel
                have HBS : Hid _ := Lib.hid hbs
                have HROW : Hid _ := Lib.hid hrow
                clear hown3 hbs
                by_cases hlk2 : j < k
                · obtain ⟨k, rfl⟩ : ∃ k', k = k' + 1 := ⟨k - 1, by omega⟩
                  have hm := cellsL_mid (L.take (k + 1)) (L.drop (k + 1)) y (k + 1) (by rw [List.length_take]; omega)
                  have hm2 : (cellsL (L.take (k + 1) ++ y :: L.drop (k + 1)))[k * 2]? = some (.int .u32 (L[k].1 : Int)) ∧ (cellsL (L.take (k + 1) ++ y :: L.drop (k + 1)))[k * 2 + 1]? = some L[k].2.1 := by
                    rw [List.take_succ_eq_append_getElem (by omega), List.append_assoc]
                    exact cellsL_mid (L.take k) _ L[k] k (by rw [List.length_take]; omega)
                  obtain ⟨q0, qf0, _⟩ := own_at hrow hm.1
                  obtain ⟨q1, qf1, _⟩ := own_at hrow hm.2
                  obtain ⟨p0, _, _⟩ := own_at hrow hm2.1
                  obtain ⟨p1, _, _⟩ := own_at hrow hm2.2
                  have hsub : ((k + 1 : Nat) : Int) - 1 = k := by omega
                  clear hm hm2 hrow
                  have hshift := shift_put (L := L) (k := k + 1) (by omega) hkl y
                  simp only [Nat.add_sub_cancel] at hshift
                  have HSH : Hid _ := Lib.hid hshift
                  clear hshift
                  obtain ⟨vao, vcp, hva⟩ := RS.shape (hst.oct L[k] (List.getElem_mem _)).1
                  generalize L[k] = lk at *
                  obtain ⟨ka, va, ba⟩ := lk
                  simp only at p0 p1 hva
                  subst hva
                  go_wp2_with fail
                  go_roundw
                  case rel => exact ⟨k, (ka, (.slice vao ba.length vcp, ba)), by omega, by omega, by first | rfl | go_num, by rw [← HSH.out]; exact own_put HROW.out _ _, by rw [Below.heap_setCell _ _ _ _ (by simp; exact fun e => hgx e.symm), Below.heap_setCell _ _ _ _ (by simp; exact fun e => hgx e.symm)]; exact HBS.out, (ks.setCell (.inr HG2) _).setCell (.inr HG2) _⟩
                  case measure => simp [intOf]; omega
                · obtain rfl : j = k := by omega
                  have hm := cellsL_mid (L.take j) (L.drop j) y j (by rw [List.length_take]; omega)
                  obtain ⟨q0, qf0, _⟩ := own_at hrow hm.1
                  obtain ⟨q1, qf1, _⟩ := own_at hrow hm.2
                  have s0 := cellOf HBS.out 0 _ rfl
                  have s1 := cellOf HBS.out 1 _ rfl
                  simp only [List.getElem_toArray, List.getElem_cons_zero, List.getElem_cons_succ] at s0 s1
                  clear hm hrow t0 t1
                  go_wp2_with fail
                  go_roundw
                  case rel =>
                    have hk1 := HKEY.out
                    subst hk1
                    have hs1 := HSL.out
                    subst hs1
                    have hp := own_put (j := j) HROW.out (.int .u32 (u[n].1 : Int)) (.slice av u[n].2.length pv)
                    rw [cellsL_put _ _ y (u[n].1, (.slice av u[n].2.length pv, u[n].2)) j (by rw [List.length_take]; omega)] at hp
                    have hje := HJE.out
                    rw [hje] at hp ⊢
                    refine ⟨n + 1, _, by omega, by go_num, UnkSt.took hlu (by omega) hst.eq hst.oct hst.len rfl HNO.out HRB.out hxk ((ks.setCell (.inr HG2) _).setCell (.inr HG2) _) hp⟩
                  case measure => simp [intOf]; omega
          · have HJL2 : Hid (j = L.length) := Lib.hid (by omega)
            have hd : decide (j < L.length) = false := by simpa using hjl
            go_wp2_with fail
            go_quiet (fail)
            go_wp2_with fail
            go_quiet (fail)
            have HNO : Hid (¬ L[spotG L key]?.any (fun x => x.1 == key) = true) := Lib.hid (by rw [← HJE.out, HJL2.out]; simp)
            go_wp2_with (at_builtin; go_loud (refine wpList_append_lies _ rfl (.tmp 59) (.tmp 61) _ rfl w.heap.size 61 i0 _ 2 32 Try.underlying24 hi hz0 hz1 hz2 rfl (by omega) (.slice ao L.length cap) _ (cellsL L) rfl ((hstq.calm (((Keep.refl [] wq).drewN _).alloc _)).row) ⟨wq.heap.size, 0, none⟩ 1 1 [.int .u32 0, .slice none 0 0] rfl rfl (World.news_of_block (cs := #[.int .u32 0, .slice none 0 0]) (heap_alloc_new _ _)) (by intro y hy; simp at hy; rcases hy with rfl | rfl <;> rfl) (by omega) (by unfold maxLen; omega) (by omega) (by have := hstq.keep.size; simp; omega) (wq.heap.size + 1) (by simp) ?_; intro g cap2 w3 hown hgr hat hlt3; have hgx : g ≠ wo.heap.size := hat.elim (fun e h => (by have := HOB g e; omega)) (fun e h => (by omega)); have hb3 := (hgr.block wo.heap.size (by simp; omega) (fun e => by have := HOB _ e.symm; omega)).trans ((((Keep.refl [] wq).drewN _).alloc _).block wo.heap.size (by omega) (by simp) |>.trans HBQ.out); have k3 : Keep [] w w3 := (hstq.keep.trans (((Keep.refl [] wq).drewN _).alloc _)).grown hgr (fun k e => .inr (HOB k e).1); have hown3 : w3.ownsRow w.heap.size 61 2 (.slice (some ⟨g, 0, none⟩) (L.length + 1) cap2) (L.length + 1) (cellsL (L.take L.length ++ (0, (.slice none 0 0, [])) :: L.drop L.length)) := (by rw [List.take_length, List.drop_length, cellsL_app]; exact hown); have HB3 : Hid _ := Lib.hid hb3; have HG2 : w.heap.size ≤ g := (hown.lt g rfl).1; clear hown hgr hat hb3))
            go_loopw [10] (fun kk wr => ∃ (k : Nat) (y : Nat × (Value × Bs)), j ≤ k ∧ k ≤ L.length ∧ kk = .int .i64 (k : Int) ∧ wr.ownsRow w.heap.size 61 2 (.slice (some ⟨g, 0, none⟩) (L.length + 1) cap2) (L.length + 1) (cellsL (L.take k ++ y :: L.drop k)) ∧ wr.heap[wo.heap.size]? = some (.cells #[.int .u32 (key : Int), .slice av sl pv] 61 (0, 0)) ∧ Keep [] w wr) (fun kk _ => (intOf kk).toNat - j)
            case atStart => exact ⟨L.length, (0, (.slice none 0 0, [])), by omega, Nat.le_refl _, by first | rfl | go_num, hown3, HB3.out, k3⟩
            case round =>
              obtain ⟨ws, rfl⟩ : ∃ x : World, x = wr := ⟨_, rfl⟩
              obtain ⟨k, y, hjk, hkl, rfl, hrow, hbs, ks⟩ := hrel
              have HBS : Hid _ := Lib.hid hbs
              have HROW : Hid _ := Lib.hid hrow
              clear hown3 hbs
              by_cases hlk2 : j < k
              · have := HJL2.out
                omega
              · obtain rfl : j = k := by omega
                have hm := cellsL_mid (L.take j) (L.drop j) y j (by rw [List.length_take]; omega)
                obtain ⟨q0, qf0, _⟩ := own_at hrow hm.1
                obtain ⟨q1, qf1, _⟩ := own_at hrow hm.2
                have s0 := cellOf HBS.out 0 _ rfl
                have s1 := cellOf HBS.out 1 _ rfl
                simp only [List.getElem_toArray, List.getElem_cons_zero, List.getElem_cons_succ] at s0 s1
                clear hm hrow t0 t1
                go_wp2_with fail
                go_roundw
                case rel =>
                  have hk1 := HKEY.out
                  subst hk1
                  have hs1 := HSL.out
                  subst hs1
                  have hp := own_put (j := j) HROW.out (.int .u32 (u[n].1 : Int)) (.slice av u[n].2.length pv)
                  rw [cellsL_put _ _ y (u[n].1, (.slice av u[n].2.length pv, u[n].2)) j (by rw [List.length_take]; omega)] at hp
                  have hje := HJE.out
                  rw [hje] at hp ⊢
                  refine ⟨n + 1, _, by omega, by go_num, UnkSt.took hlu (by omega) hst.eq hst.oct hst.len rfl HNO.out HRB.out hxk ((ks.setCell (.inr HG2) _).setCell (.inr HG2) _) hp⟩
                case measure => simp [intOf]; omega
    · obtain rfl : n = m := by omega
      go_wp2_with fail
      go_ret
      exact ⟨_, rfl, hst.done hG (by omega), hst.keep⟩

theorem unknown_any {G : Nat → Prop} {fs : List F} {vs : Value} {u : List Tg} {vu : Value} {w : World} (hF : HFs w G vs fs) (hu : HGs w G vu u) (hG : There G w) (hn : noTags fs = true) :
    Calls Try.prog 37 #[vs, vu] w fun e w' => ∃ d, e = .returned d ∧ HGs w' (fun k => G k ∨ (w.heap.size ≤ k ∧ k < w'.heap.size)) d (unknownFrom 0 u) ∧ Keep [] w w' := by
  rcases Nat.lt_or_ge 32767 u.length with h | h
  · exact unknown_long hF hu hG hn h
  · exact unknown_short hF hu hG hn h
end Go.Proofs.Ytidebamgmbdnaaa
