/-
  DescribeClientQuotasResponse: telling.
-/
import Derived.Test.YtodbdecpacdgiaaDoorMDcq18
import Derived.Test.YtodbdecpacdgiaaDoorMDcq19
import Derived.Test.YtodbdecpacdgiaaDoorMB17
import Derived.Test.YtodbdecpacdgiaaDoorMB14
import Derived.Test.YtodbdecpacdgiaaDoorMB13
import Derived.Test.YtodbdecpacdgiaaDoorMDcq1
import Derived.Deep.CutBlock
import Derived.Deep.DeepCutAuto
namespace Go.Proofs.YtodbdecpacdgiaaDoor
open Go.ChangeShapes Go.WideShapes Go.ChangeAt Go.RowKit

set_option maxHeartbeats 800000 in
set_option maxRecDepth 100000 in
theorem dcqc_tag {W0 W : World} {tb : Nat} {n s nul l x : Value} {d : List Tg} {J : Nat → Prop} {key : Nat} {val : Bs} {G : Nat → Prop} (h : TSt W0 tb n s nul l d J W) (hx : RB W G x val) (hk : key < 4294967296) (hval : val.length ≤ 1000000) (hd : d.length ≤ 1000000000000) (htb : tb < W0.heap.size) :
    Calls Tryd.prog 130 #[.int .u32 (key : Int), x, .pointer (some ⟨tb, 0, none⟩)] W fun e W' => e = .returned (.tuple #[]) ∧ ∃ J', TSt W0 tb n s nul l (d ++ [(key, val)]) J' W' ∧ (∀ j, J' j → J j ∨ W.heap.size ≤ j) ∧ Chg J W W' := by
  obtain ⟨u, h1, h2, hJ, hW, h5⟩ := h
  obtain ⟨ax, cx, rfl⟩ := RS.shape hx
  have h2' := h2
  obtain ⟨vs0, _, _, _, _, hr0⟩ := h2'
  have hu : ∀ k, u.ownBlock = some k → W0.heap.size ≤ k ∧ k < W.heap.size := fun k e => hr0.lt k e
  have c4 : W.cell? ⟨tb, 4, none⟩ = some u := cellOf h1 4 _ rfl
  have f4 := freeOf h1 4
  have htl : tb < W.heap.size := by omega
  obtain ⟨j0, hj, hy0, hy1, hy2⟩ := info_agg info_ig zero_ig
  have H1 : Hid _ := h1
  have hxd : RB W.drew G (.slice ax val.length cx) val := hx
  obtain ⟨ao, cp, rfl⟩ := owns_shape hr0
  clear h1 hr0
  go_enter Tryd.func130, Tryd.ntmps130
  go_region_law (first
    | (refine app_step (by rfl) (.const (.slice none 0 0)) (.tmp 8) (by rfl) W.heap.size (.slice none 0 0) [] (by rfl) (OB.nil _ _) _ val G (by rfl) hxd (by simp; omega) (Nat.le_refl _) ?_; intro v2 w2 hob hg2; obtain ⟨a2, p2, rfl⟩ := hob.len; have k2 : Keep [] W w2 := (Keep.refl _ _).drew.grown hg2 (by simp [Value.ownBlock]); have hz2 := k2.size; have c4b := (k2.cell (p := ⟨tb, 4, none⟩) htl (by simp)).trans c4; have htl2 : tb < w2.heap.size := (by omega))
    | (obtain ⟨cs, e1, e2, e3, e6, e4⟩ := h2.keepF (w' := w2.alloc (.cells #[.int .u32 (key : Int), .slice a2 ([] ++ val).length p2] 51)) (G' := fun k => W0.heap.size ≤ k ∧ k < (w2.alloc (.cells #[.int .u32 (key : Int), .slice a2 ([] ++ val).length p2] 51)).heap.size) (fun k hk' => (k2.alloc _).block k hk'.2 (by simp)) (fun k hk' => ⟨hk'.1, by simp; have := hk'.2; omega⟩) (fun k e => (k2.alloc _).block k (hu k e).2 (by simp)); refine step_append_lies _ (by rfl) (.tmp 6) (.tmp 11) _ (by rfl) W0.heap.size 51 j0 _ 2 32 Tryd.underlying25 hj hy0 hy1 hy2 rfl (by omega) (.slice ao d.length cp) _ _ (by rfl) e4 ⟨w2.heap.size, 0, none⟩ 1 1 [.int .u32 (key : Int), .slice a2 ([] ++ val).length p2] (by rfl) (by rfl) (World.news_of_block (cs := #[.int .u32 (key : Int), .slice a2 ([] ++ val).length p2]) (heap_alloc_new w2 _)) (by intro y hy; simp at hy; rcases hy with rfl | rfl <;> rfl) (by omega) (by unfold maxLen; omega) (by omega) (by simp; omega) (w2.heap.size + 1) (by simp) ?_; intro g cap w3 hown1 hgr hat hlt3; have x3 := (hgr.block tb (by simp; omega) (fun e => by have := hu tb e.symm; omega)).trans (((k2.alloc (.cells #[.int .u32 (key : Int), .slice a2 ([] ++ val).length p2] 51)).block tb htl List.not_mem_nil).trans H1.out); have z4 := cellOf x3 4 _ rfl; have f4' := freeOf x3 4; have X3 : Hid _ := x3; clear x3))
  all_goals (refine bodyPost_end (v := .tuple #[]) (by simp [results, Tryd.results130, go_sem]) rfl ⟨rfl, ?_⟩)
  all_goals exact TSt.push (x := (key, val)) htb hW h5 H1.out hJ hu (k2.alloc _) e1 e2 e3 (hob.rb.keepF (w' := w2.alloc (.cells #[.int .u32 (key : Int), .slice a2 ([] ++ val).length p2] 51)) (fun k hk' => (keep_box (A := []) _).block k hk'.2 (by simp)) (fun k hk' => ⟨hk'.1, by simp; have := hk'.2; omega⟩)) ⟨hk, by simp only; omega⟩ (by omega) hown1 hgr (hat.imp id (fun h => by simp; omega))

theorem dcqc_body : Tryd.f80.body.isNone = false := by kernel_rfl
theorem dcqc_name : (Tryd.f80.name == "runtime.NumGoroutine") = false := by kernel_rfl
theorem dcqc_make (u : World) : (Instr.makeSlice 24 (.int .i64 2) (.int .i64 2)).run Tryd.prog u = .ok (.slice (some ⟨u.heap.size, 0, none⟩) 2 2) (u.alloc (.cells #[.int .i64 0, .slice none 0 0, .bool false, .slice none 0 0, .slice none 0 0, .int .i64 0, .slice none 0 0, .bool false, .slice none 0 0, .slice none 0 0] 27)) := by kernel_rfl
set_option maxHeartbeats 20000000 in
set_option maxRecDepth 100000 in
theorem dcqc_lp0 {Q : Exit → Act → World → Prop} {G : Nat → Prop} {b o : Nat} {w w0 U1 : World} {ao0 : Option Addr} {lx0 : List T} {cp0 : Nat} {nu0 : Bool} {n1 : Value} {tv : Value} {css0 : List (List Value)} {x1 x2 x4 x5 x6 x7 x8 x9 x10 x11 x12 x13 x14 x15 x16 x17 x18 x19 x20 x23 x24 x25 x26 x27 x28 x29 x30 x31 x32 x33 x34 x35 x36 x37 x38 x39 x40 x41 x42 x43 x44 x45 x46 x47 x48 x49 x50 x51 x52 x53 x54 x55 x56 x57 x58 x59 x60 x61 x62 x63 x64 x65 x66 x67 x68 x69 x70 x71 x72 x73 x74 x75 x76 x77 x78 x79 x80 x81 x82 x83 x84 x85 x86 x87 x88 x89 x90 x91 x92 x93 x94 x95 x96 x97 x98 x99 x100 x101 x102 x103 x104 x105 x106 x107 x108 x109 x110 x111 x112 x113 x114 x115 x116 x117 x118 x119 x120 x121 x122 x123 x124 x125 x126 x127 x128 : Value} (KW : Keep [] w w0) (hG : There G w) (hz0 : w0.heap.size = w.heap.size + 1) (hpl : b < w.heap.size) (hp0 : Pt w0 b o [.slice ao0 lx0.length cp0, n1, tv]) (HEQ0 : Hid (css0.length = lx0.length)) (ev0 : ∀ i (h1 : i < lx0.length) (h2 : i < css0.length), css0[i].length = 3 ∧ VK w G 10 (-1) (VFs w G q_DescribeClientQuotasResponseEntryEntity) css0[i] lx0[i]) (hrw0 : RW w G (.slice ao0 lx0.length cp0) lx0.length css0.flatten) (hll0 : lx0.length ≤ 1000000) (hsl0 : smalls 1000000 lx0) (s1 : TlCur w0 U1 (w.heap.size + 1 + 1) (w.heap.size + 1) 2 [] nu0 (.slice none 0 0) [] [.int .i64 0, .slice none 0 0, .bool false, .slice none 0 0, .slice none 0 0])
    (HPN : Hid (PanOk Q))
    (HEX : Hid (∀ (wr : World) (y4 y22 y23 y24 y25 y26 y27 y28 y29 y30 y31 y32 y33 y34 y35 y36 y37 y38 y39 y40 y41 y42 y43 y44 y45 y46 y47 y48 y49 y50 y51 y52 y53 y54 y55 y56 y57 y58 y59 y60 y61 y62 y63 : Value), TlSt w0 wr (w.heap.size + 1 + 1) (w.heap.size + 1) 2 ([] ++ [.mk 0 [] nu0 lx0 []]) [.int .i64 0, .slice none 0 0, .bool false, .slice none 0 0, .slice none 0 0] → Q (.exit 0) ⟨(.pointer (some ⟨b, o, none⟩) :: x1 :: x2 :: .pointer (some ⟨w.heap.size + 1 + 1, 0, none⟩) :: y4 :: x5 :: x6 :: x7 :: x8 :: x9 :: x10 :: x11 :: x12 :: x13 :: x14 :: x15 :: x16 :: x17 :: x18 :: x19 :: x20 :: .int .i64 lx0.length :: y22 :: y23 :: y24 :: y25 :: y26 :: y27 :: y28 :: y29 :: y30 :: y31 :: y32 :: y33 :: y34 :: y35 :: y36 :: y37 :: y38 :: y39 :: y40 :: y41 :: y42 :: y43 :: y44 :: y45 :: y46 :: y47 :: y48 :: y49 :: y50 :: y51 :: y52 :: y53 :: y54 :: y55 :: y56 :: y57 :: y58 :: y59 :: y60 :: y61 :: y62 :: y63 :: x64 :: x65 :: x66 :: x67 :: x68 :: x69 :: x70 :: x71 :: x72 :: x73 :: x74 :: x75 :: x76 :: x77 :: x78 :: x79 :: x80 :: x81 :: x82 :: x83 :: x84 :: x85 :: x86 :: x87 :: x88 :: x89 :: x90 :: x91 :: x92 :: x93 :: x94 :: x95 :: x96 :: x97 :: x98 :: x99 :: x100 :: x101 :: x102 :: x103 :: x104 :: x105 :: x106 :: x107 :: x108 :: x109 :: x110 :: x111 :: x112 :: x113 :: x114 :: x115 :: x116 :: x117 :: x118 :: x119 :: x120 :: x121 :: x122 :: x123 :: x124 :: x125 :: x126 :: x127 :: x128 :: []).toArray, []⟩ wr)) :
    Code.wp Tryd.prog (codeAt [true, true, true, false, true, false] (Tryd.f80.body.getD .skip)) Q ⟨(.pointer (some ⟨b, o, none⟩) :: x1 :: x2 :: .pointer (some ⟨w.heap.size + 1 + 1, 0, none⟩) :: x4 :: x5 :: x6 :: x7 :: x8 :: x9 :: x10 :: x11 :: x12 :: x13 :: x14 :: x15 :: x16 :: x17 :: x18 :: x19 :: x20 :: .int .i64 lx0.length :: .int .i64 0 :: x23 :: x24 :: x25 :: x26 :: x27 :: x28 :: x29 :: x30 :: x31 :: x32 :: x33 :: x34 :: x35 :: x36 :: x37 :: x38 :: x39 :: x40 :: x41 :: x42 :: x43 :: x44 :: x45 :: x46 :: x47 :: x48 :: x49 :: x50 :: x51 :: x52 :: x53 :: x54 :: x55 :: x56 :: x57 :: x58 :: x59 :: x60 :: x61 :: x62 :: x63 :: x64 :: x65 :: x66 :: x67 :: x68 :: x69 :: x70 :: x71 :: x72 :: x73 :: x74 :: x75 :: x76 :: x77 :: x78 :: x79 :: x80 :: x81 :: x82 :: x83 :: x84 :: x85 :: x86 :: x87 :: x88 :: x89 :: x90 :: x91 :: x92 :: x93 :: x94 :: x95 :: x96 :: x97 :: x98 :: x99 :: x100 :: x101 :: x102 :: x103 :: x104 :: x105 :: x106 :: x107 :: x108 :: x109 :: x110 :: x111 :: x112 :: x113 :: x114 :: x115 :: x116 :: x117 :: x118 :: x119 :: x120 :: x121 :: x122 :: x123 :: x124 :: x125 :: x126 :: x127 :: x128 :: []).toArray, []⟩ U1 := by
  conv => arg 2; whnf
  let _QX : Exit → Act → World → Prop := bodyPost Tryd.prog Tryd.f80 (fun _ _ => True)
  have cf := (hp0.keep s1.keep (by simp)).cell (o := o) (j := 0) rfl rfl
  go_loopw [22, 4] (fun k _ wr => ∃ (j : Nat) (lv : Value), k = .int .i64 (j : Int) ∧ j ≤ lx0.length ∧ TlCur w0 wr (w.heap.size + 1 + 1) (w.heap.size + 1) 2 [] nu0 lv (lx0.take j) [.int .i64 0, .slice none 0 0, .bool false, .slice none 0 0, .slice none 0 0]) (fun k _ _ => lx0.length - (intOf k).toNat)
  case atStart => exact ⟨0, _, rfl, Nat.zero_le _, s1⟩
  case round =>
    obtain ⟨j, lv, rfl, hj, sc⟩ := hrel
    clear cf
    by_cases hlt : j < lx0.length
    · have hjc : j < css0.length := by rw [HEQ0.out]; exact hlt
      obtain ⟨row, cap, hsl, hcap, hGr, hpt⟩ := hrw0.part (m := 3) HEQ0.out (fun c hc => by obtain ⟨q, hq, rfl⟩ := List.getElem_of_mem hc; exact (ev0 q (by rw [← HEQ0.out]; exact hq) hq).1) hjc
      have hsl2 := hsl
      simp only [Value.slice.injEq] at hsl
      obtain ⟨rfl, _, rfl⟩ := hsl
      clear hsl2
      have KR := KW.trans sc.keep
      have hvj := (ev0 j hlt hjc).2
      have hsj := smalls_mem hsl0 _ (List.getElem_mem hlt)
      generalize hcj : css0[j] = cj at *
      generalize htj : lx0[j] = tj at *
      have HTJ : Hid (lx0[j] = tj) := htj
      clear htj hcj
      have TP := fun V (hV : Keep [] w V) => dcqa_tell (hpt.keep hV (by simp)) (VK.keepF (hG.same hV) (fun _ h => h) (fun c l => VFs.keepF (hG.same hV) (fun _ h => h) q_DescribeClientQuotasResponseEntryEntity) hvj) (hG.mono hV.size) hsj
      have hlen : (lx0.take j).length = j := by simp; omega
      have HLEN : Hid _ := hlen
      clear hlen
      go_upto_region 6 with fail
      go_region
      · have kb : Keep [] wr ((wr.alloc (Obj.cells #[Value.bool false] 4)).drew) := (keep_box _).drew
        have sx := sc.calm kb
        have KX := KW.trans sx.keep
        generalize ((wr.alloc (Obj.cells #[Value.bool false] 4)).drew) = wx at *
        have d3 := sx.d3
        obtain ⟨y3, y4⟩ := sx.l3 (o := 3) rfl
        obtain ⟨lt1, lt2⟩ := sx.lts
        have cf := (hp0.keep sx.keep (by simp)).cell (o := o) (j := 0) rfl rfl
        have hbl := (hp0.keep sx.keep (by simp)).lt
        obtain ⟨i0, hi, hz0, hz1, hz2⟩ := info_agg info_it zero_it
        go_upto_region 9 with fail
        refine wp_region_B3 18 (by kernel_rfl) d3 y3 cf (fun hB => ?_)
        refine wpAnyB_take (i := 0) (v := ?_) [0, 1, 16, 17, 18] rfl (by kernel_rfl) (by kernel_rfl) (by kernel_rfl) (by kernel_rfl) (PanOk.put (by repeat (first | exact HPN.out | refine PanOk.inBlock ?_ | refine PanOk.then_ ?_))) hB (Or.inl ⟨by rfl, ?_⟩) ?_
        rotate_left
        · intro wq hq; obtain ⟨q1, q2, q3⟩ := hq; go_simp <;> with_reducible rfl
        try simp only [Act.put, List.setIfInBounds_toArray, List.set_cons_zero, List.set_cons_succ]
        refine wpAnyB_take (i := 1) (v := ?_) [1, 16, 17, 18] rfl (by kernel_rfl) (by kernel_rfl) (by kernel_rfl) (by kernel_rfl) (PanOk.put (by repeat (first | exact HPN.out | refine PanOk.inBlock ?_ | refine PanOk.then_ ?_))) hB (Or.inl ⟨by rfl, ?_⟩) ?_
        rotate_left
        · intro wq hq; obtain ⟨q1, q2, q3⟩ := hq; go_simp <;> with_reducible rfl
        try simp only [Act.put, List.setIfInBounds_toArray, List.set_cons_zero, List.set_cons_succ]
        refine wpAnyB_take (i := 2) (v := ?_) [2, 3, 4, 5, 6, 15, 18] rfl (by kernel_rfl) (by kernel_rfl) (by kernel_rfl) (by kernel_rfl) (PanOk.put (by repeat (first | exact HPN.out | refine PanOk.inBlock ?_ | refine PanOk.then_ ?_))) hB (Or.inl ⟨by rfl, ?_⟩) ?_
        rotate_left
        · intro wq hq; obtain ⟨q1, q2, q3⟩ := hq; go_simp <;> with_reducible rfl
        try simp only [Act.put, List.setIfInBounds_toArray, List.set_cons_zero, List.set_cons_succ]
        refine wpAnyB_take (i := 3) (v := ?_) [3, 4, 5, 6, 15, 18] rfl (by kernel_rfl) (by kernel_rfl) (by kernel_rfl) (by kernel_rfl) (PanOk.put (by repeat (first | exact HPN.out | refine PanOk.inBlock ?_ | refine PanOk.then_ ?_))) hB (Or.inl ⟨by rfl, ?_⟩) ?_
        rotate_left
        · intro wq hq; obtain ⟨q1, q2, q3⟩ := hq; go_simp <;> with_reducible rfl
        try simp only [Act.put, List.setIfInBounds_toArray, List.set_cons_zero, List.set_cons_succ]
        refine wpAnyB_take (i := 4) (v := ?_) [4, 5, 6, 15, 18] rfl (by kernel_rfl) (by kernel_rfl) (by kernel_rfl) (by kernel_rfl) (PanOk.put (by repeat (first | exact HPN.out | refine PanOk.inBlock ?_ | refine PanOk.then_ ?_))) hB (Or.inl ⟨by rfl, ?_⟩) ?_
        rotate_left
        · intro wq hq; obtain ⟨q1, q2, q3⟩ := hq; go_simp <;> with_reducible rfl
        try simp only [Act.put, List.setIfInBounds_toArray, List.set_cons_zero, List.set_cons_succ]
        refine wpAnyB_take (i := 5) (v := ?_) [5, 6, 15, 18] rfl (by kernel_rfl) (by kernel_rfl) (by kernel_rfl) (by kernel_rfl) (PanOk.put (by repeat (first | exact HPN.out | refine PanOk.inBlock ?_ | refine PanOk.then_ ?_))) hB (Or.inl ⟨by rfl, ?_⟩) ?_
        rotate_left
        · intro wq hq; obtain ⟨q1, q2, q3⟩ := hq; go_simp <;> with_reducible rfl
        try simp only [Act.put, List.setIfInBounds_toArray, List.set_cons_zero, List.set_cons_succ]
        refine wpAnyB_take (i := 6) (v := ?_) [6, 15, 18] rfl (by kernel_rfl) (by kernel_rfl) (by kernel_rfl) (by kernel_rfl) (PanOk.put (by repeat (first | exact HPN.out | refine PanOk.inBlock ?_ | refine PanOk.then_ ?_))) hB (Or.inl ⟨by rfl, ?_⟩) ?_
        rotate_left
        · intro wq hq; obtain ⟨q1, q2, q3⟩ := hq; go_simp <;> with_reducible rfl
        try simp only [Act.put, List.setIfInBounds_toArray, List.set_cons_zero, List.set_cons_succ]
        refine wpAnyB_take (i := 7) (v := ?_) [7, 8, 9, 10, 12, 13, 14, 15, 18] rfl (by kernel_rfl) (by kernel_rfl) (by kernel_rfl) (by kernel_rfl) (PanOk.put (by repeat (first | exact HPN.out | refine PanOk.inBlock ?_ | refine PanOk.then_ ?_))) hB (Or.inl ⟨by rfl, ?_⟩) ?_
        rotate_left
        · intro wq hq; obtain ⟨q1, q2, q3⟩ := hq; go_simp <;> with_reducible rfl
        try simp only [Act.put, List.setIfInBounds_toArray, List.set_cons_zero, List.set_cons_succ]
        refine wpAnyB_take (i := 8) (v := ?_) [8, 9, 10, 12, 13, 14, 15, 18] rfl (by kernel_rfl) (by kernel_rfl) (by kernel_rfl) (by kernel_rfl) (PanOk.put (by repeat (first | exact HPN.out | refine PanOk.inBlock ?_ | refine PanOk.then_ ?_))) hB (Or.inl ⟨by rfl, ?_⟩) ?_
        rotate_left
        · intro wq hq; obtain ⟨q1, q2, q3⟩ := hq; go_simp <;> with_reducible rfl
        try simp only [Act.put, List.setIfInBounds_toArray, List.set_cons_zero, List.set_cons_succ]
        refine wpAnyB_take (i := 9) (v := ?_) [9, 10, 12, 13, 14, 15, 18] rfl (by kernel_rfl) (by kernel_rfl) (by kernel_rfl) (by kernel_rfl) (PanOk.put (by repeat (first | exact HPN.out | refine PanOk.inBlock ?_ | refine PanOk.then_ ?_))) hB (Or.inl ⟨by rfl, ?_⟩) ?_
        rotate_left
        · intro wq hq; obtain ⟨q1, q2, q3⟩ := hq; go_simp <;> with_reducible rfl
        try simp only [Act.put, List.setIfInBounds_toArray, List.set_cons_zero, List.set_cons_succ]
        refine wpAnyB_take (i := 10) (v := ?_) [10, 12, 13, 14, 15, 18] rfl (by kernel_rfl) (by kernel_rfl) (by kernel_rfl) (by kernel_rfl) (PanOk.put (by repeat (first | exact HPN.out | refine PanOk.inBlock ?_ | refine PanOk.then_ ?_))) hB (Or.inl ⟨by rfl, ?_⟩) ?_
        rotate_left
        · intro wq hq; obtain ⟨q1, q2, q3⟩ := hq; go_simp <;> with_reducible rfl
        try simp only [Act.put, List.setIfInBounds_toArray, List.set_cons_zero, List.set_cons_succ]
        refine wpAnyB_take (i := 11) (v := ?_) [11, 12, 13, 14, 15, 18] rfl (by kernel_rfl) (by kernel_rfl) (by kernel_rfl) (by kernel_rfl) (PanOk.put (by repeat (first | exact HPN.out | refine PanOk.inBlock ?_ | refine PanOk.then_ ?_))) hB (Or.inl ⟨by rfl, ?_⟩) ?_
        rotate_left
        · intro wq hq; obtain ⟨q1, q2, q3⟩ := hq; go_simp <;> with_reducible rfl
        try simp only [Act.put, List.setIfInBounds_toArray, List.set_cons_zero, List.set_cons_succ]
        refine wpAnyB_take (i := 12) (v := ?_) [12, 13, 14, 15, 18] rfl (by kernel_rfl) (by kernel_rfl) (by kernel_rfl) (by kernel_rfl) (PanOk.put (by repeat (first | exact HPN.out | refine PanOk.inBlock ?_ | refine PanOk.then_ ?_))) hB (Or.inl ⟨by rfl, ?_⟩) ?_
        rotate_left
        · intro wq hq; obtain ⟨q1, q2, q3⟩ := hq; go_simp <;> with_reducible rfl
        try simp only [Act.put, List.setIfInBounds_toArray, List.set_cons_zero, List.set_cons_succ]
        refine wpAnyB_one (k := 13) rfl (by kernel_rfl) (fun K hK => ?_)
        refine step_call (by rfl) 128 #[.tmp 57] #[161] (by rfl) #[.pointer (some ⟨row, j * 3, none⟩)] (by simp [go_sem]) _ (by rfl) dcqa_body dcqa_name (TP _ KX.drew) ?_
        rintro e w2 ⟨c2, rfl, hc2, k2⟩
        refine ⟨_, rfl, ?_⟩
        obtain ⟨a1, p1, a2, p2, a3, p3, rfl, _⟩ := id hc2.cells
        have kx : Keep [] wx w2 := (Keep.refl _ _).drew.trans k2
        have sy := sx.calm kx
        obtain ⟨lt1, lt2⟩ := sy.lts
        refine hK.out _ _ (fun _ => ⟨kx.cs d3, kx.cs y3, kx.cs cf⟩) (fun _ => ?_)
        clear hK K
        try simp only [Act.put, List.setIfInBounds_toArray, List.set_cons_zero, List.set_cons_succ]
        refine wpAnyB_one (k := 14) rfl (by kernel_rfl) (fun K hK => ?_)
        go_simp
        have kz := kx.alloc (.cells #[.int .i64 tj.n, .slice a1 tj.s.length p1, .bool tj.null, .slice a2 tj.l.length p2, .slice a3 tj.u.length p3] 27)
        refine hK.out _ _ (fun _ => ⟨kz.cs d3, kz.cs y3, kz.cs cf⟩) (fun _ => ?_)
        clear hK K
        try simp only [Act.put, List.setIfInBounds_toArray, List.set_cons_zero, List.set_cons_succ]
        refine wpAnyB_one (k := 15) rfl (by kernel_rfl) (fun K hK => ?_)
        obtain ⟨cs, e1, e2, e3, e4⟩ := (sy.calm (keep_box (.cells #[.int .i64 tj.n, .slice a1 tj.s.length p1, .bool tj.null, .slice a2 tj.l.length p2, .slice a3 tj.u.length p3] 27))).lst
        refine step_append_lies _ (by rfl) (.tmp 51) (.tmp 59) _ (by rfl) w0.heap.size 27 i0 _ 5 88 Tryd.underlying24 hi hz0 hz1 hz2 rfl (by omega) lv _ cs.flatten (by rfl) e4 ⟨w2.heap.size, 0, none⟩ 1 1 [.int .i64 tj.n, .slice a1 tj.s.length p1, .bool tj.null, .slice a2 tj.l.length p2, .slice a3 tj.u.length p3] (by rfl) (by rfl) (World.news_of_block (cs := #[.int .i64 tj.n, .slice a1 tj.s.length p1, .bool tj.null, .slice a2 tj.l.length p2, .slice a3 tj.u.length p3]) (heap_alloc_new w2 _)) hc2.one (by omega) (by unfold maxLen; rw [HLEN.out]; omega) (by rw [HLEN.out]; omega) (by have := sy.keep.size; simp; omega) (w2.heap.size + 1) (by simp) ?_
        intro g cap w3 hown hgr hat hlt3
        obtain ⟨y5, y6⟩ := (sy.calm (keep_box (.cells #[.int .i64 tj.n, .slice a1 tj.s.length p1, .bool tj.null, .slice a2 tj.l.length p2, .slice a3 tj.u.length p3] 27))).row3 (o := 3) rfl hgr
        have d5 := (sy.calm (keep_box (.cells #[.int .i64 tj.n, .slice a1 tj.s.length p1, .bool tj.null, .slice a2 tj.l.length p2, .slice a3 tj.u.length p3] 27))).d3G hgr
        have cf5 := ((hp0.keep (sx.keep.trans kz) (by simp)).grownC hgr (fun e => by have := sx.ownGe e; omega)).cell (o := o) (j := 0) rfl rfl
        refine hK.out _ _ (fun _ => ⟨d5, y5, cf5⟩) (fun _ => ?_)
        clear hK K
        try simp only [Act.put, List.setIfInBounds_toArray, List.set_cons_zero, List.set_cons_succ]
        refine wpAnyB_one (k := 16) rfl (by kernel_rfl) (fun K hK => ?_)
        go_simp
        refine hK.out _ _ (fun _ => ⟨d5, y5, cf5⟩) (fun _ => ?_)
        clear hK K
        try simp only [Act.put, List.setIfInBounds_toArray, List.set_cons_zero, List.set_cons_succ]
        refine wpAnyB_one (k := 17) rfl (by kernel_rfl) (fun K hK => ?_)
        go_simp
        refine hK.out _ _ (fun _ => ⟨d5, y5, cf5⟩) (fun _ => ?_)
        clear hK K
        try simp only [Act.put, List.setIfInBounds_toArray, List.set_cons_zero, List.set_cons_succ]
        refine wpAnyB_one (k := 18) rfl (by kernel_rfl) (fun K hK => ?_)
        go_simp
        refine hK.out _ _ (fun h => absurd rfl h) (fun _ => ?_)
        clear hK K
        refine wpAnyB_done (by kernel_rfl) ?_ _
        all_goals (try go_wp2_with fail)
        all_goals go_roundw
        case rel =>
          have Q := sx.push (o := 3) rfl (kx.alloc (.cells #[.int .i64 tj.n, .slice a1 tj.s.length p1, .bool tj.null, .slice a2 tj.l.length p2, .slice a3 tj.u.length p3] 27)) e1 e2 (hc2.keepF (fun k hk => (keep_box (A := []) _).block k hk.2 (by simp)) (fun k hk => ⟨hk.1, by have := hk.2; simp; omega⟩)) (by rw [HLEN.out]; omega) hown hgr (hat.imp id (fun e => by simp; omega))
          rw [HLEN.out] at Q
          have eT : lx0.take (j + 1) = lx0.take j ++ [tj] := by rw [List.take_succ_eq_append_getElem hlt, HTJ.out]
          rw [← eT] at Q
          first | exact ⟨j + 1, _, by go_num, by omega, Q⟩ | exact ⟨j + 1, _, by go_num, by omega, Q.drew⟩ | exact ⟨j + 1, _, by go_num, by omega, Q.drew.drew⟩
        case measure => simp [intOf]; omega
      · have kb : Keep [] wr ((wr.alloc (Obj.cells #[Value.bool true] 4)).drew) := (keep_box _).drew
        have sx := sc.calm kb
        have KX := KW.trans sx.keep
        generalize ((wr.alloc (Obj.cells #[Value.bool true] 4)).drew) = wx at *
        have d3 := sx.d3
        obtain ⟨y3, y4⟩ := sx.l3 (o := 3) rfl
        obtain ⟨lt1, lt2⟩ := sx.lts
        have cf := (hp0.keep sx.keep (by simp)).cell (o := o) (j := 0) rfl rfl
        have hbl := (hp0.keep sx.keep (by simp)).lt
        obtain ⟨i0, hi, hz0, hz1, hz2⟩ := info_agg info_it zero_it
        go_upto_region 7 with fail
        obtain ⟨xs0, hrow0⟩ := sx.lst.row
        obtain ⟨al, pl, rfl⟩ := owns_shape hrow0
        clear hrow0
        rw [HLEN.out] at sx y3
        refine wp_region_B3 17 (by kernel_rfl) d3 y3 cf (fun hB => ?_)
        refine wpAnyB_take (i := 0) (v := ?_) [0, 1, 15, 16, 17] rfl (by kernel_rfl) (by kernel_rfl) (by kernel_rfl) (by kernel_rfl) (PanOk.put (by repeat (first | exact HPN.out | refine PanOk.inBlock ?_ | refine PanOk.then_ ?_))) hB (Or.inl ⟨by rfl, ?_⟩) ?_
        rotate_left
        · intro wq hq; obtain ⟨q1, q2, q3⟩ := hq; go_simp <;> with_reducible rfl
        try simp only [Act.put, List.setIfInBounds_toArray, List.set_cons_zero, List.set_cons_succ]
        refine wpAnyB_take (i := 1) (v := ?_) [1, 15, 16, 17] rfl (by kernel_rfl) (by kernel_rfl) (by kernel_rfl) (by kernel_rfl) (PanOk.put (by repeat (first | exact HPN.out | refine PanOk.inBlock ?_ | refine PanOk.then_ ?_))) hB (Or.inl ⟨by rfl, ?_⟩) ?_
        rotate_left
        · intro wq hq; obtain ⟨q1, q2, q3⟩ := hq; go_simp <;> with_reducible rfl
        try simp only [Act.put, List.setIfInBounds_toArray, List.set_cons_zero, List.set_cons_succ]
        refine wpAnyB_take (i := 2) (v := ?_) [2, 3, 4, 14, 17] rfl (by kernel_rfl) (by kernel_rfl) (by kernel_rfl) (by kernel_rfl) (PanOk.put (by repeat (first | exact HPN.out | refine PanOk.inBlock ?_ | refine PanOk.then_ ?_))) hB (Or.inl ⟨by rfl, ?_⟩) ?_
        rotate_left
        · intro wq hq; obtain ⟨q1, q2, q3⟩ := hq; go_simp <;> with_reducible rfl
        try simp only [Act.put, List.setIfInBounds_toArray, List.set_cons_zero, List.set_cons_succ]
        refine wpAnyB_take (i := 3) (v := ?_) [3, 4, 14, 17] rfl (by kernel_rfl) (by kernel_rfl) (by kernel_rfl) (by kernel_rfl) (PanOk.put (by repeat (first | exact HPN.out | refine PanOk.inBlock ?_ | refine PanOk.then_ ?_))) hB (Or.inl ⟨by rfl, ?_⟩) ?_
        rotate_left
        · intro wq hq; obtain ⟨q1, q2, q3⟩ := hq; go_simp <;> with_reducible rfl
        try simp only [Act.put, List.setIfInBounds_toArray, List.set_cons_zero, List.set_cons_succ]
        refine wpAnyB_take (i := 4) (v := ?_) [4, 14, 17] rfl (by kernel_rfl) (by kernel_rfl) (by kernel_rfl) (by kernel_rfl) (PanOk.put (by repeat (first | exact HPN.out | refine PanOk.inBlock ?_ | refine PanOk.then_ ?_))) hB (Or.inl ⟨by rfl, ?_⟩) ?_
        rotate_left
        · intro wq hq; obtain ⟨q1, q2, q3⟩ := hq; go_simp <;> with_reducible rfl
        try simp only [Act.put, List.setIfInBounds_toArray, List.set_cons_zero, List.set_cons_succ]
        refine wpAnyB_take (i := 5) (v := ?_) [5, 15, 16, 17] rfl (by kernel_rfl) (by kernel_rfl) (by kernel_rfl) (by kernel_rfl) (PanOk.put (by repeat (first | exact HPN.out | refine PanOk.inBlock ?_ | refine PanOk.then_ ?_))) hB (Or.inl ⟨by rfl, ?_⟩) ?_
        rotate_left
        · intro wq hq; obtain ⟨q1, q2, q3⟩ := hq; go_simp <;> with_reducible rfl
        try simp only [Act.put, List.setIfInBounds_toArray, List.set_cons_zero, List.set_cons_succ]
        refine wpAnyB_take (i := 6) (v := ?_) [6, 15, 16, 17] rfl (by kernel_rfl) (by kernel_rfl) (by kernel_rfl) (by kernel_rfl) (PanOk.put (by repeat (first | exact HPN.out | refine PanOk.inBlock ?_ | refine PanOk.then_ ?_))) hB (Or.inl ⟨by rfl, ?_⟩) ?_
        rotate_left
        · intro wq hq; obtain ⟨q1, q2, q3⟩ := hq; go_simp <;> with_reducible rfl
        try simp only [Act.put, List.setIfInBounds_toArray, List.set_cons_zero, List.set_cons_succ]
        refine wpAnyB_take (i := 7) (v := ?_) [7, 15, 16, 17] rfl (by kernel_rfl) (by kernel_rfl) (by kernel_rfl) (by kernel_rfl) (PanOk.put (by repeat (first | exact HPN.out | refine PanOk.inBlock ?_ | refine PanOk.then_ ?_))) hB (Or.inl ⟨by rfl, ?_⟩) ?_
        rotate_left
        · intro wq hq; obtain ⟨q1, q2, q3⟩ := hq; go_simp <;> with_reducible rfl
        try simp only [Act.put, List.setIfInBounds_toArray, List.set_cons_zero, List.set_cons_succ]
        refine wpAnyB_take (i := 8) (v := ?_) [8, 15, 16, 17] rfl (by kernel_rfl) (by kernel_rfl) (by kernel_rfl) (by kernel_rfl) (PanOk.put (by repeat (first | exact HPN.out | refine PanOk.inBlock ?_ | refine PanOk.then_ ?_))) hB (Or.inl ⟨by rfl, ?_⟩) ?_
        rotate_left
        · intro wq hq; obtain ⟨q1, q2, q3⟩ := hq; go_simp <;> with_reducible rfl
        try simp only [Act.put, List.setIfInBounds_toArray, List.set_cons_zero, List.set_cons_succ]
        refine wpAnyB_take (i := 9) (v := ?_) [9, 15, 16, 17] rfl (by kernel_rfl) (by kernel_rfl) (by kernel_rfl) (by kernel_rfl) (PanOk.put (by repeat (first | exact HPN.out | refine PanOk.inBlock ?_ | refine PanOk.then_ ?_))) hB (Or.inl ⟨by rfl, ?_⟩) ?_
        rotate_left
        · intro wq hq; obtain ⟨q1, q2, q3⟩ := hq; go_simp <;> with_reducible rfl
        try simp only [Act.put, List.setIfInBounds_toArray, List.set_cons_zero, List.set_cons_succ]
        refine wpAnyB_take (i := 10) (v := ?_) [10, 15, 16, 17] rfl (by kernel_rfl) (by kernel_rfl) (by kernel_rfl) (by kernel_rfl) (PanOk.put (by repeat (first | exact HPN.out | refine PanOk.inBlock ?_ | refine PanOk.then_ ?_))) hB (Or.inl ⟨by rfl, ?_⟩) ?_
        rotate_left
        · intro wq hq; obtain ⟨q1, q2, q3⟩ := hq; go_simp <;> with_reducible rfl
        try simp only [Act.put, List.setIfInBounds_toArray, List.set_cons_zero, List.set_cons_succ]
        refine wpAnyB_take (i := 12) (v := ?_) [12, 15, 16, 17] rfl (by kernel_rfl) (by kernel_rfl) (by kernel_rfl) (by kernel_rfl) (PanOk.put (by repeat (first | exact HPN.out | refine PanOk.inBlock ?_ | refine PanOk.then_ ?_))) hB (Or.inl ⟨by rfl, ?_⟩) ?_
        rotate_left
        · intro wq hq; obtain ⟨q1, q2, q3⟩ := hq; go_simp <;> with_reducible rfl
        try simp only [Act.put, List.setIfInBounds_toArray, List.set_cons_zero, List.set_cons_succ]
        refine wpAnyB_two (i := 11) (j := 13) rfl rfl (by kernel_rfl) (fun K hK => ?_) (fun K hK => ?_)
        case refine_1 =>
          (refine step_call (by rfl) 128 #[.tmp 37] #[161] (by rfl) #[.pointer (some ⟨row, j * 3, none⟩)] (by simp [go_sem]) _ (by rfl) dcqa_body dcqa_name (TP _ (by first | exact KX.drew)) ?_; rintro e w2 ⟨c2, rfl, hc2, k2⟩; refine ⟨_, rfl, ?_⟩; obtain ⟨a1, p1, a2, p2, a3, p3, rfl, _⟩ := id hc2.cells; have kx : Keep [] wx w2 := (by first | exact (Keep.refl _ _).drew.trans k2); have hcx : HT w2 (fun k => wx.heap.size ≤ k ∧ k < w2.heap.size) tj [.int .i64 tj.n, .slice a1 tj.s.length p1, .bool tj.null, .slice a2 tj.l.length p2, .slice a3 tj.u.length p3] := hc2.keepF (fun _ _ => rfl) (fun k hk => by have a1 := hk.1; have a2 := hk.2; simp at a1; exact ⟨by omega, a2⟩); have sy := sx.calm kx; have d3 := sy.d3; obtain ⟨lt1, lt2⟩ := sy.lts; obtain ⟨y3, y4⟩ := sy.l3 (o := 3) rfl)
          refine hK.out _ _ (fun _ => ⟨d3, y3, kx.cs cf⟩) (fun _ => ?_)
          clear hK K
          try simp only [Act.put, List.setIfInBounds_toArray, List.set_cons_zero, List.set_cons_succ]
          refine wpAnyB_one (k := 13) rfl (by kernel_rfl) (fun K hK => ?_)
          go_simp
          refine hK.out _ _ (fun _ => ⟨(keep_box (A := []) _).cs d3, (keep_box (A := []) _).cs y3, (keep_box (A := []) _).cs (kx.cs cf)⟩) (fun _ => ?_)
          clear hK K
          try simp only [Act.put, List.setIfInBounds_toArray, List.set_cons_zero, List.set_cons_succ]
          refine wpAnyB_one (k := 14) rfl (by kernel_rfl) (fun K hK => ?_)
          (have _u0 := sy; obtain ⟨cs, e1, e2, e3, e4⟩ := (sy.calm (keep_box (.cells #[.int .i64 0, .slice none 0 0, .bool false, .slice none 0 0, .slice none 0 0] 27))).lst; refine step_append_lies _ (by rfl) (.tmp 31) (.tmp 40) _ (by rfl) w0.heap.size 27 i0 _ 5 88 Tryd.underlying24 hi hz0 hz1 hz2 rfl (by omega) (.slice al j pl) _ cs.flatten (by rfl) e4 ⟨w2.heap.size, 0, none⟩ 1 1 [.int .i64 0, .slice none 0 0, .bool false, .slice none 0 0, .slice none 0 0] (by rfl) (by rfl) (World.news_of_block (cs := #[.int .i64 0, .slice none 0 0, .bool false, .slice none 0 0, .slice none 0 0]) (heap_alloc_new w2 _)) (by simp [Value.oneCell']) (by omega) (by unfold maxLen; rw [HLEN.out]; omega) (by rw [HLEN.out]; omega) (sy.calm (keep_box (.cells #[.int .i64 0, .slice none 0 0, .bool false, .slice none 0 0, .slice none 0 0] 27))).keep.size (w2.heap.size + 1) (by simp) ?_; intro g cap w3 hown hgr hat hlt3; obtain ⟨y3, y4⟩ := (sy.calm (keep_box (.cells #[.int .i64 0, .slice none 0 0, .bool false, .slice none 0 0, .slice none 0 0] 27))).row3 (o := 3) rfl hgr; have d3 := (sy.calm (keep_box (.cells #[.int .i64 0, .slice none 0 0, .bool false, .slice none 0 0, .slice none 0 0] 27))).d3G hgr; have kU : Keep [] wx (w2.alloc (.cells #[.int .i64 0, .slice none 0 0, .bool false, .slice none 0 0, .slice none 0 0] 27)) := kx.alloc _; have cf5 := ((hp0.keep (sx.keep.trans kU) (by simp)).grownC hgr (fun e => by have := sx.ownGe e; omega)).cell (o := o) (j := 0) rfl rfl; have hU : HT (w2.alloc (.cells #[.int .i64 0, .slice none 0 0, .bool false, .slice none 0 0, .slice none 0 0] 27)) (fun k => wx.heap.size ≤ k ∧ k < (w2.alloc (.cells #[.int .i64 0, .slice none 0 0, .bool false, .slice none 0 0, .slice none 0 0] 27)).heap.size) tj [.int .i64 tj.n, .slice a1 tj.s.length p1, .bool tj.null, .slice a2 tj.l.length p2, .slice a3 tj.u.length p3] := hcx.keepF (fun k hk => (keep_box (A := []) _).block k hk.2 (by simp)) (fun k hk => ⟨hk.1, by have := hk.2; simp; omega⟩); have hat2 : (Value.slice al j pl).ownBlock = some g ∨ g = (w2.alloc (.cells #[.int .i64 0, .slice none 0 0, .bool false, .slice none 0 0, .slice none 0 0] 27)).heap.size := hat.imp id (fun e => (by simp; exact e)); rw [HLEN.out] at hown; obtain ⟨⟨cur, hV2, z0, z1, z2, z3, z4⟩, PS⟩ := sx.pushSet (x := tj) (v0 := .int .i64 tj.n) (v1 := .slice a1 tj.s.length p1) (v2 := .bool tj.null) (v3 := .slice a2 tj.l.length p2) (v4 := .slice a3 tj.u.length p3) (o := 3) rfl HLEN.out kU e1 e2 (by omega) hown hgr hat2; have HPS : Hid _ := PS hU; have HV2 : Hid _ := hV2; have HZ : Hid _ := And.intro z0 (And.intro z1 (And.intro z2 (And.intro z3 z4))); clear PS hV2 z0 z1 z2 z3 z4 e1 e2 e3 e4 hown hgr hat hat2 hU kU)
          refine hK.out _ _ (fun _ => ⟨d3, y3, cf5⟩) (fun _ => ?_)
          clear hK K
          try simp only [Act.put, List.setIfInBounds_toArray, List.set_cons_zero, List.set_cons_succ]
          refine wpAnyB_one (k := 15) rfl (by kernel_rfl) (fun K hK => ?_)
          go_simp
          refine hK.out _ _ (fun _ => ⟨d3, y3, cf5⟩) (fun _ => ?_)
          clear hK K
          try simp only [Act.put, List.setIfInBounds_toArray, List.set_cons_zero, List.set_cons_succ]
          refine wpAnyB_one (k := 16) rfl (by kernel_rfl) (fun K hK => ?_)
          go_simp
          refine hK.out _ _ (fun _ => ⟨d3, y3, cf5⟩) (fun _ => ?_)
          clear hK K
          try simp only [Act.put, List.setIfInBounds_toArray, List.set_cons_zero, List.set_cons_succ]
          refine wpAnyB_one (k := 17) rfl (by kernel_rfl) (fun K hK => ?_)
          go_simp
          refine hK.out _ _ (fun h => absurd rfl h) (fun _ => ?_)
          clear hK K
          refine wpAnyB_done (by kernel_rfl) ?_ _
          obtain ⟨z0, z1, z2, z3, z4⟩ := HZ.out
          have q0 := cellOf HV2.out (j * 5) _ z0
          have qf0 := freeOf HV2.out (j * 5)
          have q1 := cellOf HV2.out (j * 5 + 1) _ z1
          have qf1 := freeOf HV2.out (j * 5 + 1)
          have q2 := cellOf HV2.out (j * 5 + 2) _ z2
          have qf2 := freeOf HV2.out (j * 5 + 2)
          have q3 := cellOf HV2.out (j * 5 + 3) _ z3
          have qf3 := freeOf HV2.out (j * 5 + 3)
          have q4 := cellOf HV2.out (j * 5 + 4) _ z4
          have qf4 := freeOf HV2.out (j * 5 + 4)
          clear z0 z1 z2 z3 z4
          go_upto_region 8 with fail
          go_wp2_with fail
          go_roundw
          case rel =>
            have Q := HPS.out
            have eT : lx0.take (j + 1) = lx0.take j ++ [tj] := by rw [List.take_succ_eq_append_getElem hlt, HTJ.out]
            rw [← eT] at Q
            first | exact ⟨j + 1, _, by go_num, by omega, Q⟩ | exact ⟨j + 1, _, by go_num, by omega, Q.drew⟩ | exact ⟨j + 1, _, by go_num, by omega, Q.drew.drew⟩
          case measure => simp [intOf]; omega
        case refine_2 =>
          go_simp
          refine hK.out _ _ (fun _ => ⟨(keep_box (A := []) _).cs d3, (keep_box (A := []) _).cs y3, (keep_box (A := []) _).cs cf⟩) (fun _ => ?_)
          clear hK K
          try simp only [Act.put, List.setIfInBounds_toArray, List.set_cons_zero, List.set_cons_succ]
          refine wpAnyB_one (k := 11) rfl (by kernel_rfl) (fun K hK => ?_)
          (refine step_call (by rfl) 128 #[.tmp 37] #[161] (by rfl) #[.pointer (some ⟨row, j * 3, none⟩)] (by simp [go_sem]) _ (by rfl) dcqa_body dcqa_name (TP _ (by first | exact KX.drew.alloc _)) ?_; rintro e w2 ⟨c2, rfl, hc2, k2⟩; refine ⟨_, rfl, ?_⟩; obtain ⟨a1, p1, a2, p2, a3, p3, rfl, _⟩ := id hc2.cells; have kx : Keep [] wx w2 := (by first | exact ((Keep.refl _ _).drew.alloc _).trans k2); have hzb : w2.heap[wx.heap.size]? = some (.cells #[.int .i64 0, .slice none 0 0, .bool false, .slice none 0 0, .slice none 0 0] 27) := (k2.block wx.heap.size (by simp) (by simp)).trans (heap_alloc_new wx.drew _); have hcx : HT w2 (fun k => wx.heap.size ≤ k ∧ k < w2.heap.size) tj [.int .i64 tj.n, .slice a1 tj.s.length p1, .bool tj.null, .slice a2 tj.l.length p2, .slice a3 tj.u.length p3] := hc2.keepF (fun _ _ => rfl) (fun k hk => by have a1 := hk.1; have a2 := hk.2; simp at a1; exact ⟨by omega, a2⟩); have sy := sx.calm kx; have d3 := sy.d3; obtain ⟨lt1, lt2⟩ := sy.lts; obtain ⟨y3, y4⟩ := sy.l3 (o := 3) rfl)
          refine hK.out _ _ (fun _ => ⟨d3, y3, kx.cs cf⟩) (fun _ => ?_)
          clear hK K
          try simp only [Act.put, List.setIfInBounds_toArray, List.set_cons_zero, List.set_cons_succ]
          refine wpAnyB_one (k := 14) rfl (by kernel_rfl) (fun K hK => ?_)
          (have _u0 := sy; obtain ⟨cs, e1, e2, e3, e4⟩ := (sy).lst; refine step_append_lies _ (by rfl) (.tmp 31) (.tmp 40) _ (by rfl) w0.heap.size 27 i0 _ 5 88 Tryd.underlying24 hi hz0 hz1 hz2 rfl (by omega) (.slice al j pl) _ cs.flatten (by rfl) e4 ⟨wx.heap.size, 0, none⟩ 1 1 [.int .i64 0, .slice none 0 0, .bool false, .slice none 0 0, .slice none 0 0] (by rfl) (by rfl) (World.news_of_block (cs := #[.int .i64 0, .slice none 0 0, .bool false, .slice none 0 0, .slice none 0 0]) hzb) (by simp [Value.oneCell']) (by omega) (by unfold maxLen; rw [HLEN.out]; omega) (by rw [HLEN.out]; omega) (sy).keep.size (w2.heap.size) (by simp) ?_; intro g cap w3 hown hgr hat hlt3; obtain ⟨y3, y4⟩ := (sy).row3 (o := 3) rfl hgr; have d3 := (sy).d3G hgr; have kU : Keep [] wx w2 := kx; have cf5 := ((hp0.keep (sx.keep.trans kU) (by simp)).grownC hgr (fun e => by have := sx.ownGe e; omega)).cell (o := o) (j := 0) rfl rfl; have hU : HT w2 (fun k => wx.heap.size ≤ k ∧ k < w2.heap.size) tj [.int .i64 tj.n, .slice a1 tj.s.length p1, .bool tj.null, .slice a2 tj.l.length p2, .slice a3 tj.u.length p3] := hcx; have hat2 : (Value.slice al j pl).ownBlock = some g ∨ g = w2.heap.size := hat.imp id (fun e => (e)); rw [HLEN.out] at hown; obtain ⟨⟨cur, hV2, z0, z1, z2, z3, z4⟩, PS⟩ := sx.pushSet (x := tj) (v0 := .int .i64 tj.n) (v1 := .slice a1 tj.s.length p1) (v2 := .bool tj.null) (v3 := .slice a2 tj.l.length p2) (v4 := .slice a3 tj.u.length p3) (o := 3) rfl HLEN.out kU e1 e2 (by omega) hown hgr hat2; have HPS : Hid _ := PS hU; have HV2 : Hid _ := hV2; have HZ : Hid _ := And.intro z0 (And.intro z1 (And.intro z2 (And.intro z3 z4))); clear PS hV2 z0 z1 z2 z3 z4 e1 e2 e3 e4 hown hgr hat hat2 hU kU)
          refine hK.out _ _ (fun _ => ⟨d3, y3, cf5⟩) (fun _ => ?_)
          clear hK K
          try simp only [Act.put, List.setIfInBounds_toArray, List.set_cons_zero, List.set_cons_succ]
          refine wpAnyB_one (k := 15) rfl (by kernel_rfl) (fun K hK => ?_)
          go_simp
          refine hK.out _ _ (fun _ => ⟨d3, y3, cf5⟩) (fun _ => ?_)
          clear hK K
          try simp only [Act.put, List.setIfInBounds_toArray, List.set_cons_zero, List.set_cons_succ]
          refine wpAnyB_one (k := 16) rfl (by kernel_rfl) (fun K hK => ?_)
          go_simp
          refine hK.out _ _ (fun _ => ⟨d3, y3, cf5⟩) (fun _ => ?_)
          clear hK K
          try simp only [Act.put, List.setIfInBounds_toArray, List.set_cons_zero, List.set_cons_succ]
          refine wpAnyB_one (k := 17) rfl (by kernel_rfl) (fun K hK => ?_)
          go_simp
          refine hK.out _ _ (fun h => absurd rfl h) (fun _ => ?_)
          clear hK K
          refine wpAnyB_done (by kernel_rfl) ?_ _
          obtain ⟨z0, z1, z2, z3, z4⟩ := HZ.out
          have q0 := cellOf HV2.out (j * 5) _ z0
          have qf0 := freeOf HV2.out (j * 5)
          have q1 := cellOf HV2.out (j * 5 + 1) _ z1
          have qf1 := freeOf HV2.out (j * 5 + 1)
          have q2 := cellOf HV2.out (j * 5 + 2) _ z2
          have qf2 := freeOf HV2.out (j * 5 + 2)
          have q3 := cellOf HV2.out (j * 5 + 3) _ z3
          have qf3 := freeOf HV2.out (j * 5 + 3)
          have q4 := cellOf HV2.out (j * 5 + 4) _ z4
          have qf4 := freeOf HV2.out (j * 5 + 4)
          clear z0 z1 z2 z3 z4
          go_upto_region 8 with fail
          go_wp2_with fail
          go_roundw
          case rel =>
            have Q := HPS.out
            have eT : lx0.take (j + 1) = lx0.take j ++ [tj] := by rw [List.take_succ_eq_append_getElem hlt, HTJ.out]
            rw [← eT] at Q
            first | exact ⟨j + 1, _, by go_num, by omega, Q⟩ | exact ⟨j + 1, _, by go_num, by omega, Q.drew⟩ | exact ⟨j + 1, _, by go_num, by omega, Q.drew.drew⟩
          case measure => simp [intOf]; omega
    · have hnl : lx0.take j = lx0 := List.take_of_length_le (by omega)
      rw [hnl] at sc
      have scl := sc.close
      clear sc hnl s1
      go_wp2_with fail
      exact HEX.out _ _ _ _ _ _ _ _ _ _ _ _ _ _ _ _ _ _ _ _ _ _ _ _ _ _ _ _ _ _ _ _ _ _ _ _ _ _ _ _ _ _ _ _ scl
set_option maxHeartbeats 20000000 in
set_option maxRecDepth 100000 in
theorem dcqc_lp1 {Q : Exit → Act → World → Prop} {G : Nat → Prop} {b o : Nat} {w w0 U3 : World} {ao0 : Option Addr} {lx0 : List T} {cp0 : Nat} {nu0 : Bool} {ao1 : Option Addr} {lx1 : List T} {cp1 : Nat} {nu1 : Bool} {tv : Value} {css1 : List (List Value)} {x1 x2 x4 x5 x6 x7 x8 x9 x10 x11 x12 x13 x14 x15 x16 x17 x18 x19 x20 x21 x22 x23 x24 x25 x26 x27 x28 x29 x30 x31 x32 x33 x34 x35 x36 x37 x38 x39 x40 x41 x42 x43 x44 x45 x46 x47 x48 x49 x50 x51 x52 x53 x54 x55 x56 x57 x58 x59 x60 x61 x62 x63 x64 x65 x66 x67 x68 x69 x70 x71 x72 x73 x74 x75 x76 x79 x80 x81 x82 x83 x84 x85 x86 x87 x88 x89 x90 x91 x92 x93 x94 x95 x96 x97 x98 x99 x100 x101 x102 x103 x104 x105 x106 x107 x108 x109 x110 x111 x112 x113 x114 x115 x116 x117 x118 x119 x120 x121 x122 x123 x124 x125 x126 x127 x128 : Value} (KW : Keep [] w w0) (hG : There G w) (hz0 : w0.heap.size = w.heap.size + 1) (hpl : b < w.heap.size) (hp0 : Pt w0 b o [.slice ao0 lx0.length cp0, .slice ao1 lx1.length cp1, tv]) (HEQ1 : Hid (css1.length = lx1.length)) (ev1 : ∀ i (h1 : i < lx1.length) (h2 : i < css1.length), css1[i].length = 3 ∧ VK w G 10 (-1) (VFs w G q_DescribeClientQuotasResponseEntryValue) css1[i] lx1[i]) (hrw1 : RW w G (.slice ao1 lx1.length cp1) lx1.length css1.flatten) (hll1 : lx1.length ≤ 1000000) (hsl1 : smalls 1000000 lx1) (s3 : TlCur w0 U3 (w.heap.size + 1 + 1) (w.heap.size + 1) 2 [(.mk 0 [] nu0 lx0 [])] nu1 (.slice none 0 0) [] [])
    (HPN : Hid (PanOk Q))
    (HEX : Hid (∀ (wr : World) (y5 y78 y79 y80 y81 y82 y83 y84 y85 y86 y87 y88 y89 y90 y91 y92 y93 y94 y95 y96 y97 y98 y99 y100 y101 y102 y103 y104 y105 y106 y107 y108 y109 y110 y111 y112 y113 y114 y115 y116 y117 y118 y119 : Value), TlSt w0 wr (w.heap.size + 1 + 1) (w.heap.size + 1) 2 ([(.mk 0 [] nu0 lx0 [])] ++ [.mk 0 [] nu1 lx1 []]) [] → Q (.exit 2) ⟨(.pointer (some ⟨b, o, none⟩) :: x1 :: x2 :: .pointer (some ⟨w.heap.size + 1 + 1, 0, none⟩) :: x4 :: y5 :: x6 :: x7 :: x8 :: x9 :: x10 :: x11 :: x12 :: x13 :: x14 :: x15 :: x16 :: x17 :: x18 :: x19 :: x20 :: x21 :: x22 :: x23 :: x24 :: x25 :: x26 :: x27 :: x28 :: x29 :: x30 :: x31 :: x32 :: x33 :: x34 :: x35 :: x36 :: x37 :: x38 :: x39 :: x40 :: x41 :: x42 :: x43 :: x44 :: x45 :: x46 :: x47 :: x48 :: x49 :: x50 :: x51 :: x52 :: x53 :: x54 :: x55 :: x56 :: x57 :: x58 :: x59 :: x60 :: x61 :: x62 :: x63 :: x64 :: x65 :: x66 :: x67 :: x68 :: x69 :: x70 :: x71 :: x72 :: x73 :: x74 :: x75 :: x76 :: .int .i64 lx1.length :: y78 :: y79 :: y80 :: y81 :: y82 :: y83 :: y84 :: y85 :: y86 :: y87 :: y88 :: y89 :: y90 :: y91 :: y92 :: y93 :: y94 :: y95 :: y96 :: y97 :: y98 :: y99 :: y100 :: y101 :: y102 :: y103 :: y104 :: y105 :: y106 :: y107 :: y108 :: y109 :: y110 :: y111 :: y112 :: y113 :: y114 :: y115 :: y116 :: y117 :: y118 :: y119 :: x120 :: x121 :: x122 :: x123 :: x124 :: x125 :: x126 :: x127 :: x128 :: []).toArray, []⟩ wr)) :
    Code.wp Tryd.prog (codeAt [true, true, true, true, true, false, true, false] (Tryd.f80.body.getD .skip)) Q ⟨(.pointer (some ⟨b, o, none⟩) :: x1 :: x2 :: .pointer (some ⟨w.heap.size + 1 + 1, 0, none⟩) :: x4 :: x5 :: x6 :: x7 :: x8 :: x9 :: x10 :: x11 :: x12 :: x13 :: x14 :: x15 :: x16 :: x17 :: x18 :: x19 :: x20 :: x21 :: x22 :: x23 :: x24 :: x25 :: x26 :: x27 :: x28 :: x29 :: x30 :: x31 :: x32 :: x33 :: x34 :: x35 :: x36 :: x37 :: x38 :: x39 :: x40 :: x41 :: x42 :: x43 :: x44 :: x45 :: x46 :: x47 :: x48 :: x49 :: x50 :: x51 :: x52 :: x53 :: x54 :: x55 :: x56 :: x57 :: x58 :: x59 :: x60 :: x61 :: x62 :: x63 :: x64 :: x65 :: x66 :: x67 :: x68 :: x69 :: x70 :: x71 :: x72 :: x73 :: x74 :: x75 :: x76 :: .int .i64 lx1.length :: .int .i64 0 :: x79 :: x80 :: x81 :: x82 :: x83 :: x84 :: x85 :: x86 :: x87 :: x88 :: x89 :: x90 :: x91 :: x92 :: x93 :: x94 :: x95 :: x96 :: x97 :: x98 :: x99 :: x100 :: x101 :: x102 :: x103 :: x104 :: x105 :: x106 :: x107 :: x108 :: x109 :: x110 :: x111 :: x112 :: x113 :: x114 :: x115 :: x116 :: x117 :: x118 :: x119 :: x120 :: x121 :: x122 :: x123 :: x124 :: x125 :: x126 :: x127 :: x128 :: []).toArray, []⟩ U3 := by
  conv => arg 2; whnf
  let _QX : Exit → Act → World → Prop := bodyPost Tryd.prog Tryd.f80 (fun _ _ => True)
  have cf := (hp0.keep s3.keep (by simp)).cell (o := o + 1) (j := 1) rfl rfl
  go_loopw [78, 5] (fun k _ wr => ∃ (j : Nat) (lv : Value), k = .int .i64 (j : Int) ∧ j ≤ lx1.length ∧ TlCur w0 wr (w.heap.size + 1 + 1) (w.heap.size + 1) 2 [(.mk 0 [] nu0 lx0 [])] nu1 lv (lx1.take j) []) (fun k _ _ => lx1.length - (intOf k).toNat)
  case atStart => exact ⟨0, _, rfl, Nat.zero_le _, s3⟩
  case round =>
    obtain ⟨j, lv, rfl, hj, sc⟩ := hrel
    clear cf
    by_cases hlt : j < lx1.length
    · have hjc : j < css1.length := by rw [HEQ1.out]; exact hlt
      obtain ⟨row, cap, hsl, hcap, hGr, hpt⟩ := hrw1.part (m := 3) HEQ1.out (fun c hc => by obtain ⟨q, hq, rfl⟩ := List.getElem_of_mem hc; exact (ev1 q (by rw [← HEQ1.out]; exact hq) hq).1) hjc
      have hsl2 := hsl
      simp only [Value.slice.injEq] at hsl
      obtain ⟨rfl, _, rfl⟩ := hsl
      clear hsl2
      have KR := KW.trans sc.keep
      have hvj := (ev1 j hlt hjc).2
      have hsj := smalls_mem hsl1 _ (List.getElem_mem hlt)
      generalize hcj : css1[j] = cj at *
      generalize htj : lx1[j] = tj at *
      have HTJ : Hid (lx1[j] = tj) := htj
      clear htj hcj
      have TP := fun V (hV : Keep [] w V) => dcqb_tell (hpt.keep hV (by simp)) (VK.keepF (hG.same hV) (fun _ h => h) (fun c l => VFs.keepF (hG.same hV) (fun _ h => h) q_DescribeClientQuotasResponseEntryValue) hvj) (hG.mono hV.size) hsj
      have hlen : (lx1.take j).length = j := by simp; omega
      have HLEN : Hid _ := hlen
      clear hlen
      go_upto_region 15 with fail
      go_region
      · have kb : Keep [] wr ((wr.alloc (Obj.cells #[Value.bool false] 4)).drew) := (keep_box _).drew
        have sx := sc.calm kb
        have KX := KW.trans sx.keep
        generalize ((wr.alloc (Obj.cells #[Value.bool false] 4)).drew) = wx at *
        have d3 := sx.d3
        obtain ⟨y3, y4⟩ := sx.l3 (o := 8) rfl
        obtain ⟨lt1, lt2⟩ := sx.lts
        have cf := (hp0.keep sx.keep (by simp)).cell (o := o + 1) (j := 1) rfl rfl
        have hbl := (hp0.keep sx.keep (by simp)).lt
        obtain ⟨i0, hi, hz0, hz1, hz2⟩ := info_agg info_it zero_it
        go_upto_region 18 with fail
        refine wp_region_B3 18 (by kernel_rfl) d3 y3 cf (fun hB => ?_)
        refine wpAnyB_take (i := 0) (v := ?_) [0, 1, 16, 17, 18] rfl (by kernel_rfl) (by kernel_rfl) (by kernel_rfl) (by kernel_rfl) (PanOk.put (by repeat (first | exact HPN.out | refine PanOk.inBlock ?_ | refine PanOk.then_ ?_))) hB (Or.inl ⟨by rfl, ?_⟩) ?_
        rotate_left
        · intro wq hq; obtain ⟨q1, q2, q3⟩ := hq; go_simp <;> with_reducible rfl
        try simp only [Act.put, List.setIfInBounds_toArray, List.set_cons_zero, List.set_cons_succ]
        refine wpAnyB_take (i := 1) (v := ?_) [1, 16, 17, 18] rfl (by kernel_rfl) (by kernel_rfl) (by kernel_rfl) (by kernel_rfl) (PanOk.put (by repeat (first | exact HPN.out | refine PanOk.inBlock ?_ | refine PanOk.then_ ?_))) hB (Or.inl ⟨by rfl, ?_⟩) ?_
        rotate_left
        · intro wq hq; obtain ⟨q1, q2, q3⟩ := hq; go_simp <;> with_reducible rfl
        try simp only [Act.put, List.setIfInBounds_toArray, List.set_cons_zero, List.set_cons_succ]
        refine wpAnyB_take (i := 2) (v := ?_) [2, 3, 4, 5, 6, 15, 18] rfl (by kernel_rfl) (by kernel_rfl) (by kernel_rfl) (by kernel_rfl) (PanOk.put (by repeat (first | exact HPN.out | refine PanOk.inBlock ?_ | refine PanOk.then_ ?_))) hB (Or.inl ⟨by rfl, ?_⟩) ?_
        rotate_left
        · intro wq hq; obtain ⟨q1, q2, q3⟩ := hq; go_simp <;> with_reducible rfl
        try simp only [Act.put, List.setIfInBounds_toArray, List.set_cons_zero, List.set_cons_succ]
        refine wpAnyB_take (i := 3) (v := ?_) [3, 4, 5, 6, 15, 18] rfl (by kernel_rfl) (by kernel_rfl) (by kernel_rfl) (by kernel_rfl) (PanOk.put (by repeat (first | exact HPN.out | refine PanOk.inBlock ?_ | refine PanOk.then_ ?_))) hB (Or.inl ⟨by rfl, ?_⟩) ?_
        rotate_left
        · intro wq hq; obtain ⟨q1, q2, q3⟩ := hq; go_simp <;> with_reducible rfl
        try simp only [Act.put, List.setIfInBounds_toArray, List.set_cons_zero, List.set_cons_succ]
        refine wpAnyB_take (i := 4) (v := ?_) [4, 5, 6, 15, 18] rfl (by kernel_rfl) (by kernel_rfl) (by kernel_rfl) (by kernel_rfl) (PanOk.put (by repeat (first | exact HPN.out | refine PanOk.inBlock ?_ | refine PanOk.then_ ?_))) hB (Or.inl ⟨by rfl, ?_⟩) ?_
        rotate_left
        · intro wq hq; obtain ⟨q1, q2, q3⟩ := hq; go_simp <;> with_reducible rfl
        try simp only [Act.put, List.setIfInBounds_toArray, List.set_cons_zero, List.set_cons_succ]
        refine wpAnyB_take (i := 5) (v := ?_) [5, 6, 15, 18] rfl (by kernel_rfl) (by kernel_rfl) (by kernel_rfl) (by kernel_rfl) (PanOk.put (by repeat (first | exact HPN.out | refine PanOk.inBlock ?_ | refine PanOk.then_ ?_))) hB (Or.inl ⟨by rfl, ?_⟩) ?_
        rotate_left
        · intro wq hq; obtain ⟨q1, q2, q3⟩ := hq; go_simp <;> with_reducible rfl
        try simp only [Act.put, List.setIfInBounds_toArray, List.set_cons_zero, List.set_cons_succ]
        refine wpAnyB_take (i := 6) (v := ?_) [6, 15, 18] rfl (by kernel_rfl) (by kernel_rfl) (by kernel_rfl) (by kernel_rfl) (PanOk.put (by repeat (first | exact HPN.out | refine PanOk.inBlock ?_ | refine PanOk.then_ ?_))) hB (Or.inl ⟨by rfl, ?_⟩) ?_
        rotate_left
        · intro wq hq; obtain ⟨q1, q2, q3⟩ := hq; go_simp <;> with_reducible rfl
        try simp only [Act.put, List.setIfInBounds_toArray, List.set_cons_zero, List.set_cons_succ]
        refine wpAnyB_take (i := 7) (v := ?_) [7, 8, 9, 10, 12, 13, 14, 15, 18] rfl (by kernel_rfl) (by kernel_rfl) (by kernel_rfl) (by kernel_rfl) (PanOk.put (by repeat (first | exact HPN.out | refine PanOk.inBlock ?_ | refine PanOk.then_ ?_))) hB (Or.inl ⟨by rfl, ?_⟩) ?_
        rotate_left
        · intro wq hq; obtain ⟨q1, q2, q3⟩ := hq; go_simp <;> with_reducible rfl
        try simp only [Act.put, List.setIfInBounds_toArray, List.set_cons_zero, List.set_cons_succ]
        refine wpAnyB_take (i := 8) (v := ?_) [8, 9, 10, 12, 13, 14, 15, 18] rfl (by kernel_rfl) (by kernel_rfl) (by kernel_rfl) (by kernel_rfl) (PanOk.put (by repeat (first | exact HPN.out | refine PanOk.inBlock ?_ | refine PanOk.then_ ?_))) hB (Or.inl ⟨by rfl, ?_⟩) ?_
        rotate_left
        · intro wq hq; obtain ⟨q1, q2, q3⟩ := hq; go_simp <;> with_reducible rfl
        try simp only [Act.put, List.setIfInBounds_toArray, List.set_cons_zero, List.set_cons_succ]
        refine wpAnyB_take (i := 9) (v := ?_) [9, 10, 12, 13, 14, 15, 18] rfl (by kernel_rfl) (by kernel_rfl) (by kernel_rfl) (by kernel_rfl) (PanOk.put (by repeat (first | exact HPN.out | refine PanOk.inBlock ?_ | refine PanOk.then_ ?_))) hB (Or.inl ⟨by rfl, ?_⟩) ?_
        rotate_left
        · intro wq hq; obtain ⟨q1, q2, q3⟩ := hq; go_simp <;> with_reducible rfl
        try simp only [Act.put, List.setIfInBounds_toArray, List.set_cons_zero, List.set_cons_succ]
        refine wpAnyB_take (i := 10) (v := ?_) [10, 12, 13, 14, 15, 18] rfl (by kernel_rfl) (by kernel_rfl) (by kernel_rfl) (by kernel_rfl) (PanOk.put (by repeat (first | exact HPN.out | refine PanOk.inBlock ?_ | refine PanOk.then_ ?_))) hB (Or.inl ⟨by rfl, ?_⟩) ?_
        rotate_left
        · intro wq hq; obtain ⟨q1, q2, q3⟩ := hq; go_simp <;> with_reducible rfl
        try simp only [Act.put, List.setIfInBounds_toArray, List.set_cons_zero, List.set_cons_succ]
        refine wpAnyB_take (i := 11) (v := ?_) [11, 12, 13, 14, 15, 18] rfl (by kernel_rfl) (by kernel_rfl) (by kernel_rfl) (by kernel_rfl) (PanOk.put (by repeat (first | exact HPN.out | refine PanOk.inBlock ?_ | refine PanOk.then_ ?_))) hB (Or.inl ⟨by rfl, ?_⟩) ?_
        rotate_left
        · intro wq hq; obtain ⟨q1, q2, q3⟩ := hq; go_simp <;> with_reducible rfl
        try simp only [Act.put, List.setIfInBounds_toArray, List.set_cons_zero, List.set_cons_succ]
        refine wpAnyB_take (i := 12) (v := ?_) [12, 13, 14, 15, 18] rfl (by kernel_rfl) (by kernel_rfl) (by kernel_rfl) (by kernel_rfl) (PanOk.put (by repeat (first | exact HPN.out | refine PanOk.inBlock ?_ | refine PanOk.then_ ?_))) hB (Or.inl ⟨by rfl, ?_⟩) ?_
        rotate_left
        · intro wq hq; obtain ⟨q1, q2, q3⟩ := hq; go_simp <;> with_reducible rfl
        try simp only [Act.put, List.setIfInBounds_toArray, List.set_cons_zero, List.set_cons_succ]
        refine wpAnyB_one (k := 13) rfl (by kernel_rfl) (fun K hK => ?_)
        refine step_call (by rfl) 129 #[.tmp 113] #[163] (by rfl) #[.pointer (some ⟨row, j * 3, none⟩)] (by simp [go_sem]) _ (by rfl) dcqb_body dcqb_name (TP _ KX.drew) ?_
        rintro e w2 ⟨c2, rfl, hc2, k2⟩
        refine ⟨_, rfl, ?_⟩
        obtain ⟨a1, p1, a2, p2, a3, p3, rfl, _⟩ := id hc2.cells
        have kx : Keep [] wx w2 := (Keep.refl _ _).drew.trans k2
        have sy := sx.calm kx
        obtain ⟨lt1, lt2⟩ := sy.lts
        refine hK.out _ _ (fun _ => ⟨kx.cs d3, kx.cs y3, kx.cs cf⟩) (fun _ => ?_)
        clear hK K
        try simp only [Act.put, List.setIfInBounds_toArray, List.set_cons_zero, List.set_cons_succ]
        refine wpAnyB_one (k := 14) rfl (by kernel_rfl) (fun K hK => ?_)
        go_simp
        have kz := kx.alloc (.cells #[.int .i64 tj.n, .slice a1 tj.s.length p1, .bool tj.null, .slice a2 tj.l.length p2, .slice a3 tj.u.length p3] 27)
        refine hK.out _ _ (fun _ => ⟨kz.cs d3, kz.cs y3, kz.cs cf⟩) (fun _ => ?_)
        clear hK K
        try simp only [Act.put, List.setIfInBounds_toArray, List.set_cons_zero, List.set_cons_succ]
        refine wpAnyB_one (k := 15) rfl (by kernel_rfl) (fun K hK => ?_)
        obtain ⟨cs, e1, e2, e3, e4⟩ := (sy.calm (keep_box (.cells #[.int .i64 tj.n, .slice a1 tj.s.length p1, .bool tj.null, .slice a2 tj.l.length p2, .slice a3 tj.u.length p3] 27))).lst
        refine step_append_lies _ (by rfl) (.tmp 107) (.tmp 115) _ (by rfl) w0.heap.size 27 i0 _ 5 88 Tryd.underlying24 hi hz0 hz1 hz2 rfl (by omega) lv _ cs.flatten (by rfl) e4 ⟨w2.heap.size, 0, none⟩ 1 1 [.int .i64 tj.n, .slice a1 tj.s.length p1, .bool tj.null, .slice a2 tj.l.length p2, .slice a3 tj.u.length p3] (by rfl) (by rfl) (World.news_of_block (cs := #[.int .i64 tj.n, .slice a1 tj.s.length p1, .bool tj.null, .slice a2 tj.l.length p2, .slice a3 tj.u.length p3]) (heap_alloc_new w2 _)) hc2.one (by omega) (by unfold maxLen; rw [HLEN.out]; omega) (by rw [HLEN.out]; omega) (by have := sy.keep.size; simp; omega) (w2.heap.size + 1) (by simp) ?_
        intro g cap w3 hown hgr hat hlt3
        obtain ⟨y5, y6⟩ := (sy.calm (keep_box (.cells #[.int .i64 tj.n, .slice a1 tj.s.length p1, .bool tj.null, .slice a2 tj.l.length p2, .slice a3 tj.u.length p3] 27))).row3 (o := 8) rfl hgr
        have d5 := (sy.calm (keep_box (.cells #[.int .i64 tj.n, .slice a1 tj.s.length p1, .bool tj.null, .slice a2 tj.l.length p2, .slice a3 tj.u.length p3] 27))).d3G hgr
        have cf5 := ((hp0.keep (sx.keep.trans kz) (by simp)).grownC hgr (fun e => by have := sx.ownGe e; omega)).cell (o := o + 1) (j := 1) rfl rfl
        refine hK.out _ _ (fun _ => ⟨d5, y5, cf5⟩) (fun _ => ?_)
        clear hK K
        try simp only [Act.put, List.setIfInBounds_toArray, List.set_cons_zero, List.set_cons_succ]
        refine wpAnyB_one (k := 16) rfl (by kernel_rfl) (fun K hK => ?_)
        go_simp
        refine hK.out _ _ (fun _ => ⟨d5, y5, cf5⟩) (fun _ => ?_)
        clear hK K
        try simp only [Act.put, List.setIfInBounds_toArray, List.set_cons_zero, List.set_cons_succ]
        refine wpAnyB_one (k := 17) rfl (by kernel_rfl) (fun K hK => ?_)
        go_simp
        refine hK.out _ _ (fun _ => ⟨d5, y5, cf5⟩) (fun _ => ?_)
        clear hK K
        try simp only [Act.put, List.setIfInBounds_toArray, List.set_cons_zero, List.set_cons_succ]
        refine wpAnyB_one (k := 18) rfl (by kernel_rfl) (fun K hK => ?_)
        go_simp
        refine hK.out _ _ (fun h => absurd rfl h) (fun _ => ?_)
        clear hK K
        refine wpAnyB_done (by kernel_rfl) ?_ _
        all_goals (try go_wp2_with fail)
        all_goals go_roundw
        case rel =>
          have Q := sx.push (o := 8) rfl (kx.alloc (.cells #[.int .i64 tj.n, .slice a1 tj.s.length p1, .bool tj.null, .slice a2 tj.l.length p2, .slice a3 tj.u.length p3] 27)) e1 e2 (hc2.keepF (fun k hk => (keep_box (A := []) _).block k hk.2 (by simp)) (fun k hk => ⟨hk.1, by have := hk.2; simp; omega⟩)) (by rw [HLEN.out]; omega) hown hgr (hat.imp id (fun e => by simp; omega))
          rw [HLEN.out] at Q
          have eT : lx1.take (j + 1) = lx1.take j ++ [tj] := by rw [List.take_succ_eq_append_getElem hlt, HTJ.out]
          rw [← eT] at Q
          first | exact ⟨j + 1, _, by go_num, by omega, Q⟩ | exact ⟨j + 1, _, by go_num, by omega, Q.drew⟩ | exact ⟨j + 1, _, by go_num, by omega, Q.drew.drew⟩
        case measure => simp [intOf]; omega
      · have kb : Keep [] wr ((wr.alloc (Obj.cells #[Value.bool true] 4)).drew) := (keep_box _).drew
        have sx := sc.calm kb
        have KX := KW.trans sx.keep
        generalize ((wr.alloc (Obj.cells #[Value.bool true] 4)).drew) = wx at *
        have d3 := sx.d3
        obtain ⟨y3, y4⟩ := sx.l3 (o := 8) rfl
        obtain ⟨lt1, lt2⟩ := sx.lts
        have cf := (hp0.keep sx.keep (by simp)).cell (o := o + 1) (j := 1) rfl rfl
        have hbl := (hp0.keep sx.keep (by simp)).lt
        obtain ⟨i0, hi, hz0, hz1, hz2⟩ := info_agg info_it zero_it
        go_upto_region 16 with fail
        obtain ⟨xs0, hrow0⟩ := sx.lst.row
        obtain ⟨al, pl, rfl⟩ := owns_shape hrow0
        clear hrow0
        rw [HLEN.out] at sx y3
        refine wp_region_B3 17 (by kernel_rfl) d3 y3 cf (fun hB => ?_)
        refine wpAnyB_take (i := 0) (v := ?_) [0, 1, 15, 16, 17] rfl (by kernel_rfl) (by kernel_rfl) (by kernel_rfl) (by kernel_rfl) (PanOk.put (by repeat (first | exact HPN.out | refine PanOk.inBlock ?_ | refine PanOk.then_ ?_))) hB (Or.inl ⟨by rfl, ?_⟩) ?_
        rotate_left
        · intro wq hq; obtain ⟨q1, q2, q3⟩ := hq; go_simp <;> with_reducible rfl
        try simp only [Act.put, List.setIfInBounds_toArray, List.set_cons_zero, List.set_cons_succ]
        refine wpAnyB_take (i := 1) (v := ?_) [1, 15, 16, 17] rfl (by kernel_rfl) (by kernel_rfl) (by kernel_rfl) (by kernel_rfl) (PanOk.put (by repeat (first | exact HPN.out | refine PanOk.inBlock ?_ | refine PanOk.then_ ?_))) hB (Or.inl ⟨by rfl, ?_⟩) ?_
        rotate_left
        · intro wq hq; obtain ⟨q1, q2, q3⟩ := hq; go_simp <;> with_reducible rfl
        try simp only [Act.put, List.setIfInBounds_toArray, List.set_cons_zero, List.set_cons_succ]
        refine wpAnyB_take (i := 2) (v := ?_) [2, 3, 4, 14, 17] rfl (by kernel_rfl) (by kernel_rfl) (by kernel_rfl) (by kernel_rfl) (PanOk.put (by repeat (first | exact HPN.out | refine PanOk.inBlock ?_ | refine PanOk.then_ ?_))) hB (Or.inl ⟨by rfl, ?_⟩) ?_
        rotate_left
        · intro wq hq; obtain ⟨q1, q2, q3⟩ := hq; go_simp <;> with_reducible rfl
        try simp only [Act.put, List.setIfInBounds_toArray, List.set_cons_zero, List.set_cons_succ]
        refine wpAnyB_take (i := 3) (v := ?_) [3, 4, 14, 17] rfl (by kernel_rfl) (by kernel_rfl) (by kernel_rfl) (by kernel_rfl) (PanOk.put (by repeat (first | exact HPN.out | refine PanOk.inBlock ?_ | refine PanOk.then_ ?_))) hB (Or.inl ⟨by rfl, ?_⟩) ?_
        rotate_left
        · intro wq hq; obtain ⟨q1, q2, q3⟩ := hq; go_simp <;> with_reducible rfl
        try simp only [Act.put, List.setIfInBounds_toArray, List.set_cons_zero, List.set_cons_succ]
        refine wpAnyB_take (i := 4) (v := ?_) [4, 14, 17] rfl (by kernel_rfl) (by kernel_rfl) (by kernel_rfl) (by kernel_rfl) (PanOk.put (by repeat (first | exact HPN.out | refine PanOk.inBlock ?_ | refine PanOk.then_ ?_))) hB (Or.inl ⟨by rfl, ?_⟩) ?_
        rotate_left
        · intro wq hq; obtain ⟨q1, q2, q3⟩ := hq; go_simp <;> with_reducible rfl
        try simp only [Act.put, List.setIfInBounds_toArray, List.set_cons_zero, List.set_cons_succ]
        refine wpAnyB_take (i := 5) (v := ?_) [5, 15, 16, 17] rfl (by kernel_rfl) (by kernel_rfl) (by kernel_rfl) (by kernel_rfl) (PanOk.put (by repeat (first | exact HPN.out | refine PanOk.inBlock ?_ | refine PanOk.then_ ?_))) hB (Or.inl ⟨by rfl, ?_⟩) ?_
        rotate_left
        · intro wq hq; obtain ⟨q1, q2, q3⟩ := hq; go_simp <;> with_reducible rfl
        try simp only [Act.put, List.setIfInBounds_toArray, List.set_cons_zero, List.set_cons_succ]
        refine wpAnyB_take (i := 6) (v := ?_) [6, 15, 16, 17] rfl (by kernel_rfl) (by kernel_rfl) (by kernel_rfl) (by kernel_rfl) (PanOk.put (by repeat (first | exact HPN.out | refine PanOk.inBlock ?_ | refine PanOk.then_ ?_))) hB (Or.inl ⟨by rfl, ?_⟩) ?_
        rotate_left
        · intro wq hq; obtain ⟨q1, q2, q3⟩ := hq; go_simp <;> with_reducible rfl
        try simp only [Act.put, List.setIfInBounds_toArray, List.set_cons_zero, List.set_cons_succ]
        refine wpAnyB_take (i := 7) (v := ?_) [7, 15, 16, 17] rfl (by kernel_rfl) (by kernel_rfl) (by kernel_rfl) (by kernel_rfl) (PanOk.put (by repeat (first | exact HPN.out | refine PanOk.inBlock ?_ | refine PanOk.then_ ?_))) hB (Or.inl ⟨by rfl, ?_⟩) ?_
        rotate_left
        · intro wq hq; obtain ⟨q1, q2, q3⟩ := hq; go_simp <;> with_reducible rfl
        try simp only [Act.put, List.setIfInBounds_toArray, List.set_cons_zero, List.set_cons_succ]
        refine wpAnyB_take (i := 8) (v := ?_) [8, 15, 16, 17] rfl (by kernel_rfl) (by kernel_rfl) (by kernel_rfl) (by kernel_rfl) (PanOk.put (by repeat (first | exact HPN.out | refine PanOk.inBlock ?_ | refine PanOk.then_ ?_))) hB (Or.inl ⟨by rfl, ?_⟩) ?_
        rotate_left
        · intro wq hq; obtain ⟨q1, q2, q3⟩ := hq; go_simp <;> with_reducible rfl
        try simp only [Act.put, List.setIfInBounds_toArray, List.set_cons_zero, List.set_cons_succ]
        refine wpAnyB_take (i := 9) (v := ?_) [9, 15, 16, 17] rfl (by kernel_rfl) (by kernel_rfl) (by kernel_rfl) (by kernel_rfl) (PanOk.put (by repeat (first | exact HPN.out | refine PanOk.inBlock ?_ | refine PanOk.then_ ?_))) hB (Or.inl ⟨by rfl, ?_⟩) ?_
        rotate_left
        · intro wq hq; obtain ⟨q1, q2, q3⟩ := hq; go_simp <;> with_reducible rfl
        try simp only [Act.put, List.setIfInBounds_toArray, List.set_cons_zero, List.set_cons_succ]
        refine wpAnyB_take (i := 10) (v := ?_) [10, 15, 16, 17] rfl (by kernel_rfl) (by kernel_rfl) (by kernel_rfl) (by kernel_rfl) (PanOk.put (by repeat (first | exact HPN.out | refine PanOk.inBlock ?_ | refine PanOk.then_ ?_))) hB (Or.inl ⟨by rfl, ?_⟩) ?_
        rotate_left
        · intro wq hq; obtain ⟨q1, q2, q3⟩ := hq; go_simp <;> with_reducible rfl
        try simp only [Act.put, List.setIfInBounds_toArray, List.set_cons_zero, List.set_cons_succ]
        refine wpAnyB_take (i := 12) (v := ?_) [12, 15, 16, 17] rfl (by kernel_rfl) (by kernel_rfl) (by kernel_rfl) (by kernel_rfl) (PanOk.put (by repeat (first | exact HPN.out | refine PanOk.inBlock ?_ | refine PanOk.then_ ?_))) hB (Or.inl ⟨by rfl, ?_⟩) ?_
        rotate_left
        · intro wq hq; obtain ⟨q1, q2, q3⟩ := hq; go_simp <;> with_reducible rfl
        try simp only [Act.put, List.setIfInBounds_toArray, List.set_cons_zero, List.set_cons_succ]
        refine wpAnyB_two (i := 11) (j := 13) rfl rfl (by kernel_rfl) (fun K hK => ?_) (fun K hK => ?_)
        case refine_1 =>
          (refine step_call (by rfl) 129 #[.tmp 93] #[163] (by rfl) #[.pointer (some ⟨row, j * 3, none⟩)] (by simp [go_sem]) _ (by rfl) dcqb_body dcqb_name (TP _ (by first | exact KX.drew)) ?_; rintro e w2 ⟨c2, rfl, hc2, k2⟩; refine ⟨_, rfl, ?_⟩; obtain ⟨a1, p1, a2, p2, a3, p3, rfl, _⟩ := id hc2.cells; have kx : Keep [] wx w2 := (by first | exact (Keep.refl _ _).drew.trans k2); have hcx : HT w2 (fun k => wx.heap.size ≤ k ∧ k < w2.heap.size) tj [.int .i64 tj.n, .slice a1 tj.s.length p1, .bool tj.null, .slice a2 tj.l.length p2, .slice a3 tj.u.length p3] := hc2.keepF (fun _ _ => rfl) (fun k hk => by have a1 := hk.1; have a2 := hk.2; simp at a1; exact ⟨by omega, a2⟩); have sy := sx.calm kx; have d3 := sy.d3; obtain ⟨lt1, lt2⟩ := sy.lts; obtain ⟨y3, y4⟩ := sy.l3 (o := 8) rfl)
          refine hK.out _ _ (fun _ => ⟨d3, y3, kx.cs cf⟩) (fun _ => ?_)
          clear hK K
          try simp only [Act.put, List.setIfInBounds_toArray, List.set_cons_zero, List.set_cons_succ]
          refine wpAnyB_one (k := 13) rfl (by kernel_rfl) (fun K hK => ?_)
          go_simp
          refine hK.out _ _ (fun _ => ⟨(keep_box (A := []) _).cs d3, (keep_box (A := []) _).cs y3, (keep_box (A := []) _).cs (kx.cs cf)⟩) (fun _ => ?_)
          clear hK K
          try simp only [Act.put, List.setIfInBounds_toArray, List.set_cons_zero, List.set_cons_succ]
          refine wpAnyB_one (k := 14) rfl (by kernel_rfl) (fun K hK => ?_)
          (have _u0 := sy; obtain ⟨cs, e1, e2, e3, e4⟩ := (sy.calm (keep_box (.cells #[.int .i64 0, .slice none 0 0, .bool false, .slice none 0 0, .slice none 0 0] 27))).lst; refine step_append_lies _ (by rfl) (.tmp 87) (.tmp 96) _ (by rfl) w0.heap.size 27 i0 _ 5 88 Tryd.underlying24 hi hz0 hz1 hz2 rfl (by omega) (.slice al j pl) _ cs.flatten (by rfl) e4 ⟨w2.heap.size, 0, none⟩ 1 1 [.int .i64 0, .slice none 0 0, .bool false, .slice none 0 0, .slice none 0 0] (by rfl) (by rfl) (World.news_of_block (cs := #[.int .i64 0, .slice none 0 0, .bool false, .slice none 0 0, .slice none 0 0]) (heap_alloc_new w2 _)) (by simp [Value.oneCell']) (by omega) (by unfold maxLen; rw [HLEN.out]; omega) (by rw [HLEN.out]; omega) (sy.calm (keep_box (.cells #[.int .i64 0, .slice none 0 0, .bool false, .slice none 0 0, .slice none 0 0] 27))).keep.size (w2.heap.size + 1) (by simp) ?_; intro g cap w3 hown hgr hat hlt3; obtain ⟨y3, y4⟩ := (sy.calm (keep_box (.cells #[.int .i64 0, .slice none 0 0, .bool false, .slice none 0 0, .slice none 0 0] 27))).row3 (o := 8) rfl hgr; have d3 := (sy.calm (keep_box (.cells #[.int .i64 0, .slice none 0 0, .bool false, .slice none 0 0, .slice none 0 0] 27))).d3G hgr; have kU : Keep [] wx (w2.alloc (.cells #[.int .i64 0, .slice none 0 0, .bool false, .slice none 0 0, .slice none 0 0] 27)) := kx.alloc _; have cf5 := ((hp0.keep (sx.keep.trans kU) (by simp)).grownC hgr (fun e => by have := sx.ownGe e; omega)).cell (o := o + 1) (j := 1) rfl rfl; have hU : HT (w2.alloc (.cells #[.int .i64 0, .slice none 0 0, .bool false, .slice none 0 0, .slice none 0 0] 27)) (fun k => wx.heap.size ≤ k ∧ k < (w2.alloc (.cells #[.int .i64 0, .slice none 0 0, .bool false, .slice none 0 0, .slice none 0 0] 27)).heap.size) tj [.int .i64 tj.n, .slice a1 tj.s.length p1, .bool tj.null, .slice a2 tj.l.length p2, .slice a3 tj.u.length p3] := hcx.keepF (fun k hk => (keep_box (A := []) _).block k hk.2 (by simp)) (fun k hk => ⟨hk.1, by have := hk.2; simp; omega⟩); have hat2 : (Value.slice al j pl).ownBlock = some g ∨ g = (w2.alloc (.cells #[.int .i64 0, .slice none 0 0, .bool false, .slice none 0 0, .slice none 0 0] 27)).heap.size := hat.imp id (fun e => (by simp; exact e)); rw [HLEN.out] at hown; obtain ⟨⟨cur, hV2, z0, z1, z2, z3, z4⟩, PS⟩ := sx.pushSet (x := tj) (v0 := .int .i64 tj.n) (v1 := .slice a1 tj.s.length p1) (v2 := .bool tj.null) (v3 := .slice a2 tj.l.length p2) (v4 := .slice a3 tj.u.length p3) (o := 8) rfl HLEN.out kU e1 e2 (by omega) hown hgr hat2; have HPS : Hid _ := PS hU; have HV2 : Hid _ := hV2; have HZ : Hid _ := And.intro z0 (And.intro z1 (And.intro z2 (And.intro z3 z4))); clear PS hV2 z0 z1 z2 z3 z4 e1 e2 e3 e4 hown hgr hat hat2 hU kU)
          refine hK.out _ _ (fun _ => ⟨d3, y3, cf5⟩) (fun _ => ?_)
          clear hK K
          try simp only [Act.put, List.setIfInBounds_toArray, List.set_cons_zero, List.set_cons_succ]
          refine wpAnyB_one (k := 15) rfl (by kernel_rfl) (fun K hK => ?_)
          go_simp
          refine hK.out _ _ (fun _ => ⟨d3, y3, cf5⟩) (fun _ => ?_)
          clear hK K
          try simp only [Act.put, List.setIfInBounds_toArray, List.set_cons_zero, List.set_cons_succ]
          refine wpAnyB_one (k := 16) rfl (by kernel_rfl) (fun K hK => ?_)
          go_simp
          refine hK.out _ _ (fun _ => ⟨d3, y3, cf5⟩) (fun _ => ?_)
          clear hK K
          try simp only [Act.put, List.setIfInBounds_toArray, List.set_cons_zero, List.set_cons_succ]
          refine wpAnyB_one (k := 17) rfl (by kernel_rfl) (fun K hK => ?_)
          go_simp
          refine hK.out _ _ (fun h => absurd rfl h) (fun _ => ?_)
          clear hK K
          refine wpAnyB_done (by kernel_rfl) ?_ _
          obtain ⟨z0, z1, z2, z3, z4⟩ := HZ.out
          have q0 := cellOf HV2.out (j * 5) _ z0
          have qf0 := freeOf HV2.out (j * 5)
          have q1 := cellOf HV2.out (j * 5 + 1) _ z1
          have qf1 := freeOf HV2.out (j * 5 + 1)
          have q2 := cellOf HV2.out (j * 5 + 2) _ z2
          have qf2 := freeOf HV2.out (j * 5 + 2)
          have q3 := cellOf HV2.out (j * 5 + 3) _ z3
          have qf3 := freeOf HV2.out (j * 5 + 3)
          have q4 := cellOf HV2.out (j * 5 + 4) _ z4
          have qf4 := freeOf HV2.out (j * 5 + 4)
          clear z0 z1 z2 z3 z4
          go_upto_region 17 with fail
          go_wp2_with fail
          go_roundw
          case rel =>
            have Q := HPS.out
            have eT : lx1.take (j + 1) = lx1.take j ++ [tj] := by rw [List.take_succ_eq_append_getElem hlt, HTJ.out]
            rw [← eT] at Q
            first | exact ⟨j + 1, _, by go_num, by omega, Q⟩ | exact ⟨j + 1, _, by go_num, by omega, Q.drew⟩ | exact ⟨j + 1, _, by go_num, by omega, Q.drew.drew⟩
          case measure => simp [intOf]; omega
        case refine_2 =>
          go_simp
          refine hK.out _ _ (fun _ => ⟨(keep_box (A := []) _).cs d3, (keep_box (A := []) _).cs y3, (keep_box (A := []) _).cs cf⟩) (fun _ => ?_)
          clear hK K
          try simp only [Act.put, List.setIfInBounds_toArray, List.set_cons_zero, List.set_cons_succ]
          refine wpAnyB_one (k := 11) rfl (by kernel_rfl) (fun K hK => ?_)
          (refine step_call (by rfl) 129 #[.tmp 93] #[163] (by rfl) #[.pointer (some ⟨row, j * 3, none⟩)] (by simp [go_sem]) _ (by rfl) dcqb_body dcqb_name (TP _ (by first | exact KX.drew.alloc _)) ?_; rintro e w2 ⟨c2, rfl, hc2, k2⟩; refine ⟨_, rfl, ?_⟩; obtain ⟨a1, p1, a2, p2, a3, p3, rfl, _⟩ := id hc2.cells; have kx : Keep [] wx w2 := (by first | exact ((Keep.refl _ _).drew.alloc _).trans k2); have hzb : w2.heap[wx.heap.size]? = some (.cells #[.int .i64 0, .slice none 0 0, .bool false, .slice none 0 0, .slice none 0 0] 27) := (k2.block wx.heap.size (by simp) (by simp)).trans (heap_alloc_new wx.drew _); have hcx : HT w2 (fun k => wx.heap.size ≤ k ∧ k < w2.heap.size) tj [.int .i64 tj.n, .slice a1 tj.s.length p1, .bool tj.null, .slice a2 tj.l.length p2, .slice a3 tj.u.length p3] := hc2.keepF (fun _ _ => rfl) (fun k hk => by have a1 := hk.1; have a2 := hk.2; simp at a1; exact ⟨by omega, a2⟩); have sy := sx.calm kx; have d3 := sy.d3; obtain ⟨lt1, lt2⟩ := sy.lts; obtain ⟨y3, y4⟩ := sy.l3 (o := 8) rfl)
          refine hK.out _ _ (fun _ => ⟨d3, y3, kx.cs cf⟩) (fun _ => ?_)
          clear hK K
          try simp only [Act.put, List.setIfInBounds_toArray, List.set_cons_zero, List.set_cons_succ]
          refine wpAnyB_one (k := 14) rfl (by kernel_rfl) (fun K hK => ?_)
          (have _u0 := sy; obtain ⟨cs, e1, e2, e3, e4⟩ := (sy).lst; refine step_append_lies _ (by rfl) (.tmp 87) (.tmp 96) _ (by rfl) w0.heap.size 27 i0 _ 5 88 Tryd.underlying24 hi hz0 hz1 hz2 rfl (by omega) (.slice al j pl) _ cs.flatten (by rfl) e4 ⟨wx.heap.size, 0, none⟩ 1 1 [.int .i64 0, .slice none 0 0, .bool false, .slice none 0 0, .slice none 0 0] (by rfl) (by rfl) (World.news_of_block (cs := #[.int .i64 0, .slice none 0 0, .bool false, .slice none 0 0, .slice none 0 0]) hzb) (by simp [Value.oneCell']) (by omega) (by unfold maxLen; rw [HLEN.out]; omega) (by rw [HLEN.out]; omega) (sy).keep.size (w2.heap.size) (by simp) ?_; intro g cap w3 hown hgr hat hlt3; obtain ⟨y3, y4⟩ := (sy).row3 (o := 8) rfl hgr; have d3 := (sy).d3G hgr; have kU : Keep [] wx w2 := kx; have cf5 := ((hp0.keep (sx.keep.trans kU) (by simp)).grownC hgr (fun e => by have := sx.ownGe e; omega)).cell (o := o + 1) (j := 1) rfl rfl; have hU : HT w2 (fun k => wx.heap.size ≤ k ∧ k < w2.heap.size) tj [.int .i64 tj.n, .slice a1 tj.s.length p1, .bool tj.null, .slice a2 tj.l.length p2, .slice a3 tj.u.length p3] := hcx; have hat2 : (Value.slice al j pl).ownBlock = some g ∨ g = w2.heap.size := hat.imp id (fun e => (e)); rw [HLEN.out] at hown; obtain ⟨⟨cur, hV2, z0, z1, z2, z3, z4⟩, PS⟩ := sx.pushSet (x := tj) (v0 := .int .i64 tj.n) (v1 := .slice a1 tj.s.length p1) (v2 := .bool tj.null) (v3 := .slice a2 tj.l.length p2) (v4 := .slice a3 tj.u.length p3) (o := 8) rfl HLEN.out kU e1 e2 (by omega) hown hgr hat2; have HPS : Hid _ := PS hU; have HV2 : Hid _ := hV2; have HZ : Hid _ := And.intro z0 (And.intro z1 (And.intro z2 (And.intro z3 z4))); clear PS hV2 z0 z1 z2 z3 z4 e1 e2 e3 e4 hown hgr hat hat2 hU kU)
          refine hK.out _ _ (fun _ => ⟨d3, y3, cf5⟩) (fun _ => ?_)
          clear hK K
          try simp only [Act.put, List.setIfInBounds_toArray, List.set_cons_zero, List.set_cons_succ]
          refine wpAnyB_one (k := 15) rfl (by kernel_rfl) (fun K hK => ?_)
          go_simp
          refine hK.out _ _ (fun _ => ⟨d3, y3, cf5⟩) (fun _ => ?_)
          clear hK K
          try simp only [Act.put, List.setIfInBounds_toArray, List.set_cons_zero, List.set_cons_succ]
          refine wpAnyB_one (k := 16) rfl (by kernel_rfl) (fun K hK => ?_)
          go_simp
          refine hK.out _ _ (fun _ => ⟨d3, y3, cf5⟩) (fun _ => ?_)
          clear hK K
          try simp only [Act.put, List.setIfInBounds_toArray, List.set_cons_zero, List.set_cons_succ]
          refine wpAnyB_one (k := 17) rfl (by kernel_rfl) (fun K hK => ?_)
          go_simp
          refine hK.out _ _ (fun h => absurd rfl h) (fun _ => ?_)
          clear hK K
          refine wpAnyB_done (by kernel_rfl) ?_ _
          obtain ⟨z0, z1, z2, z3, z4⟩ := HZ.out
          have q0 := cellOf HV2.out (j * 5) _ z0
          have qf0 := freeOf HV2.out (j * 5)
          have q1 := cellOf HV2.out (j * 5 + 1) _ z1
          have qf1 := freeOf HV2.out (j * 5 + 1)
          have q2 := cellOf HV2.out (j * 5 + 2) _ z2
          have qf2 := freeOf HV2.out (j * 5 + 2)
          have q3 := cellOf HV2.out (j * 5 + 3) _ z3
          have qf3 := freeOf HV2.out (j * 5 + 3)
          have q4 := cellOf HV2.out (j * 5 + 4) _ z4
          have qf4 := freeOf HV2.out (j * 5 + 4)
          clear z0 z1 z2 z3 z4
          go_upto_region 17 with fail
          go_wp2_with fail
          go_roundw
          case rel =>
            have Q := HPS.out
            have eT : lx1.take (j + 1) = lx1.take j ++ [tj] := by rw [List.take_succ_eq_append_getElem hlt, HTJ.out]
            rw [← eT] at Q
            first | exact ⟨j + 1, _, by go_num, by omega, Q⟩ | exact ⟨j + 1, _, by go_num, by omega, Q.drew⟩ | exact ⟨j + 1, _, by go_num, by omega, Q.drew.drew⟩
          case measure => simp [intOf]; omega
    · have hnl : lx1.take j = lx1 := List.take_of_length_le (by omega)
      rw [hnl] at sc
      have scl := sc.close
      clear sc hnl s3
      go_wp2_with fail
      exact HEX.out _ _ _ _ _ _ _ _ _ _ _ _ _ _ _ _ _ _ _ _ _ _ _ _ _ _ _ _ _ _ _ _ _ _ _ _ _ _ _ _ _ _ _ _ scl
set_option maxHeartbeats 20000000 in
set_option maxRecDepth 100000 in
theorem dcqc_tell {G : Nat → Prop} {b o : Nat} {c : List Value} {t : T} {w : World} (hp : Pt w b o c) (hv : VK w G 10 (-1) (VFs w G q_DescribeClientQuotasResponseEntry) c t) (hG : There G w) (hs : small 1000000 t) :
    Calls Tryd.prog 80 #[.pointer (some ⟨b, o, none⟩)] w fun e w' => ∃ c', e = .returned (.agg c'.toArray) ∧ HT w' (fun k => w.heap.size ≤ k ∧ k < w'.heap.size) t c' ∧ Keep [] w w' := by
  obtain ⟨cs, tv, l, tags, rfl, hf, hmp, rfl⟩ : ∃ cs v l u, c = cs ++ [v] ∧ VFs w G q_DescribeClientQuotasResponseEntry cs l ∧ MP w G v u ∧ t = .mk 0 [] false l u := hv
  simp only [small] at hs
  obtain ⟨_, _, ht2, ht1, hsl⟩ := hs
  unfold q_DescribeClientQuotasResponseEntry at hf
  obtain ⟨c0, cr0, t0, l0, rfl, rfl, hf0, hr0⟩ := hf
  have hf := hr0
  obtain ⟨c1, cr1, t1, l1, rfl, rfl, hf1, hr1⟩ := hf
  have hf := hr1
  obtain ⟨rfl, rfl⟩ := hf
  clear hr0
  clear hr1
  have hs0 : small 1000000 t0 := smalls_mem hsl _ (by simp)
  obtain ⟨n0, rfl, vl0⟩ := vf_list_inv hf0
  have hs1 : small 1000000 t1 := smalls_mem hsl _ (by simp)
  obtain ⟨n1, rfl, vl1⟩ := vf_list_inv hf1
  clear hf0 hf1 hsl
  simp only [List.cons_append, List.nil_append] at hp
  have hpl := hp.lt
  have hmk := dcqc_make
  go_enter Tryd.func80, Tryd.ntmps80
  go_upto_region 2 with fail
  clear hmk
  obtain ⟨w0, hw0⟩ : ∃ x, x = (w.alloc (.cells #[.int .i64 0, .slice none 0 0, .bool false, .slice none 0 0, .slice none 0 0] 27)) := ⟨_, rfl⟩
  have hz0 : w0.heap.size = w.heap.size + 1 := by rw [hw0]; simp
  have KW : Keep [] w w0 := by rw [hw0]; exact keep_box _
  have hr0 : w0.heap[w.heap.size]? = some (.cells #[.int .i64 0, .slice none 0 0, .bool false, .slice none 0 0, .slice none 0 0] 27 (0, 0)) := by rw [hw0]; exact heap_alloc_new w _
  have s0 : TlSt w0 (((w.alloc (.cells #[.int .i64 0, .slice none 0 0, .bool false, .slice none 0 0, .slice none 0 0] 27)).alloc (.cells #[.int .i64 0, .slice none 0 0, .bool false, .slice none 0 0, .slice none 0 0, .int .i64 0, .slice none 0 0, .bool false, .slice none 0 0, .slice none 0 0] 27)).alloc (.cells #[.int .i64 0, .slice none 0 0, .bool false, .slice (some ⟨w.heap.size + 1, 0, none⟩) 2 2, .slice none 0 0] 27)) (w.heap.size + 1 + 1) (w.heap.size + 1) 2 [] [.int .i64 0, .slice none 0 0, .bool false, .slice none 0 0, .slice none 0 0, .int .i64 0, .slice none 0 0, .bool false, .slice none 0 0, .slice none 0 0] := by rw [← hw0]; exact TlSt.start hz0
  have hp0 := hp.keep KW (by simp)
  have hG0 : There G w0 := hG.mono KW.size
  clear hw0
  generalize (((w.alloc (.cells #[.int .i64 0, .slice none 0 0, .bool false, .slice none 0 0, .slice none 0 0] 27)).alloc (.cells #[.int .i64 0, .slice none 0 0, .bool false, .slice none 0 0, .slice none 0 0, .int .i64 0, .slice none 0 0, .bool false, .slice none 0 0, .slice none 0 0] 27)).alloc (.cells #[.int .i64 0, .slice none 0 0, .bool false, .slice (some ⟨w.heap.size + 1, 0, none⟩) 2 2, .slice none 0 0] 27)) = U0 at *
  obtain ⟨nu0, css0, lx0, eq0, ev0, hrw0, hnil0, rfl⟩ := vl0
  have hrs0 := hrw0.shape
  obtain ⟨ao0, cp0, rfl, hcp0, hcn0⟩ := hrs0
  rw [eq0] at hrw0 hcp0 hcn0 hnil0 hp0
  have HEQ0 : Hid _ := eq0
  clear eq0
  have EQN : ∀ u, (Sem.run Tryd.prog (binOp .eql 117 (.slice ao0 lx0.length cp0) (.slice none 0 0)) u) = .ok (.bool nu0) u := by
    intro u
    cases ao0 with
    | none =>
      obtain ⟨z1, z2⟩ := hcn0 rfl
      rw [show nu0 = true from hnil0.1 (by rw [z1, z2]), z1, z2]
      exact Lib.run_eql_slice_nil u 117 162 none 0 0 0 0 Tryd.underlying117
    | some a =>
      have hf : nu0 = false := by
        cases hn : nu0 with
        | true => exact absurd (hnil0.2 hn) (by simp)
        | false => rfl
      rw [hf]
      exact Lib.run_eql_slice_nil u 117 162 (some a) lx0.length cp0 0 0 Tryd.underlying117
  obtain ⟨_, hll0, _, _, hsl0⟩ := hs0
  go_upto_region 2 with fail
  go_cut [] (fun wx => TlCur w0 wx (w.heap.size + 1 + 1) (w.heap.size + 1) 2 [] nu0 (.slice none 0 0) [] [.int .i64 0, .slice none 0 0, .bool false, .slice none 0 0, .slice none 0 0])
  case first =>
    have d3 := s0.d3
    obtain ⟨lt1, lt2⟩ := s0.lts
    obtain ⟨e0, g0⟩ := s0.at_ (o := 0) (j := 0) rfl rfl
    obtain ⟨e1, g1⟩ := s0.at_ (o := 1) (j := 1) rfl rfl
    obtain ⟨e2, g2⟩ := s0.at_ (o := 2) (j := 2) rfl rfl
    obtain ⟨e3, g3⟩ := s0.at_ (o := 3) (j := 3) rfl rfl
    obtain ⟨e4, g4⟩ := s0.at_ (o := 4) (j := 4) rfl rfl
    have cf := (hp0.keep s0.keep (by simp)).cell (o := o) (j := 0) rfl rfl
    go_region
    all_goals (try go_wp2_with fail)
    all_goals go_meet
    all_goals (have Q := s0.open (o := 2) rfl nu0; exact (by first | exact Q | exact Q.drew | exact Q.drew.drew | exact Q.drew.drew.drew | exact Q.drew.drew.drew.drew))
  case rest =>
    have s1 := hcut
    clear hcut EQN s0
    obtain ⟨U1, rfl⟩ : ∃ x : World, x = wc := ⟨_, rfl⟩
    have cf := (hp0.keep s1.keep (by simp)).cell (o := o) (j := 0) rfl rfl
    go_wp2_with fail
    refine dcqc_lp0 KW hG hz0 hpl hp0 HEQ0 ev0 hrw0 hll0 hsl0 s1 ?hpan ?hexit
    case hpan =>
      show PanOk _
      repeat (first | exact PanOk.post | refine PanOk.inBlock ?_ | refine PanOk.then_ ?_)
    case hexit =>
      intro wr y4 y22 y23 y24 y25 y26 y27 y28 y29 y30 y31 y32 y33 y34 y35 y36 y37 y38 y39 y40 y41 y42 y43 y44 y45 y46 y47 y48 y49 y50 y51 y52 y53 y54 y55 y56 y57 y58 y59 y60 y61 y62 y63 scl
      clear cf s1
      have s2 := scl
      clear scl
      obtain ⟨U2, rfl⟩ : ∃ x : World, x = wr := ⟨_, rfl⟩
      obtain ⟨nu1, css1, lx1, eq1, ev1, hrw1, hnil1, rfl⟩ := vl1
      have hrs1 := hrw1.shape
      obtain ⟨ao1, cp1, rfl, hcp1, hcn1⟩ := hrs1
      rw [eq1] at hrw1 hcp1 hcn1 hnil1 hp0
      have HEQ1 : Hid _ := eq1
      clear eq1
      have EQN : ∀ u, (Sem.run Tryd.prog (binOp .eql 118 (.slice ao1 lx1.length cp1) (.slice none 0 0)) u) = .ok (.bool nu1) u := by
        intro u
        cases ao1 with
        | none =>
          obtain ⟨z1, z2⟩ := hcn1 rfl
          rw [show nu1 = true from hnil1.1 (by rw [z1, z2]), z1, z2]
          exact Lib.run_eql_slice_nil u 118 165 none 0 0 0 0 Tryd.underlying118
        | some a =>
          have hf : nu1 = false := by
            cases hn : nu1 with
            | true => exact absurd (hnil1.2 hn) (by simp)
            | false => rfl
          rw [hf]
          exact Lib.run_eql_slice_nil u 118 165 (some a) lx1.length cp1 0 0 Tryd.underlying118
      obtain ⟨_, hll1, _, _, hsl1⟩ := hs1
      go_upto_region 11 with fail
      go_cut [] (fun wx => TlCur w0 wx (w.heap.size + 1 + 1) (w.heap.size + 1) 2 [(.mk 0 [] nu0 lx0 [])] nu1 (.slice none 0 0) [] [])
      case first =>
        have d3 := s2.d3
        obtain ⟨lt1, lt2⟩ := s2.lts
        obtain ⟨e0, g0⟩ := s2.at_ (o := 5) (j := 0) rfl rfl
        obtain ⟨e1, g1⟩ := s2.at_ (o := 6) (j := 1) rfl rfl
        obtain ⟨e2, g2⟩ := s2.at_ (o := 7) (j := 2) rfl rfl
        obtain ⟨e3, g3⟩ := s2.at_ (o := 8) (j := 3) rfl rfl
        obtain ⟨e4, g4⟩ := s2.at_ (o := 9) (j := 4) rfl rfl
        have cf := (hp0.keep s2.keep (by simp)).cell (o := o + 1) (j := 1) rfl rfl
        go_region
        all_goals (try go_wp2_with fail)
        all_goals go_meet
        all_goals (have Q := s2.open (o := 7) rfl nu1; exact (by first | exact Q | exact Q.drew | exact Q.drew.drew | exact Q.drew.drew.drew | exact Q.drew.drew.drew.drew))
      case rest =>
        have s3 := hcut
        clear hcut EQN s2
        obtain ⟨U3, rfl⟩ : ∃ x : World, x = wc := ⟨_, rfl⟩
        have cf := (hp0.keep s3.keep (by simp)).cell (o := o + 1) (j := 1) rfl rfl
        go_wp2_with fail
        refine dcqc_lp1 KW hG hz0 hpl hp0 HEQ1 ev1 hrw1 hll1 hsl1 s3 ?hpan ?hexit
        case hpan =>
          show PanOk _
          repeat (first | exact PanOk.post | refine PanOk.inBlock ?_ | refine PanOk.then_ ?_)
        case hexit =>
          intro wr y5 y78 y79 y80 y81 y82 y83 y84 y85 y86 y87 y88 y89 y90 y91 y92 y93 y94 y95 y96 y97 y98 y99 y100 y101 y102 y103 y104 y105 y106 y107 y108 y109 y110 y111 y112 y113 y114 y115 y116 y117 y118 y119 scl
          clear cf s3
          have s4 := scl
          clear scl
          obtain ⟨U4, rfl⟩ : ∃ x : World, x = wr := ⟨_, rfl⟩
          obtain ⟨arr, ty, hb1, hb2⟩ := (hp0.keep s4.keep (by simp)).whole (o := o + 2) (j := 2) rfl rfl
          have KU := KW.trans s4.keep
          have hmn : MP U4 G tv tags := hmp.keepF (hG.same KU) (fun _ h => h)
          have EACH := tell_each (i := o + 2) (fn := 130) s4.tree hb1 hb2 hmn (hG.mono KU.size) (by omega) (fun h => by have := hG _ h; omega) ht1 ht2 (enters_of Tryd.func130 (by kernel_rfl) rfl) (fun h hx hk hv hd => dcqc_tag h hx hk hv hd (World.heap_lt s4.tree))
          have hris := hmp.rising
          have zE : w.heap.size + 1 + 1 + 1 ≤ U4.heap.size := World.heap_lt s4.tree
          have HR0 : Hid _ := hr0
          clear hb1 hb2 hmn hr0
          go_wp2_with (first
            | (go_at_call 62; go_loud (refine EACH.mono ?_; rintro e We ⟨rfl, u, q2, hog, ke⟩; obtain ⟨_, _, _, _, _, hrow⟩ := id hog; obtain ⟨au, pu, rfl⟩ := owns_shape hrow; have hze := ke.size; have q4 : We.cell? ⟨w.heap.size + 1 + 1, 4, none⟩ = some (.slice au tags.length pu) := cellOf q2 4 _ rfl; have hgs : HGs We (fun k => w.heap.size ≤ k ∧ k < We.heap.size) (.slice au tags.length pu) tags := hog.hgs (fun k hk => ⟨by omega, hk.2⟩) (fun k h1 h2 => ⟨by omega, h2⟩); have SO := sorted_any hgs (fun k hk => hk.2) hris.1; have Q2 : Hid _ := q2; clear q2))
            | (go_at_call 64; go_loud (refine SO.mono ?_; rintro e Ws ⟨rfl, ks⟩; have hzs := ks.size; have g2 := (ks.block (w.heap.size + 1 + 1) (World.heap_lt Q2.out) (by simp)).trans Q2.out; have g0 := (ks.block (w.heap.size) (by omega) (by simp)).trans ((ke.block (w.heap.size) (by omega) (by simp; omega)).trans ((s4.keep.block (w.heap.size) (by omega) (by simp)).trans HR0.out)); have a0 : Ws.cell? ⟨w.heap.size + 1 + 1, 0, none⟩ = some (.int .i64 0) := cellOf g2 0 _ rfl; have a1 : Ws.cell? ⟨w.heap.size + 1 + 1, 1, none⟩ = some (.slice none 0 0) := cellOf g2 1 _ rfl; have a2 : Ws.cell? ⟨w.heap.size + 1 + 1, 2, none⟩ = some (.bool false) := cellOf g2 2 _ rfl; have a3 : Ws.cell? ⟨w.heap.size + 1 + 1, 3, none⟩ = some (.slice (some ⟨w.heap.size + 1, 0, none⟩) 2 2) := cellOf g2 3 _ rfl; have a4 : Ws.cell? ⟨w.heap.size + 1 + 1, 4, none⟩ = some (.slice au tags.length pu) := cellOf g2 4 _ rfl;  have p0 : Ws.cell? ⟨w.heap.size, 0, none⟩ = some (.int .i64 0) := cellOf g0 0 _ rfl; have pf0 := freeOf g0 0; have p1 : Ws.cell? ⟨w.heap.size, 1, none⟩ = some (.slice none 0 0) := cellOf g0 1 _ rfl; have pf1 := freeOf g0 1; have p2 : Ws.cell? ⟨w.heap.size, 2, none⟩ = some (.bool false) := cellOf g0 2 _ rfl; have pf2 := freeOf g0 2; have p3 : Ws.cell? ⟨w.heap.size, 3, none⟩ = some (.slice none 0 0) := cellOf g0 3 _ rfl; have pf3 := freeOf g0 3; have p4 : Ws.cell? ⟨w.heap.size, 4, none⟩ = some (.slice none 0 0) := cellOf g0 4 _ rfl; have pf4 := freeOf g0 4;  have G0 : Hid _ := g0; clear g0 g2 q4)))
          have hr : (((((Ws.setCell ⟨w.heap.size, 0, none⟩ (.int .i64 0)).setCell ⟨w.heap.size, 1, none⟩ (.slice none 0 0)).setCell ⟨w.heap.size, 2, none⟩ (.bool false)).setCell ⟨w.heap.size, 3, none⟩ (.slice (some ⟨w.heap.size + 1, 0, none⟩) 2 2)).setCell ⟨w.heap.size, 4, none⟩ (.slice au tags.length pu)).heap[w.heap.size]? = some (.cells #[.int .i64 0, .slice none 0 0, .bool false, .slice (some ⟨w.heap.size + 1, 0, none⟩) 2 2, .slice au tags.length pu] 27 (0, 0)) := (set5 (o := 0) G0.out).1
          have kr : Keep [w.heap.size] Ws (((((Ws.setCell ⟨w.heap.size, 0, none⟩ (.int .i64 0)).setCell ⟨w.heap.size, 1, none⟩ (.slice none 0 0)).setCell ⟨w.heap.size, 2, none⟩ (.bool false)).setCell ⟨w.heap.size, 3, none⟩ (.slice (some ⟨w.heap.size + 1, 0, none⟩) 2 2)).setCell ⟨w.heap.size, 4, none⟩ (.slice au tags.length pu)) := (set5 (o := 0) G0.out).2
          clear a0 a1 a2 a3 a4 p0 p1 p2 p3 p4 pf0 pf1 pf2 pf3 pf4
          generalize (((((Ws.setCell ⟨w.heap.size, 0, none⟩ (.int .i64 0)).setCell ⟨w.heap.size, 1, none⟩ (.slice none 0 0)).setCell ⟨w.heap.size, 2, none⟩ (.bool false)).setCell ⟨w.heap.size, 3, none⟩ (.slice (some ⟨w.heap.size + 1, 0, none⟩) 2 2)).setCell ⟨w.heap.size, 4, none⟩ (.slice au tags.length pu)) = Wr at *
          have r0 : Wr.cell? ⟨w.heap.size, 0, none⟩ = some (.int .i64 0) := cellOf hr 0 _ rfl
          have r1 : Wr.cell? ⟨w.heap.size, 1, none⟩ = some (.slice none 0 0) := cellOf hr 1 _ rfl
          have r2 : Wr.cell? ⟨w.heap.size, 2, none⟩ = some (.bool false) := cellOf hr 2 _ rfl
          have r3 : Wr.cell? ⟨w.heap.size, 3, none⟩ = some (.slice (some ⟨w.heap.size + 1, 0, none⟩) 2 2) := cellOf hr 3 _ rfl
          have r4 : Wr.cell? ⟨w.heap.size, 4, none⟩ = some (.slice au tags.length pu) := cellOf hr 4 _ rfl
          have hzr := kr.size
          obtain ⟨css, c1, c2, c3⟩ := s4.row
          have hlb := World.heap_lt c3
          have kA : ∀ k, k < U4.heap.size → k ≠ w.heap.size + 1 + 1 → w.heap.size < k → Wr.heap[k]? = U4.heap[k]? := fun k h1 h2 h3 => (kr.block k (by omega) (by simp; omega)).trans ((ks.block k (by omega) (by simp)).trans (ke.block k h1 (by simp; omega)))
          have hA := (kA (w.heap.size + 1) hlb (by omega) (by omega)).trans c3
          have hgr : HGs Wr (fun k => w.heap.size ≤ k ∧ k < Wr.heap.size) (.slice au tags.length pu) tags := by
            have h1 := hog.hgs (G' := fun k => w.heap.size + 1 + 1 < k ∧ k < We.heap.size) (fun k hk => ⟨by omega, hk.2⟩) (fun k h1 h2 => ⟨by omega, h2⟩)
            exact h1.keepF (fun k hk => (kr.block k (by omega) (by simp; omega)).trans (ks.block k hk.2 (by simp))) (fun k hk => ⟨by omega, by omega⟩)
          have KR : Keep [] w Wr := Keep.fresh (B := []) ((KU.weaken (B := [w.heap.size, w.heap.size + 1 + 1]) (by simp)).trans ((ke.weaken (by simp)).trans ((ks.weaken (by simp)).trans (kr.weaken (by simp))))) (by simp; omega)
          refine bodyPost_ret (v := .agg #[.int .i64 0, .slice none 0 0, .bool false, .slice (some ⟨w.heap.size + 1, 0, none⟩) 2 2, .slice au tags.length pu]) (by simp [results, Tryd.results80, go_sem, r0, r1, r2, r3, r4]) rfl ⟨[.int .i64 0, .slice none 0 0, .bool false, .slice (some ⟨w.heap.size + 1, 0, none⟩) 2 2, .slice au tags.length pu], rfl, ?_, KR⟩
          have hlt := World.heap_lt hA
          refine HT.of 0 [] false _ tags (RB.nil _ _) ?_ hgr (by decide) (by decide) (by decide) (by simp)
          exact HTs.block (w := Wr) (cs := css) hA (by simp) ⟨by omega, hlt⟩ rfl c1 (fun i a c => (c2 i a c).keepF (fun k hk => kA k hk.2.1 hk.2.2.1 (by have := hk.1; omega)) (fun k hk => ⟨by have := hk.1; omega, by have := hk.2.1; omega⟩)) (by simp)
end Go.Proofs.YtodbdecpacdgiaaDoor
