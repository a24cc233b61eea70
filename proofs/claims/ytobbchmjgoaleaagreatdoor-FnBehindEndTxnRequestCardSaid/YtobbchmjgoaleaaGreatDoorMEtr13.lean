/-
  kbin.AppendCompactString, AppendNullableString, .. , the lengths of lists, octets: onto octets of the call's own.
-/
import Derived.Test.YtobbchmjgoaleaaGreatDoorMEtr12
import Derived.Test.YtobbchmjgoaleaaGreatDoorMEtr7
import Derived.Test.YtobbchmjgoaleaaGreatDoorMEtr5
import Derived.Test.YtobbchmjgoaleaaGreatDoorProg
import Derived.Shelf.GgSortFunc.Whole
namespace Go.Proofs.YtobbchmjgoaleaaGreatDoor
open Go.ChangeShapes Go.WideShapes Go.ChangeAt Go.RowKit

def nstrP : Option Bs → Bs
  | none => fixedP (-1) 2
  | some s => fixedP s.length 2 ++ s
def cnstrP : Option Bs → Bs
  | none => [0]
  | some s => uvarP (s.length + 1) ++ s
theorem cast1 (n : Nat) : ((1 + n : Nat) : Int) = 1 + (n : Int) := by omega
set_option maxHeartbeats 400000 in
set_option maxRecDepth 100000 in
theorem appcstr_any {B : Nat} {v : Value} {acc s : Bs} {w : World} (ho : OB w B v acc) (hB : B ≤ w.heap.size) (hl : acc.length ≤ 17592186044416) (hs : s.length ≤ 1000000) :
    Calls Tryz.prog 143 #[v, str s] w fun e w' => ∃ v', e = .returned v' ∧ OB w' B v' (acc ++ (uvarP (s.length + 1) ++ s)) ∧ Below B w w' := by
  have AP := appuv_any (n := 1 + s.length) ho hB (by omega) (by omega)
  rw [cast1] at AP
  have hsz := str_size s
  have hul : (uvarP (1 + s.length)).length ≤ 10 := uvarP_short (by omega)
  go_enter Tryz.func143, Tryz.ntmps143
  unfold str
  go_wp2_with (first
    | (go_at_call 138; go_loud (refine AP.mono ?_; rintro e w1 ⟨v1, rfl, h1, b1⟩))
    | (at_builtin; go_loud (refine app_text rfl _ _ rfl B _ (acc ++ uvarP (1 + s.length)) rfl h1 s rfl (by rw [List.length_append]; omega) (Nat.le_trans hB b1.size) ?_; intro v2 w2 h2 g2)))
  go_ret
  exact ⟨_, rfl, by rw [← List.append_assoc, Nat.add_comm s.length 1]; exact h2, below_grown b1 hB h1 g2⟩
set_option maxHeartbeats 400000 in
set_option maxRecDepth 100000 in
theorem appnstr_any {G : Nat → Prop} {B : Nat} {v p : Value} {acc : Bs} {o : Option Bs} {w : World} (ho : OB w B v acc) (hp : PS w G p o) (hB : B ≤ w.heap.size) (hl : acc.length ≤ 17592186044416) (hs : ∀ x, o = some x → x.length ≤ 1000000) :
    Calls Tryz.prog 137 #[v, p] w fun e w' => ∃ v', e = .returned v' ∧ OB w' B v' (acc ++ nstrP o) ∧ Below B w w' := by
  rcases hp with ⟨rfl, rfl⟩ | ⟨k, s, rfl, rfl, _, hk⟩
  · have AP := appi16_any (n := -1) ho hB (by omega)
    go_enter Tryz.func137, Tryz.ntmps137
    go_wp2_with (go_at_call 135; go_loud (refine AP.mono ?_; rintro e w1 ⟨v1, rfl, h1, b1⟩))
    go_ret
    exact ⟨_, rfl, h1, b1⟩
  · have AP := appstr_any (s := s) ho hB hl (by have := hs s rfl; omega)
    have c0 : w.cell? ⟨k, 0, none⟩ = some (str s) := cellOf hk 0 _ rfl
    clear hs hk
    unfold str at c0 AP
    go_enter Tryz.func137, Tryz.ntmps137
    go_wp2_with (go_at_call 144; go_loud (refine AP.mono ?_; rintro e w1 ⟨v1, rfl, h1, b1⟩))
    go_ret
    exact ⟨_, rfl, h1, b1⟩
theorem uvar0 : uvarP 0 = [0] := by rw [uvarP_small (by omega)]; rfl
set_option maxHeartbeats 400000 in
set_option maxRecDepth 100000 in
theorem appcnstr_any {G : Nat → Prop} {B : Nat} {v p : Value} {acc : Bs} {o : Option Bs} {w : World} (ho : OB w B v acc) (hp : PS w G p o) (hB : B ≤ w.heap.size) (hl : acc.length ≤ 17592186044416) (hs : ∀ x, o = some x → x.length ≤ 1000000) :
    Calls Tryz.prog 136 #[v, p] w fun e w' => ∃ v', e = .returned v' ∧ OB w' B v' (acc ++ cnstrP o) ∧ Below B w w' := by
  rcases hp with ⟨rfl, rfl⟩ | ⟨k, s, rfl, rfl, _, hk⟩
  · have AP := appuv_any (n := 0) ho hB (by omega) (by omega)
    rw [uvar0] at AP
    simp only [Int.natCast_zero] at AP
    go_enter Tryz.func136, Tryz.ntmps136
    go_wp2_with (go_at_call 138; go_loud (refine AP.mono ?_; rintro e w1 ⟨v1, rfl, h1, b1⟩))
    go_ret
    exact ⟨_, rfl, h1, b1⟩
  · have AP := appcstr_any (s := s) ho hB hl (hs s rfl)
    have c0 : w.cell? ⟨k, 0, none⟩ = some (str s) := cellOf hk 0 _ rfl
    clear hs hk
    unfold str at c0 AP
    go_enter Tryz.func136, Tryz.ntmps136
    go_wp2_with (go_at_call 143; go_loud (refine AP.mono ?_; rintro e w1 ⟨v1, rfl, h1, b1⟩))
    go_ret
    exact ⟨_, rfl, h1, b1⟩
theorem wrap_i32s (n : Nat) (h : n ≤ 1000000) : IntKind.i32.wrap (n : Int) = n := by rw [IntKind.wrap_i32]; omega
set_option maxHeartbeats 400000 in
theorem applen_any {B : Nat} {v : Value} {acc : Bs} {n : Nat} {w : World} (ho : OB w B v acc) (hB : B ≤ w.heap.size) (hl : acc.length ≤ 17592186044416) (hn : n ≤ 1000000) :
    Calls Tryz.prog 152 #[v, .int .i64 (n : Int)] w fun e w' => ∃ v', e = .returned v' ∧ OB w' B v' (acc ++ fixedP n 4) ∧ Below B w w' := by
  have AP := appi32_any (n := (n : Int)) ho hB (by omega)
  go_enter Tryz.func152, Tryz.ntmps152
  go_wp2_with (go_at_call 134; go_loud (refine AP.mono ?_; rintro e w1 ⟨v1, rfl, h1, b1⟩))
  go_ret
  exact ⟨_, rfl, h1, b1⟩
set_option maxHeartbeats 400000 in
theorem appclen_any {B : Nat} {v : Value} {acc : Bs} {n : Nat} {w : World} (ho : OB w B v acc) (hB : B ≤ w.heap.size) (hl : acc.length ≤ 17592186044416) (hn : n ≤ 1000000) :
    Calls Tryz.prog 151 #[v, .int .i64 (n : Int)] w fun e w' => ∃ v', e = .returned v' ∧ OB w' B v' (acc ++ uvarP (n + 1)) ∧ Below B w w' := by
  have AP := appuv_any (n := 1 + n) ho hB (by omega) (by omega)
  rw [cast1] at AP
  go_enter Tryz.func151, Tryz.ntmps151
  go_wp2_with (go_at_call 138; go_loud (refine AP.mono ?_; rintro e w1 ⟨v1, rfl, h1, b1⟩))
  go_ret
  exact ⟨_, rfl, by rw [Nat.add_comm n 1]; exact h1, b1⟩
set_option maxHeartbeats 400000 in
theorem appnlen_any {B : Nat} {v : Value} {acc : Bs} {n : Nat} {b : Bool} {w : World} (ho : OB w B v acc) (hB : B ≤ w.heap.size) (hl : acc.length ≤ 17592186044416) (hn : n ≤ 1000000) :
    Calls Tryz.prog 156 #[v, .int .i64 (n : Int), .bool b] w fun e w' => ∃ v', e = .returned v' ∧ OB w' B v' (acc ++ (if b then fixedP (-1) 4 else fixedP n 4)) ∧ Below B w w' := by
  cases b with
  | true =>
    have AP := appi32_any (n := -1) ho hB (by omega)
    go_enter Tryz.func156, Tryz.ntmps156
    go_wp2_with (go_at_call 134; go_loud (refine AP.mono ?_; rintro e w1 ⟨v1, rfl, h1, b1⟩))
    go_ret
    exact ⟨_, rfl, h1, b1⟩
  | false =>
    have AP := appi32_any (n := (n : Int)) ho hB (by omega)
    go_enter Tryz.func156, Tryz.ntmps156
    go_wp2_with (go_at_call 134; go_loud (refine AP.mono ?_; rintro e w1 ⟨v1, rfl, h1, b1⟩))
    go_ret
    exact ⟨_, rfl, h1, b1⟩
set_option maxHeartbeats 400000 in
theorem appcnlen_any {B : Nat} {v : Value} {acc : Bs} {n : Nat} {b : Bool} {w : World} (ho : OB w B v acc) (hB : B ≤ w.heap.size) (hl : acc.length ≤ 17592186044416) (hn : n ≤ 1000000) :
    Calls Tryz.prog 155 #[v, .int .i64 (n : Int), .bool b] w fun e w' => ∃ v', e = .returned v' ∧ OB w' B v' (acc ++ (if b then [0] else uvarP (n + 1))) ∧ Below B w w' := by
  cases b with
  | true =>
    have AP := appuv_any (n := 0) ho hB (by omega) (by omega)
    rw [uvar0] at AP
    simp only [Int.natCast_zero] at AP
    go_enter Tryz.func155, Tryz.ntmps155
    go_wp2_with (go_at_call 138; go_loud (refine AP.mono ?_; rintro e w1 ⟨v1, rfl, h1, b1⟩))
    go_ret
    exact ⟨_, rfl, h1, b1⟩
  | false =>
    have AP := appuv_any (n := 1 + n) ho hB (by omega) (by omega)
    rw [cast1] at AP
    go_enter Tryz.func155, Tryz.ntmps155
    go_wp2_with (go_at_call 138; go_loud (refine AP.mono ?_; rintro e w1 ⟨v1, rfl, h1, b1⟩))
    go_ret
    exact ⟨_, rfl, by rw [Nat.add_comm n 1]; exact h1, b1⟩
end Go.Proofs.YtobbchmjgoaleaaGreatDoor
/-
  The numbers at which this program lays what sort.Slice comes to: the laying that the kit's contract asks for, in plain words (written by a program of ours off the kit's own command).
-/
namespace Go.Proofs
open Go.Shelf
def Tryz.sl6_ren : Go.Shelf.Ren := ⟨fun | 6 => 221 | 10 => 225 | 11 => 226 | 12 => 227 | 13 => 228 | 14 => 229 | 24 => 220 | 25 => 240 | 26 => 241 | 27 => 242 | 28 => 243 | 29 => 244 | 30 => 245 | 31 => 246 | 32 => 247 | 33 => 248 | 34 => 249 | 35 => 250 | 36 => 251 | 37 => 252 | 38 => 253 | 39 => 254 | n => n, fun | 20 => 20 | 26 => 202 | 35 => 209 | 0 => 0 | 37 => 211 | 3 => 3 | 41 => 173 | 44 => 216 | 49 => 75 | 51 => 91 | 4 => 4 | 54 => 224 | 53 => 223 | 58 => 228 | 5 => 5 | 9 => 9 | 60 => 230 | 64 => 233 | 66 => 235 | 67 => 236 | 17 => 17 | 32 => 206 | 33 => 207 | 82 => 251 | 12 => 12 | 75 => 244 | 76 => 245 | 77 => 246 | 78 => 247 | 79 => 248 | 80 => 249 | n => n, fun | n => n⟩
theorem Tryz.sl6 : LaysGg.n6 Tryz.prog Tryz.sl6_ren := {
  mixed := by kernel_rfl
  f6 := Tryz.func221.trans (congrArg some (by kernel_rfl))
  f10 := Tryz.func225.trans (congrArg some (by kernel_rfl))
  f11 := Tryz.func226.trans (congrArg some (by kernel_rfl))
  f12 := Tryz.func227.trans (congrArg some (by kernel_rfl))
  f13 := Tryz.func228.trans (congrArg some (by kernel_rfl))
  f14 := Tryz.func229.trans (congrArg some (by kernel_rfl))
  f24 := Tryz.func220.trans (congrArg some (by kernel_rfl))
  f25 := Tryz.func240.trans (congrArg some (by kernel_rfl))
  f26 := Tryz.func241.trans (congrArg some (by kernel_rfl))
  f27 := Tryz.func242.trans (congrArg some (by kernel_rfl))
  f28 := Tryz.func243.trans (congrArg some (by kernel_rfl))
  f29 := Tryz.func244.trans (congrArg some (by kernel_rfl))
  f30 := Tryz.func245.trans (congrArg some (by kernel_rfl))
  f31 := Tryz.func246.trans (congrArg some (by kernel_rfl))
  f32 := Tryz.func247.trans (congrArg some (by kernel_rfl))
  f33 := Tryz.func248.trans (congrArg some (by kernel_rfl))
  f34 := Tryz.func249.trans (congrArg some (by kernel_rfl))
  f35 := Tryz.func250.trans (congrArg some (by kernel_rfl))
  f36 := Tryz.func251.trans (congrArg some (by kernel_rfl))
  f37 := Tryz.func252.trans (congrArg some (by kernel_rfl))
  f38 := Tryz.func253.trans (congrArg some (by kernel_rfl))
  f39 := Tryz.func254.trans (congrArg some (by kernel_rfl))
  t0 := Tryz.underlying0
  a0 := Tryz.isAgg0
  z0 := Tryz.sizeOf0
  v0 := Tryz.zeroValue0
  i0 := by kernel_rfl
  t3 := Tryz.underlying3
  a3 := Tryz.isAgg3
  z3 := Tryz.sizeOf3
  v3 := Tryz.zeroValue3
  i3 := by kernel_rfl
  t4 := Tryz.underlying4
  a4 := Tryz.isAgg4
  z4 := Tryz.sizeOf4
  v4 := Tryz.zeroValue4
  i4 := by kernel_rfl
  t5 := Tryz.underlying5
  a5 := Tryz.isAgg5
  z5 := Tryz.sizeOf5
  v5 := Tryz.zeroValue5
  i5 := by kernel_rfl
  t9 := Tryz.underlying9
  a9 := Tryz.isAgg9
  z9 := Tryz.sizeOf9
  v9 := Tryz.zeroValue9
  i9 := by kernel_rfl
  t12 := Tryz.underlying12
  a12 := Tryz.isAgg12
  z12 := Tryz.sizeOf12
  v12 := Tryz.zeroValue12
  i12 := by kernel_rfl
  t17 := Tryz.underlying17
  a17 := Tryz.isAgg17
  z17 := Tryz.sizeOf17
  v17 := Tryz.zeroValue17
  i17 := by kernel_rfl
  t20 := Tryz.underlying20
  a20 := Tryz.isAgg20
  z20 := Tryz.sizeOf20
  v20 := Tryz.zeroValue20
  i20 := by kernel_rfl
  t26 := Tryz.underlying202
  a26 := Tryz.isAgg202
  z26 := Tryz.sizeOf202
  v26 := Tryz.zeroValue202
  i26 := by kernel_rfl
  t32 := Tryz.underlying206
  a32 := Tryz.isAgg206
  z32 := Tryz.sizeOf206
  v32 := Tryz.zeroValue206
  i32 := by kernel_rfl
  t33 := Tryz.underlying207
  a33 := Tryz.isAgg207
  z33 := Tryz.sizeOf207
  v33 := Tryz.zeroValue207
  i33 := by kernel_rfl
  t35 := Tryz.underlying209
  a35 := Tryz.isAgg209
  z35 := Tryz.sizeOf209
  v35 := Tryz.zeroValue209
  i35 := by kernel_rfl
  t37 := Tryz.underlying211
  a37 := Tryz.isAgg211
  z37 := Tryz.sizeOf211
  v37 := Tryz.zeroValue211
  i37 := by kernel_rfl
  t41 := Tryz.underlying173
  a41 := Tryz.isAgg173
  z41 := Tryz.sizeOf173
  v41 := Tryz.zeroValue173
  i41 := by kernel_rfl
  t44 := Tryz.underlying216
  a44 := Tryz.isAgg216
  z44 := Tryz.sizeOf216
  v44 := Tryz.zeroValue216
  i44 := by kernel_rfl
  t49 := Tryz.underlying75
  a49 := Tryz.isAgg75
  z49 := Tryz.sizeOf75
  v49 := Tryz.zeroValue75
  i49 := by kernel_rfl
  t51 := Tryz.underlying91
  a51 := Tryz.isAgg91
  z51 := Tryz.sizeOf91
  v51 := Tryz.zeroValue91
  i51 := by kernel_rfl
  t53 := Tryz.underlying223
  a53 := Tryz.isAgg223
  z53 := Tryz.sizeOf223
  v53 := Tryz.zeroValue223
  i53 := by kernel_rfl
  t54 := Tryz.underlying224
  a54 := Tryz.isAgg224
  z54 := Tryz.sizeOf224
  v54 := Tryz.zeroValue224
  i54 := by kernel_rfl
  t58 := Tryz.underlying228
  a58 := Tryz.isAgg228
  z58 := Tryz.sizeOf228
  v58 := Tryz.zeroValue228
  i58 := by kernel_rfl
  t60 := Tryz.underlying230
  a60 := Tryz.isAgg230
  z60 := Tryz.sizeOf230
  v60 := Tryz.zeroValue230
  i60 := by kernel_rfl
  t64 := Tryz.underlying233
  a64 := Tryz.isAgg233
  z64 := Tryz.sizeOf233
  v64 := Tryz.zeroValue233
  i64 := by kernel_rfl
  t66 := Tryz.underlying235
  a66 := Tryz.isAgg235
  z66 := Tryz.sizeOf235
  v66 := Tryz.zeroValue235
  i66 := by kernel_rfl
  t67 := Tryz.underlying236
  a67 := Tryz.isAgg236
  z67 := Tryz.sizeOf236
  v67 := Tryz.zeroValue236
  i67 := by kernel_rfl
  t75 := Tryz.underlying244
  a75 := Tryz.isAgg244
  z75 := Tryz.sizeOf244
  v75 := Tryz.zeroValue244
  i75 := by kernel_rfl
  t76 := Tryz.underlying245
  a76 := Tryz.isAgg245
  z76 := Tryz.sizeOf245
  v76 := Tryz.zeroValue245
  i76 := by kernel_rfl
  t77 := Tryz.underlying246
  a77 := Tryz.isAgg246
  z77 := Tryz.sizeOf246
  v77 := Tryz.zeroValue246
  i77 := by kernel_rfl
  t78 := Tryz.underlying247
  a78 := Tryz.isAgg247
  z78 := Tryz.sizeOf247
  v78 := Tryz.zeroValue247
  i78 := by kernel_rfl
  t79 := Tryz.underlying248
  a79 := Tryz.isAgg248
  z79 := Tryz.sizeOf248
  v79 := Tryz.zeroValue248
  i79 := by kernel_rfl
  t80 := Tryz.underlying249
  a80 := Tryz.isAgg249
  z80 := Tryz.sizeOf249
  v80 := Tryz.zeroValue249
  i80 := by kernel_rfl
  t82 := Tryz.underlying251
  a82 := Tryz.isAgg251
  z82 := Tryz.sizeOf251
  v82 := Tryz.zeroValue251
  i82 := by kernel_rfl
  }
end Go.Proofs
