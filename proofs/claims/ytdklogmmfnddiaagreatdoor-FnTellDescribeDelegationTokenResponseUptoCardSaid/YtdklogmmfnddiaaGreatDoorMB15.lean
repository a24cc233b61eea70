/-
  A struct within a struct: its cells.
-/
import Derived.Test.YtdklogmmfnddiaaGreatDoorMB14
import Derived.Test.YtdklogmmfnddiaaGreatDoorProg
import Derived.Shelf.GgSortFunc.Whole
namespace Go.Proofs.YtdklogmmfnddiaaGreatDoor
open Go.ChangeShapes Go.WideShapes Go.ChangeAt Go.RowKit

theorem Pt.mid {W : World} {pb po : Nat} {c : List Value} (h : Pt W pb po c) (j m : Nat) {o : Nat} {cs : List Value} (ho : o = po + j) (hj : j ≤ c.length) (hcs : (c.drop j).take m = cs) : Pt W pb o cs := by
  obtain ⟨pre, post, ty, h1, h2⟩ := h
  refine ⟨pre ++ c.take j, (c.drop j).drop m ++ post, ty, ?_, ?_⟩
  · rw [h1, ← hcs]
    have e : c = c.take j ++ ((c.drop j).take m ++ (c.drop j).drop m) := by rw [List.take_append_drop, List.take_append_drop]
    conv => lhs; rw [e]
    simp
  · subst ho h2
    simp
    omega
end Go.Proofs.YtdklogmmfnddiaaGreatDoor
/-
  The numbers at which this program lays what sort.Slice comes to: the laying that the kit's contract asks for, in plain words (written by a program of ours off the kit's own command).
-/
namespace Go.Proofs
open Go.Shelf
def Tryz.sl6_ren : Go.Shelf.Ren := ⟨fun | 6 => 89 | 10 => 111 | 11 => 112 | 12 => 113 | 13 => 114 | 14 => 115 | 24 => 130 | 25 => 131 | 26 => 132 | 27 => 133 | 28 => 134 | 29 => 135 | 30 => 136 | 31 => 137 | 32 => 138 | 33 => 139 | 34 => 141 | 35 => 142 | 36 => 143 | 37 => 144 | 38 => 145 | 39 => 146 | n => n, fun | 20 => 20 | 26 => 136 | 35 => 154 | 0 => 0 | 37 => 156 | 3 => 3 | 41 => 139 | 44 => 161 | 49 => 64 | 51 => 98 | 4 => 4 | 54 => 176 | 53 => 175 | 58 => 180 | 5 => 5 | 9 => 9 | 60 => 183 | 64 => 186 | 66 => 188 | 67 => 189 | 17 => 17 | 32 => 151 | 33 => 152 | 82 => 204 | 12 => 12 | 75 => 197 | 76 => 198 | 77 => 199 | 78 => 200 | 79 => 201 | 80 => 202 | n => n, fun | n => n⟩
theorem Tryz.sl6 : LaysGg.n6 Tryz.prog Tryz.sl6_ren := {
  mixed := by kernel_rfl
  f6 := Tryz.func89.trans (congrArg some (by kernel_rfl))
  f10 := Tryz.func111.trans (congrArg some (by kernel_rfl))
  f11 := Tryz.func112.trans (congrArg some (by kernel_rfl))
  f12 := Tryz.func113.trans (congrArg some (by kernel_rfl))
  f13 := Tryz.func114.trans (congrArg some (by kernel_rfl))
  f14 := Tryz.func115.trans (congrArg some (by kernel_rfl))
  f24 := Tryz.func130.trans (congrArg some (by kernel_rfl))
  f25 := Tryz.func131.trans (congrArg some (by kernel_rfl))
  f26 := Tryz.func132.trans (congrArg some (by kernel_rfl))
  f27 := Tryz.func133.trans (congrArg some (by kernel_rfl))
  f28 := Tryz.func134.trans (congrArg some (by kernel_rfl))
  f29 := Tryz.func135.trans (congrArg some (by kernel_rfl))
  f30 := Tryz.func136.trans (congrArg some (by kernel_rfl))
  f31 := Tryz.func137.trans (congrArg some (by kernel_rfl))
  f32 := Tryz.func138.trans (congrArg some (by kernel_rfl))
  f33 := Tryz.func139.trans (congrArg some (by kernel_rfl))
  f34 := Tryz.func141.trans (congrArg some (by kernel_rfl))
  f35 := Tryz.func142.trans (congrArg some (by kernel_rfl))
  f36 := Tryz.func143.trans (congrArg some (by kernel_rfl))
  f37 := Tryz.func144.trans (congrArg some (by kernel_rfl))
  f38 := Tryz.func145.trans (congrArg some (by kernel_rfl))
  f39 := Tryz.func146.trans (congrArg some (by kernel_rfl))
  t0 := Tryz.underlying0
  a0 := Tryz.isAgg0
  z0 := Tryz.sizeOf0
  v0 := Tryz.zeroValue0
  i0 := by kernel_rfl
  t3 := Tryz.underlying3
  a3 := Tryz.isAgg3
  z3 := Tryz.sizeOf3
  v3 := Tryz.zeroValue3
  i3 := by kernel_rfl
  t4 := Tryz.underlying4
  a4 := Tryz.isAgg4
  z4 := Tryz.sizeOf4
  v4 := Tryz.zeroValue4
  i4 := by kernel_rfl
  t5 := Tryz.underlying5
  a5 := Tryz.isAgg5
  z5 := Tryz.sizeOf5
  v5 := Tryz.zeroValue5
  i5 := by kernel_rfl
  t9 := Tryz.underlying9
  a9 := Tryz.isAgg9
  z9 := Tryz.sizeOf9
  v9 := Tryz.zeroValue9
  i9 := by kernel_rfl
  t12 := Tryz.underlying12
  a12 := Tryz.isAgg12
  z12 := Tryz.sizeOf12
  v12 := Tryz.zeroValue12
  i12 := by kernel_rfl
  t17 := Tryz.underlying17
  a17 := Tryz.isAgg17
  z17 := Tryz.sizeOf17
  v17 := Tryz.zeroValue17
  i17 := by kernel_rfl
  t20 := Tryz.underlying20
  a20 := Tryz.isAgg20
  z20 := Tryz.sizeOf20
  v20 := Tryz.zeroValue20
  i20 := by kernel_rfl
  t26 := Tryz.underlying136
  a26 := Tryz.isAgg136
  z26 := Tryz.sizeOf136
  v26 := Tryz.zeroValue136
  i26 := by kernel_rfl
  t32 := Tryz.underlying151
  a32 := Tryz.isAgg151
  z32 := Tryz.sizeOf151
  v32 := Tryz.zeroValue151
  i32 := by kernel_rfl
  t33 := Tryz.underlying152
  a33 := Tryz.isAgg152
  z33 := Tryz.sizeOf152
  v33 := Tryz.zeroValue152
  i33 := by kernel_rfl
  t35 := Tryz.underlying154
  a35 := Tryz.isAgg154
  z35 := Tryz.sizeOf154
  v35 := Tryz.zeroValue154
  i35 := by kernel_rfl
  t37 := Tryz.underlying156
  a37 := Tryz.isAgg156
  z37 := Tryz.sizeOf156
  v37 := Tryz.zeroValue156
  i37 := by kernel_rfl
  t41 := Tryz.underlying139
  a41 := Tryz.isAgg139
  z41 := Tryz.sizeOf139
  v41 := Tryz.zeroValue139
  i41 := by kernel_rfl
  t44 := Tryz.underlying161
  a44 := Tryz.isAgg161
  z44 := Tryz.sizeOf161
  v44 := Tryz.zeroValue161
  i44 := by kernel_rfl
  t49 := Tryz.underlying64
  a49 := Tryz.isAgg64
  z49 := Tryz.sizeOf64
  v49 := Tryz.zeroValue64
  i49 := by kernel_rfl
  t51 := Tryz.underlying98
  a51 := Tryz.isAgg98
  z51 := Tryz.sizeOf98
  v51 := Tryz.zeroValue98
  i51 := by kernel_rfl
  t53 := Tryz.underlying175
  a53 := Tryz.isAgg175
  z53 := Tryz.sizeOf175
  v53 := Tryz.zeroValue175
  i53 := by kernel_rfl
  t54 := Tryz.underlying176
  a54 := Tryz.isAgg176
  z54 := Tryz.sizeOf176
  v54 := Tryz.zeroValue176
  i54 := by kernel_rfl
  t58 := Tryz.underlying180
  a58 := Tryz.isAgg180
  z58 := Tryz.sizeOf180
  v58 := Tryz.zeroValue180
  i58 := by kernel_rfl
  t60 := Tryz.underlying183
  a60 := Tryz.isAgg183
  z60 := Tryz.sizeOf183
  v60 := Tryz.zeroValue183
  i60 := by kernel_rfl
  t64 := Tryz.underlying186
  a64 := Tryz.isAgg186
  z64 := Tryz.sizeOf186
  v64 := Tryz.zeroValue186
  i64 := by kernel_rfl
  t66 := Tryz.underlying188
  a66 := Tryz.isAgg188
  z66 := Tryz.sizeOf188
  v66 := Tryz.zeroValue188
  i66 := by kernel_rfl
  t67 := Tryz.underlying189
  a67 := Tryz.isAgg189
  z67 := Tryz.sizeOf189
  v67 := Tryz.zeroValue189
  i67 := by kernel_rfl
  t75 := Tryz.underlying197
  a75 := Tryz.isAgg197
  z75 := Tryz.sizeOf197
  v75 := Tryz.zeroValue197
  i75 := by kernel_rfl
  t76 := Tryz.underlying198
  a76 := Tryz.isAgg198
  z76 := Tryz.sizeOf198
  v76 := Tryz.zeroValue198
  i76 := by kernel_rfl
  t77 := Tryz.underlying199
  a77 := Tryz.isAgg199
  z77 := Tryz.sizeOf199
  v77 := Tryz.zeroValue199
  i77 := by kernel_rfl
  t78 := Tryz.underlying200
  a78 := Tryz.isAgg200
  z78 := Tryz.sizeOf200
  v78 := Tryz.zeroValue200
  i78 := by kernel_rfl
  t79 := Tryz.underlying201
  a79 := Tryz.isAgg201
  z79 := Tryz.sizeOf201
  v79 := Tryz.zeroValue201
  i79 := by kernel_rfl
  t80 := Tryz.underlying202
  a80 := Tryz.isAgg202
  z80 := Tryz.sizeOf202
  v80 := Tryz.zeroValue202
  i80 := by kernel_rfl
  t82 := Tryz.underlying204
  a82 := Tryz.isAgg204
  z82 := Tryz.sizeOf204
  v82 := Tryz.zeroValue204
  i82 := by kernel_rfl
  }
end Go.Proofs
