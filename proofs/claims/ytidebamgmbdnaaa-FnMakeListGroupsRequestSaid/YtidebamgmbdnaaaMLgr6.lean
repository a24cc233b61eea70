/-
  ListGroupsRequest: writing, a list's loop.
-/
import Derived.Test.YtidebamgmbdnaaaMB16
import Derived.Test.YtidebamgmbdnaaaMB13
import Derived.Test.YtidebamgmbdnaaaMLgr1
import Derived.Deep.CutBlock
namespace Go.Proofs.Ytidebamgmbdnaaa
open Go.ChangeShapes Go.WideShapes Go.ChangeAt Go.RowKit

set_option maxHeartbeats 4000000 in
set_option maxRecDepth 100000 in
theorem lgr_al1f {Q : Exit → Act → World → Prop} {G : Nat → Prop} {B : Nat} {w wl : World} {ver : Int} {ao : Option Addr} {cp : Nat} {nu : Bool} {lx : List T} {FF rest : Bs} {dv x0 x2 x3 x4 x5 x7 x8 x9 x11 x12 x13 x14 x15 x16 x17 x18 x19 x20 x21 x22 x23 x24 x25 x26 x27 x28 x29 x30 x31 x32 x33 x34 x35 x36 x37 x38 x39 x40 x41 x42 x43 x44 x45 x46 x47 x48 x49 x50 x51 x52 x53 x54 x55 x56 x57 x58 x59 x60 x61 x62 x63 x64 x65 x66 x67 x68 x71 x72 x73 x74 x75 x76 x77 x78 x79 x80 x81 x82 x83 x84 x85 x86 x87 x88 x89 x90 x91 x92 x93 x94 x95 x96 x97 x98 x99 : Value} {fl : Bool} (hfl : fl = true) (hvl : VL w G (VK w G 8 (-1) (VFs w G [])) 1 (.slice ao lx.length cp) (.mk 0 [] nu lx [])) (_hll : lx.length ≤ 1000000) (hsl : smalls 1000000 lx) (hG : ∀ k, G k → k < B) (_hv0 : 0 ≤ ver)
    (SC : ApSt w wl B dv FF (lx.flatMap (apE 8 [] ver true) ++ rest))
    (HEX : Hid (∀ (wr : World) (y1 y11 y12 y70 y71 y72 y73 y74 y75 y76 y77 y78 y79 y80 y81 y82 y83 y84 : Value), ApSt w wr B y1 FF rest → Q (.exit 2) ⟨(x0 :: y1 :: x2 :: x3 :: x4 :: x5 :: .bool fl :: x7 :: x8 :: x9 :: .slice ao lx.length cp :: y11 :: y12 :: x13 :: x14 :: x15 :: x16 :: x17 :: x18 :: x19 :: x20 :: x21 :: x22 :: x23 :: x24 :: x25 :: x26 :: x27 :: x28 :: x29 :: x30 :: x31 :: x32 :: x33 :: x34 :: x35 :: x36 :: x37 :: x38 :: x39 :: x40 :: x41 :: x42 :: x43 :: x44 :: x45 :: x46 :: x47 :: x48 :: x49 :: x50 :: x51 :: x52 :: x53 :: x54 :: x55 :: x56 :: x57 :: x58 :: x59 :: x60 :: x61 :: x62 :: x63 :: x64 :: x65 :: x66 :: x67 :: x68 :: .int .i64 (lx.length : Int) :: y70 :: y71 :: y72 :: y73 :: y74 :: y75 :: y76 :: y77 :: y78 :: y79 :: y80 :: y81 :: y82 :: y83 :: y84 :: x85 :: x86 :: x87 :: x88 :: x89 :: x90 :: x91 :: x92 :: x93 :: x94 :: x95 :: x96 :: x97 :: x98 :: x99 :: []).toArray, []⟩ wr)) :
    Code.wp Try.prog (codeAt [true, true, true, true, true, true, false, true, false, true, true, true, false] (Try.f44.body.getD .skip)) Q ⟨(x0 :: dv :: x2 :: x3 :: x4 :: x5 :: .bool fl :: x7 :: x8 :: x9 :: .slice ao lx.length cp :: x11 :: x12 :: x13 :: x14 :: x15 :: x16 :: x17 :: x18 :: x19 :: x20 :: x21 :: x22 :: x23 :: x24 :: x25 :: x26 :: x27 :: x28 :: x29 :: x30 :: x31 :: x32 :: x33 :: x34 :: x35 :: x36 :: x37 :: x38 :: x39 :: x40 :: x41 :: x42 :: x43 :: x44 :: x45 :: x46 :: x47 :: x48 :: x49 :: x50 :: x51 :: x52 :: x53 :: x54 :: x55 :: x56 :: x57 :: x58 :: x59 :: x60 :: x61 :: x62 :: x63 :: x64 :: x65 :: x66 :: x67 :: x68 :: .int .i64 (lx.length : Int) :: .int .i64 0 :: x71 :: x72 :: x73 :: x74 :: x75 :: x76 :: x77 :: x78 :: x79 :: x80 :: x81 :: x82 :: x83 :: x84 :: x85 :: x86 :: x87 :: x88 :: x89 :: x90 :: x91 :: x92 :: x93 :: x94 :: x95 :: x96 :: x97 :: x98 :: x99 :: []).toArray, []⟩ wl := by
  subst hfl
  obtain ⟨nu0, css, lx0, HE, ev, hrw, -, e⟩ := hvl
  cases e
  have HEQ : Hid _ := HE
  rw [HE] at hrw
  clear HE
  have hd : ApSt w wl B dv FF ((lx.drop 0).flatMap (apE 8 [] ver true) ++ (rest)) := by rw [List.drop_zero]; exact SC
  clear SC
  conv => arg 2; whnf
  go_loopw [70, 11, 1] (fun k _ dv wr => ∃ j : Nat, k = .int .i64 (j : Int) ∧ j ≤ lx.length ∧ ApSt w wr B dv FF ((lx.drop j).flatMap (apE 8 [] ver true) ++ (rest))) (fun k _ _ _ => lx.length - (intOf k).toNat)
  case atStart => exact ⟨0, rfl, Nat.zero_le _, hd⟩
  case round =>
    clear hd
    obtain ⟨wr1, rfl⟩ : ∃ x : World, x = wr := ⟨_, rfl⟩
    obtain ⟨j1, rfl, hj1, sc1⟩ := hrel
    by_cases hlt1 : j1 < lx.length
    · have hjc : j1 < css.length := by rw [HEQ.out]; exact hlt1
      obtain ⟨row1, cap1, hsl0, hcap1, hGr1, hpt1⟩ := hrw.part (m := 1) HEQ.out (fun c hc => by obtain ⟨q, hq, rfl⟩ := List.getElem_of_mem hc; exact (ev q (by rw [← HEQ.out]; exact hq) hq).1) hjc
      simp only [Value.slice.injEq] at hsl0
      obtain ⟨rfl, _, rfl⟩ := hsl0
      have hrb1 : row1 < B := hG _ hGr1
      have hvj := (ev j1 hlt1 hjc).2
      have hsj := smalls_mem hsl _ (List.getElem_mem hlt1)
      rw [List.drop_eq_getElem_cons hlt1, List.flatMap_cons] at sc1
      generalize css[j1] = cj at *
      generalize lx[j1] = tj at *
      obtain ⟨n1, rfl, rfl⟩ := vk_str_inv hvj
      have hl1 : n1.length ≤ 1000000 := hsj.1
      have cw1 : w.cell? ⟨row1, j1, none⟩ = some _ := hpt1.cell (o := j1) (j := 0) (by simp) rfl
      rw [List.append_assoc, apE_cstr] at sc1
      have d1 := sc1.at_ cw1 hrb1
      go_wp2_with (first
        | (go_at_call 81; go_loud (refine (ApSt.cst sc1 hl1).mono ?_; rintro e w2 ⟨v2, rfl, h2⟩; clear sc1))
        | (go_roundw; (case rel => exact ⟨j1 + 1, by go_num, by omega, h2⟩); (case measure => (simp [intOf]; omega))))
    · rw [List.drop_of_length_le (by omega), List.flatMap_nil, List.nil_append] at sc1
      go_wp2_with fail
      exact HEX.out _ _ _ _ _ _ _ _ _ _ _ _ _ _ _ _ _ _ _ sc1
end Go.Proofs.Ytidebamgmbdnaaa
