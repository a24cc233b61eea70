/-
  kbin.Uvarint, Reader.Uvarint.
-/
import Derived.Test.YtdklogmmfnddiaaDoorMB5
import Derived.Lib.VarintBits
import Derived.ScopeJumps
import Derived.WalkMore
namespace Go.Proofs.YtdklogmmfnddiaaDoor
open Go.ChangeShapes Go.WideShapes Go.ChangeAt Go.RowKit

/-- a number in groups, from the group k on: what it is, and how many octets it has (0: there are too few; -5: it has too many bits) -/
def uvAt (k acc : Nat) : Bs → Nat × Int
  | [] => (0, 0)
  | a :: r => if k = 4 then (if a.toNat ≤ 15 then (acc + a.toNat * 2 ^ (7 * k), 5) else (0, -5))
      else if a.toNat < 128 then (acc + a.toNat * 2 ^ (7 * k), (k : Int) + 1) else uvAt (k + 1) (acc + (a.toNat % 128) * 2 ^ (7 * k)) r
def uvP (l : Bs) : Nat × Int := uvAt 0 0 l
def rdUv (s : St) : Nat × St := if (uvP s.1).2 ≤ 0 then (0, ([], true)) else ((uvP s.1).1, (s.1.drop (uvP s.1).2.toNat, s.2))

theorem uvAt_lt : ∀ (l : Bs) (k acc : Nat), k ≤ 4 → acc < 2 ^ (7 * k) → (uvAt k acc l).1 < 4294967296 ∧ (uvAt k acc l).2 ≤ (k + l.length : Nat) ∧ (uvAt k acc l).2 ≤ 5
  | [], k, acc, _, _ => by simp [uvAt]
  | a :: r, k, acc, hk, ha => by
    have h0 : a.toNat < 256 := a.toNat_lt
    have ih := uvAt_lt r (k + 1) (acc + (a.toNat % 128) * 2 ^ (7 * k))
    have hm : a.toNat % 128 < 128 := Nat.mod_lt _ (by decide)
    obtain rfl | rfl | rfl | rfl | rfl : k = 0 ∨ k = 1 ∨ k = 2 ∨ k = 3 ∨ k = 4 := by omega
    · have := ih (by omega) (by simp; omega)
      unfold uvAt
      split
      · omega
      · split
        · simp; omega
        · simp at this ⊢; omega
    · have := ih (by omega) (by simp; omega)
      unfold uvAt
      split
      · omega
      · split
        · simp; omega
        · simp at this ⊢; omega
    · have := ih (by omega) (by simp; omega)
      unfold uvAt
      split
      · omega
      · split
        · simp; omega
        · simp at this ⊢; omega
    · have := ih (by omega) (by simp; omega)
      unfold uvAt
      split
      · omega
      · split
        · simp; omega
        · simp at this ⊢; omega
    · unfold uvAt
      split
      · split
        · simp; omega
        · simp; omega
      · omega
theorem uvP_lt (l : Bs) : (uvP l).1 < 4294967296 ∧ (uvP l).2 ≤ (l.length : Nat) ∧ (uvP l).2 ≤ 5 := by
  have h := uvAt_lt l 0 0 (by omega) (by simp)
  unfold uvP
  refine ⟨h.1, ?_, h.2.2⟩
  have := h.2.1
  omega
theorem rdUv_lt (s : St) : (rdUv s).1 < 4294967296 := by
  unfold rdUv
  split
  · simp
  · exact (uvP_lt s.1).1
theorem and128_lo (x : Int) (h0 : 0 ≤ x) (h1 : x < 128) : bits .and .u8 x 128 = 0 := by
  obtain ⟨n, rfl⟩ := Int.eq_ofNat_of_zero_le h0
  have h : ∀ n : Fin 128, bits .and .u8 (n.val : Int) 128 = 0 := by decide +kernel
  exact h ⟨n, by omega⟩
theorem and128_hi (x : Int) (h0 : 128 ≤ x) (h1 : x < 256) : bits .and .u8 x 128 = 128 := by
  obtain ⟨n, rfl⟩ := Int.eq_ofNat_of_zero_le (show 0 ≤ x by omega)
  have h : ∀ n : Fin 256, 128 ≤ n.val → bits .and .u8 (n.val : Int) 128 = 128 := by decide +kernel
  exact h ⟨n, by omega⟩ (by simp only; omega)
theorem or_dn (j : Nat) (hj : j ≤ 32) (y x : Int) (hx₀ : 0 ≤ x) (hx : x % 2 ^ j = 0) (hx₁ : x < 4294967296) (hy₀ : 0 ≤ y) (hy : y < 2 ^ j) : bits .or .u32 y x = y + x :=
  or_up .u32 32 (by decide) wraps_u32 j x y hx₀ hx (by simpa using hx₁) hy₀ hy hj
/-- a scope that is jumped in once, forward -/
theorem wp_scope_once {P : Program} {a : Act} {w : World} {Q : Exit → Act → World → Prop} {c rest : Code} (l : Nat) (A : Act) (W : World) (hf : findLabel c l = some rest)
    (first : c.wp P (Exit.jump l (fun a1 w1 => a1 = A ∧ w1 = W) Q) a w) (pass : rest.wp P (Exit.jump l (fun _ _ => False) Q) A W) : (Code.scope c).wp P Q a w := by
  refine wp_scope_jumps l (fun a1 w1 => a1 = A ∧ w1 = W) (fun _ _ => 0) hf first ?_
  rintro _ _ ⟨rfl, rfl⟩
  simpa using pass
theorem Exit.jump_ret {l : Nat} {J : Act → World → Prop} {Q : Exit → Act → World → Prop} {a : Act} {w : World} : Exit.jump l J Q .ret a w = Q .ret a w := rfl
set_option maxHeartbeats 800000 in
set_option maxRecDepth 100000 in
theorem uvarint_any {G : Nat → Prop} {w : World} {ao : Option Addr} {cap : Nat} {l : Bs} (h : RB w G (.slice ao l.length cap) l) :
    Calls Tryd.prog 81 #[.slice ao l.length cap] w fun e w' => e = .returned (.tuple #[.int .u32 ((uvP l).1 : Int), .int .i64 (uvP l).2]) ∧ w = w' := by
  match l, h with
  | [], h =>
    go_enter Tryd.func81, Tryd.ntmps81
    go_wp2_with fail
    apply wp_scope_once 0 _ _ rfl
    case first => (go_wp2_with fail; go_step3; exact ⟨rfl, rfl, rfl⟩)
    go_wp2_with fail
    rw [Exit.jump_ret]
    refine bodyPost_ret (v := .tuple #[.int .u32 0, .int .i64 0]) (by simp [results, Tryd.results81, go_sem]; done) rfl ⟨?_, rfl⟩
    simp [uvP, uvAt]
  | a :: r0, h =>
    obtain ⟨bl, o, rfl, _, hn, hcap, hc⟩ := h.spot (by simp)
    have h0 : w.cell? ⟨bl, o, none⟩ = some (.int .u8 a.toNat) := hc 0 (by simp)
    clear hc hn
    have L0 : a.toNat < 256 := a.toNat_lt
    have B0 := u8_and127 (x := (a.toNat : Int)) (by omega) (by omega)
    by_cases H0 : a.toNat < 128
    · have A0 := and128_lo (a.toNat : Int) (by omega) (by omega)
      go_enter Tryd.func81, Tryd.ntmps81
      go_wp2_with fail
      go_step3
      go_wp2_with fail
      rw [Exit.noGoto_ret]
      refine bodyPost_ret (v := .tuple #[.int .u32 ((a.toNat : Int) % 128), .int .i64 1]) (by simp [results, Tryd.results81, go_sem]; done) rfl ⟨?_, rfl⟩
      simp [uvP, uvAt, H0]
      all_goals omega
    · have A0 := and128_hi (a.toNat : Int) (by omega) (by omega)
      match r0, h with
      | [], h =>
        go_enter Tryd.func81, Tryd.ntmps81
        go_wp2_with fail
        apply wp_scope_once 0 _ _ rfl
        case first => (go_wp2_with fail; go_step3; exact ⟨rfl, rfl, rfl⟩)
        go_wp2_with fail
        rw [Exit.jump_ret]
        refine bodyPost_ret (v := .tuple #[.int .u32 0, .int .i64 0]) (by simp [results, Tryd.results81, go_sem]; done) rfl ⟨?_, rfl⟩
        simp [uvP, uvAt, H0]
      | b :: r1, h =>
        obtain ⟨_, _, q, _, hn, hcap, hc⟩ := h.spot (by simp)
        cases q
        have h1 : w.cell? ⟨bl, o + 1, none⟩ = some (.int .u8 b.toNat) := hc 1 (by simp)
        clear hc hn
        have L1 : b.toNat < 256 := b.toNat_lt
        have B1 := u8_and127 (x := (b.toNat : Int)) (by omega) (by omega)
        by_cases H1 : b.toNat < 128
        · have A1 := and128_lo (b.toNat : Int) (by omega) (by omega)
          go_enter Tryd.func81, Tryd.ntmps81
          go_wp2_with fail
          go_step3
          go_wp2_with fail
          rw [Exit.noGoto_ret]
          refine bodyPost_ret (v := .tuple #[.int .u32 ((a.toNat : Int) % 128 + (b.toNat : Int) % 128 * 128), .int .i64 2]) ?_ rfl ⟨?_, rfl⟩
          · simp [results, Tryd.results81, go_sem]
            rw [or_dn 7 (by omega) ((a.toNat : Int) % 128) ((b.toNat : Int) % 128 * 128) (by omega) (by omega) (by omega) (by omega) (by omega)]
          · simp [uvP, uvAt, H0, H1]
            all_goals omega
        · have A1 := and128_hi (b.toNat : Int) (by omega) (by omega)
          match r1, h with
          | [], h =>
            go_enter Tryd.func81, Tryd.ntmps81
            go_wp2_with fail
            apply wp_scope_once 0 _ _ rfl
            case first => (go_wp2_with fail; go_step3; exact ⟨rfl, rfl, rfl⟩)
            go_wp2_with fail
            rw [Exit.jump_ret]
            refine bodyPost_ret (v := .tuple #[.int .u32 0, .int .i64 0]) (by simp [results, Tryd.results81, go_sem]; done) rfl ⟨?_, rfl⟩
            simp [uvP, uvAt, H0, H1]
          | c :: r2, h =>
            obtain ⟨_, _, q, _, hn, hcap, hc⟩ := h.spot (by simp)
            cases q
            have h2 : w.cell? ⟨bl, o + 2, none⟩ = some (.int .u8 c.toNat) := hc 2 (by simp)
            clear hc hn
            have L2 : c.toNat < 256 := c.toNat_lt
            have B2 := u8_and127 (x := (c.toNat : Int)) (by omega) (by omega)
            by_cases H2 : c.toNat < 128
            · have A2 := and128_lo (c.toNat : Int) (by omega) (by omega)
              go_enter Tryd.func81, Tryd.ntmps81
              go_wp2_with fail
              go_step3
              go_wp2_with fail
              rw [Exit.noGoto_ret]
              refine bodyPost_ret (v := .tuple #[.int .u32 ((a.toNat : Int) % 128 + (b.toNat : Int) % 128 * 128 + (c.toNat : Int) % 128 * 16384), .int .i64 3]) ?_ rfl ⟨?_, rfl⟩
              · simp [results, Tryd.results81, go_sem]
                rw [or_dn 7 (by omega) ((a.toNat : Int) % 128) ((b.toNat : Int) % 128 * 128) (by omega) (by omega) (by omega) (by omega) (by omega), or_dn 14 (by omega) _ ((c.toNat : Int) % 128 * 16384) (by omega) (by omega) (by omega) (by omega) (by omega)]
              · simp [uvP, uvAt, H0, H1, H2]
                all_goals omega
            · have A2 := and128_hi (c.toNat : Int) (by omega) (by omega)
              match r2, h with
              | [], h =>
                go_enter Tryd.func81, Tryd.ntmps81
                go_wp2_with fail
                apply wp_scope_once 0 _ _ rfl
                case first => (go_wp2_with fail; go_step3; exact ⟨rfl, rfl, rfl⟩)
                go_wp2_with fail
                rw [Exit.jump_ret]
                refine bodyPost_ret (v := .tuple #[.int .u32 0, .int .i64 0]) (by simp [results, Tryd.results81, go_sem]; done) rfl ⟨?_, rfl⟩
                simp [uvP, uvAt, H0, H1, H2]
              | d :: r3, h =>
                obtain ⟨_, _, q, _, hn, hcap, hc⟩ := h.spot (by simp)
                cases q
                have h3 : w.cell? ⟨bl, o + 3, none⟩ = some (.int .u8 d.toNat) := hc 3 (by simp)
                clear hc hn
                have L3 : d.toNat < 256 := d.toNat_lt
                have B3 := u8_and127 (x := (d.toNat : Int)) (by omega) (by omega)
                by_cases H3 : d.toNat < 128
                · have A3 := and128_lo (d.toNat : Int) (by omega) (by omega)
                  go_enter Tryd.func81, Tryd.ntmps81
                  go_wp2_with fail
                  go_step3
                  go_wp2_with fail
                  rw [Exit.noGoto_ret]
                  refine bodyPost_ret (v := .tuple #[.int .u32 ((a.toNat : Int) % 128 + (b.toNat : Int) % 128 * 128 + (c.toNat : Int) % 128 * 16384 + (d.toNat : Int) % 128 * 2097152), .int .i64 4]) ?_ rfl ⟨?_, rfl⟩
                  · simp [results, Tryd.results81, go_sem]
                    rw [or_dn 7 (by omega) ((a.toNat : Int) % 128) ((b.toNat : Int) % 128 * 128) (by omega) (by omega) (by omega) (by omega) (by omega), or_dn 14 (by omega) _ ((c.toNat : Int) % 128 * 16384) (by omega) (by omega) (by omega) (by omega) (by omega), or_dn 21 (by omega) _ ((d.toNat : Int) % 128 * 2097152) (by omega) (by omega) (by omega) (by omega) (by omega)]
                  · simp [uvP, uvAt, H0, H1, H2, H3]
                    all_goals omega
                · have A3 := and128_hi (d.toNat : Int) (by omega) (by omega)
                  match r3, h with
                  | [], h =>
                    go_enter Tryd.func81, Tryd.ntmps81
                    go_wp2_with fail
                    apply wp_scope_once 0 _ _ rfl
                    case first => (go_wp2_with fail; go_step3; exact ⟨rfl, rfl, rfl⟩)
                    go_wp2_with fail
                    rw [Exit.jump_ret]
                    refine bodyPost_ret (v := .tuple #[.int .u32 0, .int .i64 0]) (by simp [results, Tryd.results81, go_sem]; done) rfl ⟨?_, rfl⟩
                    simp [uvP, uvAt, H0, H1, H2, H3]
                  | e :: r4, h =>
                    obtain ⟨_, _, q, _, hn, hcap, hc⟩ := h.spot (by simp)
                    cases q
                    have h4 : w.cell? ⟨bl, o + 4, none⟩ = some (.int .u8 e.toNat) := hc 4 (by simp)
                    clear hc hn
                    have L4 : e.toNat < 256 := e.toNat_lt
                    by_cases H4 : e.toNat ≤ 15
                    · have A4 := trivial
                      go_enter Tryd.func81, Tryd.ntmps81
                      go_wp2_with fail
                      go_step3
                      go_wp2_with fail
                      rw [Exit.noGoto_ret]
                      refine bodyPost_ret (v := .tuple #[.int .u32 ((a.toNat : Int) % 128 + (b.toNat : Int) % 128 * 128 + (c.toNat : Int) % 128 * 16384 + (d.toNat : Int) % 128 * 2097152 + (e.toNat : Int) * 268435456), .int .i64 5]) ?_ rfl ⟨?_, rfl⟩
                      · simp [results, Tryd.results81, go_sem]
                        rw [or_dn 7 (by omega) ((a.toNat : Int) % 128) ((b.toNat : Int) % 128 * 128) (by omega) (by omega) (by omega) (by omega) (by omega), or_dn 14 (by omega) _ ((c.toNat : Int) % 128 * 16384) (by omega) (by omega) (by omega) (by omega) (by omega), or_dn 21 (by omega) _ ((d.toNat : Int) % 128 * 2097152) (by omega) (by omega) (by omega) (by omega) (by omega), or_dn 28 (by omega) _ ((e.toNat : Int) * 268435456) (by omega) (by omega) (by omega) (by omega) (by omega)]
                      · simp [uvP, uvAt, H0, H1, H2, H3, H4]
                        all_goals omega
                    · go_enter Tryd.func81, Tryd.ntmps81
                      go_wp2_with fail
                      go_step3
                      go_wp2_with fail
                      go_step3
                      go_wp2_with fail
                      rw [Exit.noGoto_ret]
                      refine bodyPost_ret (v := .tuple #[.int .u32 0, .int .i64 (-5)]) (by simp [results, Tryd.results81, go_sem]; done) rfl ⟨?_, rfl⟩
                      simp [uvP, uvAt, H0, H1, H2, H3, H4]
set_option maxHeartbeats 400000 in
set_option maxRecDepth 100000 in
theorem rduv_any {G : Nat → Prop} {b : Nat} {s : St} {w : World} (h : Rd w b G s) (_hG : There G w) (hb : ¬ G b) :
    Calls Tryd.prog 72 #[.pointer (some ⟨b, 0, none⟩)] w fun e w' => e = .returned (.int .u32 ((rdUv s).1 : Int)) ∧ Rd w' b G (rdUv s).2 ∧ Keep [b] w w' := by
  obtain ⟨src, bad⟩ := s
  obtain ⟨v, hh, hr, hz⟩ := h
  obtain ⟨ao, cap, rfl⟩ := RS.shape hr
  have c0 : w.cell? ⟨b, 0, none⟩ = some (.slice ao src.length cap) := cellOf hh 0 _ rfl
  have c1 : w.cell? ⟨b, 1, none⟩ = some (.bool bad) := cellOf hh 1 _ rfl
  have f0 := freeOf hh 0
  have f1 := freeOf hh 1
  obtain ⟨hp1, hp2, hp3⟩ := uvP_lt src
  have UV := uvarint_any hr
  go_enter Tryd.func72, Tryd.ntmps72
  have HH : Hid _ := hh
  clear hh
  generalize hu : uvP src = u at *
  obtain ⟨val, n⟩ := u
  have HU : Hid _ := hu
  simp only at hp1 hp2 hp3 UV
  by_cases hn : n ≤ 0
  · go_wp2_with (go_at_call 81; refine UV.mono ?_; rintro e w1 ⟨rfl, rfl⟩)
    go_ret
    have e : rdUv (src, bad) = (0, ([], true)) := by unfold rdUv; simp only [HU.out, hn, if_true]
    exact ⟨by rw [e]; rfl, ⟨.slice none 0 0, by rw [e]; exact heap_set (heap_set HH.out _) _, by rw [e]; exact RB.nil _ _, fun _ => rfl⟩, ((Keep.refl _ _).setCell (.inl (by simp)) _).setCell (.inl (by simp)) _⟩
  · obtain ⟨m, rfl⟩ := Int.eq_ofNat_of_zero_le (show 0 ≤ n by omega)
    have e : rdUv (src, bad) = (val, (src.drop m, bad)) := by unfold rdUv; simp only [HU.out, if_neg hn]; simp
    have hpos : 0 < src.length := by omega
    obtain ⟨bs, o, rfl, hGb, -, hcap, -⟩ := hr.spot hpos
    have E : Hid _ := e
    clear e
    have hs : ∀ x, SameOn G w (w.setCell ⟨b, 0, none⟩ x) := fun x k hk => Below.heap_setCell _ _ _ _ (fun e => hb (by simp only at e; rw [← e]; exact hk))
    by_cases hm : m = cap
    · subst hm
      go_wp2_with (go_at_call 81; refine UV.mono ?_; rintro e w1 ⟨rfl, rfl⟩)
      refine bodyPost_ret (v := .int .u32 (val : Int)) (by simp [results, Tryd.results72, go_sem]) rfl ⟨by rw [E.out], ⟨.slice (some ⟨bs, o, none⟩) 0 0, ?_, ?_, fun e => absurd (hz.out (by rw [E.out] at e; exact e)) (by simp)⟩, (Keep.refl _ _).setCell (.inl (by simp)) _⟩
      · rw [E.out]
        have hl0 : src.length - m = 0 := by omega
        exact heap_set HH.out _
      · rw [E.out]
        have hl : src.drop m = [] := List.drop_eq_nil_of_le (by omega)
        simp only [hl]
        exact RB.none0 _ _ _ _ _
    · go_wp2_with (go_at_call 81; refine UV.mono ?_; rintro e w1 ⟨rfl, rfl⟩)
      refine bodyPost_ret (v := .int .u32 (val : Int)) (by simp [results, Tryd.results72, go_sem]) rfl ⟨by rw [E.out], ⟨.slice (some ⟨bs, o + m, none⟩) (src.length - m) (cap - m), ?_, ?_, fun e => absurd (hz.out (by rw [E.out] at e; exact e)) (by simp)⟩, (Keep.refl _ _).setCell (.inl (by simp)) _⟩
      · rw [E.out]
        exact heap_set HH.out _
      · rw [E.out]
        exact (hr.drop m _ _ (by omega) rfl rfl).keepF (hs _) (fun _ h => h)
end Go.Proofs.YtdklogmmfnddiaaDoor
