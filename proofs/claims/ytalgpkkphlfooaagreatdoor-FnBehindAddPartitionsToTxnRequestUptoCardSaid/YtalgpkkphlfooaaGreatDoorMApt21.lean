/-
  AddPartitionsToTxnRequest: writing.
-/
import Derived.Test.YtalgpkkphlfooaaGreatDoorMB16
import Derived.Test.YtalgpkkphlfooaaGreatDoorMApt1
import Derived.Test.YtalgpkkphlfooaaGreatDoorMB13
import Derived.Test.YtalgpkkphlfooaaGreatDoorMApt20
import Derived.Deep.CutBlock
namespace Go.Proofs.YtalgpkkphlfooaaGreatDoor
open Go.ChangeShapes Go.WideShapes Go.ChangeAt Go.RowKit

set_option maxHeartbeats 40000000 in
set_option maxRecDepth 100000 in
theorem apt_app_2 {G : Nat → Prop} {b B : Nat} {c : List Value} {t : T} {w : World} {ver : Int} {v : Value} {acc : Bs} (hp : Pt w b 1 c) (_hver : w.cell? ⟨b, 0, none⟩ = some (.int .i16 ver)) (hv : VK w G 10 (-1) (VFs w G q_AddPartitionsToTxnRequest) c t) (hb : b < B) (hG : ∀ k, G k → k < B) (ho : OB w B v acc) (hB : B ≤ w.heap.size) (hs : small 1000000 t) (hl : (acc ++ apPart q_AddPartitionsToTxnRequest ver true t).length ≤ 40000000000000) (hv0 : 0 ≤ ver) (_B3 : 3 ≤ ver) (_B4 : 4 ≤ ver) :
    Calls Tryz.prog 41 #[.pointer (some ⟨b, 0, none⟩), v] w fun e w' => ∃ v', e = .returned v' ∧ OB w' B v' (acc ++ apPart q_AddPartitionsToTxnRequest ver true t) ∧ Below B w w' := by
  obtain ⟨cs, tv, l, tg0, rfl, hf, hmp0, rfl⟩ : ∃ cs v l u, c = cs ++ [v] ∧ VFs w G q_AddPartitionsToTxnRequest cs l ∧ MP w G v u ∧ t = .mk 0 [] false l u := hv
  simp only [small] at hs
  obtain ⟨_, _, ht2_0, ht1_0, hsl⟩ := hs
  unfold q_AddPartitionsToTxnRequest at hf
  obtain ⟨c0_0, cr0_0, t0_0, l0_0, rfl, rfl, hf0_0, hr0_0⟩ := hf
  obtain ⟨c0_1, cr0_1, t0_1, l0_1, rfl, rfl, hf0_1, hr0_1⟩ := hr0_0
  obtain ⟨c0_2, cr0_2, t0_2, l0_2, rfl, rfl, hf0_2, hr0_2⟩ := hr0_1
  obtain ⟨c0_3, cr0_3, t0_3, l0_3, rfl, rfl, hf0_3, hr0_3⟩ := hr0_2
  obtain ⟨c0_4, cr0_4, t0_4, l0_4, rfl, rfl, hf0_4, hr0_4⟩ := hr0_3
  obtain ⟨rfl, rfl⟩ := hr0_4
  have hs0_0 : small 1000000 t0_0 := smalls_mem hsl _ (by simp)
  obtain ⟨n0_0, rfl, rfl⟩ := vf_str_inv (by decide) hf0_0
  have hl0_0 : n0_0.length ≤ 1000000 := hs0_0.1
  have hs0_1 : small 1000000 t0_1 := smalls_mem hsl _ (by simp)
  obtain ⟨n0_1, rfl, ⟨ra0_1, rb0_1⟩, rfl⟩ := vf_i64_inv hf0_1
  have hs0_2 : small 1000000 t0_2 := smalls_mem hsl _ (by simp)
  obtain ⟨n0_2, rfl, ⟨ra0_2, rb0_2⟩, rfl⟩ := vf_i16_inv hf0_2
  have hs0_3 : small 1000000 t0_3 := smalls_mem hsl _ (by simp)
  obtain ⟨v0_3, rfl, vl0_3⟩ := vf_list_inv hf0_3
  obtain ⟨nu0_3, css0_3, lx0_3, eq0_3, ev0_3, hrw0_3, hnil0_3, rfl⟩ := vl0_3
  obtain ⟨ao0_3, cp0_3, rfl, hcp0_3, hcn0_3⟩ := hrw0_3.shape
  rw [eq0_3] at hrw0_3 hcp0_3 hcn0_3 hnil0_3 hp
  have HEQ0_3 : Hid _ := eq0_3
  clear eq0_3
  obtain ⟨_, hll0_3, _, _, hsl0_3⟩ := hs0_3
  have hs0_4 : small 1000000 t0_4 := smalls_mem hsl _ (by simp)
  obtain ⟨v0_4, rfl, vl0_4⟩ := vf_list_inv hf0_4
  obtain ⟨nu0_4, css0_4, lx0_4, eq0_4, ev0_4, hrw0_4, hnil0_4, rfl⟩ := vl0_4
  obtain ⟨ao0_4, cp0_4, rfl, hcp0_4, hcn0_4⟩ := hrw0_4.shape
  rw [eq0_4] at hrw0_4 hcp0_4 hcn0_4 hnil0_4 hp
  have HEQ0_4 : Hid _ := eq0_4
  clear eq0_4
  obtain ⟨_, hll0_4, _, _, hsl0_4⟩ := hs0_4
  clear hf0_0
  clear hf0_1
  clear hf0_2
  clear hf0_3
  clear hf0_4
  simp only [List.cons_append, List.nil_append] at hp
  have cw0_4 : w.cell? ⟨b, 5, none⟩ = some _ := hp.cell (o := 5) (j := 4) rfl rfl
  have heq : apPart q_AddPartitionsToTxnRequest ver true (.mk 0 [] false [(.mk 0 n0_0 false [] []), (.mk n0_1 [] false [] []), (.mk n0_2 [] false [] []), (.mk 0 [] nu0_3 lx0_3 []), (.mk 0 [] nu0_4 lx0_4 [])] tg0) = uvarP (lx0_4.length + 1) ++ (lx0_4.flatMap (apE 10 q_AddPartitionsToTxnRequestTransaction ver true) ++ (uvarP tg0.length ++ ((tg0.map tagP).flatten ++ ([])))) := by
    simp [apPart_flex, q_AddPartitionsToTxnRequest, apFs, apF_clist (show (-1 : Int) < 0 by decide), (has_no2 (show ¬ ver ≤ (3 : Int) by omega) (by decide) : F.has (.mk 8 0 3 (-1) (-1) 0 0 []) ver = false), (has_no2 (show ¬ ver ≤ (3 : Int) by omega) (by decide) : F.has (.mk 4 0 3 (-1) (-1) 0 0 []) ver = false), (has_no2 (show ¬ ver ≤ (3 : Int) by omega) (by decide) : F.has (.mk 2 0 3 (-1) (-1) 0 0 []) ver = false), (has_no2 (show ¬ ver ≤ (3 : Int) by omega) (by decide) : F.has (.mk 11 0 3 (-1) (-1) 0 10 q_AddPartitionsToTxnRequestTopic) ver = false), (has_yes (show (4 : Int) ≤ ver by omega) (.inl (by decide)) : F.has (.mk 11 4 (-1) (-1) (-1) 0 10 q_AddPartitionsToTxnRequestTransaction) ver = true)]
  rw [heq] at hl ⊢
  have h0 := ApSt.start ho hB hl
  obtain ⟨FF, hFF⟩ : ∃ x, x = acc ++ (uvarP (lx0_4.length + 1) ++ (lx0_4.flatMap (apE 10 q_AddPartitionsToTxnRequestTransaction ver true) ++ (uvarP tg0.length ++ ((tg0.map tagP).flatten ++ ([]))))) := ⟨_, rfl⟩
  rw [← hFF] at h0 ⊢
  clear heq hl ho hFF
  go_enter Tryz.func41, Tryz.ntmps41
  go_wp2_with (first
    | (go_at_call 77; go_loud (refine (h0.cln hll0_4).mono ?_; rintro e w1 ⟨v1, rfl, h1⟩; clear h0)))
  refine apt_al2f (w := w) (nu := nu0_4) rfl ⟨nu0_4, css0_4, lx0_4, HEQ0_4.out, ev0_4, by rw [HEQ0_4.out]; exact hrw0_4, hnil0_4, rfl⟩ hll0_4 hsl0_4 hG hv0 h1 ?hexit
  case hexit =>
    show ∀ (wr : World) (y1 y18 y19 y20 y21 y22 y23 y24 y25 y26 y27 y28 y29 y30 y178 y179 y180 y181 y182 y183 y184 y185 y186 y187 y188 y189 y190 y191 y192 y193 y194 y195 y196 y197 y198 y199 y200 y201 y202 y203 y204 y205 y206 y207 y208 y209 y210 y211 y212 y213 y214 y215 y216 y217 y218 y219 y220 y221 y222 y223 y224 y225 y226 y227 y228 y229 y230 y231 y232 y233 y234 y235 y236 y237 y238 y239 y240 y241 y242 y243 y244 y245 y246 y247 y248 y249 y250 y251 y252 y253 y254 y255 y256 y257 y258 y259 y260 y261 y262 y263 y264 y265 y266 y267 y268 y269 y270 y271 y272 y273 y274 y275 y276 y277 y278 y279 y280 y281 y282 y283 y284 y285 y286 y287 y288 y289 y290 y291 y292 y293 y294 y295 y296 y297 y298 y299 y300 y301 y302 y303 : Value), _
    intro wq2 dq2 _ _ _ _ _ _ _ _ _ _ _ _ _ _ _ _ _ _ _ _ _ _ _ _ _ _ _ _ _ _ _ _ _ _ _ _ _ _ _ _ _ _ _ _ _ _ _ _ _ _ _ _ _ _ _ _ _ _ _ _ _ _ _ _ _ _ _ _ _ _ _ _ _ _ _ _ _ _ _ _ _ _ _ _ _ _ _ _ _ _ _ _ _ _ _ _ _ _ _ _ _ _ _ _ _ _ _ _ _ _ _ _ _ _ _ _ _ _ _ _ _ _ _ _ _ _ _ _ _ _ _ _ _ _ _ _ _ _ _ sc2
    clear h1
    go_wp2_with (first
      | (go_at_call 82; go_loud (refine (ApSt.tlen (i := 6) (j := 5) sc2 hp rfl rfl hmp0 hb hG).mono ?_; rintro e wt ⟨rfl, rfl⟩))
      | (go_at_call 81; go_loud (refine (ApSt.uv sc2 ht2_0).mono ?_; rintro e w3 ⟨v3, rfl, h3⟩; clear sc2))
      | (go_at_call 83; go_loud (refine (ApSt.tg (i := 6) (j := 5) h3 hp rfl rfl hmp0 hb hG ht1_0).mono ?_; rintro e w4 ⟨v4, rfl, h4⟩; clear h3)))
    go_ret
    exact ⟨_, rfl, ApSt.done h4⟩
end Go.Proofs.YtalgpkkphlfooaaGreatDoor
