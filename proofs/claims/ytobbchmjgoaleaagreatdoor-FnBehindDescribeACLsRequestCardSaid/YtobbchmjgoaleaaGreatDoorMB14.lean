/-
  WHAT IS READ IS NO LONGER THAN WHAT IT IS READ FROM.
-/
import Derived.Test.YtobbchmjgoaleaaGreatDoorMB13
import Derived.Lib.AppendZeros
import Derived.Deep.AppendLies
namespace Go.Proofs.YtobbchmjgoaleaaGreatDoor
open Go.RowKit

mutual
def small (N : Nat) : T → Prop
  | .mk _ s _ l u => s.length ≤ N ∧ l.length ≤ N ∧ u.length ≤ N ∧ (∀ x ∈ u, x.2.length ≤ N) ∧ smalls N l
def smalls (N : Nat) : List T → Prop
  | [] => True
  | t :: r => small N t ∧ smalls N r
end
theorem smalls_append (N : Nat) : ∀ (a b : List T), smalls N a → smalls N b → smalls N (a ++ b)
  | [], _, _, h => h
  | _ :: r, b, h, h' => ⟨h.1, smalls_append N r b h.2 h'⟩
theorem smalls_mem {N : Nat} : ∀ {l : List T}, smalls N l → ∀ t ∈ l, small N t
  | [], _, _, h => by cases h
  | x :: r, h, t, ht => by
    rcases List.mem_cons.1 ht with e | e
    · rw [e]; exact h.1
    · exact smalls_mem h.2 t e
theorem small_plain {N : Nat} {n : Int} {s : Bs} {b : Bool} (h : s.length ≤ N) : small N (.mk n s b [] []) := ⟨h, by simp, by simp, (fun x hx => by cases hx), trivial⟩
theorem small_nstr {N : Nat} {o : Option Bs} (h : ∀ x, o = some x → x.length ≤ N) : small N (nstrT o) := by
  cases o with
  | none => exact small_plain (by simp)
  | some x => exact small_plain (h x rfl)

/-- a reader that makes things no longer than what it reads -/
def Fine (N : Nat) (g : St → T × St) : Prop := ∀ s : St, s.1.length + 1 ≤ N → small N (g s).1 ∧ (g s).2.1.length ≤ s.1.length
theorem rdLen_len (s : St) : (rdLen s).1 ≤ (s.1.length : Int) ∧ (rdLen s).2.1.length ≤ s.1.length := by
  have h := rdI_len 4 s
  simp only [rdLen]
  split
  · simp
  · exact ⟨by omega, h⟩
theorem rdCLen_len (s : St) : (rdCLen s).1 ≤ (s.1.length : Int) ∧ (rdCLen s).2.1.length ≤ s.1.length := by
  have h := (rdUv_len s).1
  simp only [rdCLen]
  split
  · simp
  · exact ⟨by omega, h⟩
theorem rdTagsN_rest : ∀ (n : Nat) (s : St) (l : List Tg), (rdTagsN n s l).2.1.length ≤ s.1.length
  | 0, s, l => Nat.le_refl _
  | n + 1, s, l => by
    have a := (rdUv_len s).1
    have b := (rdUv_len (rdUv s).2).1
    have c := (rdSpan_len ((rdUv (rdUv s).2).1 : Int) (rdUv (rdUv s).2).2).2
    have h := rdTagsN_rest n (rdSpan ((rdUv (rdUv s).2).1 : Int) (rdUv (rdUv s).2).2).2 (putK l (rdUv s).1 (rdSpan ((rdUv (rdUv s).2).1 : Int) (rdUv (rdUv s).2).2).1)
    simp only [rdTagsN]
    omega
theorem rdTags_rest (s : St) : (rdTags s).2.1.length ≤ s.1.length := Nat.le_trans (rdTagsN_rest _ _ _) (rdUv_len s).1
theorem rdTimes_fine {N : Nat} {g : St → T × St} (hg : Fine N g) : ∀ (n : Nat) (s : St), s.1.length + 1 ≤ N → smalls N (rdTimes g n s).1 ∧ (rdTimes g n s).2.1.length ≤ s.1.length
  | 0, s, _ => ⟨trivial, Nat.le_refl _⟩
  | n + 1, s, h => by
    obtain ⟨h1, h2⟩ := rdTimes_fine hg n s h
    obtain ⟨h3, h4⟩ := hg (rdTimes g n s).2 (by omega)
    exact ⟨smalls_append _ _ _ h1 ⟨h3, trivial⟩, by simp only [rdTimes]; omega⟩
theorem rdPartOf_fine {N : Nat} {fs : St → List T × St} {k : Nat} (hk : k ≤ N) (hlen : ∀ s, (fs s).1.length = k) (h : ∀ s : St, s.1.length + 1 ≤ N → smalls N (fs s).1 ∧ (fs s).2.1.length ≤ s.1.length) (flex : Bool) : Fine N (rdPartOf fs flex) := fun s hs => by
  obtain ⟨h1, h2⟩ := h s hs
  cases flex
  · exact ⟨⟨by simp, by rw [hlen]; exact hk, by simp, (fun x hx => by cases hx), h1⟩, h2⟩
  · obtain ⟨h3, h4⟩ := rdTags_len (fs s).2
    have h5 : (rdTags (fs s).2).2.1.length ≤ (fs s).2.1.length := rdTags_rest _
    exact ⟨⟨by simp, by rw [hlen]; exact hk, by omega, (fun x hx => by have := h4 x hx; omega), h1⟩, by simp only [rdPartOf, if_true]; omega⟩
def IsFine (N : Nat) (s : St) (x : T × St) : Prop := small N x.1 ∧ x.2.1.length ≤ s.1.length
theorem rdK_fine {N : Nat} (hN : 16 ≤ N) (kind : Int) (nul flex : Bool) {part : St → T × St} (hp : Fine N part) : Fine N (rdK kind nul flex part) := fun s hs => by
  have Q : IsFine N s (rdK kind nul flex part s) := by
    unfold rdK
    refine ite_p (IsFine N s) ⟨small_plain (by simp), rdN_len 1 s⟩ ?_
    refine ite_p (IsFine N s) ⟨small_plain (by simp), rdI_len 1 s⟩ ?_
    refine ite_p (IsFine N s) ⟨small_plain (by simp), rdI_len 2 s⟩ ?_
    refine ite_p (IsFine N s) ⟨small_plain (by simp), rdI_len 4 s⟩ ?_
    refine ite_p (IsFine N s) ⟨small_plain (by simp), rdI_len 8 s⟩ ?_
    refine ite_p (IsFine N s) ⟨small_plain (by simp), rdN_len 2 s⟩ ?_
    refine ite_p (IsFine N s) ⟨small_plain (by simp), rdI_len 8 s⟩ ?_
    refine ite_p (IsFine N s) ⟨small_plain (by simp [rdUuid, pad16]; omega), rdUuid_len s⟩ ?_
    have h1 := rdCNStr_len s
    have h2 := rdNStr_len s
    have h3 := rdCStr_len s
    have h4 := rdStr_len s
    refine ite_p (IsFine N s) (ite_p (IsFine N s) (ite_p (IsFine N s) ⟨small_nstr fun x hx => by have := h1.1 x hx; omega, h1.2⟩ ⟨small_nstr fun x hx => by have := h2.1 x hx; omega, h2.2⟩) (ite_p (IsFine N s) ⟨small_plain (by omega), h3.2⟩ ⟨small_plain (by omega), h4.2⟩)) ?_
    exact ite_p (IsFine N s) (hp s hs) ⟨small_plain (by simp), Nat.le_refl _⟩
  exact Q
theorem rdListOf_fine {N : Nat} (nul : Int) (flex : Bool) (v : Int) {g : St → T × St} (hg : Fine N g) : Fine N (rdListOf nul flex v g) := fun s hs => by
  have key : ∀ r : Int × St, r.1 ≤ (s.1.length : Int) ∧ r.2.1.length ≤ s.1.length → ∀ b, small N (.mk 0 [] b (rdTimes g r.1.toNat r.2).1 []) ∧ (rdTimes g r.1.toNat r.2).2.1.length ≤ s.1.length := fun r hr b => by
    obtain ⟨h1, h2⟩ := rdTimes_fine hg r.1.toNat r.2 (by omega)
    exact ⟨⟨by simp, by rw [rdTimes_len]; omega, by simp, (fun x hx => by cases hx), h1⟩, by omega⟩
  cases flex
  · exact key _ (rdLen_len s) _
  · exact key _ (rdCLen_len s) _
theorem rdFs_len : ∀ (fs : List F) (v : Int) (flex : Bool) (s : St), (rdFs fs v flex s).1.length = fs.length
  | [], _, _, _ => rfl
  | f :: r, v, flex, s => by
    simp only [rdFs]
    split
    · simp [rdFs_len r]
    · simp [rdFs_len r]
mutual
/-- no part has more fields than that -/
def narrow (N : Nat) : F → Prop
  | .mk _ _ _ _ _ _ _ sub => sub.length ≤ N ∧ narrows N sub
def narrows (N : Nat) : List F → Prop
  | [] => True
  | f :: r => narrow N f ∧ narrows N r
end
theorem dflFs_len : ∀ fs : List F, (dflFs fs).length = fs.length
  | [] => rfl
  | f :: r => by simp [dflFs, dflFs_len r]
mutual
theorem dflF_small {N : Nat} (hN : 16 ≤ N) : ∀ f : F, narrow N f → small N (dflF f)
  | .mk k a b nul c d e sub, h => by
    simp only [dflF]
    repeat' split
    · exact small_plain (by simp; omega)
    · exact small_plain (by simp)
    · exact small_plain (by simp)
    · exact small_plain (by simp)
    · exact ⟨by simp, by rw [dflFs_len]; exact h.1, by simp, (fun x hx => by cases hx), dflFs_small hN sub h.2⟩
    · exact small_plain (by simp)
theorem dflFs_small {N : Nat} (hN : 16 ≤ N) : ∀ fs : List F, narrows N fs → smalls N (dflFs fs)
  | [], _ => trivial
  | f :: r, h => ⟨dflF_small hN f h.1, dflFs_small hN r h.2⟩
end
mutual
theorem rdF_fine {N : Nat} (hN : 16 ≤ N) : ∀ (f : F) (v : Int) (flex : Bool), narrow N f → Fine N (rdF f v flex)
  | .mk k a b nul c d ofk sub, v, flex, hn, s, hs => by
    have hp := rdPartOf_fine (flex := flex) hn.1 (rdFs_len sub v flex) (fun s hs => rdFs_fine hN sub v flex hn.2 s hs)
    simp only [rdF]
    split
    · exact rdListOf_fine nul flex v (rdK_fine hN ofk false flex hp) s hs
    · exact rdK_fine hN k _ flex hp s hs
theorem rdFs_fine {N : Nat} (hN : 16 ≤ N) : ∀ (l : List F) (v : Int) (flex : Bool), narrows N l → ∀ s : St, s.1.length + 1 ≤ N → smalls N (rdFs l v flex s).1 ∧ (rdFs l v flex s).2.1.length ≤ s.1.length
  | [], v, flex, _, s, hs => ⟨trivial, Nat.le_refl _⟩
  | f :: r, v, flex, h, s, hs => by
    simp only [rdFs]
    split
    · obtain ⟨h1, h2⟩ := rdF_fine hN f v flex h.1 s hs
      obtain ⟨h3, h4⟩ := rdFs_fine hN r v flex h.2 (rdF f v flex s).2 (by omega)
      exact ⟨⟨h1, h3⟩, by simp only; omega⟩
    · obtain ⟨h3, h4⟩ := rdFs_fine hN r v flex h.2 s hs
      exact ⟨⟨dflF_small hN f h.1, h3⟩, h4⟩
end
theorem rdPart_fine {N : Nat} (hN : 16 ≤ N) (fs : List F) (v : Int) (flex : Bool) (h : fs.length ≤ N) (h' : narrows N fs) : Fine N (rdPart fs v flex) :=
  rdPartOf_fine h (rdFs_len fs v flex) (fun s hs => rdFs_fine hN fs v flex h' s hs) flex
end Go.Proofs.YtobbchmjgoaleaaGreatDoor
/-
  HOW FAR A STRUCT, AND A LIST OF STRUCTS, HAVE BEEN READ: the states of readFrom's walks.
-/
namespace Go.Proofs.YtobbchmjgoaleaaGreatDoor
open Go.ChangeShapes Go.WideShapes Go.ChangeAt Go.RowKit

/-- the blocks that hold what was read: those of G, and the new ones but for the reader's -/
def Nw (G : Nat → Prop) (w : World) (rb : Nat) (U : World) (k : Nat) : Prop := (G k ∨ w.heap.size ≤ k) ∧ k < U.heap.size ∧ k ≠ rb

theorem VFs.snoc {W : World} {G : Nat → Prop} {f : F} {c1 : List Value} {t : T} (h : VF W G f c1 t) : ∀ {fs : List F} {c : List Value} {l : List T}, VFs W G fs c l → VFs W G (fs ++ [f]) (c ++ c1) (l ++ [t])
  | [], _, _, ⟨rfl, rfl⟩ => ⟨c1, [], t, [], by simp, rfl, h, rfl, rfl⟩
  | _ :: _, _, _, ⟨a, b, t1, l2, rfl, rfl, h1, h2⟩ => ⟨a, b ++ c1, t1, l2 ++ [t], by simp, rfl, h1, VFs.snoc h h2⟩

/-- a struct: its fields fs are read (cells cd, trees td), those of rest are to come -/
structure ElSt (w U : World) (row rb : Nat) (G : Nat → Prop) (s : St) (pre cd rest post : List Value) (ty : TypeId) (fs : List F) (td : List T) : Prop where
  rd : Rd U rb G s
  blk : U.heap[row]? = some (.cells (pre ++ (cd ++ (rest ++ post))).toArray ty (0, 0))
  val : VFs U (Nw G w rb U) fs cd td
  keep : Keep [row, rb] w U
  there : There G w
  nr : ¬ G row
  nrb : ¬ G rb
  lt : row < w.heap.size
  ne : row ≠ rb
/-- one thing of a list, or a message, is read whole -/
structure ElEnd (w U : World) (row rb : Nat) (G : Nat → Prop) (s : St) (pre c post : List Value) (ty : TypeId) (ofk : Int) (fs : List F) (t : T) : Prop where
  rd : Rd U rb G s
  blk : U.heap[row]? = some (.cells (pre ++ (c ++ post)).toArray ty (0, 0))
  val : VK U (Nw G w rb U) ofk (-1) (VFs U (Nw G w rb U) fs) c t
  keep : Keep [row, rb] w U

theorem nw_same {A : List Nat} {w U U' : World} {row rb : Nat} {G : Nat → Prop} (_hz : w.heap.size ≤ U.heap.size) (hl : row < w.heap.size) (hr : ¬ G row) (k : Keep A U U') (hA : ∀ i, i ∈ A → i = row ∨ i = rb ∨ U.heap.size ≤ i) : SameOn (Nw G w rb U) U U' := fun i hi => by
  refine k.block i hi.2.1 fun ha => ?_
  rcases hA i ha with e | e | e
  · subst e
    rcases hi.1 with h | h
    · exact hr h
    · omega
  · exact hi.2.2 e
  · have := hi.2.1; omega
theorem nw_grow {w U U' : World} {rb : Nat} {G : Nat → Prop} (h : U.heap.size ≤ U'.heap.size) : ∀ k, Nw G w rb U k → Nw G w rb U' k := fun _ hk => ⟨hk.1, Nat.lt_of_lt_of_le hk.2.1 h, hk.2.2⟩

namespace ElSt
variable {w U U' : World} {row rb : Nat} {G : Nat → Prop} {s s' : St} {pre cd rest post : List Value} {ty : TypeId} {fs : List F} {td : List T}
theorem hG (h : ElSt w U row rb G s pre cd rest post ty fs td) : There G U := h.there.mono h.keep.size
theorem grow {A : List Nat} (h : ElSt w U row rb G s pre cd rest post ty fs td) (r : Rd U' rb G s') (k : Keep A U U') (hA : ∀ i, i ∈ A → i = rb ∨ U.heap.size ≤ i) : ElSt w U' row rb G s' pre cd rest post ty fs td := by
  have hs := h.keep.size
  have hl := h.lt
  have hk : Keep [rb] U U' := k.fresh (B := [rb]) (fun i hi => (hA i hi).imp (by rintro rfl; simp) id)
  refine ⟨r, ?_, ?_, h.keep.trans (hk.weaken (by simp)), h.there, h.nr, h.nrb, hl, h.ne⟩
  · exact (hk.block row (by omega) (by simp; exact h.ne)).trans h.blk
  · exact VFs.keepF (nw_same hs hl h.nr hk (by simp)) (nw_grow hk.size) _ h.val
theorem call (h : ElSt w U row rb G s pre cd rest post ty fs td) (r : Rd U' rb G s') (k : Keep [rb] U U') : ElSt w U' row rb G s' pre cd rest post ty fs td := h.grow r k (by simp)
theorem calm (h : ElSt w U row rb G s pre cd rest post ty fs td) (k : Keep [] U U') : ElSt w U' row rb G s pre cd rest post ty fs td := h.grow (h.rd.keepW h.hG h.rd.lt' k) k (by simp)
theorem cellAt {x : Value} (h : ElSt w U row rb G s pre cd (x :: rest) post ty fs td) {o : Nat} (ho : o = pre.length + cd.length) : U.cell? ⟨row, o, none⟩ = some x := by
  refine cellOf h.blk o _ ?_
  subst ho
  simp
theorem free (h : ElSt w U row rb G s pre cd rest post ty fs td) (o : Nat) : U.frozen? ⟨row, o, none⟩ = false := freeOf h.blk o
theorem setRd (h : ElSt w U row rb G s pre cd rest post ty fs td) (o : Nat) (v : Value) : Rd (U.setCell ⟨row, o, none⟩ v) rb G s ∧ Keep [row] U (U.setCell ⟨row, o, none⟩ v) := by
  have k : Keep [row] U (U.setCell ⟨row, o, none⟩ v) := (Keep.refl _ _).setCell (.inl (by simp)) _
  exact ⟨h.rd.keepA h.hG h.rd.lt' k (by intro i hi; simp at hi; subst hi; exact h.nr) (by simp; exact h.ne.symm), k⟩
theorem setBlk {x : Value} (h : ElSt w U row rb G s pre cd (x :: rest) post ty fs td) {o : Nat} (ho : o = pre.length + cd.length) (v : Value) : (U.setCell ⟨row, o, none⟩ v).heap[row]? = some (.cells (pre ++ (cd ++ ([v] ++ (rest ++ post)))).toArray ty (0, 0)) := by
  rw [heap_set h.blk v]
  subst ho
  simp [List.set_append_right]
/-- a field is read and stored -/
theorem put {x v : Value} {f : F} {t : T} (h : ElSt w U row rb G s pre cd (x :: rest) post ty fs td) {o : Nat} (ho : o = pre.length + cd.length) (hv : VF U (Nw G w rb U) f [v] t) : ElSt w (U.setCell ⟨row, o, none⟩ v) row rb G s pre (cd ++ [v]) rest post ty (fs ++ [f]) (td ++ [t]) := by
  obtain ⟨r, k⟩ := h.setRd o v
  have hs := h.keep.size
  have sm := nw_same (rb := rb) hs h.lt h.nr k (by simp)
  have gr := nw_grow (G := G) (w := w) (rb := rb) k.size
  refine ⟨r, ?_, VFs.snoc (VF.keepF sm gr _ hv) (VFs.keepF sm gr _ h.val), h.keep.trans (k.weaken (by simp)), h.there, h.nr, h.nrb, h.lt, h.ne⟩
  rw [h.setBlk ho v]
  simp
/-- a field stays as it is -/
theorem pass {x : Value} {f : F} {t : T} (h : ElSt w U row rb G s pre cd (x :: rest) post ty fs td) (hv : VF U (Nw G w rb U) f [x] t) : ElSt w U row rb G s pre (cd ++ [x]) rest post ty (fs ++ [f]) (td ++ [t]) := by
  refine ⟨h.rd, ?_, VFs.snoc hv h.val, h.keep, h.there, h.nr, h.nrb, h.lt, h.ne⟩
  rw [h.blk]
  simp
/-- the tags are read -/
theorem tags {x v : Value} {u : List Tg} (h : ElSt w U row rb G s pre cd [x] post ty fs td) {o : Nat} (ho : o = pre.length + cd.length) (hv : MP U (Nw G w rb U) v u) : ElEnd w (U.setCell ⟨row, o, none⟩ v) row rb G s pre (cd ++ [v]) post ty 10 fs (.mk 0 [] false td u) := by
  obtain ⟨r, k⟩ := h.setRd o v
  have hs := h.keep.size
  have sm := nw_same (rb := rb) hs h.lt h.nr k (by simp)
  have gr := nw_grow (G := G) (w := w) (rb := rb) k.size
  refine ⟨r, ?_, ?_, h.keep.trans (k.weaken (by simp))⟩
  · rw [h.setBlk ho v]
    simp
  · exact ⟨cd, v, td, u, rfl, VFs.keepF sm gr _ h.val, hv.keepF sm gr, rfl⟩
/-- there are no tags -/
theorem bare (h : ElSt w U row rb G s pre cd [.map none] post ty fs td) : ElEnd w U row rb G s pre (cd ++ [.map none]) post ty 10 fs (.mk 0 [] false td []) :=
  ⟨h.rd, by rw [h.blk]; simp, ⟨cd, _, td, [], rfl, h.val, MP.nil _ _, rfl⟩, h.keep⟩
/-- a list of numbers: one of them -/
theorem one {x v : Value} {ofk : Int} {t : T} (h : ElSt w U row rb G s pre [] [x] post ty [] []) {o : Nat} (ho : o = pre.length) (hv : ∀ W K p, VK W K ofk (-1) p [v] t) : ElEnd w (U.setCell ⟨row, o, none⟩ v) row rb G s pre [v] post ty ofk fs t := by
  obtain ⟨r, k⟩ := h.setRd o v
  refine ⟨r, ?_, hv _ _ _, h.keep.trans (k.weaken (by simp))⟩
  rw [h.setBlk (by simpa using ho) v]
  simp
/-- what a call has made is ours -/
theorem nwOf (h : ElSt w U row rb G s pre cd rest post ty fs td) {W : World} : ∀ k, (U.heap.size ≤ k ∧ k < W.heap.size) → Nw G w rb W k := fun k hk => ⟨.inr (Nat.le_trans h.keep.size hk.1), hk.2, by have := h.rd.lt'; omega⟩
theorem nwNew (h : ElSt w U row rb G s pre cd rest post ty fs td) {W : World} : ∀ k, New G U W k → Nw G w rb W k := fun k hk => ⟨hk.1.imp id (Nat.le_trans h.keep.size), hk.2, by
  rintro rfl
  rcases hk.1 with e | e
  · exact h.nrb e
  · have := h.rd.lt'; omega⟩
end ElSt
namespace ElEnd
variable {w U U' : World} {row rb : Nat} {G : Nat → Prop} {s s' : St} {pre c post : List Value} {ty : TypeId} {ofk : Int} {fs : List F} {t : T}
theorem calm (h : ElEnd w U row rb G s pre c post ty ofk fs t) (hG : There G w) (hr : ¬ G row) (hl : row < w.heap.size) (hrb : rb < U.heap.size) (k : Keep [] U U') : ElEnd w U' row rb G s pre c post ty ofk fs t := by
  have hs := h.keep.size
  have sm := nw_same hs hl hr k (by simp) (rb := rb)
  have gr := nw_grow (G := G) (w := w) (rb := rb) k.size
  exact ⟨h.rd.keepW (hG.mono hs) hrb k, (k.block row (by omega) (by simp)).trans h.blk, VK.keepF sm gr (fun c l => VFs.keepF sm gr fs) h.val, h.keep.trans (k.weaken (by simp))⟩
end ElEnd

theorem el_at {pre cd : List Value} {m k j : Nat} (h : pre.length = m * k) (hc : cd.length = j) : k * m + j = pre.length + cd.length := by rw [h, hc, Nat.mul_comm]
theorem el_at0 {pre cd : List Value} {m k : Nat} (h : pre.length = m * k) (hc : cd.length = 0) : k * m = pre.length + cd.length := by rw [h, hc, Nat.mul_comm]; rfl
/-- how a list's row looks when it is made -/
def RowIni (U1 wx : World) (v0 av : Value) (N : Nat) (zs : List Value) (ty : TypeId) : Prop :=
  (N = 0 ∧ wx = U1 ∧ av = v0) ∨ (0 < N ∧ ∃ row cap extra, av = .slice (some ⟨row, 0, none⟩) N cap ∧ N ≤ cap ∧ U1.heap.size ≤ row ∧ Keep [] U1 wx ∧ wx.heap[row]? = some (.cells ((List.replicate N zs).flatten ++ extra).toArray ty (0, 0)))
/-- k things of a list are read -/
structure RowSt (w U : World) (row rb : Nat) (G : Nat → Prop) (g : St → T × St) (s0 : St) (N m k : Nat) (zs extra : List Value) (ty : TypeId) (ofk : Int) (fs : List F) : Prop where
  rd : Rd U rb G (rdTimes g k s0).2
  blk : ∃ css : List (List Value), css.length = k ∧ (∀ i (h1 : i < (rdTimes g k s0).1.length) (h2 : i < css.length), css[i].length = m ∧ VK U (Nw G w rb U) ofk (-1) (VFs U (Nw G w rb U) fs) css[i] (rdTimes g k s0).1[i]) ∧ U.heap[row]? = some (.cells (css.flatten ++ ((List.replicate (N - k) zs).flatten ++ extra)).toArray ty (0, 0))
  keep : Keep [row, rb] w U
  there : There G w
  nr : ¬ G row
  nrb : ¬ G rb
  lt : row < w.heap.size
  rlt : rb < w.heap.size
  ne : row ≠ rb
theorem RowSt.elem {w U : World} {row rb : Nat} {G : Nat → Prop} {g : St → T × St} {s0 : St} {N m k : Nat} {zs extra : List Value} {ty : TypeId} {ofk : Int} {fs : List F} (h : RowSt w U row rb G g s0 N m k zs extra ty ofk fs) (hk : k < N) :
    ∃ pre post, pre.length = m * k ∧ ElSt U U row rb G (rdTimes g k s0).2 pre [] zs post ty [] [] ∧
      ∀ U' c t s', ElEnd U U' row rb G s' pre c post ty ofk fs t → c.length = m → g (rdTimes g k s0).2 = (t, s') → RowSt w U' row rb G g s0 N m (k + 1) zs extra ty ofk fs := by
  obtain ⟨css, h1, h2, h3⟩ := h.blk
  have hz := h.keep.size
  have hlen : css.flatten.length = m * css.length := flatten_len css m fun c hc => by
    obtain ⟨i, hi, rfl⟩ := List.getElem_of_mem hc
    exact (h2 i (by rw [rdTimes_len]; omega) hi).1
  refine ⟨css.flatten, (List.replicate (N - (k + 1)) zs).flatten ++ extra, by rw [hlen, h1], ⟨h.rd, ?_, ⟨rfl, rfl⟩, Keep.refl _ _, h.there.mono hz, h.nr, h.nrb, Nat.lt_of_lt_of_le h.lt hz, h.ne⟩, fun U' c t s' he hc hg => ?_⟩
  · rw [h3, show N - k = (N - (k + 1)) + 1 by omega, List.replicate_succ]
    simp
  · have e1 : (rdTimes g (k + 1) s0).2 = s' := by simp only [rdTimes, hg]
    have e2 : (rdTimes g (k + 1) s0).1 = (rdTimes g k s0).1 ++ [t] := by simp only [rdTimes, hg]
    have hs' := he.keep.size
    have sm : SameOn (Nw G w rb U) U U' := nw_same hz h.lt h.nr he.keep (by simp)
    have gr := nw_grow (G := G) (w := w) (rb := rb) hs'
    have gr2 : ∀ k, Nw G U rb U' k → Nw G w rb U' k := fun k hk => ⟨hk.1.imp id (Nat.le_trans hz), hk.2⟩
    refine ⟨by rw [e1]; exact he.rd, ⟨css ++ [c], by simp [h1], ?_, ?_⟩, h.keep.trans he.keep, h.there, h.nr, h.nrb, h.lt, h.rlt, h.ne⟩
    · rw [e2]
      intro i a b
      rcases Nat.lt_or_ge i css.length with hi | hi
      · rw [List.getElem_append_left hi, List.getElem_append_left (by rw [rdTimes_len]; omega)]
        have := h2 i (by rw [rdTimes_len]; omega) hi
        exact ⟨this.1, VK.keepF sm gr (fun c l => VFs.keepF sm gr fs) this.2⟩
      · have hi' : i = css.length := by simp at b; omega
        subst hi'
        rw [List.getElem_append_right (Nat.le_refl _), List.getElem_append_right (by rw [rdTimes_len]; omega)]
        simp only [rdTimes_len, h1, Nat.sub_self, List.getElem_singleton]
        exact ⟨hc, VK.keepF (fun _ _ => rfl) gr2 (fun c l => VFs.keepF (fun _ _ => rfl) gr2 fs) he.val⟩
    · rw [he.blk]
      simp

/-- a list of which k things are read -/
def RowRel (U1 w U : World) (rb : Nat) (G : Nat → Prop) (g : St → T × St) (s0 : St) (N m k : Nat) (zs : List Value) (ty : TypeId) (ofk : Int) (fs : List F) (v0 av : Value) : Prop :=
  (N = 0 ∧ k = 0 ∧ av = v0 ∧ U = U1 ∧ w = U1 ∧ Rd U1 rb G s0) ∨
  (0 < N ∧ k ≤ N ∧ ∃ row cap extra, av = .slice (some ⟨row, 0, none⟩) N cap ∧ N ≤ cap ∧ U1.heap.size ≤ row ∧ Keep [] U1 w ∧ RowSt w U row rb G g s0 N m k zs extra ty ofk fs)
theorem RowRel.start {U1 w : World} {rb : Nat} {G : Nat → Prop} {s0 : St} {N : Nat} {zs : List Value} {ty : TypeId} {v0 av : Value} (h : RowIni U1 w v0 av N zs ty) (r : Rd U1 rb G s0) (hG : There G U1) (hb : ¬ G rb) (g : St → T × St) (m : Nat) (ofk : Int) (fs : List F) :
    RowRel U1 w w rb G g s0 N m 0 zs ty ofk fs v0 av := by
  rcases h with ⟨h1, h2, h3⟩ | ⟨h1, row, cap, extra, h2, h3, h4, h5, h6⟩
  · subst h2
    exact .inl ⟨h1, rfl, h3, rfl, rfl, r⟩
  · have hl := r.lt'
    have hz := h5.size
    refine .inr ⟨h1, Nat.zero_le _, row, cap, extra, h2, h3, h4, h5, ⟨r.keepW hG hl h5, ⟨[], rfl, fun i _ a => by simp at a, by rw [h6]; simp⟩, Keep.refl _ _, hG.mono hz, fun e => by have := hG _ e; omega, hb, World.heap_lt h6, by omega, by omega⟩⟩
theorem RowRel.elem {U1 w U : World} {rb : Nat} {G : Nat → Prop} {g : St → T × St} {s0 : St} {N m k : Nat} {zs : List Value} {ty : TypeId} {ofk : Int} {fs : List F} {v0 av : Value} (h : RowRel U1 w U rb G g s0 N m k zs ty ofk fs v0 av) (hk : k < N) :
    ∃ row cap pre post, av = .slice (some ⟨row, 0, none⟩) N cap ∧ N ≤ cap ∧ U1.heap.size ≤ row ∧ pre.length = m * k ∧ ElSt U U row rb G (rdTimes g k s0).2 pre [] zs post ty [] [] ∧
      ∀ U' c t s', ElEnd U U' row rb G s' pre c post ty ofk fs t → c.length = m → g (rdTimes g k s0).2 = (t, s') → RowRel U1 w U' rb G g s0 N m (k + 1) zs ty ofk fs v0 av := by
  rcases h with ⟨h1, _⟩ | ⟨h1, _, row, cap, extra, h2, h3, h4, h5, h6⟩
  · omega
  · obtain ⟨pre, post, a1, a2, a3⟩ := h6.elem hk
    exact ⟨row, cap, pre, post, h2, h3, h4, a1, a2, fun U' c t s' b1 b2 b3 => .inr ⟨h1, hk, row, cap, extra, h2, h3, h4, h5, a3 U' c t s' b1 b2 b3⟩⟩
theorem RowRel.keep {U1 w U : World} {rb : Nat} {G : Nat → Prop} {g : St → T × St} {s0 : St} {N m k : Nat} {zs : List Value} {ty : TypeId} {ofk : Int} {fs : List F} {v0 av : Value} (h : RowRel U1 w U rb G g s0 N m k zs ty ofk fs v0 av) : Keep [rb] U1 U := by
  rcases h with ⟨rfl, _, rfl, rfl, rfl, h1⟩ | ⟨h1, h1', row, cap, extra, rfl, h3, h4, h5, h6⟩
  · exact Keep.refl _ _
  · exact ((h5.weaken (B := [row, rb]) (by simp)).trans h6.keep).fresh (by simp; omega)
/-- the list is read whole -/
theorem RowRel.fin {U1 w U : World} {rb : Nat} {G : Nat → Prop} {g : St → T × St} {s0 : St} {N m k : Nat} {zs : List Value} {ty : TypeId} {ofk : Int} {fs : List F} {v0 av : Value} (h : RowRel U1 w U rb G g s0 N m k zs ty ofk fs v0 av) (hk : ¬ k < N) (h0 : v0 = .slice none 0 0 ∨ ∃ b, v0 = .slice (some ⟨b, 0, none⟩) 0 0) :
    Rd U rb G (rdTimes g N s0).2 ∧ Keep [rb] U1 U ∧ (∃ ao cap, av = .slice ao N cap) ∧
      ∀ null, (null = true ↔ N = 0 ∧ v0 = .slice none 0 0) → VL U (Nw G U1 rb U) (VK U (Nw G U1 rb U) ofk (-1) (VFs U (Nw G U1 rb U) fs)) m av (.mk 0 [] null (rdTimes g N s0).1 []) := by
  rcases h with ⟨rfl, _, rfl, rfl, rfl, h1⟩ | ⟨h1, h1', row, cap, extra, rfl, h3, h4, h5, h6⟩
  · have hs : ∃ ao : Option Addr, av = .slice ao 0 0 := by
      rcases h0 with rfl | ⟨b, rfl⟩
      · exact ⟨none, rfl⟩
      · exact ⟨_, rfl⟩
    obtain ⟨ao, hao⟩ := hs
    exact ⟨h1, Keep.refl _ _, ⟨ao, 0, hao⟩, fun null hn => ⟨null, [], [], rfl, fun i a => by simp at a, .inl ⟨rfl, rfl, h0⟩, by rw [hn]; simp, rfl⟩⟩
  · obtain rfl : k = N := by omega
    have hz := h6.keep.size
    have hz5 := h5.size
    have hrl := h6.rlt
    obtain ⟨css, c1, c2, c3⟩ := h6.blk
    have gr : ∀ i, Nw G w rb U i → Nw G U1 rb U i := fun i hi => ⟨hi.1.imp id (Nat.le_trans hz5), hi.2⟩
    refine ⟨h6.rd, ((h5.weaken (B := [row, rb]) (by simp)).trans h6.keep).fresh (by simp; omega), ⟨_, cap, rfl⟩, fun null hn => ⟨null, css, _, by rw [rdTimes_len, c1], fun i a b => ⟨(c2 i a b).1, VK.keepF (fun _ _ => rfl) gr (fun c l => VFs.keepF (fun _ _ => rfl) gr fs) (c2 i a b).2⟩, ?_, ?_, rfl⟩⟩
    · exact .inr ⟨by omega, row, cap, _, ty, by rw [c1], by omega, ⟨.inr h4, Nat.lt_of_lt_of_le h6.lt hz, h6.ne⟩, by simpa using c3⟩
    · constructor
      · intro e; cases e
      · intro e; have := hn.1 e; omega
/-- a message's struct is read whole -/
theorem ElEnd.vm {w U : World} {b rb : Nat} {G : Nat → Prop} {s : St} {c : List Value} {ty : TypeId} {fs : List F} {t : T} {ver : Int} (h : ElEnd w U b rb G s [.int .i16 ver] c [] ty 10 fs t) (hrb : w.heap.size ≤ rb) : Keep [b] w U ∧ VM U (New G w U) b fs ty ver t := by
  refine ⟨h.keep.fresh (by simp; omega), ?_⟩
  obtain ⟨cs, v, l, u, h1, h2, h3, h4⟩ : ∃ cs v l u, c = cs ++ [v] ∧ VFs U (Nw G w rb U) fs cs l ∧ MP U (Nw G w rb U) v u ∧ t = .mk 0 [] false l u := h.val
  have gr : ∀ k, Nw G w rb U k → New G w U k := fun k hk => ⟨hk.1, hk.2.1⟩
  refine ⟨cs, v, l, u, ?_, VFs.keepF (fun _ _ => rfl) gr fs h2, h3.keepF (fun _ _ => rfl) gr, h4⟩
  rw [h.blk, h1]
  simp

section
variable {W : World} {G : Nat → Prop} {a b nul c d e n : Int} {sub : List F}
theorem vf_bool {x : Bool} : VF W G (.mk 0 a b nul c d e sub) [.bool x] (.mk (if x then 1 else 0) [] false [] []) := ⟨x, rfl, rfl⟩
theorem vf_i8 (h : -128 ≤ n ∧ n ≤ 127) : VF W G (.mk 1 a b nul c d e sub) [.int .i8 n] (.mk n [] false [] []) := ⟨n, rfl, h, rfl⟩
theorem vf_i16 (h : -32768 ≤ n ∧ n ≤ 32767) : VF W G (.mk 2 a b nul c d e sub) [.int .i16 n] (.mk n [] false [] []) := ⟨n, rfl, h, rfl⟩
theorem vf_i32 (h : -2147483648 ≤ n ∧ n ≤ 2147483647) : VF W G (.mk 3 a b nul c d e sub) [.int .i32 n] (.mk n [] false [] []) := ⟨n, rfl, h, rfl⟩
theorem vf_i64 (h : -9223372036854775808 ≤ n ∧ n ≤ 9223372036854775807) : VF W G (.mk 4 a b nul c d e sub) [.int .i64 n] (.mk n [] false [] []) := ⟨n, rfl, h, rfl⟩
theorem vf_u16 (h : 0 ≤ n ∧ n ≤ 65535) : VF W G (.mk 5 a b nul c d e sub) [.int .u16 n] (.mk n [] false [] []) := ⟨n, rfl, h, rfl⟩
theorem vf_str (hn : nul < 0) (x : Bs) : VF W G (.mk 8 a b nul c d e sub) [.string ⟨x.toArray⟩] (.mk 0 x false [] []) := by
  show VK W G 8 nul (VFs W G sub) _ _
  simp only [VK]
  rw [if_neg (by decide), if_neg (by decide), if_neg (by decide), if_neg (by decide), if_neg (by decide), if_neg (by decide), if_neg (by decide), if_pos True.intro, if_neg (by omega)]
  exact ⟨x, rfl, rfl⟩
theorem vf_nstr (hn : 0 ≤ nul) {v : Value} {o : Option Bs} (h : PS W G v o) : VF W G (.mk 8 a b nul c d e sub) [v] (nstrT o) := by
  show VK W G 8 nul (VFs W G sub) _ _
  simp only [VK]
  rw [if_neg (by decide), if_neg (by decide), if_neg (by decide), if_neg (by decide), if_neg (by decide), if_neg (by decide), if_neg (by decide), if_pos True.intro, if_pos hn]
  exact ⟨v, o, rfl, h, rfl⟩
theorem vf_oct {v : Value} {o : Option Bs} (h : OS W G v o) : VF W G (.mk 9 a b nul c d e sub) [v] (octT o) := ⟨v, o, rfl, h, rfl⟩
theorem vf_list {v : Value} {t : T} {m : Nat} (hm : m = wdK e (wdFs sub)) (h : VL W G (VK W G e (-1) (VFs W G sub)) m v t) : VF W G (.mk 11 a b nul c d e sub) [v] t := by
  subst hm
  exact ⟨v, rfl, h⟩
end
theorem PS.nil (W : World) (G : Nat → Prop) : PS W G (.pointer none) none := .inl ⟨rfl, rfl⟩
theorem OS.nil (W : World) (G : Nat → Prop) : OS W G (.slice none 0 0) none := ⟨RB.nil _ _, by simp⟩
theorem VL.nil (W : World) (G : Nat → Prop) (P : List Value → T → Prop) (m : Nat) : VL W G P m (.slice none 0 0) (.mk 0 [] true [] []) :=
  ⟨true, [], [], rfl, fun i a => by simp at a, .inl ⟨rfl, rfl, .inl rfl⟩, by simp, rfl⟩
theorem clist_bad {a b nul c d ofk v : Int} {sub : List F} {s : St} (h : (rdCLen s).2.2 = true) : (rdF (.mk 11 a b nul c d ofk sub) v true s).2.2 = true :=
  rdTimes_b (rdK_b ofk false true (rdPartOf_b (rdFs_b sub v true) true)) _ _ h
theorem list_bad {a b nul c d ofk v : Int} {sub : List F} {s : St} (h : (rdLen s).2.2 = true) : (rdF (.mk 11 a b nul c d ofk sub) v false s).2.2 = true :=
  rdTimes_b (rdK_b ofk false false (rdPartOf_b (rdFs_b sub v false) false)) _ _ h
/-- how one thing of a list is read -/
def gOf (ofk : Int) (flex : Bool) (sub : List F) (v : Int) : St → T × St := rdK ofk false flex (rdPartOf (rdFs sub v flex) flex)
theorem gOf_b (ofk : Int) (flex : Bool) (sub : List F) (v : Int) : Bad fun s => (gOf ofk flex sub v s).2 := rdK_b ofk false flex (rdPartOf_b (rdFs_b sub v flex) flex)
theorem rdF_clist {a b c d ofk v : Int} {sub : List F} {s : St} {L : Int} (h : (rdCLen s).1 = L) : rdF (.mk 11 a b (-1) c d ofk sub) v true s = (.mk 0 [] (decide (L ≤ 0)) (rdTimes (gOf ofk true sub v) L.toNat (rdCLen s).2).1 [], (rdTimes (gOf ofk true sub v) L.toNat (rdCLen s).2).2) := by
  subst h
  simp [rdF, rdListOf, gOf]
theorem rdF_list {a b c d ofk v : Int} {sub : List F} {s : St} {L : Int} (h : (rdLen s).1 = L) : rdF (.mk 11 a b (-1) c d ofk sub) v false s = (.mk 0 [] (decide (L ≤ 0)) (rdTimes (gOf ofk false sub v) L.toNat (rdLen s).2).1 [], (rdTimes (gOf ofk false sub v) L.toNat (rdLen s).2).2) := by
  subst h
  simp [rdF, rdListOf, gOf]
theorem info_bd {P : Program} {t : TypeId} {z : Value} {m : Nat} (h : (P.info? t).map (fun i => (i.zero, i.size, decide (i.bytes ≤ 65536))) = some (some z, m, true)) : ∃ i, P.info? t = some i ∧ i.zero = some z ∧ i.size = m ∧ i.bytes ≤ 65536 := by
  cases hi : P.info? t with
  | none => rw [hi] at h; cases h
  | some i =>
    rw [hi] at h
    simp at h
    exact ⟨i, rfl, h.1, h.2.1, h.2.2⟩
theorem rdLen_range (s : St) : -2147483648 ≤ (rdLen s).1 ∧ (rdLen s).1 ≤ 2147483647 := by
  have := rdI_range4 s
  simp only [rdLen]
  split
  · simp
  · exact this
theorem rdCLen_range (s : St) : -2147483648 ≤ (rdCLen s).1 ∧ (rdCLen s).1 ≤ 2147483647 := by
  simp only [rdCLen]
  split
  · simp
  · simp only [IntKind.wrap_i32]; omega
/-- zero cells, one thing after another -/
theorem zeroCells_list (z : Array Value) : ∀ n : Nat, (Builtin.zeroCells z n).toList = (List.replicate n z.toList).flatten
  | 0 => by simp [Builtin.zeroCells]
  | n + 1 => by
    have ih := zeroCells_list z n
    simp only [Builtin.zeroCells, Array.toList_map, Array.toList_range] at ih ⊢
    rw [Nat.succ_mul, List.range_add, List.map_append, ih, List.replicate_succ', List.flatten_append]
    congr 1
    simp only [List.map_map, List.flatten_cons, List.flatten_nil, List.append_nil]
    refine List.ext_getElem (by simp) fun i h1 h2 => ?_
    have hi : i < z.size := by simpa using h2
    simp [Nat.add_mod, Nat.mod_eq_of_lt hi, hi]
theorem RowIni.made {w : World} {z : Value} {N : Nat} {e : TypeId} (h : 0 < N) {zs : List Value} (hz : z.cells.toList = zs) :
    RowIni w (w.drew.alloc (.cells (Builtin.zeroCells z.cells N ++ Builtin.zeroCells z.cells (grownCap w N 0 e - N)) e)) (.slice none 0 0) (.slice (some ⟨w.heap.size, 0, none⟩) N (grownCap w N 0 e)) N zs e := by
  subst hz
  refine .inr ⟨h, w.heap.size, _, (List.replicate (grownCap w N 0 e - N) z.cells.toList).flatten, rfl, grownCap_ge w N 0 e, Nat.le_refl _, ((Keep.refl [] w).drew).alloc _, ?_⟩
  have hh := heap_alloc_new w.drew (.cells (Builtin.zeroCells z.cells N ++ Builtin.zeroCells z.cells (grownCap w N 0 e - N)) e)
  have e1 : (Builtin.zeroCells z.cells N ++ Builtin.zeroCells z.cells (grownCap w N 0 e - N)) = ((List.replicate N z.cells.toList).flatten ++ (List.replicate (grownCap w N 0 e - N) z.cells.toList).flatten).toArray := by
    rw [← zeroCells_list, ← zeroCells_list]
    apply Array.ext'
    simp
  rw [e1] at hh ⊢
  exact hh
end Go.Proofs.YtobbchmjgoaleaaGreatDoor
/-
  THE ROUND TRIP, in plain Lean: what the reference writes of a tree is read back, and what was read is written again.
-/
namespace Go.Proofs.YtobbchmjgoaleaaGreatDoor

theorem emod_mul' (n a b : Int) (ha : 0 ≤ a) : n % (a * b) = n % a + a * (n / a % b) := by
  rw [Int.emod_def, Int.emod_def n a, Int.emod_def (n / a) b, Int.ediv_ediv_of_nonneg ha, Int.mul_sub, Int.mul_assoc]
  omega
theorem pow2_nn (k : Nat) : (0 : Int) ≤ 2 ^ k := Int.le_of_lt (Int.pow_pos (by decide))
theorem oct_nat (n : Int) (k : Nat) : (oct n k).toNat = (n / 2 ^ (8 * k) % 256).toNat := by
  unfold oct
  have h1 : 0 ≤ (n / 2 ^ (8 * k)) % 256 := Int.emod_nonneg _ (by decide)
  have h2 : (n / 2 ^ (8 * k)) % 256 < 256 := Int.emod_lt_of_pos _ (by decide)
  simp only [UInt8.toNat_ofNat']
  omega
theorem be_app : ∀ (l : Bs) (n : Nat), l.foldl (fun n b => 256 * n + b.toNat) n = 256 ^ l.length * n + be l
  | [], n => by simp [be]
  | b :: r, n => by
    have h1 := be_app r (256 * n + b.toNat)
    have h2 := be_app r (256 * 0 + b.toNat)
    simp only [be, List.foldl_cons, List.length_cons] at *
    rw [h1, h2, Nat.pow_succ]
    rw [Nat.mul_add, Nat.mul_add, Nat.mul_assoc]
    omega
theorem be_fixed (n : Int) : ∀ k, ((be (fixedP n k) : Nat) : Int) = n % 2 ^ (8 * k)
  | 0 => by simp [be, fixedP, Int.emod_one]
  | k + 1 => by
    have ih := be_fixed n k
    have h := be_app (fixedP n k) (256 * 0 + (oct n k).toNat)
    simp only [be, fixedP, List.foldl_cons] at *
    rw [h, fixedP_len, oct_nat]
    have h1 : 0 ≤ (n / 2 ^ (8 * k)) % 256 := Int.emod_nonneg _ (by decide)
    have e : (256 : Int) ^ k = 2 ^ (8 * k) := by rw [Int.pow_mul]; rfl
    rw [Int.natCast_add, Int.natCast_mul, ih, show 256 * 0 + (n / 2 ^ (8 * k) % 256).toNat = (n / 2 ^ (8 * k) % 256).toNat by omega, Int.toNat_of_nonneg h1, show ((256 ^ k : Nat) : Int) = (256 : Int) ^ k by simp, e, Nat.mul_add, Int.pow_add]
    have e3 : n % (2 ^ (8 * k) * 2 ^ (8 * 1)) = n % 2 ^ (8 * k) + 2 ^ (8 * k) * (n / 2 ^ (8 * k) % 256) := by
      rw [emod_mul' _ _ _ (pow2_nn _)]; rfl
    rw [e3]; omega
theorem rdN_fixed (n : Int) (k : Nat) (r : Bs) : rdN k (fixedP n k ++ r, false) = ((n % 2 ^ (8 * k)).toNat, (r, false)) := by
  have h := be_fixed n k
  have hl := fixedP_len n k
  simp only [rdN, List.length_append, hl, if_neg (show ¬ k + r.length < k by omega)]
  rw [List.take_left' hl, List.drop_left' hl]
  congr 1
  omega
/-- a number as so many octets have it, with a sign -/
def wrapN (k : Nat) (n : Int) : Int := sgn k (n % 2 ^ (8 * k)).toNat
theorem rdI_fixed (n : Int) (k : Nat) (r : Bs) : rdI k (fixedP n k ++ r, false) = (wrapN k n, (r, false)) := by
  simp only [rdI, rdN_fixed, wrapN]
theorem fixed_wrap1 (n : Int) (k : Nat) : ∀ j, j ≤ k → fixedP (n % 2 ^ (8 * k)) j = fixedP n j
  | 0, _ => rfl
  | j + 1, h => by
    have ih := fixed_wrap1 n k j (by omega)
    simp only [fixedP, ih]
    congr 1
    have e : (n % 2 ^ (8 * k)) / 2 ^ (8 * j) % 256 = n / 2 ^ (8 * j) % 256 := by
      have e1 : (2 : Int) ^ (8 * k) = 2 ^ (8 * j) * (256 * 2 ^ (8 * (k - j - 1))) := by
        rw [show 8 * k = 8 * j + (8 + 8 * (k - j - 1)) by omega, Int.pow_add, Int.pow_add]; rfl
      have e2 : (0 : Int) < 2 ^ (8 * j) := Int.pow_pos (by decide)
      generalize (2 : Int) ^ (8 * (k - j - 1)) = c at *
      generalize (2 : Int) ^ (8 * j) = d at *
      rw [e1, emod_mul' _ _ _ (by omega), Int.add_mul_ediv_left _ _ (by omega), Int.emod_def n d]
      rw [show (n - d * (n / d)) / d = 0 from ?_]
      · rw [Int.zero_add, emod_mul' _ _ _ (by decide), Int.add_mul_emod_self_left, Int.emod_emod_of_dvd _ (by decide)]
      · rw [← Int.emod_def]
        exact Int.ediv_eq_zero_of_lt (Int.emod_nonneg _ (by omega)) (Int.emod_lt_of_pos _ e2)
    unfold oct
    rw [e]
/-- in at most so many groups -/
theorem uvAt_var : ∀ (j k acc n : Nat) (r : Bs), k + j = 4 → n < 2 ^ (32 - 7 * k) → uvAt k acc (uvarP n ++ r) = (acc + n * 2 ^ (7 * k), (k : Int) + ((uvarP n).length : Nat)) ∧ 0 < (uvarP n).length
  | 0, k, acc, n, r, hk, hn => by
    obtain rfl : k = 4 := by omega
    have hn' : n < 16 := by simpa using hn
    rw [uvarP_small (by omega)]
    have e : (UInt8.ofNat n).toNat = n := by simp only [UInt8.toNat_ofNat']; omega
    simp only [List.cons_append, List.nil_append, uvAt, if_true, e]
    rw [if_pos (by omega)]
    simp
  | j + 1, k, acc, n, r, hk, hn => by
    by_cases h : 127 < n
    · rw [uvarP_big h]
      have e : (UInt8.ofNat (n % 128 + 128)).toNat = n % 128 + 128 := by simp only [UInt8.toNat_ofNat']; omega
      have ih := uvAt_var j (k + 1) (acc + n % 128 * 2 ^ (7 * k)) (n / 128) r (by omega) (by
        have : 2 ^ (32 - 7 * k) = 128 * 2 ^ (32 - 7 * (k + 1)) := by
          rw [show 32 - 7 * k = 7 + (32 - 7 * (k + 1)) by omega, Nat.pow_add]
        omega)
      simp only [List.cons_append, uvAt, e, List.length_cons]
      rw [if_neg (by omega), if_neg (by omega), show (n % 128 + 128) % 128 = n % 128 by omega, ih.1]
      refine ⟨?_, by omega⟩
      congr 1
      · have e2 : 2 ^ (7 * (k + 1)) = 128 * 2 ^ (7 * k) := by
          rw [show 7 * (k + 1) = 7 + 7 * k by omega, Nat.pow_add]
        rw [e2, ← Nat.mul_assoc, Nat.add_assoc, ← Nat.add_mul]
        congr 2
        omega
      · push_cast; omega
    · rw [uvarP_small h]
      have e : (UInt8.ofNat n).toNat = n := by simp only [UInt8.toNat_ofNat']; omega
      simp only [List.cons_append, List.nil_append, uvAt, e]
      rw [if_neg (by omega), if_pos (by omega)]
      simp
theorem rdUv_var {n : Nat} (h : n < 4294967296) (r : Bs) : rdUv (uvarP n ++ r, false) = (n, (r, false)) := by
  have h1 := uvAt_var 4 0 0 n r rfl (by simpa using h)
  have h2 := h1.2
  have h3 := h1.1
  simp only [Nat.zero_add, Nat.mul_zero, Nat.pow_zero, Nat.mul_one] at h3
  have e : uvP (uvarP n ++ r) = (n, ((uvarP n).length : Int)) := by unfold uvP; rw [h3]; simp
  simp only [rdUv, e]
  rw [if_neg (by omega)]
  simp
theorem rdSpan_app (x r : Bs) {n : Int} (hn : n = x.length) : rdSpan n (x ++ r, false) = (x, (r, false)) := by
  subst hn
  simp only [rdSpan, List.length_append]
  rw [if_neg (by omega)]
  simp
/-- what a tag is, written -/
def tagP (u : Tg) : Bs := uvarP u.1 ++ uvarP u.2.length ++ u.2
theorem insK_end {α : Type} (x : Nat × α) : ∀ l : List (Nat × α), (∀ y ∈ l, y.1 < x.1) → insK x l = l ++ [x]
  | [], _ => rfl
  | y :: r, h => by
    have h1 := h y (by simp)
    simp only [insK, if_neg (show ¬ x.1 < y.1 by omega), List.cons_append]
    rw [insK_end x r (fun z hz => h z (by simp [hz]))]
theorem putK_end {α : Type} (k : Nat) (x : α) (l : List (Nat × α)) (h : ∀ y ∈ l, y.1 < k) : putK l k x = l ++ [(k, x)] := by
  unfold putK
  rw [List.filter_eq_self.2 (fun y hy => by have := h y hy; simp; omega)]
  exact insK_end _ _ h
theorem rdTagsN_app : ∀ (us acc : List Tg) (r : Bs), Rising (acc ++ us) → (∀ u ∈ us, u.1 < 4294967296 ∧ u.2.length < 4294967296) → rdTagsN us.length ((us.map tagP).flatten ++ r, false) acc = (acc ++ us, (r, false))
  | [], acc, r, _, _ => by simp [rdTagsN]
  | u :: us, acc, r, h, hb => by
    obtain ⟨b1, b2⟩ := hb u (by simp)
    have hl : ∀ y ∈ acc, y.1 < u.1 := fun y hy => by
      unfold Rising at h
      exact (List.pairwise_append.1 h).2.2 y hy u (by simp)
    have e1 : ((u :: us).map tagP).flatten ++ r = uvarP u.1 ++ (uvarP u.2.length ++ (u.2 ++ ((us.map tagP).flatten ++ r))) := by
      simp [tagP]
    rw [e1]
    simp only [List.length_cons, rdTagsN, rdUv_var b1, rdUv_var b2, rdSpan_app u.2 _ rfl]
    rw [putK_end _ _ _ hl, rdTagsN_app us (acc ++ [(u.1, u.2)]) r (by simpa using h) (fun v hv => hb v (by simp [hv]))]
    simp
theorem rdTags_app (us : List Tg) (r : Bs) (h : Rising us) (hb : ∀ u ∈ us, u.1 < 4294967296 ∧ u.2.length < 4294967296) (hn : us.length < 4294967296) :
    rdTags (uvarP us.length ++ ((us.map tagP).flatten ++ r), false) = (us, (r, false)) := by
  simp only [rdTags, rdUv_var hn]
  exact rdTagsN_app us [] r (by simpa using h) hb
/-! unknown tags -/
theorem spot_le (out : List Tg) (k : Nat) : spot out k ≤ out.length := by
  unfold spot; exact (List.takeWhile_prefix _).length_le
theorem take_spot (out : List Tg) (k : Nat) : out.take (spot out k) = out.takeWhile (fun x => x.1 < k) := by
  induction out with
  | nil => rfl
  | cons y r ih =>
    simp only [spot, List.takeWhile_cons] at *
    split
    · simp [ih]
    · simp
theorem drop_spot (out : List Tg) (k : Nat) : out.drop (spot out k) = out.dropWhile (fun x => x.1 < k) := by
  induction out with
  | nil => rfl
  | cons y r ih =>
    simp only [spot, List.takeWhile_cons, List.dropWhile_cons] at *
    split
    · simp [ih]
    · simp
theorem rising_ins {out : List Tg} (h : Rising out) (t : Tg) : Rising (ins out t) := by
  unfold ins
  split
  · exact h
  · rename_i hn
    have hs : out = out.take (spot out t.1) ++ out.drop (spot out t.1) := (List.take_append_drop _ _).symm
    have e1 := take_spot out t.1
    have e2 := drop_spot out t.1
    have h1 : ∀ y ∈ out.take (spot out t.1), y.1 < t.1 := fun y hy => by
      rw [e1] at hy
      have := List.all_eq_true.1 (List.all_takeWhile (p := fun x : Tg => decide (x.1 < t.1)) (l := out)) y hy
      simpa using this
    have h2 : ∀ y ∈ out.drop (spot out t.1), t.1 < y.1 := by
      cases hd : out.drop (spot out t.1) with
      | nil => simp
      | cons z r =>
        have hz : out[spot out t.1]? = some z := by
          have := List.getElem?_drop (xs := out) (i := spot out t.1) (j := 0)
          rw [hd] at this
          simpa using this.symm
        have hz1 : ¬ z.1 = t.1 := by
          rw [hz] at hn
          simpa using hn
        have hz2 : ¬ z.1 < t.1 := by
          have : out.dropWhile (fun x => x.1 < t.1) = z :: r := by rw [← e2, hd]
          intro hlt
          have h3 := List.head?_dropWhile_not (fun x : Tg => decide (x.1 < t.1)) out
          rw [this] at h3
          simp at h3
          omega
        have hp : Rising (z :: r) := by
          have : (out.drop (spot out t.1)).Pairwise (fun a b => a.1 < b.1) := List.Pairwise.sublist (List.drop_sublist _ _) h
          rwa [hd] at this
        intro y hy
        rcases List.mem_cons.1 hy with rfl | hy
        · omega
        · have := (List.pairwise_cons.1 hp).1 y hy
          omega
    unfold Rising at *
    rw [List.pairwise_append, List.pairwise_cons]
    refine ⟨List.Pairwise.sublist (List.take_sublist _ _) h, ⟨fun y hy => h2 y hy, List.Pairwise.sublist (List.drop_sublist _ _) h⟩, fun a ha b hb => ?_⟩
    rcases List.mem_cons.1 hb with rfl | hb
    · exact h1 a ha
    · have := h1 a ha
      have := h2 b hb
      omega
theorem mem_ins {out : List Tg} {t x : Tg} (h : x ∈ ins out t) : x = t ∨ x ∈ out := by
  unfold ins at h
  split at h
  · exact .inr h
  · rcases List.mem_append.1 h with h | h
    · exact .inr (List.mem_of_mem_take h)
    · rcases List.mem_cons.1 h with h | h
      · exact .inl h
      · exact .inr (List.mem_of_mem_drop h)
theorem len_ins (out : List Tg) (t : Tg) : (ins out t).length ≤ out.length + 1 := by
  unfold ins
  split
  · omega
  · simp; have := spot_le out t.1; omega
theorem unknownFrom_spec (least : Nat) : ∀ (l out : List Tg), Rising out → Rising (l.foldl (fun out t => if t.1 < least then out else ins out t) out) ∧
    (∀ x ∈ l.foldl (fun out t => if t.1 < least then out else ins out t) out, x ∈ l ∨ x ∈ out) ∧ (l.foldl (fun out t => if t.1 < least then out else ins out t) out).length ≤ l.length + out.length
  | [], out, h => ⟨h, fun x hx => .inr hx, by simp⟩
  | t :: r, out, h => by
    simp only [List.foldl_cons]
    by_cases hk : t.1 < least
    · rw [if_pos hk]
      obtain ⟨a, b, c⟩ := unknownFrom_spec least r out h
      exact ⟨a, fun x hx => (b x hx).imp (fun h => by simp [h]) id, by simp; omega⟩
    · rw [if_neg hk]
      obtain ⟨a, b, c⟩ := unknownFrom_spec least r (ins out t) (rising_ins h t)
      refine ⟨a, fun x hx => ?_, by have := len_ins out t; simp; omega⟩
      rcases b x hx with h | h
      · exact .inl (by simp [h])
      · rcases mem_ins h with h | h
        · exact .inl (by simp [h])
        · exact .inr h
theorem unknownP_spec (fs : List F) (l : List Tg) : Rising (unknownP fs l) ∧ (∀ x ∈ unknownP fs l, x ∈ l) ∧ (unknownP fs l).length ≤ 32767 := by
  obtain ⟨a, b, c⟩ := unknownFrom_spec (knownP fs) (l.take 32767) [] List.Pairwise.nil
  refine ⟨a, fun x hx => ?_, ?_⟩
  · rcases b x hx with h | h
    · exact List.mem_of_mem_take h
    · cases h
  · simp at c
    unfold unknownP unknownFrom
    omega
/-- what is told of unknown tags -/
def tdU (fs : List F) (u : List Tg) : List Tg := (unknownP fs u).map fun x => (x.1, whole x.2)
theorem tdU_rising (fs : List F) (u : List Tg) : Rising (tdU fs u) := by
  unfold tdU Rising
  rw [List.pairwise_map]
  exact (unknownP_spec fs u).1
theorem tdU_len (fs : List F) (u : List Tg) : (tdU fs u).length ≤ 32767 := by
  simpa [tdU] using (unknownP_spec fs u).2.2
theorem tdU_mem {fs : List F} {u : List Tg} (hu : ∀ x ∈ u, x.1 < 4294967296) : ∀ x ∈ tdU fs u, x.1 < 4294967296 ∧ x.2.length ≤ 32767 := by
  intro x hx
  unfold tdU at hx
  obtain ⟨y, hy, rfl⟩ := List.mem_map.1 hx
  refine ⟨hu y ((unknownP_spec fs u).2.1 y hy), ?_⟩
  simp [whole]; omega
theorem tdU_tags (fs : List F) (u : List Tg) : (unknownP fs u).map (fun u => uvarP u.1 ++ uvarP (whole u.2).length ++ whole u.2) = (tdU fs u).map tagP := by
  simp [tdU, tagP]
/-! what is told of what was written -/
def tdK (kind : Int) (part : T → T) (null : Bool) (t : T) : T :=
  if kind = 0 then .mk (t.n % 2) [] false [] []
  else if kind = 1 then .mk (wrapN 1 t.n) [] false [] []
  else if kind = 2 then .mk (wrapN 2 t.n) [] false [] []
  else if kind = 3 then .mk (wrapN 4 t.n) [] false [] []
  else if kind = 4 then .mk (wrapN 8 t.n) [] false [] []
  else if kind = 5 then .mk (t.n % 65536) [] false [] []
  else if kind = 6 then .mk (wrapN 8 t.n) [] false [] []
  else if kind = 7 then .mk 0 (pad16 t.s) false [] []
  else if kind = 8 then (if null then nstrT none else .mk 0 (whole t.s) false [] [])
  else if kind = 10 then part t
  else T.zero
mutual
def tdF : F → Int → Bool → T → T
  | .mk k a b nul tag dfl ofk sub, v, flex, t =>
    if k = 11 then .mk 0 [] (if nul < 0 then (things t.l).isEmpty else F.isNull (.mk k a b nul tag dfl ofk sub) v t) ((if F.isNull (.mk k a b nul tag dfl ofk sub) v t then [] else things t.l).map (tdK ofk (fun t => .mk 0 [] false (tdFs sub 0 v flex t) (if flex then tdU sub t.u else [])) false)) []
    else tdK k (fun t => .mk 0 [] false (tdFs sub 0 v flex t) (if flex then tdU sub t.u else [])) (F.isNull (.mk k a b nul tag dfl ofk sub) v t) t
def tdFs : List F → Nat → Int → Bool → T → List T
  | [], _, _, _, _ => []
  | f :: r, i, v, flex, t => (if f.has v then tdF f v flex (atT t i) else dflF f) :: tdFs r (i + 1) v flex t
end
def tdPart (fs : List F) (v : Int) (flex : Bool) (t : T) : T := .mk 0 [] false (tdFs fs 0 v flex t) (if flex then tdU fs t.u else [])

/-- fields' octets, one behind another -/
def plainAt : List F → Nat → Int → Bool → T → Bs
  | [], _, _, _, _ => []
  | f :: r, i, v, flex, t => (if f.has v then fieldP f v flex (atT t i) else []) ++ plainAt r (i + 1) v flex t
def untagged : List F → Bool
  | [] => true
  | f :: r => decide (f.tag < 0) && untagged r
theorem plainAt_eq : ∀ (fs : List F) (i : Nat) (v : Int) (flex : Bool) (t : T), untagged fs = true →
    (((fieldsP fs v flex).zipIdx i).filter fun x => decide (x.1.1.tag < 0) && x.1.1.has v).flatMap (fun x => x.1.2 (atT t x.2)) = plainAt fs i v flex t
  | [], _, _, _, _, _ => by simp [fieldsP, plainAt]
  | f :: r, i, v, flex, t, h => by
    simp only [untagged, Bool.and_eq_true, decide_eq_true_eq] at h
    have ih := plainAt_eq r (i + 1) v flex t h.2
    simp only [fieldsP, List.zipIdx_cons, List.filter_cons, plainAt]
    by_cases hv : f.has v = true
    · simp only [hv, h.1, decide_true, Bool.and_self, if_true, List.flatMap_cons, ih]
    · simp only [hv, Bool.and_false, Bool.false_eq_true, if_false, ih, List.nil_append]
theorem known0 : ∀ (fs : List F) (n : Nat), untagged fs = true → fs.foldl (fun n f => if 0 ≤ f.tag then max n (f.tag.toNat + 1) else n) n = n
  | [], _, _ => rfl
  | f :: r, n, h => by
    simp only [untagged, Bool.and_eq_true, decide_eq_true_eq] at h
    simp only [List.foldl_cons]
    rw [if_neg (by omega)]
    exact known0 r n h.2
theorem partP_untagged {fs : List F} (h : untagged fs = true) (v : Int) (flex : Bool) (t : T) :
    partP fs v flex t = if flex then plainAt fs 0 v flex t ++ (uvarP (tdU fs t.u).length ++ ((tdU fs t.u).map tagP).flatten) else plainAt fs 0 v flex t := by
  have e : (fieldsP fs v flex).map (·.1) = fs := by
    rw [fieldsP_map, List.map_map]
    exact (congrArg (fun g => List.map g fs) (show ((fun x : F × (T → Bs) => x.1) ∘ fun f => (f, fieldP f v flex)) = id from rfl)).trans (List.map_id fs)
  have k : knownP fs = 0 := known0 fs 0 h
  unfold partP partOf
  rw [e, k, tdU_tags]
  simp only [plainAt_eq fs 0 v flex t h]
  cases flex <;> simp
/-- a field that every version has, of at least an octet -/
def sureF : F → Bool
  | .mk k a b _ _ _ _ _ => decide (a ≤ 0) && decide (b < 0) && decide (k ≠ 10)
def kindOk (k : Int) : Bool := decide (0 ≤ k) && decide (k ≤ 8)
mutual
/-- a field as the round trip takes it -/
def wfF (flex : Bool) : F → Bool
  | .mk k _ _ nul tag _ ofk sub => decide (tag < 0) && wfFs flex sub && (if k = 11 then kindOk ofk || (decide (ofk = 10) && (flex || sub.any sureF)) else if k = 10 then decide (nul < 0) else kindOk k)
def wfFs (flex : Bool) : List F → Bool
  | [] => true
  | f :: r => wfF flex f && wfFs flex r
end
theorem wfFs_untagged {flex : Bool} : ∀ {fs : List F}, wfFs flex fs = true → untagged fs = true
  | [], _ => rfl
  | .mk k a b nul tag dfl ofk sub :: r, h => by
    simp only [wfFs, wfF, Bool.and_eq_true] at h
    simp only [untagged, F.tag, Bool.and_eq_true]
    exact ⟨h.1.1.1, wfFs_untagged h.2⟩
theorem rdTimes_front (g : St → T × St) : ∀ (n : Nat) (s : St), rdTimes g (n + 1) s = ((g s).1 :: (rdTimes g n (g s).2).1, (rdTimes g n (g s).2).2)
  | 0, s => rfl
  | n + 1, s => by
    rw [rdTimes, rdTimes_front g n s]
    rfl
theorem rdTimes_app {g : St → T × St} {enc : T → Bs} {td : T → T} : ∀ (l : List T) (r : Bs), (∀ x ∈ l, ∀ r, g (enc x ++ r, false) = (td x, (r, false))) → rdTimes g l.length (l.flatMap enc ++ r, false) = (l.map td, (r, false))
  | [], r, _ => rfl
  | x :: l, r, h => by
    rw [List.length_cons, rdTimes_front, List.flatMap_cons, List.append_assoc, h x (by simp)]
    simp only
    rw [rdTimes_app l r (fun y hy => h y (by simp [hy]))]
    rfl
theorem flatMap_long {enc : T → Bs} : ∀ (l : List T), (∀ x ∈ l, 0 < (enc x).length) → l.length ≤ (l.flatMap enc).length
  | [], _ => by simp
  | x :: l, h => by
    have h1 := h x (by simp)
    have h2 := flatMap_long l (fun y hy => h y (by simp [hy]))
    simp only [List.flatMap_cons, List.length_append, List.length_cons]
    omega
theorem things_len (l : List T) : (things l).length ≤ 32767 := by simp [things]; omega
theorem wrapN_small {k n : Nat} (hk : k = 2 ∨ k = 4) (h : n ≤ 32767) : wrapN k (n : Int) = n := by
  unfold wrapN sgn
  rcases hk with rfl | rfl
  · rw [show (2 : Int) ^ (8 * 2) = 65536 by decide, show (2 : Nat) ^ (8 * 2 - 1) = 32768 by decide, if_pos (by omega)]
    omega
  · rw [show (2 : Int) ^ (8 * 4) = 4294967296 by decide, show (2 : Nat) ^ (8 * 4 - 1) = 2147483648 by decide, if_pos (by omega)]
    omega
theorem wrapN_m1 {k : Nat} (hk : k = 2 ∨ k = 4) : wrapN k (-1) = -1 := by
  rcases hk with rfl | rfl <;> decide
theorem uvarP_pos (n : Nat) : 0 < (uvarP n).length := by
  by_cases h : 127 < n
  · rw [uvarP_big h]; simp
  · rw [uvarP_small h]; simp
/-- a text -/
theorem rdStr_app (x r : Bs) (h : x.length ≤ 32767) : rdStr (fixedP x.length 2 ++ (x ++ r), false) = (x, (r, false)) := by
  simp only [rdStr, rdI_fixed, wrapN_small (.inl rfl) h]
  exact rdSpan_app x r rfl
theorem rdCStr_app (x r : Bs) (h : x.length ≤ 32767) : rdCStr (uvarP (x.length + 1) ++ (x ++ r), false) = (x, (r, false)) := by
  simp only [rdCStr, rdUv_var (show x.length + 1 < 4294967296 by omega)]
  exact rdSpan_app x r (by omega)
theorem rdNStr_some (x r : Bs) (h : x.length ≤ 32767) : rdNStr (fixedP x.length 2 ++ (x ++ r), false) = (some x, (r, false)) := by
  simp only [rdNStr, rdI_fixed, wrapN_small (.inl rfl) h, rdStr_app x r h]
  rw [if_neg (by omega)]
theorem rdNStr_none (r : Bs) : rdNStr (fixedP (-1) 2 ++ r, false) = (none, (r, false)) := by
  simp only [rdNStr, rdI_fixed, wrapN_m1 (.inl rfl)]
  rfl
theorem rdCNStr_some (x r : Bs) (h : x.length ≤ 32767) : rdCNStr (uvarP (x.length + 1) ++ (x ++ r), false) = (some x, (r, false)) := by
  simp only [rdCNStr, rdUv_var (show x.length + 1 < 4294967296 by omega), rdCStr_app x r h]
  rw [if_neg (by omega)]
theorem rdCNStr_none (r : Bs) : rdCNStr (0 :: r, false) = (none, (r, false)) := by
  have e : (0 : UInt8) :: r = uvarP 0 ++ r := by rw [uvarP_small (by omega)]; rfl
  rw [e]
  simp only [rdCNStr, rdUv_var (show (0 : Nat) < 4294967296 by omega)]
  rfl
theorem rdLen_app {n : Nat} {r : Bs} (h : n ≤ 32767) (hr : n ≤ r.length) : rdLen (fixedP n 4 ++ r, false) = ((n : Int), (r, false)) := by
  simp only [rdLen, rdI_fixed, wrapN_small (.inr rfl) h]
  rw [if_neg (by omega)]
theorem rdLen_null (r : Bs) : rdLen (fixedP (-1) 4 ++ r, false) = (-1, (r, false)) := by
  simp only [rdLen, rdI_fixed, wrapN_m1 (.inr rfl)]
  rw [if_neg (by omega)]
theorem i32_small {n : Int} (h0 : -10 ≤ n) (h1 : n ≤ 32768) : IntKind.i32.wrap n = n := by
  rw [IntKind.wrap_i32]
  omega
theorem rdCLen_app {n : Nat} {r : Bs} (h : n ≤ 32767) (hr : n ≤ r.length) : rdCLen (uvarP (n + 1) ++ r, false) = ((n : Int), (r, false)) := by
  simp only [rdCLen, rdUv_var (show n + 1 < 4294967296 by omega)]
  rw [i32_small (n := ((n + 1 : Nat) : Int)) (by omega) (by omega), i32_small (by omega) (by omega), if_neg (by omega)]
  congr 1
  omega
theorem rdCLen_null (r : Bs) : rdCLen (0 :: r, false) = (-1, (r, false)) := by
  have e : (0 : UInt8) :: r = uvarP 0 ++ r := by rw [uvarP_small (by omega)]; rfl
  rw [e]
  simp only [rdCLen, rdUv_var (show (0 : Nat) < 4294967296 by omega)]
  rw [show IntKind.i32.wrap (IntKind.i32.wrap ((0 : Nat) : Int) - 1) = -1 from by decide, if_neg (by omega)]
theorem countedP_pos (flex null : Bool) (n size : Nat) (hs : 0 < size) : 0 < (countedP flex null n size).length := by
  unfold countedP
  split
  · simp
  · split
    · exact uvarP_pos _
    · split <;> simp [fixedP_len, hs]
theorem widthP_pos (k : Int) : 0 < widthP k := by
  unfold widthP
  repeat' split
  all_goals decide
theorem valueP_pos {kind : Int} (hk : kindOk kind = true) (part : T → Bs) (null flex : Bool) (t : T) : 0 < (valueP kind part null flex t).length := by
  simp only [kindOk, Bool.and_eq_true, decide_eq_true_eq] at hk
  have h8 := countedP_pos flex null (if null = true then [] else whole t.s).length 2 (by decide)
  unfold valueP
  split
  · simp
  · split
    · simp; omega
    · split
      · rw [List.length_append]; omega
      · rw [if_neg (by omega), if_neg (by omega), fixedP_len]
        exact widthP_pos _
theorem fieldP_pos {flex : Bool} {f : F} (hw : wfF flex f = true) (hs : sureF f = true) (v : Int) (t : T) : 0 < (fieldP f v flex t).length := by
  rw [fieldP_eq]
  obtain ⟨k, a, b, nul, tag, dfl, ofk, sub⟩ := f
  simp only [sureF, Bool.and_eq_true, decide_eq_true_eq] at hs
  simp only [wfF, Bool.and_eq_true, decide_eq_true_eq] at hw
  unfold fieldOf
  by_cases h11 : k = 11
  · rw [if_pos (show F.kind (.mk k a b nul tag dfl ofk sub) = 11 from h11), List.length_append]
    have := countedP_pos flex (F.isNull (.mk k a b nul tag dfl ofk sub) v t) (if F.isNull (.mk k a b nul tag dfl ofk sub) v t = true then [] else things t.l).length 4 (by decide)
    omega
  · rw [if_neg (show ¬ F.kind (.mk k a b nul tag dfl ofk sub) = 11 from h11), if_neg (show ¬ (F.kind (.mk k a b nul tag dfl ofk sub) = 10 ∧ 0 ≤ F.nul (.mk k a b nul tag dfl ofk sub)) from fun h => hs.2 h.1)]
    have h2 := hw.2
    rw [if_neg h11, if_neg hs.2] at h2
    exact valueP_pos h2 _ _ _ _
theorem plainAt_pos {flex : Bool} : ∀ (fs : List F) (i : Nat) (v : Int) (t : T), 0 ≤ v → wfFs flex fs = true → fs.any sureF = true → 0 < (plainAt fs i v flex t).length
  | [], _, _, _, _, _, h => by simp at h
  | f :: r, i, v, t, hv, hw, h => by
    simp only [wfFs, Bool.and_eq_true] at hw
    simp only [plainAt, List.length_append]
    rcases Bool.or_eq_true _ _ ▸ (by simpa using h : (sureF f || r.any sureF) = true) with h | h
    · have hh : f.has v = true := by
        obtain ⟨k, a, b, nul, tag, dfl, ofk, sub⟩ := f
        simp only [sureF, Bool.and_eq_true, decide_eq_true_eq] at h
        show (decide (a ≤ v) && (decide (b < 0) || decide (v ≤ b))) = true
        simp
        omega
      rw [if_pos hh]
      have := fieldP_pos hw.1 h v (atT t i)
      omega
    · have := plainAt_pos r (i + 1) v t hv hw.2 h
      omega
theorem partP_pos {flex : Bool} {fs : List F} (hw : wfFs flex fs = true) (h : (flex || fs.any sureF) = true) {v : Int} (hv : 0 ≤ v) (t : T) : 0 < (partP fs v flex t).length := by
  rw [partP_untagged (wfFs_untagged hw)]
  cases flex with
  | true =>
    have := uvarP_pos (tdU fs t.u).length
    simp only [if_true, List.length_append]
    omega
  | false => exact plainAt_pos fs 0 v t hv hw (by simpa using h)

theorem mod2_bool (n : Int) : (if ((UInt8.ofNat (n % 2).toNat).toNat : Int) != 0 then (1 : Int) else 0) = n % 2 := by
  have h : n % 2 = 0 ∨ n % 2 = 1 := by omega
  rcases h with h | h <;> rw [h] <;> rfl
theorem rdN1_cons (b : UInt8) (r : Bs) : rdN 1 (b :: r, false) = (b.toNat, (r, false)) := by
  simp only [rdN, List.length_cons]
  rw [if_neg (by omega)]
  simp [be]
theorem rdUuid_app (s r : Bs) : rdUuid (pad16 s ++ r, false) = (pad16 s, (r, false)) := by
  have hl : (pad16 s).length = 16 := by simp [pad16]; omega
  simp only [rdUuid, rdSpan_app (pad16 s) r (show (16 : Int) = (pad16 s).length by omega)]
  congr 1
  unfold pad16
  rw [List.take_of_length_le (by simp; omega)]
  simp
  omega
theorem u16_fixed (n : Int) (r : Bs) : rdN 2 (fixedP n 2 ++ r, false) = ((n % 65536).toNat, (r, false)) := rdN_fixed n 2 r
theorem rdK_app {kind : Int} (hk : kindOk kind = true ∨ kind = 10) {pe : T → Bs} {pr : St → T × St} {pt : T → T} {null nul flex : Bool} (hn : null = true → nul = true) (t : T) (r : Bs) (hp : ∀ r, pr (pe t ++ r, false) = (pt t, (r, false))) :
    rdK kind nul flex pr (valueP kind pe null flex t ++ r, false) = (tdK kind pt null t, (r, false)) := by
  simp only [kindOk, Bool.and_eq_true, decide_eq_true_eq] at hk
  by_cases h0 : kind = 0
  · subst h0
    simp only [rdK, tdK, valueP, if_true, List.cons_append, List.nil_append, rdBool, rdN1_cons, mod2_bool]
  by_cases h1 : kind = 1
  · subst h1
    simp only [rdK, tdK, valueP, widthP, rdI_fixed, if_true, reduceIte, Int.reduceEq]
  by_cases h2 : kind = 2
  · subst h2
    simp only [rdK, tdK, valueP, widthP, rdI_fixed, if_true, reduceIte, Int.reduceEq, true_or]
  by_cases h3 : kind = 3
  · subst h3
    simp only [rdK, tdK, valueP, widthP, rdI_fixed, if_true, reduceIte, Int.reduceEq, or_self]
  by_cases h4 : kind = 4
  · subst h4
    simp only [rdK, tdK, valueP, widthP, rdI_fixed, if_true, reduceIte, Int.reduceEq, or_self]
  by_cases h5 : kind = 5
  · subst h5
    simp only [rdK, tdK, valueP, widthP, u16_fixed, if_true, reduceIte, Int.reduceEq, or_true]
    congr 2
    omega
  by_cases h6 : kind = 6
  · subst h6
    simp only [rdK, tdK, valueP, widthP, rdI_fixed, if_true, reduceIte, Int.reduceEq, or_self]
  by_cases h7 : kind = 7
  · subst h7
    have := rdUuid_app t.s r
    unfold pad16 at this
    simp only [rdK, tdK, valueP, if_true, reduceIte, Int.reduceEq, this, pad16]
  by_cases h8 : kind = 8
  · subst h8
    have hl := whole_len t.s
    cases null with
    | true =>
      obtain rfl : nul = true := hn rfl
      cases flex <;> simp [rdK, tdK, valueP, countedP, rdNStr_none, rdCNStr_none]
    | false =>
      cases nul <;> cases flex <;> simp [rdK, tdK, valueP, countedP, rdNStr_some, rdCNStr_some, rdStr_app, rdCStr_app, hl, nstrT]
  · have h10 : kind = 10 := by omega
    subst h10
    simp only [rdK, tdK, valueP, if_true, reduceIte, Int.reduceEq, hp]
mutual
/-- tags' numbers have 32 bits -/
def keysT : T → Prop
  | .mk _ _ _ l u => (∀ x ∈ u, x.1 < 4294967296) ∧ keysTs l
def keysTs : List T → Prop
  | [] => True
  | t :: r => keysT t ∧ keysTs r
end
theorem keysTs_mem : ∀ {l : List T}, keysTs l → ∀ t ∈ l, keysT t
  | [], _, _, h => by cases h
  | x :: r, h, t, ht => by
    rcases List.mem_cons.1 ht with e | e
    · subst e; exact h.1
    · exact keysTs_mem h.2 t e
theorem keysT.at_ {t : T} (h : keysT t) (i : Nat) : keysT (atT t i) := by
  obtain ⟨n, s, b, l, u⟩ := t
  unfold atT
  rw [List.getD_eq_getElem?_getD]
  cases e : (T.l (.mk n s b l u))[i]? with
  | none => exact ⟨by simp, trivial⟩
  | some x => exact keysTs_mem h.2 x (List.mem_of_getElem? e)
theorem keysT.u {t : T} (h : keysT t) : ∀ x ∈ t.u, x.1 < 4294967296 := by
  obtain ⟨n, s, b, l, u⟩ := t
  exact h.1
theorem keysT.l {t : T} (h : keysT t) : ∀ x ∈ t.l, keysT x := by
  obtain ⟨n, s, b, l, u⟩ := t
  exact keysTs_mem h.2
theorem rdPartOf_app {fs : List F} {v : Int} {flex : Bool} (hw : untagged fs = true) {t : T} (ht : keysT t) (h : ∀ r, rdFs fs v flex (plainAt fs 0 v flex t ++ r, false) = (tdFs fs 0 v flex t, (r, false))) (r : Bs) :
    rdPartOf (rdFs fs v flex) flex (partP fs v flex t ++ r, false) = (.mk 0 [] false (tdFs fs 0 v flex t) (if flex then tdU fs t.u else []), (r, false)) := by
  rw [partP_untagged hw]
  cases flex with
  | false => simp only [rdPartOf, Bool.false_eq_true, if_false, h r]
  | true =>
    have hm := tdU_mem (fs := fs) ht.u
    have hl := tdU_len fs t.u
    simp only [rdPartOf, if_true, List.append_assoc, h]
    rw [rdTags_app (tdU fs t.u) r (tdU_rising fs t.u) (fun u hu => ⟨(hm u hu).1, by have := (hm u hu).2; omega⟩) (by omega)]
mutual
theorem rdF_app {flex : Bool} {v : Int} (hv : 0 ≤ v) : ∀ (f : F), wfF flex f = true → ∀ (t : T) (r : Bs), keysT t → rdF f v flex (fieldP f v flex t ++ r, false) = (tdF f v flex t, (r, false))
  | .mk k a b nul tag dfl ofk sub, hw, t, r, ht => by
    simp only [wfF, Bool.and_eq_true, decide_eq_true_eq] at hw
    obtain ⟨⟨_, hws⟩, hk⟩ := hw
    have hpart : ∀ (t : T), keysT t → ∀ (r : Bs), rdPartOf (rdFs sub v flex) flex (partP sub v flex t ++ r, false) = (.mk 0 [] false (tdFs sub 0 v flex t) (if flex then tdU sub t.u else []), (r, false)) :=
      fun t ht r => rdPartOf_app (wfFs_untagged hws) ht (fun r => rdFs_app hv sub hws 0 t r ht) r
    rw [fieldP_eq]
    unfold fieldOf
    simp only [rdF, tdF, F.sub]
    generalize hnull : F.isNull (.mk k a b nul tag dfl ofk sub) v t = null
    have hn : null = true → (decide (0 ≤ nul) && decide (nul ≤ v)) = true := fun h => by
      have hq : (t.null && decide (0 ≤ nul) && decide (nul ≤ v)) = true := hnull.trans h
      simp only [Bool.and_eq_true] at hq ⊢
      exact ⟨hq.1.2, hq.2⟩
    by_cases h11 : k = 11
    · rw [if_pos (show F.kind (.mk k a b nul tag dfl ofk sub) = 11 from h11)]
      rw [if_pos h11] at hk
      simp only [if_pos h11]
      have hk' : kindOk ofk = true ∨ ofk = 10 := by
        rcases Bool.or_eq_true _ _ ▸ hk with h | h
        · exact .inl h
        · simp only [Bool.and_eq_true, decide_eq_true_eq] at h
          exact .inr h.1
      have hpos : ∀ x, 0 < (valueP ofk (partP sub v flex) false flex x).length := fun x => by
        rcases Bool.or_eq_true _ _ ▸ hk with h | h
        · exact valueP_pos h _ _ _ _
        · simp only [Bool.and_eq_true, decide_eq_true_eq] at h
          obtain ⟨rfl, h⟩ := h
          exact partP_pos hws h hv x
      have hel : ∀ x, keysT x → ∀ (r : Bs), rdK ofk false flex (rdPartOf (rdFs sub v flex) flex) (valueP ofk (partP sub v flex) false flex x ++ r, false) = (tdK ofk (fun t => .mk 0 [] false (tdFs sub 0 v flex t) (if flex then tdU sub t.u else [])) false x, (r, false)) := fun x hx r => rdK_app hk' (fun h => h) x r (hpart x hx)
      show rdListOf nul flex v _ (countedP flex null (if null then [] else things t.l).length 4 ++ ((if null then [] else things t.l).flatMap fun x => valueP ofk (partP sub v flex) false flex x) ++ r, false) = _
      cases null with
      | true =>
        have h0 := hn rfl
        simp only [Bool.and_eq_true, decide_eq_true_eq] at h0
        have hneg : ¬ nul < 0 := by omega
        cases flex <;> simp [rdListOf, countedP, rdLen_null, rdCLen_null, rdTimes, hneg, h0]
      | false =>
        have hl := things_len t.l
        have hlong := flatMap_long (enc := valueP ofk (partP sub v flex) false flex) (things t.l) (fun x _ => hpos x)
        have hT := rdTimes_app (g := rdK ofk false flex (rdPartOf (rdFs sub v flex) flex)) (things t.l) r (fun x hx r => hel x (ht.l x (List.mem_of_mem_take hx)) r)
        have e : (decide (((things t.l).length : Int) ≤ 0)) = (things t.l).isEmpty := by
          cases things t.l with
          | nil => rfl
          | cons a l => simp <;> omega
        have e2 : ¬ (((things t.l).length : Int) < 0) := by omega
        have hr : (things t.l).length ≤ (((things t.l).flatMap (valueP ofk (partP sub v flex) false flex)) ++ r).length := by simp only [List.length_append]; omega
        cases flex <;> simp only [rdListOf, countedP, Bool.false_eq_true, if_false, if_true, List.append_assoc, rdLen_app hl hr, rdCLen_app hl hr, Int.toNat_natCast, hT, e, e2, decide_false, Bool.and_false]
    · rw [if_neg (show ¬ F.kind (.mk k a b nul tag dfl ofk sub) = 11 from h11)]
      rw [if_neg h11] at hk
      have h10 : ¬ (F.kind (.mk k a b nul tag dfl ofk sub) = 10 ∧ 0 ≤ F.nul (.mk k a b nul tag dfl ofk sub)) := fun h => by
        rw [if_pos (show k = 10 from h.1)] at hk
        have h1 : nul < 0 := by simpa using hk
        have h2 : 0 ≤ nul := h.2
        omega
      rw [if_neg h10]
      have hk' : kindOk k = true ∨ k = 10 := by
        by_cases hkk : k = 10
        · exact .inr hkk
        · rw [if_neg hkk] at hk; exact .inl hk
      simp only [if_neg h11]
      exact rdK_app hk' hn t r (hpart t ht)
theorem rdFs_app {flex : Bool} {v : Int} (hv : 0 ≤ v) : ∀ (fs : List F), wfFs flex fs = true → ∀ (i : Nat) (t : T) (r : Bs), keysT t → rdFs fs v flex (plainAt fs i v flex t ++ r, false) = (tdFs fs i v flex t, (r, false))
  | [], _, _, _, _, _ => by simp [rdFs, plainAt, tdFs]
  | f :: fs, hw, i, t, r, ht => by
    simp only [wfFs, Bool.and_eq_true] at hw
    simp only [plainAt, tdFs, rdFs]
    by_cases h : f.has v = true
    · simp only [h, if_true, List.append_assoc, rdF_app hv f hw.1 _ _ (ht.at_ i), rdFs_app hv fs hw.2 _ _ _ ht]
    · simp only [h, Bool.false_eq_true, if_false, List.nil_append, rdFs_app hv fs hw.2 _ _ _ ht]
end
/-- WHAT WAS WRITTEN IS READ -/
theorem rdPart_app {fs : List F} {v : Int} {flex : Bool} (hv : 0 ≤ v) (hw : wfFs flex fs = true) {t : T} (ht : keysT t) (r : Bs) : rdPart fs v flex (partP fs v flex t ++ r, false) = (tdPart fs v flex t, (r, false)) :=
  rdPartOf_app (wfFs_untagged hw) ht (fun r => rdFs_app hv fs hw 0 t r ht) r
/-! WHAT AppendTo WRITES of a struct that reads as a tree: the reference without its cuts -/
def apK (kind : Int) (part : T → Bs) (null flex : Bool) (t : T) : Bs :=
  if kind = 0 then [UInt8.ofNat (t.n % 2).toNat]
  else if kind = 7 then t.s
  else if kind = 8 then countedP flex null t.s.length 2 ++ t.s
  else if kind = 9 then countedP flex null t.s.length 4 ++ t.s
  else if kind = 10 then part t
  else fixedP t.n (widthP kind)
def apU (u : List Tg) : Bs := uvarP u.length ++ (u.map tagP).flatten
mutual
def apF : F → Int → Bool → T → Bs
  | .mk k a b nul tag dfl ofk sub, v, flex, t =>
    if k = 11 then countedP flex (F.isNull (.mk k a b nul tag dfl ofk sub) v t) t.l.length 4 ++ t.l.flatMap (apK ofk (fun t => apFs sub v flex t.l ++ (if flex then apU t.u else [])) false flex)
    else apK k (fun t => apFs sub v flex t.l ++ (if flex then apU t.u else [])) (F.isNull (.mk k a b nul tag dfl ofk sub) v t) flex t
/-- fields' trees, one by one -/
def apFs : List F → Int → Bool → List T → Bs
  | [], _, _, _ => []
  | _ :: _, _, _, [] => []
  | f :: r, v, flex, t :: l => (if f.has v then apF f v flex t else []) ++ apFs r v flex l
end
def apPart (fs : List F) (v : Int) (flex : Bool) (t : T) : Bs := apFs fs v flex t.l ++ (if flex then apU t.u else [])
theorem fixed_wrapN (k : Nat) (n : Int) : fixedP (wrapN k n) k = fixedP n k := by
  have h1 := fixed_wrap1 n k k (Nat.le_refl _)
  have h2 := fixed_wrap1 (wrapN k n) k k (Nat.le_refl _)
  rw [← h1, ← h2]
  congr 1
  have hp : (0 : Int) < 2 ^ (8 * k) := Int.pow_pos (by decide)
  have h0 := Int.emod_nonneg n (show (2 : Int) ^ (8 * k) ≠ 0 by omega)
  unfold wrapN sgn
  have e : (((n % 2 ^ (8 * k)).toNat : Nat) : Int) = n % 2 ^ (8 * k) := Int.toNat_of_nonneg h0
  split
  · rw [e, Int.emod_emod]
  · rw [e, Int.sub_emod, Int.emod_self, Int.sub_zero, Int.emod_emod, Int.emod_emod]
theorem apK_td {kind : Int} (hk : kindOk kind = true ∨ kind = 10) {pe pa : T → Bs} {pt : T → T} {null flex : Bool} (t : T) (hp : pa (pt t) = pe t) :
    apK kind pa null flex (tdK kind pt null t) = valueP kind pe null flex t := by
  simp only [kindOk, Bool.and_eq_true, decide_eq_true_eq] at hk
  by_cases h0 : kind = 0
  · subst h0
    simp only [apK, tdK, valueP, if_true, T.n, Int.emod_emod]
  by_cases h1 : kind = 1
  · subst h1
    simp only [apK, tdK, valueP, widthP, T.n, if_true, reduceIte, Int.reduceEq, fixed_wrapN]
  by_cases h2 : kind = 2
  · subst h2
    simp only [apK, tdK, valueP, widthP, T.n, if_true, reduceIte, Int.reduceEq, fixed_wrapN, true_or]
  by_cases h3 : kind = 3
  · subst h3
    simp only [apK, tdK, valueP, widthP, T.n, if_true, reduceIte, Int.reduceEq, fixed_wrapN, or_self]
  by_cases h4 : kind = 4
  · subst h4
    simp only [apK, tdK, valueP, widthP, T.n, if_true, reduceIte, Int.reduceEq, fixed_wrapN, or_self]
  by_cases h5 : kind = 5
  · subst h5
    simp only [apK, tdK, valueP, widthP, T.n, if_true, reduceIte, Int.reduceEq, or_true]
    exact fixed_wrap1 t.n 2 2 (by decide)
  by_cases h6 : kind = 6
  · subst h6
    simp only [apK, tdK, valueP, widthP, T.n, if_true, reduceIte, Int.reduceEq, fixed_wrapN, or_self]
  by_cases h7 : kind = 7
  · subst h7
    simp only [apK, tdK, valueP, T.s, if_true, reduceIte, Int.reduceEq, pad16]
  by_cases h8 : kind = 8
  · subst h8
    cases null <;> simp [apK, tdK, valueP, nstrT, T.s]
  · have h10 : kind = 10 := by omega
    subst h10
    simp only [apK, tdK, valueP, if_true, reduceIte, Int.reduceEq, hp]
/-- null is told of a text alone, and where it may be -/
theorem tdK_null {kind : Int} {pt : T → T} (hpt : ∀ t, (pt t).null = false) (null : Bool) (t : T) : (tdK kind pt null t).null = (decide (kind = 8) && null) := by
  by_cases h8 : kind = 8
  · subst h8
    cases null <;> rfl
  · rw [show decide (kind = 8) = false by simpa using h8, Bool.false_and]
    unfold tdK
    repeat' split
    all_goals first
      | rfl
      | exact hpt _
      | contradiction
theorem tdFs_len : ∀ (fs : List F) (i : Nat) (v : Int) (flex : Bool) (t : T), (tdFs fs i v flex t).length = fs.length
  | [], _, _, _, _ => rfl
  | f :: r, i, v, flex, t => by simp [tdFs, tdFs_len r]
mutual
theorem apF_td {flex : Bool} {v : Int} : ∀ (f : F), wfF flex f = true → ∀ (t : T), apF f v flex (tdF f v flex t) = fieldP f v flex t
  | .mk k a b nul tag dfl ofk sub, hw, t => by
    simp only [wfF, Bool.and_eq_true, decide_eq_true_eq] at hw
    obtain ⟨⟨_, hws⟩, hk⟩ := hw
    have hpart : ∀ (t : T), apFs sub v flex (T.mk 0 [] false (tdFs sub 0 v flex t) (if flex then tdU sub t.u else [])).l ++ (if flex then apU (T.mk 0 [] false (tdFs sub 0 v flex t) (if flex then tdU sub t.u else [])).u else []) = partP sub v flex t := fun t => by
      rw [partP_untagged (wfFs_untagged hws)]
      have h := apFs_td (flex := flex) (v := v) sub hws 0 t
      cases flex <;> simp [T.l, T.u, apU, h]
    rw [fieldP_eq]
    unfold fieldOf
    simp only [apF, tdF, F.sub]
    by_cases h11 : k = 11
    · rw [if_pos (show F.kind (.mk k a b nul tag dfl ofk sub) = 11 from h11)]
      rw [if_pos h11] at hk
      simp only [if_pos h11]
      have hk' : kindOk ofk = true ∨ ofk = 10 := by
        rcases Bool.or_eq_true _ _ ▸ hk with h | h
        · exact .inl h
        · simp only [Bool.and_eq_true, decide_eq_true_eq] at h
          exact .inr h.1
      generalize hnull : F.isNull (.mk k a b nul tag dfl ofk sub) v t = null
      have hq : (t.null && decide (0 ≤ nul) && decide (nul ≤ v)) = null := hnull
      have hnn : F.isNull (.mk k a b nul tag dfl ofk sub) v (.mk 0 [] (if nul < 0 then (things t.l).isEmpty else null) ((if null then [] else things t.l).map (tdK ofk (fun t => .mk 0 [] false (tdFs sub 0 v flex t) (if flex then tdU sub t.u else [])) false)) []) = null := by
        show ((if nul < 0 then (things t.l).isEmpty else null) && decide (0 ≤ nul) && decide (nul ≤ v)) = null
        by_cases h : nul < 0
        · rw [if_pos h, show decide (0 ≤ nul) = false by simpa using h]
          rw [show decide (0 ≤ nul) = false by simpa using h] at hq
          simpa using hq
        · rw [if_neg h]
          cases null with
          | false => simp
          | true =>
            simp only [Bool.and_eq_true] at hq
            simp [hq.1.2, hq.2]
      rw [hnn]
      show countedP flex null ((if null then [] else things t.l).map _).length 4 ++ ((if null then [] else things t.l).map _).flatMap _ = countedP flex null (if null then [] else things t.l).length 4 ++ ((if null then [] else things t.l).flatMap fun x => valueP ofk (partP sub v flex) false flex x)
      rw [List.length_map, List.flatMap_map]
      congr 2
      funext x
      exact apK_td hk' x (hpart x)
    · rw [if_neg (show ¬ F.kind (.mk k a b nul tag dfl ofk sub) = 11 from h11)]
      rw [if_neg h11] at hk
      have h10 : ¬ (F.kind (.mk k a b nul tag dfl ofk sub) = 10 ∧ 0 ≤ F.nul (.mk k a b nul tag dfl ofk sub)) := fun h => by
        rw [if_pos (show k = 10 from h.1)] at hk
        have h1 : nul < 0 := by simpa using hk
        have h2 : 0 ≤ nul := h.2
        omega
      rw [if_neg h10]
      have hk' : kindOk k = true ∨ k = 10 := by
        by_cases hkk : k = 10
        · exact .inr hkk
        · rw [if_neg hkk] at hk; exact .inl hk
      simp only [if_neg h11]
      generalize hnull : F.isNull (.mk k a b nul tag dfl ofk sub) v t = null
      have hq : (t.null && decide (0 ≤ nul) && decide (nul ≤ v)) = null := hnull
      have key : apK k (fun t => apFs sub v flex t.l ++ (if flex then apU t.u else [])) (F.isNull (.mk k a b nul tag dfl ofk sub) v (tdK k (fun t => .mk 0 [] false (tdFs sub 0 v flex t) (if flex then tdU sub t.u else [])) null t)) flex (tdK k (fun t => .mk 0 [] false (tdFs sub 0 v flex t) (if flex then tdU sub t.u else [])) null t) = apK k (fun t => apFs sub v flex t.l ++ (if flex then apU t.u else [])) null flex (tdK k (fun t => .mk 0 [] false (tdFs sub 0 v flex t) (if flex then tdU sub t.u else [])) null t) := by
        by_cases h8 : k = 8
        · have e : F.isNull (.mk k a b nul tag dfl ofk sub) v (tdK k (fun t => .mk 0 [] false (tdFs sub 0 v flex t) (if flex then tdU sub t.u else [])) null t) = null := by
            show ((tdK k (fun t => .mk 0 [] false (tdFs sub 0 v flex t) (if flex then tdU sub t.u else [])) null t).null && decide (0 ≤ nul) && decide (nul ≤ v)) = null
            rw [tdK_null (fun _ => rfl), h8]
            cases null with
            | false => simp
            | true =>
              simp only [Bool.and_eq_true] at hq
              simp only [hq.1.2, hq.2]
              rfl
          rw [e]
        · have hk9 : k ≠ 9 := by
            rcases hk' with h | h
            · simp only [kindOk, Bool.and_eq_true, decide_eq_true_eq] at h; omega
            · omega
          unfold apK
          simp only [if_neg h8, if_neg hk9]
      exact key.trans (apK_td hk' t (hpart t))
theorem apFs_td {flex : Bool} {v : Int} : ∀ (fs : List F), wfFs flex fs = true → ∀ (i : Nat) (t : T), apFs fs v flex (tdFs fs i v flex t) = plainAt fs i v flex t
  | [], _, _, _ => rfl
  | f :: fs, hw, i, t => by
    simp only [wfFs, Bool.and_eq_true] at hw
    simp only [plainAt, tdFs, apFs]
    by_cases h : f.has v = true
    · simp only [h, if_true, apF_td f hw.1, apFs_td fs hw.2]
    · simp only [h, Bool.false_eq_true, if_false, apFs_td fs hw.2]
end
/-- WHAT WAS READ IS WRITTEN AGAIN -/
theorem apPart_td {fs : List F} {v : Int} {flex : Bool} (hw : wfFs flex fs = true) (t : T) : apPart fs v flex (tdPart fs v flex t) = partP fs v flex t := by
  rw [partP_untagged (wfFs_untagged hw)]
  have h := apFs_td (flex := flex) (v := v) fs hw 0 t
  unfold apPart tdPart
  cases flex <;> simp [T.l, T.u, apU, h]
end Go.Proofs.YtobbchmjgoaleaaGreatDoor
