/-
  SEAT b6602505a: 'ZZTokenize': the parts outside the walk.
-/
import Derived.Test.Qxb6602505aTokB
namespace Go.Proofs.Qxb6602505a
open Go.RowKit
open Pl

theorem info3 : (Try.prog.info? 3).map (fun i => (i.zero, i.size, i.bytes)) = some (some (.int .i64 0), 1, 8) := by kernel_rfl
theorem info9 : (Try.prog.info? 9).map (fun i => (i.zero, i.size, i.bytes)) = some (some (.string ⟨#[]⟩), 1, 16) := by kernel_rfl

def kV (t : Tok) : Value := .int .i64 t.kind
def tV (t : Tok) : Value := .string ⟨t.text.toArray⟩
def pV (t : Tok) : Value := .int .i64 (t.pos : Int)

/-- a column, filled up to k -/
def col (f : Tok → Value) (z : Value) (T : List Tok) (k : Nat) : List Value := (T.take k).map f ++ List.replicate (T.length - k) z

theorem col_zero (f : Tok → Value) (z : Value) (T : List Tok) : col f z T 0 = List.replicate T.length z := by simp [col]
theorem col_full (f : Tok → Value) (z : Value) (T : List Tok) : col f z T T.length = T.map f := by simp [col]
theorem col_len (f : Tok → Value) (z : Value) (T : List Tok) (k : Nat) (h : k ≤ T.length) : (col f z T k).length = T.length := by
  simp [col]; omega
theorem col_set (f : Tok → Value) (z : Value) (T : List Tok) (k : Nat) (h : k < T.length) : (col f z T k).set k (f T[k]) = col f z T (k + 1) := by
  unfold col
  have hl : ((T.take k).map f).length = k := by simp; omega
  rw [List.set_append_right _ _ (by rw [hl]; exact Nat.le_refl _), hl, Nat.sub_self, List.take_succ_eq_append_getElem h, List.map_append, List.append_assoc]
  congr 1
  rw [show T.length - k = (T.length - (k + 1)) + 1 from by omega, List.replicate_succ]
  rfl

theorem flat_at (T : List Tok) : ∀ (k : Nat) (h : k < T.length), (flat T)[k * 3]? = some (kV T[k]) ∧ (flat T)[k * 3 + 1]? = some (tV T[k]) ∧ (flat T)[k * 3 + 2]? = some (pV T[k]) := by
  induction T with
  | nil => intro k h; simp at h
  | cons t T ih =>
    intro k h
    cases k with
    | zero => simp [flat, cells, kV, tV, pV]
    | succ k =>
      have := ih k (by simpa using h)
      simp only [flat, cells, List.cons_append, List.nil_append]
      rw [show (k + 1) * 3 = k * 3 + 3 from by omega]
      simpa using this

/-- what the loop holds -/
structure Held (B : Nat) (T : List Tok) (g cap bk bt ba : Nat) (k : Nat) (w : World) : Prop where
  rt : w.ownsRow B 39 3 (.slice (some ⟨g, 0, none⟩) T.length cap) T.length (flat T)
  rk : w.ownsRow B 3 1 (.slice (some ⟨bk, 0, none⟩) T.length T.length) T.length (col kV (.int .i64 0) T k)
  rx : w.ownsRow B 9 1 (.slice (some ⟨bt, 0, none⟩) T.length T.length) T.length (col tV (.string ⟨#[]⟩) T k)
  ra : w.ownsRow B 3 1 (.slice (some ⟨ba, 0, none⟩) T.length T.length) T.length (col pV (.int .i64 0) T k)

theorem ownsRow_stored {B : Nat} {e : TypeId} {w : World} {b n cap : Nat} {xs : List Value} (h : w.ownsRow B e 1 (.slice (some ⟨b, 0, none⟩) n cap) n xs) {b' : Nat} (hne : b ≠ b') (j : Nat) (u : Value)
    (hg : w.grownBy (w.setCell ⟨b', j, none⟩ u) (some b')) : (w.setCell ⟨b', j, none⟩ u).ownsRow B e 1 (.slice (some ⟨b, 0, none⟩) n cap) n xs :=
  h.kept hg (.inr (by simpa [Value.ownBlock] using hne))

theorem ownsRow_stored3 {B : Nat} {e : TypeId} {w : World} {b n cap : Nat} {xs : List Value} (h : w.ownsRow B e 3 (.slice (some ⟨b, 0, none⟩) n cap) n xs) {b' : Nat} (hne : b ≠ b') (j : Nat) (u : Value)
    (hg : w.grownBy (w.setCell ⟨b', j, none⟩ u) (some b')) : (w.setCell ⟨b', j, none⟩ u).ownsRow B e 3 (.slice (some ⟨b, 0, none⟩) n cap) n xs :=
  h.kept hg (.inr (by simpa [Value.ownBlock] using hne))

theorem held_step {B : Nat} {T : List Tok} {g cap bk bt ba k : Nat} {w : World} (h : Held B T g cap bk bt ba k w) (hk : k < T.length)
    (h1 : g ≠ bk) (h2 : g ≠ bt) (h3 : g ≠ ba) (h4 : bk ≠ bt) (h5 : bk ≠ ba) (h6 : bt ≠ ba) :
    Held B T g cap bk bt ba (k + 1) (((w.setCell ⟨bk, k, none⟩ (kV T[k])).setCell ⟨bt, k, none⟩ (tV T[k])).setCell ⟨ba, k, none⟩ (pV T[k])) := by
  have s1 := h.rk.stored k (kV T[k])
  rw [col_set kV _ T k hk] at s1
  have t1 := ownsRow_stored3 h.rt h1 k _ s1.2
  have x1 := ownsRow_stored h.rx (Ne.symm h4) k _ s1.2
  have a1 := ownsRow_stored h.ra (Ne.symm h5) k _ s1.2
  have s2 := x1.stored k (tV T[k])
  rw [col_set tV _ T k hk] at s2
  have t2 := ownsRow_stored3 t1 h2 k _ s2.2
  have k2 := ownsRow_stored s1.1 h4 k _ s2.2
  have a2 := ownsRow_stored a1 (Ne.symm h6) k _ s2.2
  have s3 := a2.stored k (pV T[k])
  rw [col_set pV _ T k hk] at s3
  exact ⟨ownsRow_stored3 t2 h3 k _ s3.2, ownsRow_stored k2 h5 k _ s3.2, ownsRow_stored s2.1 h6 k _ s3.2, s3.1⟩

/-- what the round reads and writes -/
theorem held_cells {B : Nat} {T : List Tok} {g cap bk bt ba k : Nat} {w : World} (h : Held B T g cap bk bt ba k w) (hk : k < T.length) :
    w.cell? ⟨g, k * 3, none⟩ = some (kV T[k]) ∧ w.cell? ⟨g, k * 3 + 1, none⟩ = some (tV T[k]) ∧ w.cell? ⟨g, k * 3 + 2, none⟩ = some (pV T[k]) ∧
    w.frozen? ⟨bk, k, none⟩ = false ∧ w.frozen? ⟨bt, k, none⟩ = false ∧ w.frozen? ⟨ba, k, none⟩ = false ∧
    (∃ v, w.cell? ⟨bk, k, none⟩ = some v) ∧ (∃ v, w.cell? ⟨bt, k, none⟩ = some v) ∧ (∃ v, w.cell? ⟨ba, k, none⟩ = some v) := by
  obtain ⟨f1, f2, f3⟩ := flat_at T k hk
  refine ⟨(h.rt.cellAt _ (by omega)).trans f1, (h.rt.cellAt _ (by omega)).trans f2, (h.rt.cellAt _ (by omega)).trans f3, h.rk.frozenAt k, h.rx.frozenAt k, h.ra.frozenAt k, ?_, ?_, ?_⟩
  · rw [h.rk.cellAt k (by omega)]
    exact ⟨_, List.getElem?_eq_getElem (by rw [col_len _ _ _ _ (by omega)]; exact hk)⟩
  · rw [h.rx.cellAt k (by omega)]
    exact ⟨_, List.getElem?_eq_getElem (by rw [col_len _ _ _ _ (by omega)]; exact hk)⟩
  · rw [h.ra.cellAt k (by omega)]
    exact ⟨_, List.getElem?_eq_getElem (by rw [col_len _ _ _ _ (by omega)]; exact hk)⟩

/-- what a caller of ZZTokenize holds -/
structure Got (T : List Tok) (bk bt ba : Nat) (w : World) : Prop where
  ltk : bk < w.heap.size
  ltt : bt < w.heap.size
  lta : ba < w.heap.size
  ck : ∀ j (h : j < T.length), w.cell? ⟨bk, j, none⟩ = some (kV T[j])
  ct : ∀ j (h : j < T.length), w.cell? ⟨bt, j, none⟩ = some (tV T[j])
  ca : ∀ j (h : j < T.length), w.cell? ⟨ba, j, none⟩ = some (pV T[j])

theorem Held.got {B : Nat} {T : List Tok} {g cap bk bt ba : Nat} {w : World} (h : Held B T g cap bk bt ba T.length w) : Got T bk bt ba w := by
  refine ⟨(h.rk.lt bk rfl).2, (h.rx.lt bt rfl).2, (h.ra.lt ba rfl).2, ?_, ?_, ?_⟩
  · intro j hj
    rw [h.rk.cellAt j (by omega), col_full]; simp [hj]
  · intro j hj
    rw [h.rx.cellAt j (by omega), col_full]; simp [hj]
  · intro j hj
    rw [h.ra.cellAt j (by omega), col_full]; simp [hj]

theorem Got.below {T : List Tok} {bk bt ba : Nat} {w w' : World} (h : Got T bk bt ba w) {B : Nat} (hb : Below B w w') (hB : w.heap.size ≤ B) (hs : w.heap.size ≤ w'.heap.size) : Got T bk bt ba w' := by
  have hk := h.ltk
  have ht := h.ltt
  have ha := h.lta
  refine ⟨by omega, by omega, by omega, ?_, ?_, ?_⟩
  · intro j hj; rw [hb.cell (p := ⟨bk, j, none⟩) (by show bk < B; omega)]; exact h.ck j hj
  · intro j hj; rw [hb.cell (p := ⟨bt, j, none⟩) (by show bt < B; omega)]; exact h.ct j hj
  · intro j hj; rw [hb.cell (p := ⟨ba, j, none⟩) (by show ba < B; omega)]; exact h.ca j hj

end Go.Proofs.Qxb6602505a
