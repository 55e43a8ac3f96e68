/-
  SEAT b6602454a: the plain law, with no Go in sight: the two readings of a path agree.
-/
import Derived.Lib.Bytealg
namespace Go.Proofs.Qxb6602454a.Pl

/-- a component that is allowed: not empty, not one dot, not two -/
def okSeg (seg : List UInt8) : Bool := !(seg.length == 0) && !(decide (seg.length ≤ 2) && seg.all (· == 46))

/-- the components of a text: all allowed ('seg': what of the first component is read already) -/
def segs : List UInt8 → List UInt8 → Bool
  | [], seg => okSeg seg
  | c :: l, seg => if c == 47 then okSeg seg && segs l [] else segs l (seg ++ [c])

/-- the model: one scan, a NUL byte refused -/
def model : List UInt8 → List UInt8 → Bool
  | [], seg => okSeg seg
  | c :: l, seg => if c == 0 then false else if c == 47 then okSeg seg && model l [] else model l (seg ++ [c])

/-- validPath's answer -/
def valid (l : List UInt8) : Bool := decide (Go.Lib.indexByte l 0 < 0) && segs l []

theorem index_nonneg (l : List UInt8) (c : UInt8) : Go.Lib.indexByte l c = -1 ∨ ∃ i : Nat, Go.Lib.indexByte l c = (i : Int) ∧ i < l.length ∧ l[i]? = some c ∧ l.take i ++ c :: l.drop (i + 1) = l ∧ ∀ x ∈ l.take i, (x == c) = false := by
  induction l with
  | nil => exact .inl rfl
  | cons b l ih =>
    unfold Go.Lib.indexByte
    by_cases hb : (b == c) = true
    · rw [if_pos hb]
      have : b = c := by simpa using hb
      subst this
      exact .inr ⟨0, rfl, by simp, by simp, by simp, by simp⟩
    · rw [if_neg hb]
      have hb' : (b == c) = false := by simpa using hb
      rcases ih with h | ⟨i, h, hi, hc, hs, hx⟩
      · rw [h]; exact .inl rfl
      · rw [h]
        have : ((i : Int) == -1) = false := by rw [beq_eq_false_iff_ne]; omega
        rw [this]
        refine .inr ⟨i + 1, by simp, by simp; omega, by simpa using hc, by simpa using hs, ?_⟩
        intro x hxm
        rw [List.take_succ_cons] at hxm
        rcases List.mem_cons.1 hxm with rfl | hxm
        · exact hb'
        · exact hx x hxm

theorem segs_free (l : List UInt8) : ∀ (seg r : List UInt8), (∀ x ∈ l, (x == 47) = false) → segs (l ++ r) seg = segs r (seg ++ l) := by
  induction l with
  | nil => intro seg r _; simp
  | cons b l ih =>
    intro seg r h
    have hb : (b == 47) = false := h b (by simp)
    rw [List.cons_append]
    rw [show segs (b :: (l ++ r)) seg = segs (l ++ r) (seg ++ [b]) from by rw [segs, hb]; rfl]
    rw [ih _ _ (fun x hx => h x (by simp [hx]))]
    simp

theorem index_none (l : List UInt8) (c : UInt8) (h : Go.Lib.indexByte l c = -1) : ∀ x ∈ l, (x == c) = false := by
  induction l with
  | nil => simp
  | cons b l ih =>
    unfold Go.Lib.indexByte at h
    by_cases hb : (b == c) = true
    · rw [if_pos hb] at h; omega
    · rw [if_neg hb] at h
      have hb' : (b == c) = false := by simpa using hb
      have hg := Go.Lib.indexByte_ge l c
      have : Go.Lib.indexByte l c = -1 := by
        by_cases e : (Go.Lib.indexByte l c == -1) = true
        · simpa using e
        · rw [if_neg e] at h; omega
      intro x hx
      rcases List.mem_cons.1 hx with rfl | hx
      · exact hb'
      · exact ih this x hx

theorem segs_miss (l : List UInt8) (h : Go.Lib.indexByte l 47 = -1) : segs l [] = okSeg l := by
  have := segs_free l [] [] (index_none l 47 h)
  simpa [segs] using this

theorem segs_hit (l : List UInt8) (i : Nat) (h : Go.Lib.indexByte l 47 = (i : Int)) : segs l [] = (okSeg (l.take i) && segs (l.drop (i + 1)) []) := by
  rcases index_nonneg l 47 with h' | ⟨j, h', hj, hc, hs, hx⟩
  · omega
  · have : j = i := by omega
    subst this
    have e := segs_free (l.take j) [] (47 :: l.drop (j + 1)) hx
    rw [hs] at e
    rw [e]
    simp [segs]

theorem model_free (l : List UInt8) : ∀ seg, (∀ x ∈ l, (x == 0) = false) → model l seg = segs l seg := by
  induction l with
  | nil => intro seg _; rfl
  | cons b l ih =>
    intro seg h
    have hb : (b == 0) = false := h b (by simp)
    have hl : ∀ x ∈ l, (x == 0) = false := fun x hx => h x (by simp [hx])
    unfold model segs
    rw [hb]
    simp only [Bool.false_eq_true, if_false]
    rw [ih _ hl, ih _ hl]

theorem model_nul (l : List UInt8) : ∀ seg, (∃ x ∈ l, x = 0) → model l seg = false := by
  induction l with
  | nil => rintro seg ⟨x, hx, _⟩; simp at hx
  | cons b l ih =>
    rintro seg ⟨x, hx, rfl⟩
    unfold model
    by_cases hb : (b == 0) = true
    · rw [if_pos hb]
    · rw [if_neg hb]
      have hm : (0 : UInt8) ∈ l := by
        rcases List.mem_cons.1 hx with h | h
        · exact absurd (by simp [← h]) hb
        · exact h
      have h1 := ih [] ⟨0, hm, rfl⟩
      have h2 := ih (seg ++ [b]) ⟨0, hm, rfl⟩
      rw [h1, h2]
      simp

/-- THE PLAIN LAW -/
theorem valid_eq_model (l : List UInt8) : valid l = model l [] := by
  unfold valid
  rcases index_nonneg l 0 with h | ⟨i, h, hi, hc, _, _⟩
  · rw [h, model_free l [] (index_none l 0 h)]; rfl
  · rw [h, model_nul l [] ⟨0, List.mem_of_getElem? hc, rfl⟩]
    have : decide ((i : Int) < 0) = false := by simp
    rw [this]; rfl

end Go.Proofs.Qxb6602454a.Pl
