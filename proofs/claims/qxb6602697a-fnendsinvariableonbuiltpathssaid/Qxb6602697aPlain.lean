/-
  SEAT b6602697a: the plain part: the last segment of a path, byte by byte; a range over the runes goes over the same marks.
-/
import Derived.Lib.Bytealg
import Derived.Lib.Strings
import Derived.Lib.MapLaws
import Derived.Lib.SpaceUEq
import Derived.Laws.RangeAny
namespace Go.Proofs.Qxb6602697a.Pl
open Go.Lib (decodeL)

/-- depth, start, colon -/
structure Q where
  d : Int
  st : Int
  co : Int

def sstep (i : Nat) (c : Int) (q : Q) : Q :=
  if c == 123 then ⟨q.d + 1, q.st, q.co⟩
  else if c == 125 then ⟨q.d - 1, q.st, q.co⟩
  else if c == 47 then (if q.d == 0 then ⟨q.d, (i : Int) + 1, -1⟩ else q)
  else if c == 58 then (if q.d == 0 then ⟨q.d, q.st, (i : Int)⟩ else q)
  else q

def srun : List UInt8 → Nat → Q → Q
  | [], _, q => q
  | c :: l, i, q => srun l (i + 1) (sstep i (c.toNat : Int) q)

theorem run_append (a b : List UInt8) : ∀ i q, srun (a ++ b) i q = srun b (i + a.length) (srun a i q) := by
  induction a with
  | nil => intro i q; rfl
  | cons c a ih =>
    intro i q
    rw [List.cons_append, srun, srun, ih]
    congr 1
    simp; omega

theorem step_plain (i : Nat) (c : Int) (q : Q) (h1 : c ≠ 123) (h2 : c ≠ 125) (h3 : c ≠ 47) (h4 : c ≠ 58) : sstep i c q = q := by
  unfold sstep
  rw [if_neg (by simpa using h1), if_neg (by simpa using h2), if_neg (by simpa using h3), if_neg (by simpa using h4)]

theorem run_high (l : List UInt8) : ∀ i q, (∀ b ∈ l, 128 ≤ b.toNat) → srun l i q = q := by
  induction l with
  | nil => intro i q _; rfl
  | cons c l ih =>
    intro i q h
    have hc := h c (by simp)
    rw [srun, step_plain i _ q (by omega) (by omega) (by omega) (by omega)]
    exact ih _ _ (fun b hb => h b (by simp [hb]))

/-- a rune of more than ASCII: its bytes are there, and none is ASCII -/
theorem high_take (l : List UInt8) (hne : l ≠ []) (h0 : 128 ≤ (l.getD 0 0).toNat) : (decodeL l).2 ≤ l.length ∧ (∀ b ∈ l.take (decodeL l).2, 128 ≤ b.toNat) ∧ 1 ≤ (decodeL l).2 := by
  have hl : 0 < l.length := List.length_pos_iff.2 hne
  have hc := Go.Lib.decodeN_conts l.length (l.getD 0 0).toNat (l.getD 1 0).toNat (l.getD 2 0).toNat (l.getD 3 0).toNat
  have hw := Go.Lib.decodeN_ge1 l.length (l.getD 0 0).toNat (l.getD 1 0).toNat (l.getD 2 0).toNat (l.getD 3 0).toNat
  rw [← Go.Lib.decodeL_N] at hc hw
  obtain ⟨c2, c3, c4, c5⟩ := hc
  refine ⟨by omega, ?_, hw⟩
  have : (decodeL l).2 = 1 ∨ (decodeL l).2 = 2 ∨ (decodeL l).2 = 3 ∨ (decodeL l).2 = 4 := by omega
  rcases this with e | e | e | e
  · rw [e, Go.Lib.takeA l hl]
    intro b hb; simp only [List.mem_singleton] at hb; subst hb; exact h0
  · rw [e, Go.Lib.takeB l (by omega)]
    intro b hb; simp only [List.mem_cons, List.not_mem_nil, or_false] at hb
    rcases hb with rfl | rfl
    · exact h0
    · omega
  · rw [e, Go.Lib.takeC l (by omega)]
    intro b hb; simp only [List.mem_cons, List.not_mem_nil, or_false] at hb
    rcases hb with rfl | rfl | rfl
    · exact h0
    · omega
    · omega
  · rw [e, Go.Lib.takeD l (by omega)]
    intro b hb; simp only [List.mem_cons, List.not_mem_nil, or_false] at hb
    rcases hb with rfl | rfl | rfl | rfl
    · exact h0
    · omega
    · omega
    · omega

theorem len_data (s : ByteArray) : s.data.toList.length = s.size := rfl
theorem drop_step (s : ByteArray) (k : Nat) (h : k < s.size) : s.data.toList.drop k = s[k] :: s.data.toList.drop (k + 1) := by
  rw [List.drop_eq_getElem_cons (by rw [len_data]; exact h)]
  rfl

/-- ONE ROUND OF THE RANGE: the rune's sstep is the bytes' -/
theorem rune_step (s : ByteArray) (pos : Nat) (h : pos < s.size) (q : Q) :
    srun (s.data.toList.drop pos) pos q = srun (s.data.toList.drop (pos + (Utf8.decode s pos).2)) (pos + (Utf8.decode s pos).2) (sstep pos ((Utf8.decode s pos).1 : Int) q) ∧ pos + (Utf8.decode s pos).2 ≤ s.size ∧ 1 ≤ (Utf8.decode s pos).2 := by
  by_cases ha : (s[pos]'h).toNat < 128
  · rw [decode_ascii s pos h ha]
    refine ⟨?_, by show pos + 1 ≤ _; omega, Nat.le_refl _⟩
    rw [drop_step s pos h]
    rfl
  · have hd := drop_step s pos h
    have hne : s.data.toList.drop pos ≠ [] := by rw [hd]; simp
    have h0 : 128 ≤ ((s.data.toList.drop pos).getD 0 0).toNat := by rw [hd]; simpa using ha
    obtain ⟨h1, h2, h3⟩ := high_take _ hne h0
    have hr := (decode_high s pos h (by omega)).1
    rw [Go.Lib.decodeL_drop] at h1 h2 h3
    rw [List.length_drop, len_data] at h1
    refine ⟨?_, by omega, h3⟩
    rw [step_plain pos _ q (by omega) (by omega) (by omega) (by omega)]
    have e := (List.take_append_drop (Utf8.decode s pos).2 (s.data.toList.drop pos)).symm
    rw [List.drop_drop] at e
    rw [e, run_append, run_high _ _ _ h2, List.length_take, List.length_drop, len_data]
    congr 1
    omega

/-- what keeps the numbers small -/
def Ok (pos : Nat) (q : Q) : Prop := -(pos : Int) ≤ q.d ∧ q.d ≤ pos ∧ 0 ≤ q.st ∧ q.st ≤ pos ∧ (q.co = -1 ∨ q.st ≤ q.co ∧ q.co < pos)

theorem ok_step (pos n : Nat) (c : Int) (q : Q) (h : Ok pos q) (hn : 1 ≤ n) : Ok (pos + n) (sstep pos c q) := by
  unfold Ok at h ⊢
  unfold sstep
  repeat' split
  all_goals (try dsimp only)
  all_goals (refine ⟨by omega, by omega, by omega, by omega, ?_⟩)
  all_goals first | (left; rfl) | (right; omega) | (rcases h.2.2.2.2 with h' | h' <;> first | exact .inl h' | exact .inr (by omega))

/-! ### the paths of the law -/
def isBr (c : UInt8) : Bool := c == 123 || c == 125
def isMk (c : UInt8) : Bool := c == 123 || c == 125 || c == 47 || c == 58

theorem toNat_ne {c : UInt8} {n : Nat} (_hn : n < 256) (h : c ≠ UInt8.ofNat n) : (c.toNat : Int) ≠ (n : Int) := by
  intro e
  apply h
  have : c.toNat = n := by omega
  rw [← this]; simp

theorem run_nomark (l : List UInt8) : ∀ i q, l.any isMk = false → srun l i q = q := by
  induction l with
  | nil => intro i q _; rfl
  | cons c l ih =>
    intro i q h
    rw [List.any_cons, Bool.or_eq_false_iff] at h
    have hc := h.1
    simp only [isMk, Bool.or_eq_false_iff, beq_eq_false_iff_ne] at hc
    obtain ⟨⟨⟨h1, h2⟩, h3⟩, h4⟩ := hc
    rw [srun, step_plain i _ q (toNat_ne (n := 123) (by omega) h1) (toNat_ne (n := 125) (by omega) h2) (toNat_ne (n := 47) (by omega) h3) (toNat_ne (n := 58) (by omega) h4)]
    exact ih _ _ h.2

theorem run_deep (l : List UInt8) : ∀ i q, l.any isBr = false → q.d = 1 → srun l i q = q := by
  induction l with
  | nil => intro i q _ _; rfl
  | cons c l ih =>
    intro i q h hd
    rw [List.any_cons, Bool.or_eq_false_iff] at h
    have hc := h.1
    simp only [isBr, Bool.or_eq_false_iff, beq_eq_false_iff_ne] at hc
    have h1 := toNat_ne (n := 123) (by omega) hc.1
    have h2 := toNat_ne (n := 125) (by omega) hc.2
    have e : sstep i (c.toNat : Int) q = q := by
      unfold sstep
      rw [if_neg (by simpa using h1), if_neg (by simpa using h2)]
      simp [hd]
    rw [srun, e]
    exact ih _ _ h.2 hd

theorem run_flat (l : List UInt8) : ∀ i q, l.any isBr = false → q.d = 0 → (srun l i q).d = 0 := by
  induction l with
  | nil => intro i q _ h; exact h
  | cons c l ih =>
    intro i q h hd
    rw [List.any_cons, Bool.or_eq_false_iff] at h
    have hc := h.1
    simp only [isBr, Bool.or_eq_false_iff, beq_eq_false_iff_ne] at hc
    have h1 := toNat_ne (n := 123) (by omega) hc.1
    have h2 := toNat_ne (n := 125) (by omega) hc.2
    have e : (sstep i (c.toNat : Int) q).d = 0 := by
      unfold sstep
      rw [if_neg (by simpa using h1), if_neg (by simpa using h2)]
      repeat' split
      all_goals exact hd
    exact ih _ _ h.2 e

/-- the path as far as the closing brace -/
def baseL (p x : List UInt8) : List UInt8 := p ++ [47, 123] ++ x ++ [125]

theorem base_len (p x : List UInt8) : (baseL p x).length = p.length + x.length + 3 := by simp [baseL]; omega

theorem run_base (p x : List UInt8) (hp : p.any isBr = false) (hx : x.any isBr = false) : srun (baseL p x) 0 ⟨0, 0, -1⟩ = ⟨0, (p.length : Int) + 1, -1⟩ := by
  unfold baseL
  rw [run_append, run_append, run_append]
  have h0 := run_flat p 0 ⟨0, 0, -1⟩ hp rfl
  obtain ⟨q, hq⟩ : ∃ q, srun p 0 ⟨0, 0, -1⟩ = q := ⟨_, rfl⟩
  rw [hq] at h0 ⊢
  have e1 : srun [47, 123] (0 + p.length) q = ⟨1, (p.length : Int) + 1, -1⟩ := by
    simp [srun, sstep, h0]
  rw [e1, run_deep x _ _ hx rfl]
  simp [srun, sstep]

theorem run_colon (p x v : List UInt8) (hp : p.any isBr = false) (hx : x.any isBr = false) (hv : v.any isMk = false) : srun (baseL p x ++ [58] ++ v) 0 ⟨0, 0, -1⟩ = ⟨0, (p.length : Int) + 1, ((baseL p x).length : Int)⟩ := by
  rw [run_append, run_append, run_base p x hp hx, run_nomark v _ _ hv]
  simp [srun, sstep]

theorem run_tail (p x t : List UInt8) (hp : p.any isBr = false) (hx : x.any isBr = false) (ht : t.any isMk = false) : srun (baseL p x ++ t) 0 ⟨0, 0, -1⟩ = ⟨0, (p.length : Int) + 1, -1⟩ := by
  rw [run_append, run_base p x hp hx, run_nomark t _ _ ht]

theorem idx_free (l : List UInt8) (r : List UInt8) (h : l.any isBr = false) : Go.Lib.indexByte (l ++ 125 :: r) 125 = l.length := by
  induction l with
  | nil => simp [Go.Lib.indexByte]
  | cons c l ih =>
    rw [List.any_cons, Bool.or_eq_false_iff] at h
    have hc : (c == 125) = false := by
      have := h.1
      simp only [isBr, Bool.or_eq_false_iff] at this
      exact this.2
    have := ih h.2
    rw [List.cons_append, Go.Lib.indexByte, if_neg (by simp [hc]), this]
    have e : ((l.length : Int) == -1) = false := by rw [beq_eq_false_iff_ne]; omega
    rw [e]
    simp

/-- EndsInVariable's own question of a segment -/
def ends (seg : List UInt8) : Bool := Go.Lib.hasPrefix seg [123] && (Go.Lib.indexByte seg 125 == (seg.length : Int) - 1)

theorem ends_yes (x : List UInt8) (hx : x.any isBr = false) : ends (123 :: (x ++ [125])) = true := by
  unfold ends
  rw [show Go.Lib.hasPrefix (123 :: (x ++ [125])) [123] = true from by simp [Go.Lib.hasPrefix]]
  have e : Go.Lib.indexByte (123 :: (x ++ [125])) 125 = (x.length : Int) + 1 := by
    rw [Go.Lib.indexByte, if_neg (by decide), idx_free x [] hx]
    have e : ((x.length : Int) == -1) = false := by rw [beq_eq_false_iff_ne]; omega
    rw [e]; rfl
  rw [e]
  simp

theorem ends_no (x t : List UInt8) (hx : x.any isBr = false) (ht : t ≠ []) : ends (123 :: (x ++ 125 :: t)) = false := by
  unfold ends
  have e : Go.Lib.indexByte (123 :: (x ++ 125 :: t)) 125 = (x.length : Int) + 1 := by
    rw [Go.Lib.indexByte, if_neg (by decide), idx_free x t hx]
    have e : ((x.length : Int) == -1) = false := by rw [beq_eq_false_iff_ne]; omega
    rw [e]; rfl
  have hl : 0 < t.length := List.length_pos_iff.2 ht
  rw [e, show ((x.length : Int) + 1 == ((123 :: (x ++ 125 :: t)).length : Int) - 1) = false from by rw [beq_eq_false_iff_ne]; simp; omega]
  simp

end Go.Proofs.Qxb6602697a.Pl
