/-
  SEAT b6602505a: 'FnTokenizeRespacedIsAFixedPoint': the parts outside the walk.
-/
import Derived.Test.Qxb6602505aSplit
import Derived.Lib.BufferRead
namespace Go.Proofs.Qxb6602505a
open Go.RowKit
open Pl

/-! ### plain -/
def off : List (List UInt8) → Nat → Nat
  | _, 0 => 0
  | [], _ + 1 => 0
  | t :: ts, i + 1 => t.length + 1 + off ts i

theorem place_len (ts : List (List UInt8)) : ∀ p, (place ts p).length = ts.length := by
  induction ts with
  | nil => intro p; rfl
  | cons t ts ih => intro p; simp [place, ih]

theorem place_at (ts : List (List UInt8)) : ∀ (p i : Nat) (h : i < ts.length), (place ts p)[i]? = some (tok ts[i] (p + off ts i)) := by
  induction ts with
  | nil => intro p i h; simp at h
  | cons t ts ih =>
    intro p i h
    cases i with
    | zero => simp [place, off]
    | succ i =>
      have := ih (p + t.length + 1) i (by simpa using h)
      simp only [place, off, List.getElem?_cons_succ, List.getElem_cons_succ]
      rw [this]
      congr 2
      omega

theorem off_succ (ts : List (List UInt8)) : ∀ (i : Nat) (h : i < ts.length), off ts (i + 1) = off ts i + (ts[i].length + 1) := by
  induction ts with
  | nil => intro i h; simp at h
  | cons t ts ih =>
    intro i h
    cases i with
    | zero => simp [off]
    | succ i =>
      have := ih i (by simpa using h)
      simp only [off, List.getElem_cons_succ]
      rw [this]
      omega

theorem off_le (ts : List (List UInt8)) : ∀ i, i ≤ ts.length → off ts i ≤ off ts ts.length := by
  induction ts with
  | nil => intro i h; simp at h; subst h; exact Nat.le_refl _
  | cons t ts ih =>
    intro i h
    cases i with
    | zero => simp [off]
    | succ i => have := ih i (by simpa using h); simp only [off, List.length_cons]; omega

theorem off_sum (ts : List (List UInt8)) : off ts ts.length = (ts.map List.length).sum + ts.length := by
  induction ts with
  | nil => rfl
  | cons t ts ih => simp [off, ih]; omega

theorem join_len (ts : List (List UInt8)) : (joinS ts).length ≤ off ts ts.length := by
  induction ts with
  | nil => simp [joinS]
  | cons t ts ih =>
    simp only [joinS, off, List.length_cons]
    split
    · omega
    · simp; omega

theorem join_snoc (ts : List (List UInt8)) (t : List UInt8) (hne : ts ≠ []) : joinS (ts ++ [t]) = joinS ts ++ [32] ++ t := by
  induction ts with
  | nil => exact absurd rfl hne
  | cons u ts ih =>
    cases ts with
    | nil => simp [joinS]
    | cons u' ts =>
      have := ih (by simp)
      simp only [List.cons_append] at this ⊢
      rw [joinS, if_neg (by simp), this]
      conv => rhs; rw [joinS, if_neg (by simp)]
      simp

theorem scan_sum (l : List UInt8) : ∀ (cur : List UInt8) (p : Nat), ((scan l cur p).map fun t => t.text.length).sum ≤ cur.length + l.length := by
  have hf : ∀ (cur : List UInt8) (p : Nat), ((flush cur p).map fun t => t.text.length).sum ≤ cur.length := by
    intro cur p
    cases cur <;> simp [flush, tok]
  induction l with
  | nil => intro cur p; have := hf cur p; simpa [scan] using this
  | cons c l ih =>
    intro cur p
    have h0 := hf cur p
    by_cases hs : isSp c = true
    · have := ih [] (p + cur.length + 1)
      rw [scan_sp hs, List.map_append, List.sum_append]; simp at this ⊢; omega
    · have hs' : isSp c = false := by simpa using hs
      by_cases he : ext cur c = true
      · have := ih (cur ++ [c]) p
        rw [scan_ext hs' he]; simp at this ⊢; omega
      · have he' : ext cur c = false := by simpa using he
        have := ih [c] (p + cur.length)
        rw [scan_cut hs' he', List.map_append, List.sum_append]; simp at this ⊢; omega

/-- the first i texts, with one space between them -/
def jn (A : List Tok) (i : Nat) : List UInt8 := joinS ((A.take i).map Tok.text)

theorem jn_zero (A : List Tok) : jn A 0 = [] := by simp [jn, joinS]
theorem jn_one (A : List Tok) (h : 0 < A.length) : jn A 1 = A[0].text := by
  cases A with
  | nil => simp at h
  | cons t A => simp [jn, joinS]
theorem jn_succ (A : List Tok) (i : Nat) (h0 : 0 < i) (h : i < A.length) : jn A (i + 1) = jn A i ++ [32] ++ A[i].text := by
  unfold jn
  rw [List.take_succ_eq_append_getElem h, List.map_append]
  refine join_snoc _ _ ?_
  intro e
  have := congrArg List.length e
  rw [List.length_map, List.length_take, List.length_nil] at this
  omega
theorem jn_le (A : List Tok) (i : Nat) : (jn A i).length ≤ ((A.take i).map fun t => t.text.length).sum + (A.take i).length := by
  have h1 := join_len ((A.take i).map Tok.text)
  rw [off_sum, List.map_map, List.length_map] at h1
  exact h1
theorem sum_take (A : List Tok) : ∀ i, ((A.take i).map fun t => t.text.length).sum ≤ (A.map fun t => t.text.length).sum := by
  induction A with
  | nil => intro i; simp
  | cons t A ih =>
    intro i
    cases i with
    | zero => simp
    | succ i => have := ih i; simp only [List.take_succ_cons, List.map_cons, List.sum_cons]; omega

/-- all that the walk asks of the tokens and of the text that is made of them -/
structure Resp (s : ByteArray) (A T1 T2 : List Tok) (m : Nat) : Prop where
  len : A.length = m
  mle : m ≤ 1048576
  t1 : T1 = A ++ [⟨0, [], s.size⟩]
  jle : ∀ i, (jn A i).length ≤ 2097152
  t2 : T2 = toks (jn A m)
  n1 : T1.length = m + 1
  n2 : T2.length = m + 1
  last : T2[m]? = some ⟨0, [], (jn A m).length⟩
  eq : ∀ (i : Nat) (t : Tok), A[i]? = some t → T2[i]? = some ⟨t.kind, t.text, off (A.map Tok.text) i⟩
  ole : ∀ i, i ≤ m → off (A.map Tok.text) i ≤ 2097152
  onx : ∀ (i : Nat) (t : Tok), A[i]? = some t → off (A.map Tok.text) (i + 1) = off (A.map Tok.text) i + (t.text.length + 1)

theorem resp_of (s : ByteArray) (hs : s.size ≤ 1048576) : Resp s (scan s.data.toList [] 0) (toks s.data.toList) (toks (jn (scan s.data.toList [] 0) (scan s.data.toList [] 0).length)) (scan s.data.toList [] 0).length := by
  have hl := scan_len s.data.toList [] 0
  have hsum := scan_sum s.data.toList [] 0
  have hlex := scan_lexm s.data.toList [] 0 lexm_nil
  have hsz : s.data.toList.length = s.size := rfl
  obtain ⟨A, hA⟩ : ∃ A, A = scan s.data.toList [] 0 := ⟨_, rfl⟩
  have h1 : toks s.data.toList = A ++ [⟨0, [], s.size⟩] := by rw [hA]; rfl
  rw [h1]
  rw [← hA] at hl hsum hlex ⊢
  simp at hl hsum
  have hj : ∀ i, (jn A i).length ≤ 2097152 := by
    intro i
    have a := jn_le A i
    have b := sum_take A i
    have c := List.length_take_le' i A
    omega
  have hfull : jn A A.length = joinS (A.map Tok.text) := by simp [jn]
  have hsc : scan (jn A A.length) [] 0 = place (A.map Tok.text) 0 := by
    rw [hfull]
    apply scan_join
    intro t ht
    obtain ⟨u, hu, rfl⟩ := List.mem_map.1 ht
    exact ⟨(hlex u hu).1, (hlex u hu).2.1⟩
  have ht2 : toks (jn A A.length) = place (A.map Tok.text) 0 ++ [⟨0, [], (jn A A.length).length⟩] := by rw [← hsc]; rfl
  have hpl := place_len (A.map Tok.text) 0
  rw [List.length_map] at hpl
  have ho : off (A.map Tok.text) A.length ≤ 2097152 := by
    have := off_sum (A.map Tok.text)
    rw [List.length_map, List.map_map] at this
    have e : (List.map (List.length ∘ Tok.text) A) = A.map fun t => t.text.length := rfl
    rw [e] at this
    omega
  refine ⟨rfl, by omega, rfl, hj, rfl, by simp, by rw [ht2]; simp [hpl], ?_, ?_, ?_, ?_⟩
  · rw [ht2, List.getElem?_append_right (by omega), hpl]; simp
  · intro i t e
    obtain ⟨h, rfl⟩ := List.getElem?_eq_some_iff.1 e
    rw [ht2, List.getElem?_append_left (by omega), place_at _ 0 i (by simpa using h)]
    simp only [List.getElem_map, tok, Nat.zero_add]
    rw [← (hlex A[i] (List.getElem_mem h)).2.2]
  · intro i h
    have := off_le (A.map Tok.text) i (by simpa using h)
    rw [List.length_map] at this
    omega
  · intro i t e
    obtain ⟨h, rfl⟩ := List.getElem?_eq_some_iff.1 e
    have := off_succ (A.map Tok.text) i (by simpa using h)
    simpa using this

end Go.Proofs.Qxb6602505a
