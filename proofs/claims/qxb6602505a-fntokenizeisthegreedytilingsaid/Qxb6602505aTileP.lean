/-
  SEAT b6602505a: 'FnTokenizeIsTheGreedyTiling': the plain part: the lexer's tokens tile the text.
-/
import Derived.Test.Qxb6602505aPlain
namespace Go.Proofs.Qxb6602505a.Pl

/-- what a token's text can be -/
def Shape (t : List UInt8) : Prop :=
  t.all pln = true ∨ t = [61, 61] ∨ t = [33, 61] ∨ t = [33] ∨ t = [61] ∨ t = [62] ∨ t = [60] ∨ t = [44] ∨ t = [40] ∨ t = [41]

/-- only spaces from a up to b -/
def Sp (l : List UInt8) (a b : Nat) : Prop := ∀ (j : Nat) (c : UInt8), a ≤ j → j < b → l[j]? = some c → isSp c = true

/-- the tokens tile the text from pos on -/
def Tile (l : List UInt8) : Nat → List Tok → Prop
  | pos, [] => Sp l pos l.length
  | pos, t :: ts => pos ≤ t.pos ∧ t.pos + t.text.length ≤ l.length ∧ t.text ≠ [] ∧ Sp l pos t.pos ∧ (∀ (j : Nat) (c : UInt8), t.text[j]? = some c → l[t.pos + j]? = some c) ∧ Shape t.text ∧ t.kind = lexK t.text ∧
      (∀ c, l[t.pos + t.text.length]? = some c → isSp c = true ∨ ext t.text c = false) ∧ Tile l (t.pos + t.text.length) ts

theorem shape_one (c : UInt8) (h : isSp c = false) : Shape [c] := by
  by_cases hp : pln c = true
  · exact .inl (by simp [hp])
  · have hs : isSy c = true := by simpa [pln, h] using hp
    simp only [isSy, Bool.or_eq_true, beq_iff_eq] at hs
    rcases hs with (((((rfl | rfl) | rfl) | rfl) | rfl) | rfl) | rfl
    all_goals (unfold Shape; decide)

theorem shape_ext {cur : List UInt8} {c : UInt8} (hne : cur ≠ []) (he : ext cur c = true) : Shape (cur ++ [c]) := by
  simp only [ext, Bool.or_eq_true, Bool.and_eq_true, List.isEmpty_iff, beq_iff_eq] at he
  rcases he with (he | ⟨h1, h2⟩) | ⟨rfl, rfl | rfl⟩
  · exact absurd he hne
  · exact .inl (by simp only [List.all_append, h2, List.all_cons, h1, List.all_nil]; rfl)
  · exact .inr (.inl rfl)
  · exact .inr (.inr (.inl rfl))

theorem at_mid (pre cur rest : List UInt8) (j : Nat) (c : UInt8) (h : cur[j]? = some c) : (pre ++ cur ++ rest)[pre.length + j]? = some c := by
  have hj := (List.getElem?_eq_some_iff.1 h).1
  rw [List.append_assoc, List.getElem?_append_right (by omega), show pre.length + j - pre.length = j from by omega, List.getElem?_append_left hj]
  exact h

theorem at_next (pre cur rest : List UInt8) (c : UInt8) (h : (pre ++ cur ++ rest)[pre.length + cur.length]? = some c) : ∃ r, rest = c :: r := by
  rw [List.getElem?_append_right (by simp), show pre.length + cur.length - (pre ++ cur).length = 0 from by simp] at h
  cases rest with
  | nil => simp at h
  | cons d r => simp at h; exact ⟨r, by rw [h]⟩

/-- a token is laid -/
theorem tile_tok {pre cur rest : List UInt8} {pos : Nat} {ts : List Tok} (hne : cur ≠ []) (hS : Shape cur) (hp : pos ≤ pre.length) (hsp : Sp (pre ++ cur ++ rest) pos pre.length)
    (hnext : ∀ c r, rest = c :: r → isSp c = true ∨ ext cur c = false) (h : Tile (pre ++ cur ++ rest) (pre.length + cur.length) ts) : Tile (pre ++ cur ++ rest) pos (flush cur pre.length ++ ts) := by
  rw [flush_ne hne]
  refine ⟨hp, ?_, hne, hsp, ?_, hS, rfl, ?_, h⟩
  · simp [tok]
  · intro j c hc
    exact at_mid pre cur rest j c hc
  · intro c hc
    obtain ⟨r, e⟩ := at_next pre cur rest c hc
    exact hnext c r e

theorem tile_scan (rest : List UInt8) : ∀ (pre cur : List UInt8) (pos : Nat), (cur ≠ [] → Shape cur) → pos ≤ pre.length → Sp (pre ++ cur ++ rest) pos pre.length → Tile (pre ++ cur ++ rest) pos (scan rest cur pre.length) := by
  induction rest with
  | nil =>
    intro pre cur pos hS hp hsp
    by_cases hne : cur = []
    · subst hne
      simp only [List.append_nil] at hsp ⊢
      exact hsp
    · have := tile_tok (ts := []) (rest := []) hne (hS hne) hp hsp (fun c r e => by cases e) (by
        intro j c h1 h2 _
        simp at h2
        omega)
      simpa [scan] using this
  | cons c rest ih =>
    intro pre cur pos hS hp hsp
    have e1 : pre ++ cur ++ c :: rest = (pre ++ cur ++ [c]) ++ [] ++ rest := by simp
    by_cases hs : isSp c = true
    · rw [scan_sp hs]
      have hat : (pre ++ cur ++ c :: rest)[pre.length + cur.length]? = some c := by
        rw [List.getElem?_append_right (by simp), show pre.length + cur.length - (pre ++ cur).length = 0 from by simp]
        rfl
      have hlen : (pre ++ cur ++ [c]).length = pre.length + cur.length + 1 := by simp; omega
      by_cases hne : cur = []
      · subst hne
        have := ih (pre ++ [] ++ [c]) [] pos (fun h => absurd rfl h) (by rw [hlen]; simp; omega) (by
          rw [← e1, hlen]
          intro j d h1 h2 h3
          by_cases hj : j < pre.length
          · exact hsp j d h1 hj h3
          · have : j = pre.length + ([] : List UInt8).length := by simp at h2 ⊢; omega
            subst this
            rw [hat] at h3
            injection h3 with h3
            subst h3; exact hs)
        rw [← e1, hlen] at this
        exact this
      · have := ih (pre ++ cur ++ [c]) [] (pre.length + cur.length) (fun h => absurd rfl h) (by rw [hlen]; omega) (by
          rw [← e1, hlen]
          intro j d h1 h2 h3
          have : j = pre.length + cur.length := by omega
          subst this
          rw [hat] at h3
          injection h3 with h3
          subst h3; exact hs)
        rw [← e1, hlen] at this
        exact tile_tok hne (hS hne) hp hsp (fun d r e => by injection e with e _; subst e; exact .inl hs) this
    · have hs' : isSp c = false := by simpa using hs
      by_cases he : ext cur c = true
      · rw [scan_ext hs' he]
        have e2 : pre ++ cur ++ c :: rest = pre ++ (cur ++ [c]) ++ rest := by simp
        rw [e2] at hsp ⊢
        refine ih pre (cur ++ [c]) pos (fun _ => ?_) hp hsp
        by_cases hne : cur = []
        · subst hne; exact shape_one c hs'
        · exact shape_ext hne he
      · have he' : ext cur c = false := by simpa using he
        rw [scan_cut hs' he']
        have hne : cur ≠ [] := by intro e; subst e; rw [ext_nil] at he'; cases he'
        have e2 : pre ++ cur ++ c :: rest = (pre ++ cur) ++ [c] ++ rest := by simp
        have hl2 : (pre ++ cur).length = pre.length + cur.length := by simp
        have := ih (pre ++ cur) [c] (pre.length + cur.length) (fun _ => shape_one c hs') (by rw [hl2]; exact Nat.le_refl _) (by
          intro j d h1 h2 _
          rw [hl2] at h2; omega)
        rw [← e2, hl2] at this
        exact tile_tok hne (hS hne) hp hsp (fun d r e => by injection e with e _; subst e; exact .inr he') this

/-- THE PLAIN LAW -/
theorem tile_all (l : List UInt8) : Tile l 0 (scan l [] 0) := by
  have := tile_scan l [] [] 0 (fun h => absurd rfl h) (Nat.le_refl _) (fun j c _ h2 _ => by simp at h2)
  simpa using this

/-! ### what the Go text asks of the kind -/
theorem lexK_rng (t : List UInt8) (h : Shape t) : lexK t = 1 ∧ t.all pln = true ∨ lexK t = 2 ∧ t.all pln = true ∨ lexK t = 3 ∧ t = [33] ∨ lexK t = 4 ∧ t = [61] ∨ 4 < lexK t := by
  rcases h with h | rfl | rfl | rfl | rfl | rfl | rfl | rfl | rfl | rfl
  · rw [word_kind t h]
    split
    · exact .inr (.inl ⟨rfl, h⟩)
    · exact .inl ⟨rfl, h⟩
  all_goals decide

/-- what may follow a token of that kind -/
def NextOk (K : Int) (c : UInt8) : Prop := (K = 1 ∨ K = 2 → isSp c = true ∨ isSy c = true) ∧ (K = 3 ∨ K = 4 → c ≠ 61)

theorem next_ok (t : List UInt8) (c : UInt8) (hS : Shape t) (hne : t ≠ []) (h : isSp c = true ∨ ext t c = false) : NextOk (lexK t) c := by
  have word : t.all pln = true → isSp c = true ∨ isSy c = true := by
    intro ht
    rcases h with h | h
    · exact .inl h
    · by_cases hp : pln c = true
      · rw [ext_word hp ht] at h; cases h
      · have : isSp c = true ∨ isSy c = true := by
          by_cases h1 : isSp c = true
          · exact .inl h1
          · exact .inr (by simpa [pln, h1] using hp)
        exact this
  rcases lexK_rng t hS with ⟨h1, h2⟩ | ⟨h1, h2⟩ | ⟨h1, h2⟩ | ⟨h1, h2⟩ | h1
  · exact ⟨fun _ => word h2, fun h3 => by rw [h1] at h3; omega⟩
  · exact ⟨fun _ => word h2, fun h3 => by rw [h1] at h3; omega⟩
  · refine ⟨fun h3 => by rw [h1] at h3; omega, fun _ e => ?_⟩
    subst e; subst h2
    rcases h with h | h <;> revert h <;> decide
  · refine ⟨fun h3 => by rw [h1] at h3; omega, fun _ e => ?_⟩
    subst e; subst h2
    rcases h with h | h <;> revert h <;> decide
  · exact ⟨fun h3 => by omega, fun h3 => by omega⟩

/-- the law's own lexicon of the symbols -/
def symLex (cur : List UInt8) : Int :=
  if cur == [61, 61] then 5 else if cur == [33, 61] then 6 else if cur == [33] then 3 else if cur == [61] then 4 else if cur == [62] then 7 else if cur == [60] then 8
  else if cur == [44] then 9 else if cur == [40] then 10 else if cur == [41] then 11 else -1

theorem symLex_shape (t : List UInt8) (h : Shape t) : t.all pln = true ∧ symLex t = -1 ∨ symLex t = lexK t ∧ (symLex t != -1) = true := by
  rcases h with h | rfl | rfl | rfl | rfl | rfl | rfl | rfl | rfl | rfl
  · refine .inl ⟨h, ?_⟩
    have no : ∀ x : List UInt8, x.all pln = false → (t == x) = false := by
      intro x hx
      rw [beq_eq_false_iff_ne]
      rintro rfl
      rw [h] at hx; cases hx
    unfold symLex
    rw [no [61, 61] rfl, no [33, 61] rfl, no [33] rfl, no [61] rfl, no [62] rfl, no [60] rfl, no [44] rfl, no [40] rfl, no [41] rfl]
    rfl
  all_goals exact .inr ⟨rfl, rfl⟩

end Go.Proofs.Qxb6602505a.Pl
