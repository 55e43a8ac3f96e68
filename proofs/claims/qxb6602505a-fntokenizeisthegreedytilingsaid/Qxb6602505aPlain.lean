/-
  SEAT b6602505a: the plain part, with no Go in sight: a lexer that reads one byte a step, and its laws.
-/
import Derived.Lib.Bytealg
import Derived.Lib.Strings
namespace Go.Proofs.Qxb6602505a.Pl

def isSp (c : UInt8) : Bool := c == 32 || c == 9 || c == 10 || c == 13 || c == 12 || c == 11
def isSy (c : UInt8) : Bool := c == 33 || c == 61 || c == 60 || c == 62 || c == 44 || c == 40 || c == 41
def pln (c : UInt8) : Bool := !isSp c && !isSy c

/-- a token: its kind, its bytes, the place where it begins -/
structure Tok where
  kind : Int
  text : List UInt8
  pos : Nat

/-- can 'cur', which is read already, be read on by c? -/
def ext (cur : List UInt8) (c : UInt8) : Bool := cur.isEmpty || (pln c && cur.all pln) || (c == 61 && (cur == [61] || cur == [33]))

/-- the kind of a whole token -/
def lexK (cur : List UInt8) : Int :=
  if cur == [61, 61] then 5 else if cur == [33, 61] then 6 else if cur == [33] then 3 else if cur == [61] then 4 else if cur == [62] then 7 else if cur == [60] then 8
  else if cur == [44] then 9 else if cur == [40] then 10 else if cur == [41] then 11 else if cur == [105, 110] || cur == [110, 111, 116, 105, 110] then 2 else 1

def tok (cur : List UInt8) (p : Nat) : Tok := ⟨lexK cur, cur, p⟩
def flush (cur : List UInt8) (p : Nat) : List Tok := if cur.isEmpty then [] else [tok cur p]

/-- the lexer: the rest, what of a token is read already, the place where that begins -/
def scan : List UInt8 → List UInt8 → Nat → List Tok
  | [], cur, p => flush cur p
  | c :: l, cur, p =>
    if isSp c then flush cur p ++ scan l [] (p + cur.length + 1)
    else if ext cur c then scan l (cur ++ [c]) p
    else flush cur p ++ scan l [c] (p + cur.length)

theorem scan_sp {c : UInt8} {l cur : List UInt8} {p : Nat} (h : isSp c = true) : scan (c :: l) cur p = flush cur p ++ scan l [] (p + cur.length + 1) := by
  rw [scan, if_pos h]
theorem scan_ext {c : UInt8} {l cur : List UInt8} {p : Nat} (h : isSp c = false) (he : ext cur c = true) : scan (c :: l) cur p = scan l (cur ++ [c]) p := by
  rw [scan, if_neg (by simp [h]), if_pos he]
theorem scan_cut {c : UInt8} {l cur : List UInt8} {p : Nat} (h : isSp c = false) (he : ext cur c = false) : scan (c :: l) cur p = flush cur p ++ scan l [c] (p + cur.length) := by
  rw [scan, if_neg (by simp [h]), if_neg (by simp [he])]

theorem ext_nil (c : UInt8) : ext [] c = true := rfl

/-- A SPACE PARTS -/
theorem scan_split (a b : List UInt8) : ∀ (cur : List UInt8) (p : Nat), scan (a ++ 32 :: b) cur p = scan a cur p ++ scan b [] (p + cur.length + a.length + 1) := by
  induction a with
  | nil => intro cur p; rw [List.nil_append, scan_sp rfl]; rfl
  | cons c a ih =>
    intro cur p
    rw [List.cons_append]
    by_cases hs : isSp c = true
    · rw [scan_sp hs, scan_sp hs, ih, List.append_assoc]
      congr 3
      simp; omega
    · have hs' : isSp c = false := by simpa using hs
      by_cases he : ext cur c = true
      · rw [scan_ext hs' he, scan_ext hs' he, ih]
        congr 2
        simp; omega
      · have he' : ext cur c = false := by simpa using he
        rw [scan_cut hs' he', scan_cut hs' he', ih, List.append_assoc]
        congr 3
        simp; omega

/-- what is shut ahead of l -/
theorem scan_shut (l cur : List UInt8) (p : Nat) (h : ∀ c r, l = c :: r → isSp c = true ∨ ext cur c = false) : scan l cur p = flush cur p ++ scan l [] (p + cur.length) := by
  cases l with
  | nil => simp [scan, flush]
  | cons c l =>
    by_cases hs : isSp c = true
    · rw [scan_sp hs, scan_sp hs]; simp [flush]
    · have hs' : isSp c = false := by simpa using hs
      have he : ext cur c = false := by
        rcases h c l rfl with h | h
        · exact absurd h hs
        · exact h
      rw [scan_cut hs' he, scan_ext hs' (ext_nil c)]; rfl

def shift (k : Nat) (t : Tok) : Tok := ⟨t.kind, t.text, t.pos + k⟩

theorem flush_shift (cur : List UInt8) (p k : Nat) : flush cur (p + k) = (flush cur p).map (shift k) := by
  unfold flush; split <;> simp [tok, shift]

theorem scan_shift (l : List UInt8) : ∀ (cur : List UInt8) (p k : Nat), scan l cur (p + k) = (scan l cur p).map (shift k) := by
  induction l with
  | nil => intro cur p k; exact flush_shift cur p k
  | cons c l ih =>
    intro cur p k
    by_cases hs : isSp c = true
    · rw [scan_sp hs, scan_sp hs, List.map_append, ← flush_shift, ← ih]
      congr 2; omega
    · have hs' : isSp c = false := by simpa using hs
      by_cases he : ext cur c = true
      · rw [scan_ext hs' he, scan_ext hs' he, ih]
      · have he' : ext cur c = false := by simpa using he
        rw [scan_cut hs' he', scan_cut hs' he', List.map_append, ← flush_shift, ← ih]
        congr 2; omega

/-! ### the tokens' texts are lexemes -/
def Lexm (cur : List UInt8) : Prop := ∀ (l : List UInt8) (p : Nat), scan (cur ++ l) [] p = scan l cur p

theorem lexm_nil : Lexm [] := fun _ _ => rfl
theorem lexm_ext {cur : List UInt8} {c : UInt8} (h : Lexm cur) (hs : isSp c = false) (he : ext cur c = true) : Lexm (cur ++ [c]) := by
  intro l p
  rw [List.append_assoc, List.singleton_append, h, scan_ext hs he]
theorem lexm_one {c : UInt8} (hs : isSp c = false) : Lexm [c] := lexm_ext lexm_nil hs (ext_nil c)

theorem flush_lexm {cur : List UInt8} {p : Nat} (h : Lexm cur) : ∀ t ∈ flush cur p, Lexm t.text ∧ t.text ≠ [] ∧ t.kind = lexK t.text := by
  intro t ht
  unfold flush at ht
  split at ht
  · simp at ht
  · rename_i hne
    simp at ht
    subst ht
    exact ⟨h, by simpa [tok] using hne, rfl⟩

theorem scan_lexm (l : List UInt8) : ∀ (cur : List UInt8) (p : Nat), Lexm cur → ∀ t ∈ scan l cur p, Lexm t.text ∧ t.text ≠ [] ∧ t.kind = lexK t.text := by
  induction l with
  | nil => intro cur p h; exact flush_lexm h
  | cons c l ih =>
    intro cur p h t ht
    by_cases hs : isSp c = true
    · rw [scan_sp hs] at ht
      rcases List.mem_append.1 ht with ht | ht
      · exact flush_lexm h t ht
      · exact ih _ _ lexm_nil t ht
    · have hs' : isSp c = false := by simpa using hs
      by_cases he : ext cur c = true
      · rw [scan_ext hs' he] at ht
        exact ih _ _ (lexm_ext h hs' he) t ht
      · have he' : ext cur c = false := by simpa using he
        rw [scan_cut hs' he'] at ht
        rcases List.mem_append.1 ht with ht | ht
        · exact flush_lexm h t ht
        · exact ih _ _ (lexm_one hs') t ht

/-- the texts with one space between them -/
def joinS : List (List UInt8) → List UInt8
  | [] => []
  | t :: ts => if ts.isEmpty then t else t ++ 32 :: joinS ts

/-- the tokens of that text -/
def place : List (List UInt8) → Nat → List Tok
  | [], _ => []
  | t :: ts, p => tok t p :: place ts (p + t.length + 1)

theorem scan_one {t : List UInt8} (h : Lexm t) (hne : t ≠ []) (p : Nat) : scan t [] p = [tok t p] := by
  have := h [] p
  rw [List.append_nil] at this
  rw [this]
  simp [scan, flush, hne]

/-- RESPACED -/
theorem scan_join (ts : List (List UInt8)) : ∀ p, (∀ t ∈ ts, Lexm t ∧ t ≠ []) → scan (joinS ts) [] p = place ts p := by
  induction ts with
  | nil => intro p _; rfl
  | cons t ts ih =>
    intro p h
    obtain ⟨h1, h2⟩ := h t (by simp)
    have hr : ∀ t ∈ ts, Lexm t ∧ t ≠ [] := fun x hx => h x (by simp [hx])
    unfold joinS
    by_cases he : ts.isEmpty = true
    · rw [if_pos he]
      have : ts = [] := by simpa using he
      subst this
      rw [scan_one h1 h2]; rfl
    · rw [if_neg he, scan_split, scan_one h1 h2, ih _ hr]
      simp [place]

/-! ### what the Go text does at one place -/
/-- 'symbol' -/
def symG (l : List UInt8) : Int × Int :=
  if Go.Lib.hasPrefix l [61, 61] then (5, 2) else if Go.Lib.hasPrefix l [33, 61] then (6, 2)
  else if l.headD 0 == 33 then (3, 1) else if l.headD 0 == 61 then (4, 1) else if l.headD 0 == 62 then (7, 1) else if l.headD 0 == 60 then (8, 1)
  else if l.headD 0 == 44 then (9, 1) else if l.headD 0 == 40 then (10, 1) else if l.headD 0 == 41 then (11, 1) else (1, 0)

theorem u8_all {P : UInt8 → Bool} (h : ∀ n, n < 256 → P (UInt8.ofNat n) = true) (c : UInt8) : P c = true := by
  have := h c.toNat c.toNat_lt
  simpa using this

theorem idx_sp (c : UInt8) : decide (0 ≤ Go.Lib.indexByte [32, 9, 10, 13, 12, 11] c) = isSp c := by
  have := u8_all (P := fun c => decide (0 ≤ Go.Lib.indexByte [32, 9, 10, 13, 12, 11] c) == isSp c) (by decide +kernel) c
  simpa using this
theorem idx_pln (c : UInt8) : decide (Go.Lib.indexByte [32, 9, 10, 13, 12, 11, 33, 61, 60, 62, 44, 40, 41] c < 0) = pln c := by
  have := u8_all (P := fun c => decide (Go.Lib.indexByte [32, 9, 10, 13, 12, 11, 33, 61, 60, 62, 44, 40, 41] c < 0) == pln c) (by decide +kernel) c
  simpa using this

theorem flush_ne {cur : List UInt8} (h : cur ≠ []) (p : Nat) : flush cur p = [tok cur p] := by
  simp [flush, h]

/-- a symbol of one byte -/
theorem sym_one (c : UInt8) (r : List UInt8) (p : Nat) (hs : isSp c = false) (h : ∀ d q, r = d :: q → isSp d = true ∨ ext [c] d = false) :
    scan (c :: r) [] p = tok [c] p :: scan r [] (p + 1) := by
  rw [scan_ext hs (ext_nil c), List.nil_append, scan_shut _ _ _ h, flush_ne (by simp)]
  rfl
/-- a symbol of two bytes -/
theorem sym_two (c d : UInt8) (r : List UInt8) (p : Nat) (hc : isSp c = false) (hd : isSp d = false) (he : ext [c] d = true) (h : ∀ x, ext [c, d] x = false) :
    scan (c :: d :: r) [] p = tok [c, d] p :: scan r [] (p + 2) := by
  rw [scan_ext hc (ext_nil c), List.nil_append, scan_ext hd he, List.singleton_append, scan_shut _ _ _ (fun x q _ => .inr (h x)), flush_ne (by simp)]
  rfl

/-- a symbol, as the Go text reads it: n bytes -/
def SymAt (l : List UInt8) (k : Int) (n : Nat) : Prop :=
  n ≤ l.length ∧ ∀ p, scan l [] p = ⟨k, l.take n, p⟩ :: scan (l.drop n) [] (p + n)

theorem ext_two (d : UInt8) (hd : d = 61 ∨ d = 33) : ∀ x, ext [d, 61] x = false := by
  intro x
  rcases hd with rfl | rfl
  · have := u8_all (P := fun x => ext [61, 61] x == false) (by decide +kernel) x
    simpa using this
  · have := u8_all (P := fun x => ext [33, 61] x == false) (by decide +kernel) x
    simpa using this

theorem ext_eq (c x : UInt8) (hc : c = 61 ∨ c = 33) (hx : x ≠ 61) : ext [c] x = false := by
  rcases hc with rfl | rfl
  · have := u8_all (P := fun x => (x == 61) || (ext [61] x == false)) (by decide +kernel) x
    simpa [hx] using this
  · have := u8_all (P := fun x => (x == 61) || (ext [33] x == false)) (by decide +kernel) x
    simpa [hx] using this

theorem ext_other (c x : UInt8) (hc : c = 62 ∨ c = 60 ∨ c = 44 ∨ c = 40 ∨ c = 41) : ext [c] x = false := by
  have h (d : UInt8) (hd : d = 62 ∨ d = 60 ∨ d = 44 ∨ d = 40 ∨ d = 41) : ∀ n, n < 256 → (ext [d] (UInt8.ofNat n) == false) = true := by
    rcases hd with rfl | rfl | rfl | rfl | rfl <;> decide +kernel
  have := u8_all (P := fun x => ext [c] x == false) (h c hc) x
  simpa using this

theorem symAt_two (c : UInt8) (k : Int) (r : List UInt8) (hc : c = 61 ∨ c = 33) (hk : lexK [c, 61] = k) : SymAt (c :: 61 :: r) k 2 := by
  refine ⟨by simp, fun p => ?_⟩
  have hs : isSp c = false := by rcases hc with rfl | rfl <;> rfl
  have he : ext [c] 61 = true := by rcases hc with rfl | rfl <;> rfl
  rw [sym_two c 61 r p hs rfl he (ext_two c hc)]
  simp [tok, hk]

theorem symAt_one (c : UInt8) (k : Int) (r : List UInt8) (hs : isSp c = false) (hk : lexK [c] = k) (h : ∀ d q, r = d :: q → isSp d = true ∨ ext [c] d = false) : SymAt (c :: r) k 1 := by
  refine ⟨by simp, fun p => ?_⟩
  rw [sym_one c r p hs h]
  simp [tok, hk]

theorem not_two (c : UInt8) (r : List UInt8) (h : Go.Lib.hasPrefix (c :: r) [c, 61] = false) : ∀ d q, r = d :: q → d ≠ 61 := by
  rintro d q rfl rfl
  simp [Go.Lib.hasPrefix] at h

/-- 'symbol' finds one -/
theorem symG_hit (c : UInt8) (r : List UInt8) : (symG (c :: r)).2 = 0 ∧ (symG (c :: r)).1 = 1 ∧ isSy c = false ∨ ∃ n : Nat, (n = 1 ∨ n = 2) ∧ (symG (c :: r)).2 = (n : Int) ∧ SymAt (c :: r) (symG (c :: r)).1 n := by
  unfold symG
  by_cases h1 : Go.Lib.hasPrefix (c :: r) [61, 61] = true
  · rw [if_pos h1]
    match c, r, h1 with
    | c, [], h1 => simp [Go.Lib.hasPrefix] at h1
    | c, d :: r, h1 =>
      simp [Go.Lib.hasPrefix] at h1
      obtain ⟨rfl, rfl⟩ := h1
      exact .inr ⟨2, .inr rfl, rfl, symAt_two 61 5 r (.inl rfl) rfl⟩
  rw [if_neg h1]
  by_cases h2 : Go.Lib.hasPrefix (c :: r) [33, 61] = true
  · rw [if_pos h2]
    match c, r, h2 with
    | c, [], h2 => simp [Go.Lib.hasPrefix] at h2
    | c, d :: r, h2 =>
      simp [Go.Lib.hasPrefix] at h2
      obtain ⟨rfl, rfl⟩ := h2
      exact .inr ⟨2, .inr rfl, rfl, symAt_two 33 6 r (.inr rfl) rfl⟩
  rw [if_neg h2]
  by_cases h : c = 33
  · subst h
    exact .inr ⟨1, .inl rfl, rfl, symAt_one 33 3 r rfl rfl fun d q e => .inr (ext_eq 33 d (.inr rfl) (not_two 33 r (by simpa using h2) d q e))⟩
  rw [if_neg (by simpa using h)]
  by_cases h' : c = 61
  · subst h'
    exact .inr ⟨1, .inl rfl, rfl, symAt_one 61 4 r rfl rfl fun d q e => .inr (ext_eq 61 d (.inl rfl) (not_two 61 r (by simpa using h1) d q e))⟩
  rw [if_neg (by simpa using h')]
  by_cases h3 : c = 62
  · subst h3; exact .inr ⟨1, .inl rfl, rfl, symAt_one 62 7 r rfl rfl fun d q _ => .inr (ext_other 62 d (by decide))⟩
  rw [if_neg (by simpa using h3)]
  by_cases h4 : c = 60
  · subst h4; exact .inr ⟨1, .inl rfl, rfl, symAt_one 60 8 r rfl rfl fun d q _ => .inr (ext_other 60 d (by decide))⟩
  rw [if_neg (by simpa using h4)]
  by_cases h5 : c = 44
  · subst h5; exact .inr ⟨1, .inl rfl, rfl, symAt_one 44 9 r rfl rfl fun d q _ => .inr (ext_other 44 d (by decide))⟩
  rw [if_neg (by simpa using h5)]
  by_cases h6 : c = 40
  · subst h6; exact .inr ⟨1, .inl rfl, rfl, symAt_one 40 10 r rfl rfl fun d q _ => .inr (ext_other 40 d (by decide))⟩
  rw [if_neg (by simpa using h6)]
  by_cases h7 : c = 41
  · subst h7; exact .inr ⟨1, .inl rfl, rfl, symAt_one 41 11 r rfl rfl fun d q _ => .inr (ext_other 41 d (by decide))⟩
  rw [if_neg (by simpa using h7)]
  exact .inl ⟨rfl, rfl, by simp [isSy, h, h', h3, h4, h5, h6, h7]⟩

/-! ### words -/
theorem pln_not (c : UInt8) (h : pln c = true) : isSp c = false ∧ isSy c = false := by
  simpa [pln] using h

theorem ext_word {cur : List UInt8} {c : UInt8} (hc : pln c = true) (h : cur.all pln = true) : ext cur c = true := by
  simp [ext, hc, h]

theorem scan_plain (ws : List UInt8) : ∀ (cur r : List UInt8) (p : Nat), cur.all pln = true → ws.all pln = true → scan (ws ++ r) cur p = scan r (cur ++ ws) p := by
  induction ws with
  | nil => intro cur r p _ _; simp
  | cons c ws ih =>
    intro cur r p hcur hws
    rw [List.all_cons, Bool.and_eq_true] at hws
    rw [List.cons_append, scan_ext (pln_not c hws.1).1 (ext_word hws.1 hcur), ih _ _ _ (by simp [List.all_append, hcur, hws.1]) hws.2, List.append_assoc, List.singleton_append]

theorem ext_stop {cur : List UInt8} {c : UInt8} (hne : cur ≠ []) (h : cur.all pln = true) (hc : pln c = false) : ext cur c = false := by
  have h1 : (cur == [61]) = false := by rw [beq_eq_false_iff_ne]; rintro rfl; revert h; decide
  have h2 : (cur == [33]) = false := by rw [beq_eq_false_iff_ne]; rintro rfl; revert h; decide
  simp [ext, hne, hc, h1, h2]

/-- a word, as the Go text reads it -/
theorem word_at (ws r : List UInt8) (p : Nat) (hne : ws ≠ []) (h : ws.all pln = true) (hr : ∀ c q, r = c :: q → pln c = false) :
    scan (ws ++ r) [] p = tok ws p :: scan r [] (p + ws.length) := by
  rw [scan_plain ws [] r p rfl h, List.nil_append, scan_shut r ws p (fun c q e => .inr (ext_stop hne h (hr c q e))), flush_ne hne]
  rfl

theorem word_kind (ws : List UInt8) (h : ws.all pln = true) : lexK ws = if ws == [105, 110] || ws == [110, 111, 116, 105, 110] then 2 else 1 := by
  have no : ∀ x : List UInt8, x.all pln = false → (ws == x) = false := by
    intro x hx
    rw [beq_eq_false_iff_ne]
    rintro rfl
    rw [h] at hx; cases hx
  unfold lexK
  rw [no [61, 61] rfl, no [33, 61] rfl, no [33] rfl, no [61] rfl, no [62] rfl, no [60] rfl, no [44] rfl, no [40] rfl, no [41] rfl]
  rfl

end Go.Proofs.Qxb6602505a.Pl
