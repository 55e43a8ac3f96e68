/-
  SEAT b6602505a: 'tokenize': what its round does to the tokens that it holds.
-/
import Derived.Test.Qxb6602505aLib
namespace Go.Proofs.Qxb6602505a
open Go.RowKit
open Pl

theorem info39 : (Try.prog.info? 39).map (fun i => (i.zero, i.size, i.bytes)) = some (some (.agg #[.int .i64 0, .string ⟨#[]⟩, .int .i64 0]), 3, 32) := by kernel_rfl

/-- a token's three cells -/
def cells (t : Tok) : List Value := [.int .i64 t.kind, .string ⟨t.text.toArray⟩, .int .i64 (t.pos : Int)]
def flat : List Tok → List Value
  | [] => []
  | t :: ts => cells t ++ flat ts

theorem flat_append (a b : List Tok) : flat (a ++ b) = flat a ++ flat b := by
  induction a with
  | nil => rfl
  | cons t a ih => simp [flat, ih]
theorem flat_one (t : Tok) : flat [t] = cells t := by simp [flat]
theorem flat_length (a : List Tok) : (flat a).length = a.length * 3 := by
  induction a with
  | nil => rfl
  | cons t a ih => simp [flat, cells, ih]; omega

theorem cell_three_new (w : World) (a b c : Value) (t : TypeId) : ∀ j u, [a, b, c][j]? = some u → (w.alloc (.cells #[a, b, c] t)).cell? ((⟨w.heap.size, 0, none⟩ : Addr).add j) = some u := by
  intro j u hj
  match j, hj with
  | 0, hj => simp at hj; subst hj; simp [Addr.add]
  | 1, hj => simp at hj; subst hj; simp [Addr.add]
  | 2, hj => simp at hj; subst hj; simp [Addr.add]
  | j + 3, hj => simp at hj

theorem byte_back (c : UInt8) : ((c.toNat : Int)).toNat.toUInt8 = c := by
  rw [Int.toNat_natCast]
  simp

theorem sp_yes (c : UInt8) (w : World) (h : isSp c = true) :
    Calls Try.prog 21 #[.string ⟨#[32, 9, 10, 13, 12, 11]⟩, .int .u8 (c.toNat : Int)] w fun e w' => ∃ r : Int, e = .returned (.int .i64 r) ∧ 0 ≤ r ∧ w = w' := by
  refine (strings_IndexByte _ _ _).mono ?_
  rintro e w' ⟨rfl, rfl⟩
  refine ⟨_, rfl, ?_, rfl⟩
  rw [byte_back]
  have := idx_sp c
  rw [h] at this
  simpa using this
theorem sp_no (c : UInt8) (w : World) (h : isSp c = false) :
    Calls Try.prog 21 #[.string ⟨#[32, 9, 10, 13, 12, 11]⟩, .int .u8 (c.toNat : Int)] w fun e w' => ∃ r : Int, e = .returned (.int .i64 r) ∧ r < 0 ∧ w = w' := by
  refine (strings_IndexByte _ _ _).mono ?_
  rintro e w' ⟨rfl, rfl⟩
  refine ⟨_, rfl, ?_, rfl⟩
  rw [byte_back]
  have := idx_sp c
  rw [h] at this
  simpa using this
theorem pl_yes (c : UInt8) (w : World) (h : pln c = true) :
    Calls Try.prog 21 #[.string ⟨#[32, 9, 10, 13, 12, 11, 33, 61, 60, 62, 44, 40, 41]⟩, .int .u8 (c.toNat : Int)] w fun e w' => ∃ r : Int, e = .returned (.int .i64 r) ∧ r < 0 ∧ w = w' := by
  refine (strings_IndexByte _ _ _).mono ?_
  rintro e w' ⟨rfl, rfl⟩
  refine ⟨_, rfl, ?_, rfl⟩
  rw [byte_back]
  have := idx_pln c
  rw [h] at this
  simpa using this
theorem pl_no (c : UInt8) (w : World) (h : pln c = false) :
    Calls Try.prog 21 #[.string ⟨#[32, 9, 10, 13, 12, 11, 33, 61, 60, 62, 44, 40, 41]⟩, .int .u8 (c.toNat : Int)] w fun e w' => ∃ r : Int, e = .returned (.int .i64 r) ∧ 0 ≤ r ∧ w = w' := by
  refine (strings_IndexByte _ _ _).mono ?_
  rintro e w' ⟨rfl, rfl⟩
  refine ⟨_, rfl, ?_, rfl⟩
  rw [byte_back]
  have := idx_pln c
  rw [h] at this
  simpa using this

theorem len_data (s : ByteArray) : s.data.toList.length = s.size := rfl
theorem drop_step (s : ByteArray) (k : Nat) (h : k < s.size) : s.data.toList.drop k = s[k] :: s.data.toList.drop (k + 1) := by
  rw [List.drop_eq_getElem_cons (by rw [len_data]; exact h)]
  rfl
theorem after_list (t : ByteArray) (i : Nat) : (t.extract i t.size).data.toList = t.data.toList.drop i := by
  rw [Lib.extract_data, List.take_of_length_le]
  rw [List.length_drop, len_data]; exact Nat.le_refl _

/-- what is read so far, and what is still to be read -/
def Inv (s : ByteArray) (ts : List Tok) (i : Nat) : Prop :=
  i ≤ s.size ∧ ts.length ≤ i ∧ scan s.data.toList [] 0 = ts ++ scan (s.data.toList.drop i) [] i

theorem inv_start (s : ByteArray) : Inv s [] 0 := ⟨Nat.zero_le _, Nat.le_refl _, by simp⟩
theorem inv_end {s : ByteArray} {ts : List Tok} {i : Nat} (h : Inv s ts i) (hi : ¬ i < s.size) : scan s.data.toList [] 0 = ts := by
  rw [h.2.2, List.drop_of_length_le (by rw [len_data]; omega)]
  simp [scan, flush]
theorem inv_sp {s : ByteArray} {ts : List Tok} {i : Nat} (h : Inv s ts i) (hi : i < s.size) (hs : isSp s[i] = true) : Inv s ts (i + 1) := by
  refine ⟨by omega, by have := h.2.1; omega, ?_⟩
  rw [h.2.2, drop_step s i hi, scan_sp hs]
  simp [flush]

/-- the token of a symbol of n bytes -/
theorem inv_sym {s : ByteArray} {ts : List Tok} {i n : Nat} {k : Int} (h : Inv s ts i) (hi : i < s.size) (hn : 0 < n) (hS : SymAt (s.data.toList.drop i) k n) :
    i + n ≤ s.size ∧ Inv s (ts ++ [⟨k, (s.data.toList.drop i).take n, i⟩]) (i + n) ∧
      flat ts ++ [.int .i64 k, .string (s.extract i (i + n)), .int .i64 (i : Int)] = flat (ts ++ [⟨k, (s.data.toList.drop i).take n, i⟩]) := by
  have hl := hS.1
  rw [List.length_drop, len_data] at hl
  refine ⟨by omega, ⟨by omega, by have := h.2.1; simp; omega, ?_⟩, ?_⟩
  · rw [h.2.2, hS.2 i, List.drop_drop]
    simp
  · rw [flat_append, flat_one, Lib.extract_eq, show i + n - i = n from by omega]
    rfl

/-- the token of a word -/
theorem inv_word {s : ByteArray} {ts : List Tok} {i j : Nat} {k : Int} (h : Inv s ts i) (hi : i < j) (hj : j ≤ s.size) (hw : ((s.data.toList.drop i).take (j - i)).all pln = true) (hend : ∀ h : j < s.size, pln s[j] = false)
    (hk : lexK ((s.data.toList.drop i).take (j - i)) = k) :
    Inv s (ts ++ [⟨k, (s.data.toList.drop i).take (j - i), i⟩]) j ∧
      flat ts ++ [.int .i64 k, .string (s.extract i j), .int .i64 (i : Int)] = flat (ts ++ [⟨k, (s.data.toList.drop i).take (j - i), i⟩]) := by
  have hlen : ((s.data.toList.drop i).take (j - i)).length = j - i := by rw [List.length_take, List.length_drop, len_data]; omega
  refine ⟨⟨hj, by have := h.2.1; simp; omega, ?_⟩, ?_⟩
  · have e : s.data.toList.drop i = (s.data.toList.drop i).take (j - i) ++ s.data.toList.drop j := by
      have := (List.take_append_drop (j - i) (s.data.toList.drop i)).symm
      rw [List.drop_drop, show i + (j - i) = j from by omega] at this
      exact this
    have hw' := word_at ((s.data.toList.drop i).take (j - i)) (s.data.toList.drop j) i (by intro e0; rw [e0] at hlen; simp at hlen; omega) hw (by
      intro c q e0
      by_cases hjs : j < s.size
      · rw [drop_step s j hjs] at e0
        injection e0 with e0 _
        rw [← e0]; exact hend hjs
      · rw [List.drop_of_length_le (by rw [len_data]; omega)] at e0; cases e0)
    rw [← e, hlen, show i + (j - i) = j from by omega] at hw'
    rw [h.2.2, hw']
    simp [tok, hk]
  · rw [flat_append, flat_one, Lib.extract_eq]
    rfl

theorem take_one (s : ByteArray) (i : Nat) : ((s.data.toList.drop i).take (i - i)).all pln = true := by simp
theorem take_more (s : ByteArray) (i j : Nat) (hi : i ≤ j) (hj : j < s.size) (h : ((s.data.toList.drop i).take (j - i)).all pln = true) (hp : pln s[j] = true) :
    ((s.data.toList.drop i).take (j + 1 - i)).all pln = true := by
  have hl : j - i < (s.data.toList.drop i).length := by rw [List.length_drop, len_data]; omega
  rw [show j + 1 - i = (j - i) + 1 from by omega, List.take_succ_eq_append_getElem hl, List.all_append, h]
  simp only [List.getElem_drop, List.all_cons, List.all_nil, Bool.and_true, Bool.true_and]
  have : s.data.toList[i + (j - i)]'(by rw [List.length_drop] at hl; omega) = s[j] := by
    simp only [show i + (j - i) = j from by omega]
    rfl
  rw [this]; exact hp

end Go.Proofs.Qxb6602505a
