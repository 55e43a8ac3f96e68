/-
  SEAT b6602505a: 'FnTokenizeIsTheGreedyTiling': its walk.
-/
import Derived.Test.Qxb6602505aTileA
namespace Go.Proofs.Qxb6602505a
open Go.RowKit
open Pl

set_option maxHeartbeats 400000 in
theorem bytes7_any (s : ByteArray) (w : World) (hs : s.size ≤ maxLen) :
    Calls Try.prog 7 #[.string s] w fun e w' => e = .returned (.bool (decide (s.size ≤ 1048576))) ∧ w = w' := by
  unfold maxLen at hs
  by_cases h : s.size ≤ 1048576
  · go_enter Try.func7, Try.ntmps7
    go_wp2
    go_ret
    exact ⟨by simp [h], rfl⟩
  · go_enter Try.func7, Try.ntmps7
    go_wp2
    go_ret
    exact ⟨by simp [h], rfl⟩

/-- what the round reads, and what holds of it -/
structure Rd (s : ByteArray) (pos : Nat) (x : ByteArray) (p : Nat) (K : Int) : Prop where
  le1 : pos ≤ p
  le2 : p + x.size ≤ s.size
  ne : 0 < x.size
  sp : Sp s.data.toList pos p
  occ : ∀ (j : Nat) (c : UInt8), x.data.toList[j]? = some c → s.data.toList[p + j]? = some c
  shape : Shape x.data.toList
  kind : lexK x.data.toList = K
  pos : 0 < K
  next : ∀ h : p + x.size < s.size, NextOk K s[p + x.size]

theorem round_at {w : World} {s : ByteArray} {A T : List Tok} {e : Tok} {kb tb ab i pos : Nat} (hG : Got T kb tb ab w) (hT : T = A ++ [e]) (hi : i < A.length) (h : Tile s.data.toList pos (A.drop i)) :
    ∃ (x : ByteArray) (p : Nat) (K : Int), w.cell? ⟨kb, i, none⟩ = some (.int .i64 K) ∧ w.cell? ⟨tb, i, none⟩ = some (.string x) ∧ w.cell? ⟨ab, i, none⟩ = some (.int .i64 (p : Int)) ∧ Rd s pos x p K ∧ Tile s.data.toList (p + x.size) (A.drop (i + 1)) := by
  have l1 : i < T.length := by rw [hT]; simp; omega
  have e1 : T[i] = A[i] := by simp only [hT, List.getElem_append_left hi]
  have hsz : (⟨A[i].text.toArray⟩ : ByteArray).size = A[i].text.length := by show A[i].text.toArray.size = _; simp
  rw [List.drop_eq_getElem_cons hi] at h
  obtain ⟨h1, h2, h3, h4, h5, h6, h7, h8, h9⟩ := h
  refine ⟨⟨A[i].text.toArray⟩, A[i].pos, A[i].kind, ?_, ?_, ?_, ⟨h1, by rw [hsz]; exact h2, ?_, h4, h5, h6, h7.symm, ?_, ?_⟩, by rw [hsz]; exact h9⟩
  · rw [hG.ck i l1, e1]; rfl
  · rw [hG.ct i l1, e1]; rfl
  · rw [hG.ca i l1, e1]; rfl
  · rw [hsz]; exact List.length_pos_iff.2 h3
  · rw [h7]
    rcases lexK_rng _ h6 with h | h | h | h | h <;> omega
  · intro hlt
    rw [hsz] at hlt
    have hn : NextOk (lexK A[i].text) s[A[i].pos + A[i].text.length] := next_ok _ _ h6 h3 (h8 _ (by rw [List.getElem?_eq_getElem (by rw [len_data]; exact hlt)]; rfl))
    rw [h7]
    simp only [hsz]
    exact hn

theorem bad_word {s x : ByteArray} {pos p : Nat} {K : Int} (R : Rd s pos x p K) (he : p + x.size < s.size) (hK : K = 1 ∨ K = 2) (h1 : ¬ isSp s[p + x.size] = true) (h2 : (!isSy s[p + x.size]) = true) : False := by
  rcases (R.next he).1 hK with h | h
  · exact h1 h
  · rw [h] at h2; cases h2
theorem bad_eq {s x : ByteArray} {pos p : Nat} {K : Int} (R : Rd s pos x p K) (he : p + x.size < s.size) (hK : K = 3 ∨ K = 4) (h : ((s[p + x.size].toNat : Int) == 61) = true) : False := by
  refine (R.next he).2 hK ?_
  rw [show (61 : Int) = ((61 : Nat) : Int) from rfl, ← beq_u8 _ 61 (by omega)] at h
  simpa using h

theorem end_at {w : World} {s : ByteArray} {A T : List Tok} {kb tb ab m : Nat} (hG : Got T kb tb ab w) (hT : T = A ++ [⟨0, [], s.size⟩]) (hm : A.length = m) :
    w.cell? ⟨kb, m, none⟩ = some (.int .i64 0) ∧ w.cell? ⟨tb, m, none⟩ = some (.string ⟨#[]⟩) ∧ w.cell? ⟨ab, m, none⟩ = some (.int .i64 (s.size : Int)) := by
  have l1 : m < T.length := by rw [hT]; simp; omega
  have e1 : T[m] = ⟨0, [], s.size⟩ := by
    simp only [hT]
    rw [List.getElem_append_right (by omega)]
    simp
  refine ⟨?_, ?_, ?_⟩
  · rw [hG.ck m l1, e1]; rfl
  · rw [hG.ct m l1, e1]; rfl
  · rw [hG.ca m l1, e1]; rfl

set_option maxRecDepth 100000 in
set_option maxHeartbeats 1000000 in
theorem tile_in (s : ByteArray) (w : World) (hs : s.size ≤ 1048576) :
    Calls Try.prog 3 #[.string s] w fun e w' => e = .returned (.bool true) ∧ Below w.heap.size w w' := by
  have ms : s.size ≤ maxLen := by unfold maxLen; omega
  obtain ⟨A, hA⟩ : ∃ A, Hid (A = scan s.data.toList [] 0) := ⟨_, rfl⟩
  obtain ⟨T, hT⟩ : ∃ T, Hid (T = toks s.data.toList) := ⟨_, rfl⟩
  have eT : Hid (T = A ++ [⟨0, [], s.size⟩]) := by show _ = _; rw [hT.out, hA.out]; rfl
  obtain ⟨m, hm⟩ : ∃ m, Hid (A.length = m) := ⟨_, rfl⟩
  have hTm : Hid (T.length = m + 1) := by show _ = _; rw [eT.out, ← hm.out]; simp
  have hmle : m ≤ 1048576 := by
    have := scan_len s.data.toList [] 0
    rw [← hA.out, hm.out, len_data] at this
    simp at this; omega
  have hTile : Tile s.data.toList 0 (A.drop 0) := by rw [hA.out]; exact tile_all _
  have hz : ((m : Int) + 1 == 0) = false := by rw [beq_eq_false_iff_ne]; omega
  have q0 : (m : Int) < (m : Int) + 1 := by omega
  go_enter Try.func3, Try.ntmps3
  go_wp2_with (first
    | (go_at_call 7; refine (bytes7_any _ _ ms).mono ?_; rintro e w' ⟨rfl, rfl⟩; rw [decide_eq_true hs])
    | (go_at_call 8; refine (zz_call s _ (by omega) T (m + 1) hT hTm).mono ?_; rintro e w1 ⟨kb, tb, ab, rfl, hG, hB1⟩; obtain ⟨g1, g2, g3⟩ := end_at hG eT.out hm.out))
  go_loopw [7, 8] (fun pv iv wr => ∃ i pos n : Nat, i ≤ m ∧ iv = .int .i64 i ∧ pv = .int .i64 pos ∧ pos ≤ s.size ∧ Tile s.data.toList pos (A.drop i) ∧ wr = w1.drewN n) (fun _ iv _ => m - (intOf iv).toNat)
  case atStart => exact ⟨0, 0, 0, Nat.zero_le _, rfl, rfl, Nat.zero_le _, hTile, rfl⟩
  case round =>
    obtain ⟨i, pos, n, hi, rfl, rfl, hps, hTi, rfl⟩ := hrel
    clear g1 g2 g3 q0 hTile
    by_cases hlt : i < m
    · obtain ⟨x, p, K, c1, c2, c3, R, hTn⟩ := round_at hG eT.out (by rw [hm.out]; exact hlt) hTi
      clear hTi
      have q1 : (i : Int) < (m : Int) + 1 := by omega
      have r1 := R.le1
      have r2 := R.le2
      have r3 := R.ne
      have r4 := R.pos
      have z1 : ((x.size : Int) == 0) = false := by rw [beq_eq_false_iff_ne]; omega
      have z2 : (K == -1) = false := by rw [beq_eq_false_iff_ne]; omega
      go_wp2_with (first
        | (go_at_call 9; refine (only_any s pos p _ hs (by omega) R.sp r1).mono ?_; rintro e w' ⟨rfl, rfl⟩)
        | (go_at_call 10; refine (occurs_any s x p _ hs r2 R.occ).mono ?_; rintro e w' ⟨rfl, n', rfl⟩)
        | (go_at_call 11; refine (lexeme_any x _ K (by omega) r3 R.shape R.kind).mono ?_; rintro e w' ⟨rfl, rfl⟩)
        | (go_at_call 12; refine (isSpace_any _ _).mono ?_; rintro e w' ⟨rfl, rfl⟩)
        | (go_at_call 13; refine (isSymbol_any _ _).mono ?_; rintro e w' ⟨rfl, rfl⟩))
      all_goals first
        | (go_roundw
           case rel => exact ⟨i + 1, p + x.size, _, by omega, by go_num, by go_num, by omega, hTn, rfl⟩
           case measure => simp [intOf]; omega)
        | exact (bad_word R (by omega) (.inl ‹_›) ‹_› ‹_›).elim
        | exact (bad_word R (by omega) (.inr ‹_›) ‹_› ‹_›).elim
        | exact (bad_eq R (by omega) (.inl ‹_›) ‹_›).elim
        | exact (bad_eq R (by omega) (.inr ‹_›) ‹_›).elim
    · have him : i = m := by omega
      subst him
      have hend : Sp s.data.toList pos s.size := by
        rw [List.drop_of_length_le (by rw [hm.out]; exact Nat.le_refl _)] at hTi
        exact hTi
      go_wp2_with (go_at_call 9; refine (only_any s pos s.size _ hs (Nat.le_refl _) hend hps).mono ?_; rintro e w' ⟨rfl, rfl⟩)
      go_ret
      exact ⟨rfl, below_drewN hB1 _⟩

set_option maxRecDepth 100000 in
set_option maxHeartbeats 400000 in
theorem tile_any (s : ByteArray) (hs : s.size ≤ maxLen) (w : World) :
    Calls Try.prog 3 #[.string s] w fun e w' => e = .returned (.bool true) ∧ Below w.heap.size w w' := by
  by_cases h : s.size ≤ 1048576
  · exact tile_in s w h
  · go_enter Try.func3, Try.ntmps3
    go_wp2_with (go_at_call 7; refine (bytes7_any _ _ hs).mono ?_; rintro e w' ⟨rfl, rfl⟩; rw [decide_eq_false h])
    go_ret
    exact ⟨rfl, Below.refl _ _⟩

end Go.Proofs.Qxb6602505a
