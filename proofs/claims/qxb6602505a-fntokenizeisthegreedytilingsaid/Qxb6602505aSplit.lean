/-
  SEAT b6602505a: the walk of the law 'FnTokenizeSplitsAtASpace'.
-/
import Derived.Test.Qxb6602505aZzB
namespace Go.Proofs.Qxb6602505a
open Go.RowKit
open Pl

theorem scan_pos (l : List UInt8) : ∀ (cur : List UInt8) (p : Nat), ∀ t ∈ scan l cur p, t.pos ≤ p + cur.length + l.length := by
  have hf : ∀ (cur : List UInt8) (p : Nat), ∀ t ∈ flush cur p, t.pos ≤ p := by
    intro cur p t ht
    unfold flush at ht
    split at ht
    · simp at ht
    · simp at ht; subst ht; exact Nat.le_refl _
  induction l with
  | nil => intro cur p t ht; have := hf cur p t ht; omega
  | cons c l ih =>
    intro cur p t ht
    by_cases hs : isSp c = true
    · rw [scan_sp hs] at ht
      rcases List.mem_append.1 ht with ht | ht
      · have := hf cur p t ht; omega
      · have := ih _ _ t ht; simp at this ⊢; omega
    · have hs' : isSp c = false := by simpa using hs
      by_cases he : ext cur c = true
      · rw [scan_ext hs' he] at ht
        have := ih _ _ t ht; simp at this ⊢; omega
      · have he' : ext cur c = false := by simpa using he
        rw [scan_cut hs' he'] at ht
        rcases List.mem_append.1 ht with ht | ht
        · have := hf cur p t ht; omega
        · have := ih _ _ t ht; simp at this ⊢; omega

theorem toks_pos (l : List UInt8) : ∀ t ∈ toks l, t.pos ≤ l.length := by
  intro t ht
  rcases List.mem_append.1 ht with ht | ht
  · have := scan_pos l [] 0 t ht; simpa using this
  · simp at ht; subst ht; exact Nat.le_refl _

/-- THE PLAIN LAW -/
theorem toks_split (a b : List UInt8) : toks (a ++ 32 :: b) = scan a [] 0 ++ (toks b).map (shift (a.length + 1)) := by
  unfold toks
  rw [scan_split, List.map_append, ← scan_shift, List.append_assoc]
  simp [shift]
  omega

theorem zz_call (s : ByteArray) (w : World) (hs : s.size ≤ 4194304) (T : List Tok) (n : Nat) (hT : Hid (T = toks s.data.toList)) (hn : Hid (T.length = n)) :
    Calls Try.prog 8 #[.string s] w fun e w' => ∃ bk bt ba,
      e = .returned (.tuple #[.slice (some ⟨bk, 0, none⟩) n n, .slice (some ⟨bt, 0, none⟩) n n, .slice (some ⟨ba, 0, none⟩) n n]) ∧ Got T bk bt ba w' ∧ Below w.heap.size w w' := by
  have := zz_any s w hs T hT
  rw [hn.out] at this
  exact this

set_option maxHeartbeats 1000000 in
theorem bytes2_any (a b : ByteArray) (w : World) (ha : a.size ≤ maxLen) (hb : b.size ≤ maxLen) :
    Calls Try.prog 15 #[.string a, .string b] w fun e w' => e = .returned (.bool (decide (a.size + b.size ≤ 1048576))) ∧ w = w' := by
  unfold maxLen at ha hb
  by_cases h1 : a.size ≤ 1048576
  · by_cases h2 : b.size ≤ 1048576
    · by_cases h : a.size + b.size ≤ 1048576
      · go_enter Try.func15, Try.ntmps15
        go_wp2
        go_ret
        exact ⟨by simp [h], rfl⟩
      · go_enter Try.func15, Try.ntmps15
        go_wp2
        go_ret
        exact ⟨by simp [h], rfl⟩
    · have h : ¬ (a.size + b.size ≤ 1048576) := by omega
      go_enter Try.func15, Try.ntmps15
      go_wp2
      go_ret
      exact ⟨by simp [h], rfl⟩
  · have h : ¬ (a.size + b.size ≤ 1048576) := by omega
    go_enter Try.func15, Try.ntmps15
    go_wp2
    go_ret
    exact ⟨by simp [h], rfl⟩

theorem scan_len (l : List UInt8) : ∀ (cur : List UInt8) (p : Nat), (scan l cur p).length ≤ cur.length + l.length := by
  have hf : ∀ (cur : List UInt8) (p : Nat), (flush cur p).length ≤ cur.length := by
    intro cur p
    cases cur <;> simp [flush]
  induction l with
  | nil => intro cur p; have := hf cur p; simpa [scan] using this
  | cons c l ih =>
    intro cur p
    have h0 := hf cur p
    by_cases hs : isSp c = true
    · have := ih [] (p + cur.length + 1)
      rw [scan_sp hs, List.length_append]; simp at this ⊢; omega
    · have hs' : isSp c = false := by simpa using hs
      by_cases he : ext cur c = true
      · have := ih (cur ++ [c]) p
        rw [scan_ext hs' he]; simp at this ⊢; omega
      · have he' : ext cur c = false := by simpa using he
        have := ih [c] (p + cur.length)
        rw [scan_cut hs' he', List.length_append]; simp at this ⊢; omega

theorem cat_list (a b : ByteArray) : (a ++ ⟨#[32]⟩ ++ b).data.toList = a.data.toList ++ 32 :: b.data.toList := by
  simp [ByteArray.data_append]

/-- what the law reads at i, in the first loop -/
theorem first_at {w : World} {Ta Tc : List Tok} {A Bs : List Tok} {e : Tok} {ka ta aa kc tc ac : Nat} (hGa : Got Ta ka ta aa w) (hGc : Got Tc kc tc ac w) (hTa : Ta = A ++ [e]) (hTc : Tc = A ++ Bs) (i : Nat) (hi : i < A.length) :
    ∃ (k : Int) (x : ByteArray) (p : Int), w.cell? ⟨kc, i, none⟩ = some (.int .i64 k) ∧ w.cell? ⟨ka, i, none⟩ = some (.int .i64 k) ∧ w.cell? ⟨tc, i, none⟩ = some (.string x) ∧ w.cell? ⟨ta, i, none⟩ = some (.string x) ∧
      w.cell? ⟨ac, i, none⟩ = some (.int .i64 p) ∧ w.cell? ⟨aa, i, none⟩ = some (.int .i64 p) := by
  have l1 : i < Ta.length := by rw [hTa]; simp; omega
  have l2 : i < Tc.length := by rw [hTc]; simp; omega
  have e1 : Ta[i] = A[i] := by simp only [hTa, List.getElem_append_left hi]
  have e2 : Tc[i] = A[i] := by simp only [hTc, List.getElem_append_left hi]
  refine ⟨A[i].kind, ⟨A[i].text.toArray⟩, (A[i].pos : Int), ?_, ?_, ?_, ?_, ?_, ?_⟩
  · rw [hGc.ck i l2, e2]; rfl
  · rw [hGa.ck i l1, e1]; rfl
  · rw [hGc.ct i l2, e2]; rfl
  · rw [hGa.ct i l1, e1]; rfl
  · rw [hGc.ca i l2, e2]; rfl
  · rw [hGa.ca i l1, e1]; rfl

/-- what the law reads at i, in the second loop -/
theorem second_at {w : World} {Tb Tc A : List Tok} {z m : Nat} {kb tb ab kc tc ac : Nat} (hGb : Got Tb kb tb ab w) (hGc : Got Tc kc tc ac w) (hm : A.length = m) (hTc : Tc = A ++ Tb.map (shift (z + 1))) (hp : ∀ t ∈ Tb, t.pos ≤ 524288) (i : Nat) (hi : i < Tb.length) :
    ∃ (k : Int) (x : ByteArray) (p : Nat), p ≤ 524288 ∧ w.cell? ⟨kc, m + i, none⟩ = some (.int .i64 k) ∧ w.cell? ⟨kb, i, none⟩ = some (.int .i64 k) ∧ w.cell? ⟨tc, m + i, none⟩ = some (.string x) ∧ w.cell? ⟨tb, i, none⟩ = some (.string x) ∧
      w.cell? ⟨ac, m + i, none⟩ = some (.int .i64 ((p : Int) + ((z : Int) + 1))) ∧ w.cell? ⟨ab, i, none⟩ = some (.int .i64 (p : Int)) := by
  have l2 : m + i < Tc.length := by rw [hTc]; simp; omega
  have e2 : Tc[m + i] = shift (z + 1) Tb[i] := by
    simp only [hTc]
    rw [List.getElem_append_right (by omega)]
    simp only [List.getElem_map, show m + i - A.length = i from by omega]
  refine ⟨Tb[i].kind, ⟨Tb[i].text.toArray⟩, Tb[i].pos, hp _ (List.getElem_mem hi), ?_, ?_, ?_, ?_, ?_, ?_⟩
  · rw [hGc.ck _ l2, e2]; rfl
  · rw [hGb.ck i hi]; rfl
  · rw [hGc.ct _ l2, e2]; rfl
  · rw [hGb.ct i hi]; rfl
  · rw [hGc.ca _ l2, e2]
    show some (Value.int .i64 ((Tb[i].pos + (z + 1) : Nat) : Int)) = _
    congr 2
  · rw [hGb.ca i hi]; rfl

theorem below_drewN {B : Nat} {a w : World} (h : Below B a w) (n : Nat) : Below B a (w.drewN n) := h.trans ⟨rfl, rfl, rfl, Nat.le_refl _, fun _ _ => rfl⟩

set_option maxRecDepth 100000 in
set_option maxHeartbeats 400000 in
theorem split_in (a b : ByteArray) (w : World) (ha : a.size ≤ 524288) (hb : b.size ≤ 524288) (h : a.size + b.size ≤ 1048576) :
    Calls Try.prog 5 #[.string a, .string b] w fun e w' => e = .returned (.bool true) ∧ Below w.heap.size w w' := by
  have ma : a.size ≤ maxLen := by unfold maxLen; omega
  have mb : b.size ≤ maxLen := by unfold maxLen; omega
  obtain ⟨Ta, hTa⟩ : ∃ T, Hid (T = toks a.data.toList) := ⟨_, rfl⟩
  obtain ⟨Tb, hTb⟩ : ∃ T, Hid (T = toks b.data.toList) := ⟨_, rfl⟩
  obtain ⟨Tc, hTc⟩ : ∃ T, Hid (T = toks (a ++ ⟨#[32]⟩ ++ b).data.toList) := ⟨_, rfl⟩
  obtain ⟨A, hA⟩ : ∃ A, Hid (A = scan a.data.toList [] 0) := ⟨_, rfl⟩
  have eA : Hid (Ta = A ++ [⟨0, [], a.size⟩]) := by show _ = _; rw [hTa.out, hA.out]; rfl
  have eC : Hid (Tc = A ++ Tb.map (shift (a.size + 1))) := by show _ = _; rw [hTc.out, hA.out, hTb.out, cat_list, toks_split]; rfl
  obtain ⟨m, hm⟩ : ∃ m, Hid (A.length = m) := ⟨_, rfl⟩
  have hTam : Hid (Ta.length = m + 1) := by show _ = _; rw [eA.out, ← hm.out]; simp
  obtain ⟨nb, hnb⟩ : ∃ n, Hid (Tb.length = n + 1) := ⟨(scan b.data.toList [] 0).length, by show _ = _; rw [hTb.out]; simp [toks]⟩
  have hTcm : Hid (Tc.length = m + (nb + 1)) := by show _ = _; rw [eC.out, List.length_append, List.length_map, hm.out, hnb.out]
  have hpos : ∀ t ∈ Tb, t.pos ≤ 524288 := by
    intro t ht
    rw [hTb.out] at ht
    have := toks_pos _ t ht
    rw [len_data] at this
    omega
  have hcs : (a ++ ⟨#[32]⟩ ++ b : ByteArray).size ≤ 4194304 := by
    rw [← len_data, cat_list]; simp; omega
  have hmle : m ≤ 524288 := by
    have := scan_len a.data.toList [] 0
    rw [← hA.out, hm.out, len_data] at this
    simp at this; omega
  have hnle : nb ≤ 524288 := by
    have h1 := scan_len b.data.toList [] 0
    have h2 := hnb.out
    rw [hTb.out] at h2
    rw [len_data] at h1
    simp [toks] at h1 h2; omega
  have hz1 : ((m : Int) + 1 == 0) = false := by rw [beq_eq_false_iff_ne]; omega
  have hz2 : ((nb : Int) + 1 == 0) = false := by rw [beq_eq_false_iff_ne]; omega
  go_enter Try.func5, Try.ntmps5
  go_wp2_with (first
    | (go_at_call 15; refine (bytes2_any _ _ _ ma mb).mono ?_; rintro e w' ⟨rfl, rfl⟩; rw [decide_eq_true h])
    | (go_at_call_of 8 (Value.string a); refine (zz_call a _ (by omega) Ta (m + 1) hTa hTam).mono ?_; rintro e w1 ⟨ka, ta, aa, rfl, hGa, hB1⟩)
    | (go_at_call_of 8 (Value.string b); refine (zz_call b _ (by omega) Tb (nb + 1) hTb hnb).mono ?_; rintro e w2 ⟨kb, tb, ab, rfl, hGb, hB2⟩)
    | (go_at_call 8; refine (zz_call _ _ hcs Tc (m + (nb + 1)) hTc hTcm).mono ?_; rintro e w3 ⟨kc, tc, ac, rfl, hGc, hB3⟩))
  have s1 := hB1.size
  have s2 := hB2.size
  have s3 := hB3.size
  have hGa3 : Got Ta ka ta aa w3 := (hGa.below hB2 (Nat.le_refl _) s2).below hB3 (Nat.le_refl _) s3
  have hGb3 : Got Tb kb tb ab w3 := hGb.below hB3 (Nat.le_refl _) s3
  have hB : Below w.heap.size w w3 := (hB1.trans (hB2.mono s1)).trans (hB3.mono (Nat.le_trans s1 s2))
  clear hGa hGb hB1 hB2 hB3 s1 s2 s3
  go_loopw [16] (fun iv wr => ∃ i n : Nat, i ≤ m ∧ iv = .int .i64 i ∧ wr = w3.drewN n) (fun iv _ => m - (intOf iv).toNat)
  case atStart => exact ⟨0, 0, Nat.zero_le _, rfl, rfl⟩
  case round =>
    obtain ⟨i, n, hi, rfl, rfl⟩ := hrel
    by_cases hlt : i < m
    · obtain ⟨k, x, p, c1, c2, c3, c4, c5, c6⟩ := first_at hGa3 hGc eA.out eC.out i (by rw [hm.out]; exact hlt)
      have q1 : (i : Int) < (m : Int) + 1 := by omega
      have q2 : (i : Int) < (m : Int) + ((nb : Int) + 1) := by omega
      go_wp2
      go_quiet (fail)
      go_wp2
      go_roundw
      case rel => exact ⟨i + 1, _, by omega, by go_num, rfl⟩
      case measure => simp [intOf]; omega
    · go_wp2
      go_loopw [18] (fun iv wr => ∃ i n : Nat, i ≤ nb + 1 ∧ iv = .int .i64 i ∧ wr = w3.drewN n) (fun iv _ => nb + 1 - (intOf iv).toNat)
      case atStart => exact ⟨0, _, Nat.zero_le _, rfl, rfl⟩
      case round =>
        obtain ⟨j, n', hj, rfl, rfl⟩ := hrel
        by_cases hlt2 : j < nb + 1
        · obtain ⟨k, x, p, hp, c1, c2, c3, c4, c5, c6⟩ := second_at hGb3 hGc hm.out eC.out hpos j (by rw [hnb.out]; exact hlt2)
          have q1 : (j : Int) < (nb : Int) + 1 := by omega
          have q2 : (m : Int) + (j : Int) < (m : Int) + ((nb : Int) + 1) := by omega
          have q3 : (0 : Int) ≤ (m : Int) + (j : Int) := by omega
          go_wp2
          go_quiet (fail)
          go_wp2
          go_roundw
          case rel => exact ⟨j + 1, _, by omega, by go_num, rfl⟩
          case measure => simp [intOf]; omega
        · go_wp2
          go_ret
          exact ⟨rfl, below_drewN hB _⟩

set_option maxRecDepth 100000 in
set_option maxHeartbeats 400000 in
theorem split_any (a b : ByteArray) (ha : a.size ≤ maxLen) (hb : b.size ≤ maxLen) (w : World) :
    Calls Try.prog 5 #[.string a, .string b] w fun e w' => e = .returned (.bool true) ∧ Below w.heap.size w w' := by
  by_cases h : a.size + b.size ≤ 1048576
  · by_cases h1 : a.size ≤ 524288
    · by_cases h2 : b.size ≤ 524288
      · exact split_in a b w h1 h2 h
      · go_enter Try.func5, Try.ntmps5
        go_wp2_with (go_at_call 15; refine (bytes2_any _ _ _ ha hb).mono ?_; rintro e w' ⟨rfl, rfl⟩; rw [decide_eq_true h])
        go_ret
        exact ⟨rfl, Below.refl _ _⟩
    · go_enter Try.func5, Try.ntmps5
      go_wp2_with (go_at_call 15; refine (bytes2_any _ _ _ ha hb).mono ?_; rintro e w' ⟨rfl, rfl⟩; rw [decide_eq_true h])
      go_ret
      exact ⟨rfl, Below.refl _ _⟩
  · go_enter Try.func5, Try.ntmps5
    go_wp2_with (go_at_call 15; refine (bytes2_any _ _ _ ha hb).mono ?_; rintro e w' ⟨rfl, rfl⟩; rw [decide_eq_false h])
    go_ret
    exact ⟨rfl, Below.refl _ _⟩

end Go.Proofs.Qxb6602505a
