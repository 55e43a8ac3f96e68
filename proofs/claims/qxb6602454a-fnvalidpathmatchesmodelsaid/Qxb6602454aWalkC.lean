/-
  SEAT b6602454a: the walk of validPath, and the law's own walk.
-/
import Derived.Test.Qxb6602454aWalkB
namespace Go.Proofs.Qxb6602454a
open Go.RowKit
open Pl

def vpM (p m : Value) : Nat := match m, p with | .bool true, .string s => s.size + 1 | _, _ => 0

theorem vpM_true (s : ByteArray) : vpM (.string s) (.bool true) = s.size + 1 := rfl
theorem vpM_false (s : ByteArray) : vpM (.string s) (.bool false) = 0 := rfl

theorem seg_bad1 (x : ByteArray) (h : x.toList = []) : okSeg x.data.toList = false := by
  rw [← Lib.toList_data, h]; rfl
theorem seg_bad2 (x : ByteArray) (h : x.toList = [46]) : okSeg x.data.toList = false := by
  rw [← Lib.toList_data, h]; rfl
theorem seg_bad3 (x : ByteArray) (h : (x.toList.isEmpty = true ∨ (x.toList == [46]) = true) ∨ (x.toList == [46, 46]) = true) : okSeg x.data.toList = false := by
  rw [← Lib.toList_data]
  rcases h with (h | h) | h
  · rw [List.isEmpty_iff.1 h]; rfl
  · rw [beq_iff_eq.1 h]; rfl
  · rw [beq_iff_eq.1 h]; rfl
theorem ok_list (l : List UInt8) (h1 : l ≠ []) (h2 : l ≠ [46]) (h3 : l ≠ [46, 46]) : okSeg l = true := by
  match l, h1, h2, h3 with
  | [a], _, h2, _ =>
    have : (a == 46) = false := by rw [beq_eq_false_iff_ne]; intro e; exact h2 (by rw [e])
    simp [okSeg, this]
  | [a, b], _, _, h3 =>
    by_cases ha : a = 46
    · have : b ≠ 46 := fun e => h3 (by rw [ha, e])
      simp [okSeg, ha, this]
    · simp [okSeg, ha]
  | a :: b :: c :: l, _, _, _ => simp [okSeg]
theorem seg_ok (x : ByteArray) (h : (x.toList.isEmpty = false ∧ (x.toList == [46]) = false) ∧ (x.toList == [46, 46]) = false) : okSeg x.data.toList = true := by
  rw [← Lib.toList_data]
  obtain ⟨⟨h1, h2⟩, h3⟩ := h
  refine ok_list _ ?_ (by simpa using h2) (by simpa using h3)
  intro e; rw [e] at h1; simp at h1

theorem miss_bad (l : List UInt8) (t : ByteArray) (H : Hid (segs l [] = segs t.data.toList [])) (hi : Lib.indexByte t.data.toList 47 = -1) (h : okSeg t.data.toList = false) : false = segs l [] := by
  rw [H.out, segs_miss _ hi, h]
theorem miss_ok (l : List UInt8) (t : ByteArray) (H : Hid (segs l [] = segs t.data.toList [])) (hi : Lib.indexByte t.data.toList 47 = -1) (h : okSeg t.data.toList = true) : Hid (segs l [] = true) := by
  show _ = _
  rw [H.out, segs_miss _ hi, h]
theorem before_list (t : ByteArray) (i : Nat) : (t.extract 0 i).data.toList = t.data.toList.take i := by
  rw [Lib.extract_data]; simp
theorem after_list (t : ByteArray) (i : Nat) : (t.extract (i + 1) t.size).data.toList = t.data.toList.drop (i + 1) := by
  rw [Lib.extract_data, List.take_of_length_le]
  rw [List.length_drop, len_data]; exact Nat.le_refl _
theorem hit_bad (l : List UInt8) (t : ByteArray) (i : Nat) (H : Hid (segs l [] = segs t.data.toList [])) (hi : Lib.indexByte t.data.toList 47 = (i : Int)) (h : okSeg (t.extract 0 i).data.toList = false) : false = segs l [] := by
  rw [H.out, segs_hit _ i hi, ← before_list, h]; rfl
theorem hit_ok (l : List UInt8) (t : ByteArray) (i : Nat) (H : Hid (segs l [] = segs t.data.toList [])) (hi : Lib.indexByte t.data.toList 47 = (i : Int)) (h : okSeg (t.extract 0 i).data.toList = true) : Hid (segs l [] = segs (t.extract (i + 1) t.size).data.toList []) := by
  show _ = _
  rw [H.out, segs_hit _ i hi, ← before_list, h, ← after_list]; rfl

set_option maxHeartbeats 1000000 in
theorem valid_free (s : ByteArray) (w : World) (hs : s.size ≤ maxLen) (h0 : Lib.indexByte s.data.toList 0 = -1) :
    Calls Try.prog 21 #[.string s] w fun e w' => e = .returned (.bool (segs s.data.toList [])) ∧ ∃ n, w' = w.drewN n := by
  go_enter Try.func21, Try.ntmps21
  go_wp2_with (go_at_call 23; refine (strings_IndexByte _ _ _).mono ?_; rintro e w' ⟨rfl, hw⟩; obtain rfl := hw.symm; rw [show Lib.indexByte s.data.toList ((0 : Int).toNat.toUInt8) = -1 from h0])
  go_loopw [0, 3] (fun p m wr => ∃ t : ByteArray, p = .string t ∧ t.size ≤ maxLen ∧ ((m = .bool true ∧ Hid (segs s.data.toList [] = segs t.data.toList [])) ∨ (m = .bool false ∧ Hid (segs s.data.toList [] = true))) ∧ ∃ n, wr = w.drewN n) (fun p m _ => vpM p m)
  case atStart => exact ⟨s, rfl, hs, .inl ⟨rfl, rfl⟩, 0, rfl⟩
  case round =>
    obtain ⟨t, rfl, ht, hm, n, rfl⟩ := hrel
    rcases hm with ⟨rfl, H⟩ | ⟨rfl, H⟩
    · rcases index_nonneg t.data.toList 47 with hi | ⟨i, hi, hlen, _, _, _⟩
      · go_wp2_with (go_at_call 24; refine (strings_Cut_miss _ _ _ hi).mono ?_; rintro e w' ⟨rfl, n', rfl⟩)
        · go_ret
          exact ⟨ret_bool (miss_bad _ t H hi (seg_bad1 t ‹_›)), n + n', rfl⟩
        · go_ret
          exact ⟨ret_bool (miss_bad _ t H hi (seg_bad2 t ‹_›)), n + n', rfl⟩
        · go_ret
          exact ⟨ret_bool (miss_bad _ t H hi (seg_bad3 t ‹_›)), n + n', rfl⟩
        · go_roundw
          case rel => exact ⟨⟨#[]⟩, rfl, by decide, .inr ⟨rfl, miss_ok _ t H hi (seg_ok t ‹_›)⟩, n + n', rfl⟩
          case measure => simp [vpM_true, vpM_false]
      · have hlen' : i + 1 ≤ t.size := by rw [len_data] at hlen; exact hlen
        have hle : (t.extract (i + 1) t.size).size < t.size := by simp; omega
        go_wp2_with (go_at_call 24; refine (strings_Cut_hit _ _ i _ hi hlen' ht).mono ?_; rintro e w' ⟨rfl, n', rfl⟩)
        · go_ret
          exact ⟨ret_bool (hit_bad _ t i H hi (seg_bad1 _ ‹_›)), n + n', rfl⟩
        · go_ret
          exact ⟨ret_bool (hit_bad _ t i H hi (seg_bad2 _ ‹_›)), n + n', rfl⟩
        · go_ret
          exact ⟨ret_bool (hit_bad _ t i H hi (seg_bad3 _ ‹_›)), n + n', rfl⟩
        · go_roundw
          case rel => exact ⟨_, rfl, by omega, .inl ⟨rfl, hit_ok _ t i H hi (seg_ok _ ‹_›)⟩, n + n', rfl⟩
          case measure => rw [vpM_true]; simp [vpM_true]; omega
    · go_wp2
      go_ret
      exact ⟨ret_bool H.out.symm, n, rfl⟩

set_option maxHeartbeats 1000000 in
theorem valid_any (s : ByteArray) (w : World) (hs : s.size ≤ maxLen) :
    Calls Try.prog 21 #[.string s] w fun e w' => e = .returned (.bool (valid s.data.toList)) ∧ ∃ n, w' = w.drewN n := by
  rcases index_nonneg s.data.toList 0 with h0 | ⟨i, hi, _, _, _, _⟩
  · refine (valid_free s w hs h0).mono ?_
    rintro e w' ⟨rfl, hw⟩
    exact ⟨ret_bool (by unfold valid; rw [h0]; rfl), hw⟩
  · go_enter Try.func21, Try.ntmps21
    go_wp2_with (go_at_call 23; refine (strings_IndexByte _ _ _).mono ?_; rintro e w' ⟨rfl, hw⟩; obtain rfl := hw.symm; rw [show Lib.indexByte s.data.toList ((0 : Int).toNat.toUInt8) = (i : Int) from hi])
    go_ret
    refine ⟨ret_bool ?_, 0, rfl⟩
    unfold valid
    rw [hi, show decide ((i : Int) < 0) = false from by simp]
    rfl

set_option maxHeartbeats 1000000 in
theorem zz_any (s : ByteArray) (w : World) (hs : s.size ≤ maxLen) :
    Calls Try.prog 15 #[.string s] w fun e w' => e = .returned (.bool (valid s.data.toList)) ∧ ∃ n, w' = w.drewN n := by
  go_enter Try.func15, Try.ntmps15
  go_wp2_with (go_at_call 21; refine (valid_any _ _ hs).mono ?_; rintro e w' ⟨rfl, n, rfl⟩)
  go_ret
  exact ⟨rfl, n, rfl⟩

theorem grown_drewN (w : World) (n : Nat) : Grown w (w.drewN n) := by
  induction n with
  | zero => exact Grown.refl _
  | succ n ih => exact Grown.drew ih

set_option maxHeartbeats 1000000 in
theorem law_any (s : ByteArray) (hs : s.size ≤ maxLen) (w : World) :
    Calls Try.prog 6 #[.string s] w fun e w' => e = .returned (.bool true) ∧ Grown w w' := by
  by_cases h : s.size ≤ 1048576
  · go_enter Try.func6, Try.ntmps6
    go_wp2_with (first | (go_at_call 14; refine (bytes_any _ _ hs).mono ?_; rintro e w' ⟨rfl, hw⟩; obtain rfl := hw.symm; rw [decide_eq_true h]) | (go_at_call 15; refine (zz_any _ _ hs).mono ?_; rintro e w' ⟨rfl, n, rfl⟩) | (go_at_call 16; refine (model_any _ _ hs h).mono ?_; rintro e w' ⟨rfl, hw⟩; obtain rfl := hw.symm; rw [valid_eq_model]))
    go_ret
    exact ⟨ret_bool (by simp), grown_drewN _ _⟩
  · go_enter Try.func6, Try.ntmps6
    go_wp2_with (go_at_call 14; refine (bytes_any _ _ hs).mono ?_; rintro e w' ⟨rfl, hw⟩; obtain rfl := hw.symm; rw [decide_eq_false h])
    go_ret
    exact ⟨rfl, Grown.refl _⟩

end Go.Proofs.Qxb6602454a
