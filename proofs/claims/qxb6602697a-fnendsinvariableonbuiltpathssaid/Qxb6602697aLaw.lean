/-
  SEAT b6602697a: the law's own walk.
-/
import Derived.Test.Qxb6602697aWalkB
namespace Go.Proofs.Qxb6602697a
open Go.RowKit
open Pl

/-- the path as far as the closing brace -/
def bse (p x : ByteArray) : ByteArray := p ++ ⟨#[47, 123]⟩ ++ x ++ ⟨#[125]⟩

theorem bse_list (p x : ByteArray) : (bse p x).data.toList = baseL p.data.toList x.data.toList := by
  simp [bse, baseL, ByteArray.data_append]
theorem bse_size (p x : ByteArray) : (bse p x).size = p.size + x.size + 3 := by
  rw [← len_data, bse_list, base_len]; rfl
theorem col_list (p x v : ByteArray) : (bse p x ++ ⟨#[58]⟩ ++ v).data.toList = baseL p.data.toList x.data.toList ++ [58] ++ v.data.toList := by
  rw [← bse_list]; simp [ByteArray.data_append]
theorem tail_list (p x t : ByteArray) : (bse p x ++ t).data.toList = baseL p.data.toList x.data.toList ++ t.data.toList := by
  rw [← bse_list]; simp [ByteArray.data_append]
theorem drop_base (p x r : List UInt8) : (baseL p x ++ r).drop (p.length + 1) = 123 :: (x ++ 125 :: r) := by
  unfold baseL
  rw [show p ++ [47, 123] ++ x ++ [125] ++ r = (p ++ [47]) ++ (123 :: (x ++ 125 :: r)) from by simp]
  rw [List.drop_left' (by simp)]

theorem seg_one (p x : ByteArray) : ((bse p x).extract (p.size + 1) (bse p x).size).data.toList = 123 :: (x.data.toList ++ [125]) := by
  rw [Lib.extract_data, List.take_of_length_le (by rw [List.length_drop, len_data]; exact Nat.le_refl _), bse_list]
  have := drop_base p.data.toList x.data.toList []
  rw [List.append_nil] at this
  exact this
theorem seg_two (p x v : ByteArray) : ((bse p x ++ ⟨#[58]⟩ ++ v).extract (p.size + 1) (bse p x).size).data.toList = 123 :: (x.data.toList ++ [125]) := by
  rw [Lib.extract_data, col_list, List.append_assoc, List.drop_append_of_le_length (by rw [base_len, len_data]; omega)]
  have := drop_base p.data.toList x.data.toList []
  rw [List.append_nil, len_data] at this
  rw [this, bse_size]
  rw [show 123 :: (x.data.toList ++ [125]) ++ ([58] ++ v.data.toList) = (123 :: (x.data.toList ++ [125])) ++ (58 :: v.data.toList) from rfl]
  rw [List.take_left' (by simp; omega)]
theorem seg_three (p x t : ByteArray) : ((bse p x ++ t).extract (p.size + 1) (bse p x ++ t).size).data.toList = 123 :: (x.data.toList ++ 125 :: t.data.toList) := by
  rw [Lib.extract_data, List.take_of_length_le (by rw [List.length_drop, len_data]; exact Nat.le_refl _), tail_list]
  exact drop_base p.data.toList x.data.toList t.data.toList

section
variable (vb p x v t bd : ByteArray)

theorem bse_def : p ++ ⟨#[47, 123]⟩ ++ x ++ ⟨#[125]⟩ = bse p x := rfl

theorem no_br {s : ByteArray} (h : brD s 0 = false) : s.data.toList.any isBr = false := h
theorem no_mk {s : ByteArray} (h : mkD s 0 = false) : s.data.toList.any isMk = false := h

theorem call_one (w : World) (hs : (bse p x).size ≤ 4194304) (hp : brD p 0 = false) (hx : brD x 0 = false) :
    Calls Try.prog 16 #[.string vb, .string (p ++ ⟨#[47, 123]⟩ ++ x ++ ⟨#[125]⟩), .string bd] w fun r w' => r = .returned (.bool true) ∧ Below w.heap.size w w' := by
  rw [bse_def]
  refine in_open vb (bse p x) bd w hs 0 (p.size + 1) true ?_ (by rw [bse_size]; omega) (by rw [seg_one]; exact ends_yes _ (no_br hx))
  rw [bse_list, run_base _ _ (no_br hp) (no_br hx)]
  rfl
theorem call_two (w : World) (hs : (bse p x ++ ⟨#[58]⟩ ++ v).size ≤ 4194304) (hp : brD p 0 = false) (hx : brD x 0 = false) (hv : mkD v 0 = false) :
    Calls Try.prog 16 #[.string vb, .string (p ++ ⟨#[47, 123]⟩ ++ x ++ ⟨#[125]⟩ ++ ⟨#[58]⟩ ++ v), .string bd] w fun r w' => r = .returned (.bool true) ∧ Below w.heap.size w w' := by
  rw [bse_def]
  refine in_colon vb _ bd w hs 0 (p.size + 1) (bse p x).size true ?_ (by rw [bse_size]; omega) (by rw [← len_data, ← len_data, col_list, bse_list]; simp) (by rw [seg_two]; exact ends_yes _ (no_br hx))
  rw [col_list, run_colon _ _ _ (no_br hp) (no_br hx) (no_mk hv), ← bse_list]
  rfl
theorem call_three (w : World) (hs : (bse p x ++ t).size ≤ 4194304) (hp : brD p 0 = false) (hx : brD x 0 = false) (ht : mkD t 0 = false) (hne : 0 < t.size) :
    Calls Try.prog 16 #[.string vb, .string (p ++ ⟨#[47, 123]⟩ ++ x ++ ⟨#[125]⟩ ++ t), .string bd] w fun r w' => r = .returned (.bool false) ∧ Below w.heap.size w w' := by
  rw [bse_def]
  have hl : (bse p x ++ t).size = p.size + x.size + 3 + t.size := by
    have := congrArg List.length (tail_list p x t)
    rw [List.length_append, base_len] at this
    exact this
  have hne' : t.data.toList ≠ [] := by
    intro e
    have := congrArg List.length e
    rw [len_data, List.length_nil] at this
    omega
  refine in_open vb _ bd w hs 0 (p.size + 1) false ?_ (by omega) (by rw [seg_three]; exact ends_no _ _ (no_br hx) hne')
  rw [tail_list, run_tail _ _ _ (no_br hp) (no_br hx) (no_mk ht)]
  rfl
end

theorem cat_size (a b : ByteArray) : (a ++ b).size = a.size + b.size := by simp

set_option maxRecDepth 100000 in
set_option maxHeartbeats 1000000 in
theorem law_in (vb p x v t bd : ByteArray) (w : World) (h : vb.size + p.size + x.size + v.size + t.size + bd.size ≤ 1048576) (hp : brD p 0 = false) (hx : brD x 0 = false) (hv : mkD v 0 = false) (ht : mkD t 0 = false) :
    Calls Try.prog 7 #[.string vb, .string p, .string x, .string v, .string t, .string bd] w fun r w' => r = .returned (.bool true) ∧ Below w.heap.size w w' := by
  have hb := bse_size p x
  have s1 : (bse p x).size ≤ 4194304 := by omega
  have s2 : (bse p x ++ ⟨#[58]⟩ ++ v).size ≤ 4194304 := by
    rw [cat_size, cat_size, hb]
    show p.size + x.size + 3 + 1 + v.size ≤ _
    omega
  have s3 : (bse p x ++ t).size ≤ 4194304 := by rw [cat_size, hb]; omega
  have S2 : Hid _ := s2
  have S3 : Hid _ := s3
  have S1 : Hid _ := s1
  clear s1 s2 s3 hb
  by_cases ht0 : t.size = 0
  · have z : ((t.size : Int) == 0) = true := by rw [ht0]; rfl
    clear ht0
    go_enter Try.func7, Try.ntmps7
    go_wp2_with (first
      | (go_at_call 18; refine (bytes_yes _ _ _ _ _ _ _ h).mono ?_; rintro r w' ⟨rfl, rfl⟩)
      | (go_at_call_of 12 (Value.string p); refine (brace_any p _ (by omega)).mono ?_; rintro r w' ⟨rfl, rfl⟩; rw [hp])
      | (go_at_call_of 12 (Value.string x); refine (brace_any x _ (by omega)).mono ?_; rintro r w' ⟨rfl, rfl⟩; rw [hx])
      | (go_at_call_of 14 (Value.string v); refine (mark_any v _ (by omega)).mono ?_; rintro r w' ⟨rfl, rfl⟩; rw [hv])
      | (go_at_call_of 14 (Value.string t); refine (mark_any t _ (by omega)).mono ?_; rintro r w' ⟨rfl, rfl⟩; rw [ht]))
    refine (call_one vb p x bd _ S1.out hp hx).mono ?_
    rintro r w1 ⟨rfl, b1⟩
    go_wp2_with fail
    refine (call_two vb p x v bd _ S2.out hp hx hv).mono ?_
    rintro r w2 ⟨rfl, b2⟩
    go_wp2_with fail
    go_ret
    exact ⟨rfl, b1.trans (b2.mono b1.size)⟩
  have htp : 0 < t.size := by omega
  have z : ((t.size : Int) == 0) = false := by rw [beq_eq_false_iff_ne]; omega
  go_enter Try.func7, Try.ntmps7
  go_wp2_with (first
    | (go_at_call 18; refine (bytes_yes _ _ _ _ _ _ _ h).mono ?_; rintro r w' ⟨rfl, rfl⟩)
    | (go_at_call_of 12 (Value.string p); refine (brace_any p _ (by omega)).mono ?_; rintro r w' ⟨rfl, rfl⟩; rw [hp])
    | (go_at_call_of 12 (Value.string x); refine (brace_any x _ (by omega)).mono ?_; rintro r w' ⟨rfl, rfl⟩; rw [hx])
    | (go_at_call_of 14 (Value.string v); refine (mark_any v _ (by omega)).mono ?_; rintro r w' ⟨rfl, rfl⟩; rw [hv])
    | (go_at_call_of 14 (Value.string t); refine (mark_any t _ (by omega)).mono ?_; rintro r w' ⟨rfl, rfl⟩; rw [ht]))
  refine (call_one vb p x bd _ S1.out hp hx).mono ?_
  rintro r w1 ⟨rfl, b1⟩
  go_wp2_with fail
  refine (call_two vb p x v bd _ S2.out hp hx hv).mono ?_
  rintro r w2 ⟨rfl, b2⟩
  go_wp2_with fail
  refine (call_three vb p x t bd _ S3.out hp hx ht htp).mono ?_
  rintro r w3 ⟨rfl, b3⟩
  go_wp2_with fail
  go_ret
  exact ⟨rfl, (b1.trans (b2.mono b1.size)).trans (b3.mono (Nat.le_trans b1.size b2.size))⟩

set_option maxRecDepth 100000 in
set_option maxHeartbeats 1000000 in
theorem law_any (vb p x v t bd : ByteArray) (hvb : vb.size ≤ maxLen) (hpb : p.size ≤ maxLen) (hxb : x.size ≤ maxLen) (hv0 : v.size ≤ maxLen) (ht0 : t.size ≤ maxLen) (hbb : bd.size ≤ maxLen) (w : World) :
    Calls Try.prog 7 #[.string vb, .string p, .string x, .string v, .string t, .string bd] w fun r w' => r = .returned (.bool true) ∧ Below w.heap.size w w' := by
  by_cases h : vb.size + p.size + x.size + v.size + t.size + bd.size ≤ 1048576
  · by_cases hp : brD p 0 = true
    · go_enter Try.func7, Try.ntmps7
      go_wp2_with (first
        | (go_at_call 18; refine (bytes_yes _ _ _ _ _ _ _ h).mono ?_; rintro r w' ⟨rfl, rfl⟩)
        | (go_at_call_of 12 (Value.string p); refine (brace_any p _ (by omega)).mono ?_; rintro r w' ⟨rfl, rfl⟩; rw [hp]))
      go_ret
      exact ⟨rfl, Below.refl _ _⟩
    have hp' : brD p 0 = false := by simpa using hp
    clear hp
    by_cases hx : brD x 0 = true
    · go_enter Try.func7, Try.ntmps7
      go_wp2_with (first
        | (go_at_call 18; refine (bytes_yes _ _ _ _ _ _ _ h).mono ?_; rintro r w' ⟨rfl, rfl⟩)
        | (go_at_call_of 12 (Value.string p); refine (brace_any p _ (by omega)).mono ?_; rintro r w' ⟨rfl, rfl⟩; rw [hp'])
        | (go_at_call_of 12 (Value.string x); refine (brace_any x _ (by omega)).mono ?_; rintro r w' ⟨rfl, rfl⟩; rw [hx]))
      go_ret
      exact ⟨rfl, Below.refl _ _⟩
    have hx' : brD x 0 = false := by simpa using hx
    clear hx
    by_cases hv : mkD v 0 = true
    · go_enter Try.func7, Try.ntmps7
      go_wp2_with (first
        | (go_at_call 18; refine (bytes_yes _ _ _ _ _ _ _ h).mono ?_; rintro r w' ⟨rfl, rfl⟩)
        | (go_at_call_of 12 (Value.string p); refine (brace_any p _ (by omega)).mono ?_; rintro r w' ⟨rfl, rfl⟩; rw [hp'])
        | (go_at_call_of 12 (Value.string x); refine (brace_any x _ (by omega)).mono ?_; rintro r w' ⟨rfl, rfl⟩; rw [hx'])
        | (go_at_call_of 14 (Value.string v); refine (mark_any v _ (by omega)).mono ?_; rintro r w' ⟨rfl, rfl⟩; rw [hv]))
      go_ret
      exact ⟨rfl, Below.refl _ _⟩
    have hv' : mkD v 0 = false := by simpa using hv
    clear hv
    by_cases ht : mkD t 0 = true
    · go_enter Try.func7, Try.ntmps7
      go_wp2_with (first
        | (go_at_call 18; refine (bytes_yes _ _ _ _ _ _ _ h).mono ?_; rintro r w' ⟨rfl, rfl⟩)
        | (go_at_call_of 12 (Value.string p); refine (brace_any p _ (by omega)).mono ?_; rintro r w' ⟨rfl, rfl⟩; rw [hp'])
        | (go_at_call_of 12 (Value.string x); refine (brace_any x _ (by omega)).mono ?_; rintro r w' ⟨rfl, rfl⟩; rw [hx'])
        | (go_at_call_of 14 (Value.string v); refine (mark_any v _ (by omega)).mono ?_; rintro r w' ⟨rfl, rfl⟩; rw [hv'])
        | (go_at_call_of 14 (Value.string t); refine (mark_any t _ (by omega)).mono ?_; rintro r w' ⟨rfl, rfl⟩; rw [ht]))
      go_ret
      exact ⟨rfl, Below.refl _ _⟩
    exact law_in vb p x v t bd w h hp' hx' hv' (by simpa using ht)
  · go_enter Try.func7, Try.ntmps7
    go_wp2_with (go_at_call 18; refine (bytes_no _ _ _ _ _ _ _ hvb hpb hxb hv0 ht0 hbb h).mono ?_; rintro r w' ⟨rfl, rfl⟩)
    go_ret
    exact ⟨rfl, Below.refl _ _⟩

end Go.Proofs.Qxb6602697a
