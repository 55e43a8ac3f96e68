/-
  SEAT b6602697a: the library's functions on the road (the shelf's templates, turned to this program), and the walks of the law's helpers.
-/
import Derived.Test.Qxb6602697aRows
import Derived.WalkKit
import Derived.WalkSpells
import Derived.Lib.Strings
import Derived.Lib.Slices
import Derived.Lib.Walk
import Derived.Lib.Bytealg
import Derived.Deep.RegionWith
import Derived.Test.Qxb6602697aPlain
namespace Go.Proofs.Qxb6602697a
open Go.RowKit
open Pl

set_option maxHeartbeats 1000000 in
set_option maxRecDepth 100000 in
theorem lite_IndexByte (s : ByteArray) (c : Int) (w : World) :
    Calls Try.prog 24 #[.string s, .int .u8 c] w fun e w' => e = .returned (.int .i64 (Lib.indexByte s.data.toList c.toNat.toUInt8)) ∧ w' = w := by
  go_enter Try.func24, Try.ntmps24
  go_wp2
  rw [run_callFunc_extern Try.func25 (by kernel_rfl) (by kernel_rfl) (by kernel_rfl) (e := Extern.BytealgIndexByte.indexByte) (by kernel_rfl), Lib.run_indexByteString]
  simp only [Result.andThen]
  rw [Oper.upon_value]
  go_wp2
  go_ret
  exact ⟨rfl, rfl⟩

set_option maxHeartbeats 1000000 in
theorem strings_IndexByte (s : ByteArray) (c : Int) (w : World) :
    Calls Try.prog 22 #[.string s, .int .u8 c] w fun e w' => e = .returned (.int .i64 (Lib.indexByte s.data.toList c.toNat.toUInt8)) ∧ w' = w := by
  go_enter Try.func22, Try.ntmps22
  go_wp2_with (go_at_call 24; refine (lite_IndexByte _ _ _).mono ?_; rintro e w' ⟨rfl, rfl⟩)
  go_ret
  exact ⟨rfl, rfl⟩

set_option maxHeartbeats 1000000 in
theorem lite_HasPrefix (s p : ByteArray) (w : World) :
    Calls Try.prog 23 #[.string s, .string p] w fun e w' => e = .returned (.bool (Lib.hasPrefix s.data.toList p.data.toList)) ∧ w' = w := by
  rw [← Lib.hasPrefix_of_take, ← Lib.size_eq, ← Lib.size_eq]
  go_enter Try.func23, Try.ntmps23
  go_wp2
  · rename_i h
    go_ret
    refine ⟨?_, rfl⟩
    show Ending.returned (Value.bool ((s.extract 0 p.size).toList == p.toList)) = _
    rw [Lib.extract_toList, Lib.toList_data]
    simp [h]
  · rename_i h
    go_ret
    refine ⟨?_, rfl⟩
    show Ending.returned (Value.bool false) = _
    simp [h]

set_option maxHeartbeats 1000000 in
theorem strings_HasPrefix (s p : ByteArray) (w : World) :
    Calls Try.prog 21 #[.string s, .string p] w fun e w' => e = .returned (.bool (Lib.hasPrefix s.data.toList p.data.toList)) ∧ w' = w := by
  go_enter Try.func21, Try.ntmps21
  go_wp2_with (go_at_call 23; refine (lite_HasPrefix _ _ _).mono ?_; rintro e w' ⟨rfl, rfl⟩)
  go_ret
  exact ⟨rfl, rfl⟩

theorem beq_u8 (c : UInt8) (n : Nat) (hn : n < 256) : (c == UInt8.ofNat n) = ((c.toNat : Int) == (n : Int)) := by
  rw [Bool.eq_iff_iff, beq_iff_eq, beq_iff_eq]
  constructor
  · intro h; rw [h, UInt8.toNat_ofNat_of_lt' hn]
  · intro h
    have : c.toNat = n := by omega
    rw [← this]; simp



theorem ret_bool {a b : Bool} (h : a = b) : Ending.returned (.bool a) = .returned (.bool b) := by rw [h]

/-! ### hasBrace, hasMark -/
def brD (s : ByteArray) (k : Nat) : Bool := (s.data.toList.drop k).any isBr
def mkD (s : ByteArray) (k : Nat) : Bool := (s.data.toList.drop k).any isMk

theorem isBr_int (c : UInt8) : isBr c = ((c.toNat : Int) == 123 || (c.toNat : Int) == 125) := by
  unfold isBr
  rw [show (123 : UInt8) = UInt8.ofNat 123 from rfl, show (125 : UInt8) = UInt8.ofNat 125 from rfl, beq_u8 _ 123 (by omega), beq_u8 _ 125 (by omega)]
  rfl
theorem isMk_int (c : UInt8) : isMk c = ((((c.toNat : Int) == 123 || (c.toNat : Int) == 125) || (c.toNat : Int) == 47) || (c.toNat : Int) == 58) := by
  unfold isMk
  rw [show (123 : UInt8) = UInt8.ofNat 123 from rfl, show (125 : UInt8) = UInt8.ofNat 125 from rfl, show (47 : UInt8) = UInt8.ofNat 47 from rfl, show (58 : UInt8) = UInt8.ofNat 58 from rfl, beq_u8 _ 123 (by omega), beq_u8 _ 125 (by omega), beq_u8 _ 47 (by omega), beq_u8 _ 58 (by omega)]
  rfl

theorem brD_step (s : ByteArray) (k : Nat) (h : k < s.size) : brD s k = (isBr s[k] || brD s (k + 1)) := by
  unfold brD
  rw [drop_step s k h, List.any_cons]
theorem mkD_step (s : ByteArray) (k : Nat) (h : k < s.size) : mkD s k = (isMk s[k] || mkD s (k + 1)) := by
  unfold mkD
  rw [drop_step s k h, List.any_cons]
theorem brD_end (s : ByteArray) (k : Nat) (h : ¬ k < s.size) : brD s k = false := by
  unfold brD
  rw [List.drop_of_length_le (by rw [len_data]; omega)]; rfl
theorem mkD_end (s : ByteArray) (k : Nat) (h : ¬ k < s.size) : mkD s k = false := by
  unfold mkD
  rw [List.drop_of_length_le (by rw [len_data]; omega)]; rfl

theorem br_t1 {s : ByteArray} {k : Nat} (H : Hid (brD s 0 = brD s k)) (hlt : k < s.size) (h : (s[k].toNat : Int) = 123) : true = brD s 0 := by
  rw [H.out, brD_step s k hlt, isBr_int, h]; rfl
theorem br_t2 {s : ByteArray} {k : Nat} (H : Hid (brD s 0 = brD s k)) (hlt : k < s.size) (h : ((s[k].toNat : Int) == 123) = true ∨ ((s[k].toNat : Int) == 125) = true) : true = brD s 0 := by
  rw [H.out, brD_step s k hlt, isBr_int]
  rcases h with h | h <;> simp [h]
theorem br_f {s : ByteArray} {k : Nat} (H : Hid (brD s 0 = brD s k)) (hlt : k < s.size) (h : ((s[k].toNat : Int) == 123) = false ∧ ((s[k].toNat : Int) == 125) = false) : Hid (brD s 0 = brD s (k + 1)) := by
  show _ = _
  rw [H.out, brD_step s k hlt, isBr_int, h.1, h.2]; rfl

set_option maxHeartbeats 400000 in
theorem brace_any (s : ByteArray) (w : World) (hs : s.size ≤ 1048576) :
    Calls Try.prog 12 #[.string s] w fun e w' => e = .returned (.bool (brD s 0)) ∧ w = w' := by
  go_enter Try.func12, Try.ntmps12
  go_wp2
  go_loop [3] (fun iv => ∃ k : Nat, k ≤ s.size ∧ iv = .int .i64 k ∧ Hid (brD s 0 = brD s k)) (fun iv => s.size - (intOf iv).toNat)
  case atStart => exact ⟨0, Nat.zero_le _, rfl, rfl⟩
  case round =>
    obtain ⟨k, hk, rfl, H⟩ := hrel
    by_cases hlt : k < s.size
    · go_wp2
      · go_ret
        exact ⟨ret_bool (br_t1 H hlt ‹_›), rfl⟩
      · go_ret
        exact ⟨ret_bool (br_t2 H hlt ‹_›), rfl⟩
      · go_round
        case rel => exact ⟨k + 1, by omega, by go_num, br_f H hlt ‹_›⟩
        case measure => simp [intOf]; omega
    · go_wp2
      go_ret
      exact ⟨ret_bool (by rw [H.out, brD_end s k hlt]), rfl⟩

theorem mk_t4 {s : ByteArray} {k : Nat} (H : Hid (mkD s 0 = mkD s k)) (hlt : k < s.size) (h : ((((s[k].toNat : Int) == 123) = true ∨ ((s[k].toNat : Int) == 125) = true) ∨ ((s[k].toNat : Int) == 47) = true) ∨ ((s[k].toNat : Int) == 58) = true) : true = mkD s 0 := by
  rw [H.out, mkD_step s k hlt, isMk_int]
  rcases h with ((h | h) | h) | h <;> simp [h]

set_option maxHeartbeats 400000 in
theorem mark_any (s : ByteArray) (w : World) (hs : s.size ≤ 1048576) :
    Calls Try.prog 14 #[.string s] w fun e w' => e = .returned (.bool (mkD s 0)) ∧ w = w' := by
  go_enter Try.func14, Try.ntmps14
  go_wp2
  go_loop [3] (fun iv => ∃ k : Nat, k ≤ s.size ∧ iv = .int .i64 k ∧ Hid (mkD s 0 = mkD s k)) (fun iv => s.size - (intOf iv).toNat)
  case atStart => exact ⟨0, Nat.zero_le _, rfl, rfl⟩
  case round =>
    obtain ⟨k, hk, rfl, H⟩ := hrel
    by_cases hlt : k < s.size
    · have hst : Hid (mkD s k = (isMk s[k] || mkD s (k + 1))) := mkD_step s k hlt
      have hin : Hid (isMk s[k] = ((((s[k].toNat : Int) == 123 || (s[k].toNat : Int) == 125) || (s[k].toNat : Int) == 47) || (s[k].toNat : Int) == 58)) := isMk_int s[k]
      go_wp2
      all_goals first
        | (have h4 : ((((s[k].toNat : Int) == 123) = true ∨ ((s[k].toNat : Int) == 125) = true) ∨ ((s[k].toNat : Int) == 47) = true) ∨ ((s[k].toNat : Int) == 58) = true := by assumption
           go_ret
           exact ⟨ret_bool (mk_t4 H hlt h4), rfl⟩)
        | (go_ret
           refine ⟨ret_bool ?_, rfl⟩
           rw [H.out, hst.out, hin.out]
           simp [*])
        | (go_round
           case rel => exact ⟨k + 1, by omega, by go_num, by show _ = _; rw [H.out, hst.out, hin.out]; simp [*]⟩
           case measure => simp [intOf]; omega)
    · go_wp2
      go_ret
      exact ⟨ret_bool (by rw [H.out, mkD_end s k hlt]), rfl⟩

set_option maxHeartbeats 1000000 in
theorem bytes_yes (a b c d e f : ByteArray) (w : World) (h : a.size + b.size + c.size + d.size + e.size + f.size ≤ 1048576) :
    Calls Try.prog 18 #[.string a, .string b, .string c, .string d, .string e, .string f] w fun r w' => r = .returned (.bool true) ∧ w = w' := by
  go_enter Try.func18, Try.ntmps18
  go_wp2
  go_ret
  exact ⟨rfl, rfl⟩

set_option maxHeartbeats 1000000 in
theorem bytes_no (a b c d e f : ByteArray) (w : World) (ha : a.size ≤ maxLen) (hb : b.size ≤ maxLen) (hc : c.size ≤ maxLen) (hd : d.size ≤ maxLen) (he : e.size ≤ maxLen) (hf : f.size ≤ maxLen) (h : ¬ a.size + b.size + c.size + d.size + e.size + f.size ≤ 1048576) :
    Calls Try.prog 18 #[.string a, .string b, .string c, .string d, .string e, .string f] w fun r w' => r = .returned (.bool false) ∧ w = w' := by
  unfold maxLen at ha hb hc hd he hf
  go_enter Try.func18, Try.ntmps18
  go_wp2
  all_goals first
    | (go_ret; exact ⟨rfl, rfl⟩)
    | (exfalso; omega)

end Go.Proofs.Qxb6602697a
