/-
  SEAT b6602454a: the library's functions on the road: strings.IndexByte, strings.Cut at a separator of one byte (the shelf's templates, turned to this program).
-/
import Derived.Test.Qxb6602454aRows
import Derived.WalkKit
import Derived.WalkSpells
import Derived.Lib.Strings
import Derived.Lib.Slices
import Derived.Lib.Walk
import Derived.Lib.Bytealg
import Derived.Deep.QuietTactic
import Derived.BigQuiet
namespace Go.Proofs.Qxb6602454a
open Go.RowKit

set_option maxHeartbeats 1000000 in
set_option maxRecDepth 100000 in
theorem lite_IndexByte (s : ByteArray) (c : Int) (w : World) :
    Calls Try.prog 25 #[.string s, .int .u8 c] w fun e w' => e = .returned (.int .i64 (Lib.indexByte s.data.toList c.toNat.toUInt8)) ∧ w' = w := by
  go_enter Try.func25, Try.ntmps25
  go_wp2
  rw [run_callFunc_extern Try.func27 (by kernel_rfl) (by kernel_rfl) (by kernel_rfl) (e := Extern.BytealgIndexByte.indexByte) (by kernel_rfl), Lib.run_indexByteString]
  simp only [Result.andThen]
  rw [Oper.upon_value]
  go_wp2
  go_ret
  exact ⟨rfl, rfl⟩

set_option maxHeartbeats 1000000 in
theorem strings_IndexByte (s : ByteArray) (c : Int) (w : World) :
    Calls Try.prog 23 #[.string s, .int .u8 c] w fun e w' => e = .returned (.int .i64 (Lib.indexByte s.data.toList c.toNat.toUInt8)) ∧ w' = w := by
  go_enter Try.func23, Try.ntmps23
  go_wp2_with (go_at_call 25; refine (lite_IndexByte _ _ _).mono ?_; rintro e w' ⟨rfl, rfl⟩)
  go_ret
  exact ⟨rfl, rfl⟩

set_option maxHeartbeats 2000000 in
set_option maxRecDepth 100000 in
theorem lite_Index_one (s : ByteArray) (c : UInt8) (w : World) :
    Calls Try.prog 28 #[.string s, .string ⟨#[c]⟩] w fun e w' => e = .returned (.int .i64 (Lib.indexByte s.data.toList c)) ∧ w' = w := by
  go_enter Try.func28, Try.ntmps28
  go_wp2_with (go_at_call 25; refine (lite_IndexByte _ _ _).mono ?_; rintro e w' ⟨rfl, rfl⟩)
  · have h : ([c] == s.toList) = true := by assumption
    go_ret
    refine ⟨?_, rfl⟩
    have e : s.data.toList = [c] := by rw [← Lib.toList_data]; exact (beq_iff_eq.1 h).symm
    rw [e]
    simp [Lib.indexByte]
  · go_ret
    exact ⟨rfl, rfl⟩

set_option maxHeartbeats 1000000 in
theorem lite_Cut_miss (s : ByteArray) (c : UInt8) (w : World) (hix : Lib.indexByte s.data.toList c = -1) :
    Calls Try.prog 26 #[.string s, .string ⟨#[c]⟩] w fun e w' => e = .returned (.tuple #[.string s, .string ⟨#[]⟩, .bool false]) ∧ ∃ n, w' = w.drewN n := by
  go_enter Try.func26, Try.ntmps26
  go_wp2_with (go_at_call 28; refine (lite_Index_one _ _ _).mono ?_; rintro e w' ⟨rfl, rfl⟩; rw [hix])
  go_ret3
  exact ⟨rfl, 0, rfl⟩

set_option maxHeartbeats 1000000 in
theorem lite_Cut_hit (s : ByteArray) (c : UInt8) (i : Nat) (w : World) (hix : Lib.indexByte s.data.toList c = (i : Int)) (hi : i + 1 ≤ s.size) (hs : s.size ≤ maxLen) :
    Calls Try.prog 26 #[.string s, .string ⟨#[c]⟩] w fun e w' => e = .returned (.tuple #[.string (s.extract 0 i), .string (s.extract (i + 1) s.size), .bool true]) ∧ ∃ n, w' = w.drewN n := by
  unfold maxLen at hs
  have c1 : (0 : Int) ≤ ↑i := by omega
  have c2 : (↑i : Int) ≤ ↑s.size := by omega
  have c3 : (0 : Int) ≤ ↑i + 1 := by omega
  have c4 : (↑i + 1 : Int) ≤ ↑s.size := by omega
  go_enter Try.func26, Try.ntmps26
  go_wp2_with (go_at_call 28; refine (lite_Index_one _ _ _).mono ?_; rintro e w' ⟨rfl, rfl⟩; rw [hix])
  go_quiet (fail)
  go_wp2
  go_ret3
  exact ⟨rfl, _, rfl⟩

set_option maxHeartbeats 1000000 in
theorem strings_Cut_miss (s : ByteArray) (c : UInt8) (w : World) (hix : Lib.indexByte s.data.toList c = -1) :
    Calls Try.prog 24 #[.string s, .string ⟨#[c]⟩] w fun e w' => e = .returned (.tuple #[.string s, .string ⟨#[]⟩, .bool false]) ∧ ∃ n, w' = w.drewN n := by
  go_enter Try.func24, Try.ntmps24
  go_wp2_with (go_at_call 26; refine (lite_Cut_miss _ _ _ hix).mono ?_; rintro e w' ⟨rfl, n, rfl⟩)
  go_ret3
  exact ⟨rfl, _, rfl⟩

set_option maxHeartbeats 1000000 in
theorem strings_Cut_hit (s : ByteArray) (c : UInt8) (i : Nat) (w : World) (hix : Lib.indexByte s.data.toList c = (i : Int)) (hi : i + 1 ≤ s.size) (hs : s.size ≤ maxLen) :
    Calls Try.prog 24 #[.string s, .string ⟨#[c]⟩] w fun e w' => e = .returned (.tuple #[.string (s.extract 0 i), .string (s.extract (i + 1) s.size), .bool true]) ∧ ∃ n, w' = w.drewN n := by
  go_enter Try.func24, Try.ntmps24
  go_wp2_with (go_at_call 26; refine (lite_Cut_hit _ _ i _ hix hi hs).mono ?_; rintro e w' ⟨rfl, n, rfl⟩)
  go_ret3
  exact ⟨rfl, _, rfl⟩

end Go.Proofs.Qxb6602454a
