/-
  SEAT b6602505a: the library's functions on the road (the shelf's templates, turned to this program), and 'symbol'.
-/
import Derived.Test.Qxb6602505aRows
import Derived.WalkKit
import Derived.WalkSpells
import Derived.Lib.Strings
import Derived.Lib.Slices
import Derived.Lib.Walk
import Derived.Lib.Bytealg
import Derived.Deep.QuietTactic
import Derived.BigQuiet
import Derived.Deep.RegionWith
import Derived.Test.Qxb6602505aPlain
namespace Go.Proofs.Qxb6602505a
open Go.RowKit
open Pl

set_option maxHeartbeats 1000000 in
set_option maxRecDepth 100000 in
theorem lite_IndexByte (s : ByteArray) (c : Int) (w : World) :
    Calls Try.prog 23 #[.string s, .int .u8 c] w fun e w' => e = .returned (.int .i64 (Lib.indexByte s.data.toList c.toNat.toUInt8)) ∧ w' = w := by
  go_enter Try.func23, Try.ntmps23
  go_wp2
  rw [run_callFunc_extern Try.func25 (by kernel_rfl) (by kernel_rfl) (by kernel_rfl) (e := Extern.BytealgIndexByte.indexByte) (by kernel_rfl), Lib.run_indexByteString]
  simp only [Result.andThen]
  rw [Oper.upon_value]
  go_wp2
  go_ret
  exact ⟨rfl, rfl⟩

set_option maxHeartbeats 1000000 in
theorem strings_IndexByte (s : ByteArray) (c : Int) (w : World) :
    Calls Try.prog 21 #[.string s, .int .u8 c] w fun e w' => e = .returned (.int .i64 (Lib.indexByte s.data.toList c.toNat.toUInt8)) ∧ w' = w := by
  go_enter Try.func21, Try.ntmps21
  go_wp2_with (go_at_call 23; refine (lite_IndexByte _ _ _).mono ?_; rintro e w' ⟨rfl, rfl⟩)
  go_ret
  exact ⟨rfl, rfl⟩

set_option maxHeartbeats 1000000 in
theorem lite_HasPrefix (s p : ByteArray) (w : World) :
    Calls Try.prog 24 #[.string s, .string p] w fun e w' => e = .returned (.bool (Lib.hasPrefix s.data.toList p.data.toList)) ∧ w' = w := by
  rw [← Lib.hasPrefix_of_take, ← Lib.size_eq, ← Lib.size_eq]
  go_enter Try.func24, Try.ntmps24
  go_wp2
  · rename_i h
    go_ret
    refine ⟨?_, rfl⟩
    show Ending.returned (Value.bool ((s.extract 0 p.size).toList == p.toList)) = _
    rw [Lib.extract_toList, Lib.toList_data]
    simp [h]
  · rename_i h
    go_ret
    refine ⟨?_, rfl⟩
    show Ending.returned (Value.bool false) = _
    simp [h]

set_option maxHeartbeats 1000000 in
theorem strings_HasPrefix (s p : ByteArray) (w : World) :
    Calls Try.prog 22 #[.string s, .string p] w fun e w' => e = .returned (.bool (Lib.hasPrefix s.data.toList p.data.toList)) ∧ w' = w := by
  go_enter Try.func22, Try.ntmps22
  go_wp2_with (go_at_call 24; refine (lite_HasPrefix _ _ _).mono ?_; rintro e w' ⟨rfl, rfl⟩)
  go_ret
  exact ⟨rfl, rfl⟩

theorem beq_u8 (c : UInt8) (n : Nat) (hn : n < 256) : (c == UInt8.ofNat n) = ((c.toNat : Int) == (n : Int)) := by
  rw [Bool.eq_iff_iff, beq_iff_eq, beq_iff_eq]
  constructor
  · intro h; rw [h, UInt8.toNat_ofNat_of_lt' hn]
  · intro h
    have : c.toNat = n := by omega
    rw [← this]; simp


theorem ret_pair {a b c d : Int} (h : a = c) (h' : b = d) : Ending.returned (.tuple #[.int .i64 a, .int .i64 b]) = .returned (.tuple #[.int .i64 c, .int .i64 d]) := by rw [h, h']

def symI (p q : Bool) (n : Int) : Int × Int :=
  if p then (5, 2) else if q then (6, 2)
  else if n == 33 then (3, 1) else if n == 61 then (4, 1) else if n == 62 then (7, 1) else if n == 60 then (8, 1)
  else if n == 44 then (9, 1) else if n == 40 then (10, 1) else if n == 41 then (11, 1) else (1, 0)

theorem sw33 (n : Int) (h : (n == 33) = true) : symI false false n = (3, 1) := by simp [symI, h]
theorem sw61 (n : Int) (h1 : (n == 33) = false) (h : (n == 61) = true) : symI false false n = (4, 1) := by simp [symI, h1, h]
theorem sw62 (n : Int) (h1 : (n == 33) = false) (h2 : (n == 61) = false) (h : (n == 62) = true) : symI false false n = (7, 1) := by simp [symI, h1, h2, h]
theorem sw60 (n : Int) (h1 : (n == 33) = false) (h2 : (n == 61) = false) (h3 : (n == 62) = false) (h : (n == 60) = true) : symI false false n = (8, 1) := by simp [symI, h1, h2, h3, h]
theorem sw44 (n : Int) (h1 : (n == 33) = false) (h2 : (n == 61) = false) (h3 : (n == 62) = false) (h4 : (n == 60) = false) (h : (n == 44) = true) : symI false false n = (9, 1) := by simp [symI, h1, h2, h3, h4, h]
theorem sw40 (n : Int) (h1 : (n == 33) = false) (h2 : (n == 61) = false) (h3 : (n == 62) = false) (h4 : (n == 60) = false) (h5 : (n == 44) = false) (h : (n == 40) = true) : symI false false n = (10, 1) := by simp [symI, h1, h2, h3, h4, h5, h]
theorem sw41 (n : Int) (h1 : (n == 33) = false) (h2 : (n == 61) = false) (h3 : (n == 62) = false) (h4 : (n == 60) = false) (h5 : (n == 44) = false) (h6 : (n == 40) = false) (h : (n == 41) = true) : symI false false n = (11, 1) := by simp [symI, h1, h2, h3, h4, h5, h6, h]
theorem sw_no (n : Int) (h1 : (n == 33) = false) (h2 : (n == 61) = false) (h3 : (n == 62) = false) (h4 : (n == 60) = false) (h5 : (n == 44) = false) (h6 : (n == 40) = false) (h : (n == 41) = false) : symI false false n = (1, 0) := by simp [symI, h1, h2, h3, h4, h5, h6, h]

theorem head_byte (s : ByteArray) (hs : 0 < s.size) : s.data.toList.headD 0 = s[0] := by
  obtain ⟨⟨l⟩⟩ := s
  cases l with
  | nil => simp [ByteArray.size] at hs
  | cons c l => rfl

theorem symG_eq (s : ByteArray) (hs : 0 < s.size) : symG s.data.toList = symI (Lib.hasPrefix s.data.toList [61, 61]) (Lib.hasPrefix s.data.toList [33, 61]) (s[0].toNat : Int) := by
  unfold symG symI
  rw [head_byte s hs, show (33 : UInt8) = UInt8.ofNat 33 from rfl, show (61 : UInt8) = UInt8.ofNat 61 from rfl, show (62 : UInt8) = UInt8.ofNat 62 from rfl, show (60 : UInt8) = UInt8.ofNat 60 from rfl, show (44 : UInt8) = UInt8.ofNat 44 from rfl, show (40 : UInt8) = UInt8.ofNat 40 from rfl, show (41 : UInt8) = UInt8.ofNat 41 from rfl]
  rw [beq_u8 _ 33 (by omega), beq_u8 _ 61 (by omega), beq_u8 _ 62 (by omega), beq_u8 _ 60 (by omega), beq_u8 _ 44 (by omega), beq_u8 _ 40 (by omega), beq_u8 _ 41 (by omega)]
  rfl

set_option maxHeartbeats 1000000 in
theorem symbol_any (s : ByteArray) (w : World) (hs : 0 < s.size) :
    Calls Try.prog 20 #[.string s] w fun e w' => e = .returned (.tuple #[.int .i64 (symG s.data.toList).1, .int .i64 (symG s.data.toList).2]) ∧ w' = w := by
  have two : ∀ (p : List UInt8) (w : World), Calls Try.prog 22 #[.string s, .string ⟨p.toArray⟩] w fun e w' => e = .returned (.bool (Lib.hasPrefix s.data.toList p)) ∧ w' = w := fun p w => strings_HasPrefix s ⟨p.toArray⟩ w
  go_enter Try.func20, Try.ntmps20
  go_wp2_with fail
  refine (two [61, 61] _).mono ?_
  rintro e w' ⟨rfl, hw⟩
  obtain rfl := hw.symm
  go_wp2_with fail
  · have h1 : Lib.hasPrefix s.data.toList [61, 61] = true := by assumption
    go_ret2
    exact ⟨ret_pair (by unfold symG; rw [if_pos h1]) (by unfold symG; rw [if_pos h1]), rfl⟩
  have h1 : Lib.hasPrefix s.data.toList [61, 61] = false := by assumption
  refine (two [33, 61] _).mono ?_
  rintro e w' ⟨rfl, hw⟩
  obtain rfl := hw.symm
  go_wp2_with fail
  · have h2 : Lib.hasPrefix s.data.toList [33, 61] = true := by assumption
    go_ret2
    exact ⟨ret_pair (by rw [symG_eq s hs, h1, h2]; rfl) (by rw [symG_eq s hs, h1, h2]; rfl), rfl⟩
  all_goals
    have h2 : Lib.hasPrefix s.data.toList [33, 61] = false := by assumption
    go_ret2
    refine ⟨?_, rfl⟩
    rw [symG_eq s hs, h1, h2]
    first
      | exact ret_pair (by rw [sw33 _ ‹_›]) (by rw [sw33 _ ‹_›])
      | exact ret_pair (by rw [sw61 _ ‹_› ‹_›]) (by rw [sw61 _ ‹_› ‹_›])
      | exact ret_pair (by rw [sw62 _ ‹_› ‹_› ‹_›]) (by rw [sw62 _ ‹_› ‹_› ‹_›])
      | exact ret_pair (by rw [sw60 _ ‹_› ‹_› ‹_› ‹_›]) (by rw [sw60 _ ‹_› ‹_› ‹_› ‹_›])
      | exact ret_pair (by rw [sw44 _ ‹_› ‹_› ‹_› ‹_› ‹_›]) (by rw [sw44 _ ‹_› ‹_› ‹_› ‹_› ‹_›])
      | exact ret_pair (by rw [sw40 _ ‹_› ‹_› ‹_› ‹_› ‹_› ‹_›]) (by rw [sw40 _ ‹_› ‹_› ‹_› ‹_› ‹_› ‹_›])
      | exact ret_pair (by rw [sw41 _ ‹_› ‹_› ‹_› ‹_› ‹_› ‹_› ‹_›]) (by rw [sw41 _ ‹_› ‹_› ‹_› ‹_› ‹_› ‹_› ‹_›])
      | exact ret_pair (by rw [sw_no _ ‹_› ‹_› ‹_› ‹_› ‹_› ‹_› ‹_›]) (by rw [sw_no _ ‹_› ‹_› ‹_› ‹_› ‹_› ‹_› ‹_›])

end Go.Proofs.Qxb6602505a
