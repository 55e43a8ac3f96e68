/-
  SEAT b6602454a: the walks of the law's own helpers.
-/
import Derived.Test.Qxb6602454aLib
import Derived.Test.Qxb6602454aPlain
namespace Go.Proofs.Qxb6602454a
open Go.RowKit
open Pl

set_option maxHeartbeats 400000 in
theorem bytes_any (s : ByteArray) (w : World) (hs : s.size ≤ maxLen) :
    Calls Try.prog 14 #[.string s] w fun e w' => e = .returned (.bool (decide (s.size ≤ 1048576))) ∧ w' = w := by
  unfold maxLen at hs
  by_cases h : s.size ≤ 1048576
  · go_enter Try.func14, Try.ntmps14
    go_wp2
    go_ret
    exact ⟨by simp [h], rfl⟩
  · go_enter Try.func14, Try.ntmps14
    go_wp2
    go_ret
    exact ⟨by simp [h], rfl⟩

theorem ret_bool {a b : Bool} (h : a = b) : Ending.returned (.bool a) = .returned (.bool b) := by rw [h]

theorem len_data (s : ByteArray) : s.data.toList.length = s.size := rfl

theorem drop_take_step (s : ByteArray) (k e : Nat) (h : k < e) (he : e ≤ s.size) : (s.data.toList.take e).drop k = s[k] :: (s.data.toList.take e).drop (k + 1) := by
  have hl : k < (s.data.toList.take e).length := by rw [List.length_take, len_data]; omega
  rw [List.drop_eq_getElem_cons hl]
  simp [List.getElem_take]
  rfl

theorem beq_u8 (c : UInt8) (n : Nat) (hn : n < 256) : (c == UInt8.ofNat n) = ((c.toNat : Int) == (n : Int)) := by
  rw [Bool.eq_iff_iff, beq_iff_eq, beq_iff_eq]
  constructor
  · intro h; rw [h, UInt8.toNat_ofNat_of_lt' hn]
  · intro h
    have : c.toNat = n := by omega
    rw [← this]; simp

theorem all_step_no (s : ByteArray) (st k e : Nat) (h : k < e) (he : e ≤ s.size) (hn : ((s[k].toNat : Int) != 46) = true) (H : Hid (((s.data.toList.take e).drop st).all (· == 46) = ((s.data.toList.take e).drop k).all (· == 46))) :
    false = ((s.data.toList.take e).drop st).all (· == 46) := by
  rw [H.out, drop_take_step s k e h he, List.all_cons]
  have : (s[k] == 46) = false := by rw [show (46 : UInt8) = UInt8.ofNat 46 from rfl, beq_u8 _ 46 (by omega)]; simpa using hn
  rw [this]; rfl

theorem all_step_yes (s : ByteArray) (st k e : Nat) (h : k < e) (he : e ≤ s.size) (hn : ((s[k].toNat : Int) != 46) = false) (H : Hid (((s.data.toList.take e).drop st).all (· == 46) = ((s.data.toList.take e).drop k).all (· == 46))) :
    Hid (((s.data.toList.take e).drop st).all (· == 46) = ((s.data.toList.take e).drop (k + 1)).all (· == 46)) := by
  show _ = _
  rw [H.out, drop_take_step s k e h he, List.all_cons]
  have : (s[k] == 46) = true := by rw [show (46 : UInt8) = UInt8.ofNat 46 from rfl, beq_u8 _ 46 (by omega)]; simpa using hn
  rw [this]; rfl

theorem all_step_end (s : ByteArray) (st k e : Nat) (h : ¬ k < e) (H : Hid (((s.data.toList.take e).drop st).all (· == 46) = ((s.data.toList.take e).drop k).all (· == 46))) :
    true = ((s.data.toList.take e).drop st).all (· == 46) := by
  rw [H.out, List.drop_of_length_le (by rw [List.length_take]; omega)]; rfl

set_option maxHeartbeats 400000 in
theorem dots_any (s : ByteArray) (st e : Nat) (w : World) (hs : s.size ≤ maxLen) (h1 : st ≤ e) (h2 : e ≤ s.size) :
    Calls Try.prog 22 #[.string s, .int .i64 st, .int .i64 e] w fun e' w' => e' = .returned (.bool (((s.data.toList.take e).drop st).all (· == 46))) ∧ w' = w := by
  unfold maxLen at hs
  go_enter Try.func22, Try.ntmps22
  go_wp2
  go_loop [7] (fun i => ∃ k : Nat, st ≤ k ∧ k ≤ e ∧ i = .int .i64 k ∧ Hid (((s.data.toList.take e).drop st).all (· == 46) = ((s.data.toList.take e).drop k).all (· == 46))) (fun i => e - (intOf i).toNat)
  case atStart => exact ⟨st, Nat.le_refl _, h1, rfl, rfl⟩
  case round =>
    obtain ⟨k, hk1, hk2, rfl, H⟩ := hrel
    by_cases hlt : k < e
    · go_wp2
      · go_ret
        exact ⟨ret_bool (all_step_no s st k e hlt h2 ‹_› H), rfl⟩
      · go_round
        case rel => exact ⟨k + 1, by omega, by omega, by go_num, all_step_yes s st k e hlt h2 ‹_› H⟩
        case measure => simp [intOf]; omega
    · go_wp2
      go_ret
      exact ⟨ret_bool (all_step_end s st k e hlt H), rfl⟩

end Go.Proofs.Qxb6602454a
