/-
  SEAT b6602454a: the walk of the model, b1ModelValid.
-/
import Derived.Test.Qxb6602454aWalkA
namespace Go.Proofs.Qxb6602454a
open Go.RowKit
open Pl

/-- what holds at every round's head of the model's loop -/
def InvM (s : ByteArray) (st k : Nat) : Prop :=
  st ≤ k ∧ ((k ≤ s.size ∧ model s.data.toList [] = model (s.data.toList.drop k) ((s.data.toList.take k).drop st)) ∨ (k = s.size + 1 ∧ model s.data.toList [] = true))

theorem inv_le {s : ByteArray} {st k : Nat} (h : InvM s st k) : st ≤ k ∧ k ≤ s.size + 1 := by
  unfold InvM at h; omega

theorem inv_start (s : ByteArray) : InvM s 0 0 := ⟨Nat.le_refl _, .inl ⟨Nat.zero_le _, by simp⟩⟩

theorem inv_end {s : ByteArray} {st k : Nat} (h : InvM s st k) (hk : ¬ k ≤ s.size) : true = model s.data.toList [] := by
  rcases h.2 with ⟨h1, _⟩ | ⟨_, h2⟩
  · exact absurd h1 hk
  · exact h2.symm

theorem inv_at {s : ByteArray} {st k : Nat} (h : InvM s st k) (hk : k ≤ s.size) : model s.data.toList [] = model (s.data.toList.drop k) ((s.data.toList.take k).drop st) := by
  rcases h.2 with ⟨_, h2⟩ | ⟨h1, _⟩
  · exact h2
  · omega

theorem drop_step (s : ByteArray) (k : Nat) (h : k < s.size) : s.data.toList.drop k = s[k] :: s.data.toList.drop (k + 1) := by
  rw [List.drop_eq_getElem_cons (by rw [len_data]; exact h)]
  rfl

theorem seg_step (s : ByteArray) (st k : Nat) (hst : st ≤ k) (h : k < s.size) : (s.data.toList.take (k + 1)).drop st = (s.data.toList.take k).drop st ++ [s[k]] := by
  rw [List.take_succ_eq_append_getElem (by rw [len_data]; exact h), List.drop_append_of_le_length (by rw [List.length_take, len_data]; omega)]
  rfl

theorem seg_len (s : ByteArray) (st k : Nat) (h : k ≤ s.size) : ((s.data.toList.take k).drop st).length = k - st := by
  rw [List.length_drop, List.length_take, len_data]; omega

theorem inv_nul {s : ByteArray} {st k : Nat} (h : InvM s st k) (hk : k < s.size) (h0 : ((s[k].toNat : Int) == 0) = true) : false = model s.data.toList [] := by
  rw [inv_at h (by omega), drop_step s k hk]
  have : (s[k] == 0) = true := by rw [show (0 : UInt8) = UInt8.ofNat 0 from rfl, beq_u8 _ 0 (by omega)]; exact h0
  unfold model
  rw [if_pos this]

theorem inv_plain {s : ByteArray} {st k : Nat} (h : InvM s st k) (hk : k < s.size) (h0 : ((s[k].toNat : Int) == 0) = false) (h1 : ((s[k].toNat : Int) == 47) = false) : InvM s st (k + 1) := by
  have e0 : (s[k] == 0) = false := by rw [show (0 : UInt8) = UInt8.ofNat 0 from rfl, beq_u8 _ 0 (by omega)]; exact h0
  have e1 : (s[k] == 47) = false := by rw [show (47 : UInt8) = UInt8.ofNat 47 from rfl, beq_u8 _ 47 (by omega)]; exact h1
  refine ⟨by have := h.1; omega, .inl ⟨by omega, ?_⟩⟩
  rw [inv_at h (by omega), drop_step s k hk, seg_step s st k h.1 hk]
  conv => lhs; unfold model
  rw [e0, e1]
  rfl

/-- at a '/' -/
theorem inv_slash {s : ByteArray} {st k : Nat} (h : InvM s st k) (hk : k < s.size) (h0 : ((s[k].toNat : Int) == 0) = false) (h1 : ((s[k].toNat : Int) == 47) = true) :
    (okSeg ((s.data.toList.take k).drop st) = false → false = model s.data.toList []) ∧ (okSeg ((s.data.toList.take k).drop st) = true → InvM s (k + 1) (k + 1)) := by
  have e0 : (s[k] == 0) = false := by rw [show (0 : UInt8) = UInt8.ofNat 0 from rfl, beq_u8 _ 0 (by omega)]; exact h0
  have e1 : (s[k] == 47) = true := by rw [show (47 : UInt8) = UInt8.ofNat 47 from rfl, beq_u8 _ 47 (by omega)]; exact h1
  have e : model s.data.toList [] = (okSeg ((s.data.toList.take k).drop st) && model (s.data.toList.drop (k + 1)) []) := by
    rw [inv_at h (by omega), drop_step s k hk]
    conv => lhs; unfold model
    rw [e0, e1]
    rfl
  constructor
  · intro hf; rw [e, hf]; rfl
  · intro ht
    refine ⟨Nat.le_refl _, .inl ⟨by omega, ?_⟩⟩
    rw [e, ht, List.drop_of_length_le (l := s.data.toList.take (k + 1)) (by rw [List.length_take]; omega)]
    rfl

/-- at the end -/
theorem inv_last {s : ByteArray} {st k : Nat} (h : InvM s st k) (hk : k = s.size) :
    (okSeg ((s.data.toList.take k).drop st) = false → false = model s.data.toList []) ∧ (okSeg ((s.data.toList.take k).drop st) = true → InvM s (k + 1) (k + 1)) := by
  have e : model s.data.toList [] = okSeg ((s.data.toList.take k).drop st) := by
    rw [inv_at h (by omega), List.drop_of_length_le (l := s.data.toList) (i := k) (by rw [len_data]; omega)]
    rfl
  constructor
  · intro hf; rw [e, hf]
  · intro ht
    exact ⟨Nat.le_refl _, .inr ⟨by omega, by rw [e, ht]⟩⟩

theorem ok_zero (s : ByteArray) (st k : Nat) (hk : k ≤ s.size) (h : ((k : Int) - (st : Int) == 0) = true) : okSeg ((s.data.toList.take k).drop st) = false := by
  unfold okSeg
  have : k - st = 0 := by have := beq_iff_eq.1 h; omega
  rw [seg_len s st k hk, this]; rfl

theorem ok_long (s : ByteArray) (st k : Nat) (hk : k ≤ s.size) (h : 2 < k - st) : okSeg ((s.data.toList.take k).drop st) = true := by
  unfold okSeg
  rw [seg_len s st k hk, show decide (k - st ≤ 2) = false from by simp; omega, show ((k - st) == 0) = false from by rw [beq_eq_false_iff_ne]; omega]
  rfl

theorem ok_short (s : ByteArray) (st k : Nat) (b : Bool) (hk : k ≤ s.size) (h : k - st ≤ 2) (h0 : 0 < k - st) (hb : ((s.data.toList.take k).drop st).all (· == 46) = b) : okSeg ((s.data.toList.take k).drop st) = !b := by
  unfold okSeg
  rw [seg_len s st k hk, hb, show decide (k - st ≤ 2) = true from by simp; omega, show ((k - st) == 0) = false from by rw [beq_eq_false_iff_ne]; omega]
  simp

theorem pos_of (k st : Nat) (_h : st ≤ k) (h : ((k : Int) - (st : Int) == 0) = false) : 0 < k - st := by
  have := beq_eq_false_iff_ne.1 h
  omega

set_option maxHeartbeats 1000000 in
theorem model_any (s : ByteArray) (w : World) (hs : s.size ≤ maxLen) (hb : s.size ≤ 1048576) :
    Calls Try.prog 16 #[.string s] w fun e w' => e = .returned (.bool (model s.data.toList [])) ∧ w' = w := by
  by_cases hz : s.size = 0
  · go_enter Try.func16, Try.ntmps16
    go_wp2
    go_ret
    refine ⟨ret_bool ?_, rfl⟩
    have : s.data.toList = [] := List.eq_nil_of_length_eq_zero (by rw [len_data]; exact hz)
    rw [this]; rfl
  · have hz' : ((s.size : Int) == 0) = false := by rw [beq_eq_false_iff_ne]; omega
    go_enter Try.func16, Try.ntmps16
    go_wp2
    go_loop [4, 5] (fun t i => ∃ st k : Nat, t = .int .i64 st ∧ i = .int .i64 k ∧ InvM s st k) (fun _ i => s.size + 1 - (intOf i).toNat)
    case atStart => exact ⟨0, 0, rfl, rfl, inv_start s⟩
    case round =>
      obtain ⟨st, k, rfl, rfl, H⟩ := hrel
      have hle := inv_le H
      obtain ⟨hst, hk⟩ := hle
      by_cases hend : k ≤ s.size
      · by_cases hn : k = s.size
        · subst hn
          have HL := inv_last H rfl
          by_cases h2 : 2 < s.size - st
          · have hok := ok_long s st s.size hend h2
            go_wp2
            go_round
            case rel => exact ⟨s.size + 1, s.size + 1, by go_num, by go_num, HL.2 hok⟩
            case measure => simp [intOf]
          · go_wp2_with (go_at_call 22; refine (dots_any s st s.size _ hs hst hend).mono ?_; rintro e w' ⟨rfl, rfl⟩)
            · go_ret
              exact ⟨ret_bool (HL.1 (ok_zero s st s.size hend ‹_›)), rfl⟩
            · go_ret
              exact ⟨ret_bool (HL.1 (ok_short s st s.size true hend (by omega) (pos_of _ _ hst ‹_›) ‹_›)), rfl⟩
            · go_round
              case rel => exact ⟨s.size + 1, s.size + 1, by go_num, by go_num, HL.2 (ok_short s st s.size false hend (by omega) (pos_of _ _ hst ‹_›) ‹_›)⟩
              case measure => simp [intOf]
        · have hlt : k < s.size := by omega
          have hn' : ((k : Int) == (s.size : Int)) = false := by rw [beq_eq_false_iff_ne]; omega
          by_cases h2 : 2 < k - st
          · have hok := ok_long s st k hend h2
            go_wp2
            · go_ret
              exact ⟨ret_bool (inv_nul H hlt ‹_›), rfl⟩
            · go_round
              case rel => exact ⟨k + 1, k + 1, by go_num, by go_num, (inv_slash H hlt ‹_› ‹_›).2 hok⟩
              case measure => simp [intOf]; omega
            · go_round
              case rel => exact ⟨st, k + 1, rfl, by go_num, inv_plain H hlt ‹_› ‹_›⟩
              case measure => simp [intOf]; omega
          · go_wp2_with (go_at_call 22; refine (dots_any s st k _ hs hst hend).mono ?_; rintro e w' ⟨rfl, rfl⟩)
            · go_ret
              exact ⟨ret_bool (inv_nul H hlt ‹_›), rfl⟩
            · go_ret
              exact ⟨ret_bool ((inv_slash H hlt ‹_› ‹_›).1 (ok_zero s st k hend ‹_›)), rfl⟩
            · go_ret
              exact ⟨ret_bool ((inv_slash H hlt ‹_› ‹_›).1 (ok_short s st k true hend (by omega) (pos_of _ _ hst ‹_›) ‹_›)), rfl⟩
            · go_round
              case rel => exact ⟨k + 1, k + 1, by go_num, by go_num, (inv_slash H hlt ‹_› ‹_›).2 (ok_short s st k false hend (by omega) (pos_of _ _ hst ‹_›) ‹_›)⟩
              case measure => simp [intOf]; omega
            · go_round
              case rel => exact ⟨st, k + 1, rfl, by go_num, inv_plain H hlt ‹_› ‹_›⟩
              case measure => simp [intOf]; omega
      · go_wp2
        go_ret
        exact ⟨ret_bool (inv_end H hend), rfl⟩

end Go.Proofs.Qxb6602454a
