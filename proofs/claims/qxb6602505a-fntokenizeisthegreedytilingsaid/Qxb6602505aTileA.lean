/-
  SEAT b6602505a: 'FnTokenizeIsTheGreedyTiling': the law's own helpers, walked.
-/
import Derived.Test.Qxb6602505aSplit
import Derived.Test.Qxb6602505aTileP
namespace Go.Proofs.Qxb6602505a
open Go.RowKit
open Pl

theorem ret_bool {a b : Bool} (h : a = b) : Ending.returned (.bool a) = .returned (.bool b) := by rw [h]
theorem ret_int {a b : Int} (h : a = b) : Ending.returned (.int .i64 a) = .returned (.int .i64 b) := by rw [h]

theorem isSp_int (c : UInt8) : isSp c = ((((((c.toNat : Int) == 32 || (c.toNat : Int) == 9) || (c.toNat : Int) == 10) || (c.toNat : Int) == 13) || (c.toNat : Int) == 12) || (c.toNat : Int) == 11) := by
  unfold isSp
  rw [show (32 : UInt8) = UInt8.ofNat 32 from rfl, show (9 : UInt8) = UInt8.ofNat 9 from rfl, show (10 : UInt8) = UInt8.ofNat 10 from rfl, show (13 : UInt8) = UInt8.ofNat 13 from rfl, show (12 : UInt8) = UInt8.ofNat 12 from rfl, show (11 : UInt8) = UInt8.ofNat 11 from rfl]
  rw [beq_u8 _ 32 (by omega), beq_u8 _ 9 (by omega), beq_u8 _ 10 (by omega), beq_u8 _ 13 (by omega), beq_u8 _ 12 (by omega), beq_u8 _ 11 (by omega)]
  rfl
theorem isSy_int (c : UInt8) : isSy c = (((((((c.toNat : Int) == 33 || (c.toNat : Int) == 61) || (c.toNat : Int) == 60) || (c.toNat : Int) == 62) || (c.toNat : Int) == 44) || (c.toNat : Int) == 40) || (c.toNat : Int) == 41) := by
  unfold isSy
  rw [show (33 : UInt8) = UInt8.ofNat 33 from rfl, show (61 : UInt8) = UInt8.ofNat 61 from rfl, show (62 : UInt8) = UInt8.ofNat 62 from rfl, show (60 : UInt8) = UInt8.ofNat 60 from rfl, show (44 : UInt8) = UInt8.ofNat 44 from rfl, show (40 : UInt8) = UInt8.ofNat 40 from rfl, show (41 : UInt8) = UInt8.ofNat 41 from rfl]
  rw [beq_u8 _ 33 (by omega), beq_u8 _ 61 (by omega), beq_u8 _ 62 (by omega), beq_u8 _ 60 (by omega), beq_u8 _ 44 (by omega), beq_u8 _ 40 (by omega), beq_u8 _ 41 (by omega)]
  rfl

set_option maxHeartbeats 400000 in
theorem isSpace_any (c : UInt8) (w : World) :
    Calls Try.prog 12 #[.int .u8 (c.toNat : Int)] w fun e w' => e = .returned (.bool (isSp c)) ∧ w = w' := by
  rw [isSp_int]
  obtain ⟨n, hn⟩ : ∃ n : Int, n = (c.toNat : Int) := ⟨_, rfl⟩
  rw [← hn]
  clear hn
  go_enter Try.func12, Try.ntmps12
  go_wp2
  all_goals
    go_ret
    refine ⟨ret_bool ?_, rfl⟩
    simp [*]

set_option maxHeartbeats 400000 in
theorem isSymbol_any (c : UInt8) (w : World) :
    Calls Try.prog 13 #[.int .u8 (c.toNat : Int)] w fun e w' => e = .returned (.bool (isSy c)) ∧ w = w' := by
  rw [isSy_int]
  obtain ⟨n, hn⟩ : ∃ n : Int, n = (c.toNat : Int) := ⟨_, rfl⟩
  rw [← hn]
  clear hn
  go_enter Try.func13, Try.ntmps13
  go_wp2
  all_goals
    go_ret
    refine ⟨ret_bool ?_, rfl⟩
    simp [*]

theorem sp_at {s : ByteArray} {a b j : Nat} (h : Sp s.data.toList a b) (h1 : a ≤ j) (h2 : j < b) (h3 : j < s.size) : isSp s[j] = true :=
  h j s[j] h1 h2 (by rw [List.getElem?_eq_getElem (by rw [len_data]; exact h3)]; rfl)

set_option maxHeartbeats 400000 in
theorem only_any (s : ByteArray) (a b : Nat) (w : World) (hs : s.size ≤ 1048576) (hb : b ≤ s.size) (h : Sp s.data.toList a b) (hab : a ≤ b) :
    Calls Try.prog 9 #[.string s, .int .i64 a, .int .i64 b] w fun e w' => e = .returned (.bool true) ∧ w = w' := by
  go_enter Try.func9, Try.ntmps9
  go_wp2
  go_loop [7] (fun jv => ∃ j : Nat, a ≤ j ∧ j ≤ b ∧ jv = .int .i64 j) (fun jv => b - (intOf jv).toNat)
  case atStart => exact ⟨a, Nat.le_refl _, hab, rfl⟩
  case round =>
    obtain ⟨j, h1, h2, rfl⟩ := hrel
    by_cases hlt : j < b
    · have hjs : j < s.size := by omega
      have hsp := sp_at h h1 hlt hjs
      go_wp2_with (go_at_call 12; refine (isSpace_any _ _).mono ?_; rintro e w' ⟨rfl, rfl⟩; rw [hsp])
      go_round
      case rel => exact ⟨j + 1, by omega, by omega, by go_num⟩
      case measure => simp [intOf]; omega
    · go_wp2
      go_ret
      exact ⟨rfl, rfl⟩

set_option maxHeartbeats 400000 in
theorem occurs_any (s t : ByteArray) (p : Nat) (w : World) (hs : s.size ≤ 1048576) (hp : p + t.size ≤ s.size) (h : ∀ (j : Nat) (c : UInt8), t.data.toList[j]? = some c → s.data.toList[p + j]? = some c) :
    Calls Try.prog 10 #[.string s, .int .i64 p, .string t] w fun e w' => e = .returned (.bool true) ∧ ∃ n, w' = w.drewN n := by
  have hat : ∀ (j : Nat) (hj : j < t.size) (hs : p + j < s.size), s[p + j] = t[j] := by
    intro j hj hs
    have := h j t[j] (by rw [List.getElem?_eq_getElem (by rw [len_data]; exact hj)]; rfl)
    rw [List.getElem?_eq_getElem (by rw [len_data]; exact hs)] at this
    exact Option.some.inj this
  clear h
  go_enter Try.func10, Try.ntmps10
  go_wp2
  go_loopw [7] (fun jv wr => ∃ j n : Nat, j ≤ t.size ∧ jv = .int .i64 j ∧ wr = w.drewN n) (fun jv _ => t.size - (intOf jv).toNat)
  case atStart => exact ⟨0, 0, Nat.zero_le _, rfl, rfl⟩
  case round =>
    obtain ⟨j, n, hj, rfl, rfl⟩ := hrel
    by_cases hlt : j < t.size
    · have hps : p + j < s.size := by omega
      have he := hat j hlt hps
      have q1 : (j : Int) < (t.size : Int) := by omega
      have q2 : (p : Int) + (j : Int) < (s.size : Int) := by omega
      have q3 : (0 : Int) ≤ (p : Int) + (j : Int) := by omega
      clear hat
      go_wp2
      go_quiet (fail)
      go_wp2
      go_roundw
      case rel => exact ⟨j + 1, _, by omega, by go_num, rfl⟩
      case measure => simp [intOf]; omega
    · go_wp2
      go_ret
      exact ⟨rfl, n, rfl⟩

set_option maxHeartbeats 400000 in
theorem symLex_any (s : ByteArray) (w : World) :
    Calls Try.prog 19 #[.string s] w fun e w' => e = .returned (.int .i64 (symLex s.data.toList)) ∧ w = w' := by
  rw [← Lib.toList_data]
  go_enter Try.func19, Try.ntmps19
  go_wp2
  all_goals
    go_ret
    refine ⟨ret_int ?_, rfl⟩
    simp [symLex, *]

theorem symLex_call (s : ByteArray) (w : World) (K : Int) (h : symLex s.data.toList = K) :
    Calls Try.prog 19 #[.string s] w fun e w' => e = .returned (.int .i64 K) ∧ w = w' := by
  subst h; exact symLex_any s w

theorem pln_at {s : ByteArray} (h : s.data.toList.all pln = true) {j : Nat} (hj : j < s.size) : isSp s[j] = false ∧ isSy s[j] = false := by
  refine pln_not _ ?_
  rw [List.all_eq_true] at h
  exact h s[j] (by
    have : s.data.toList[j]'(by rw [len_data]; exact hj) ∈ s.data.toList := List.getElem_mem _
    exact this)

set_option maxHeartbeats 400000 in
theorem lexeme_any (s : ByteArray) (w : World) (K : Int) (hs : s.size ≤ 1048576) (hne : 0 < s.size) (hS : Shape s.data.toList) (hK : lexK s.data.toList = K) :
    Calls Try.prog 11 #[.string s] w fun e w' => e = .returned (.int .i64 K) ∧ w = w' := by
  have hz : ((s.size : Int) == 0) = false := by rw [beq_eq_false_iff_ne]; omega
  rcases symLex_shape _ hS with ⟨hw, h1⟩ | ⟨h1, h2⟩
  · have hk := word_kind _ hw
    rw [hK, ← Lib.toList_data] at hk
    have HK : Hid (K = if (s.toList == [105, 110] || s.toList == [110, 111, 116, 105, 110]) = true then 2 else 1) := hk
    clear hk hK
    have HS : Hid (symLex s.data.toList = -1) := h1
    clear h1
    go_enter Try.func11, Try.ntmps11
    go_wp2_with (go_at_call 19; refine (symLex_call _ _ (-1) HS.out).mono ?_; rintro e w' ⟨rfl, rfl⟩)
    go_loop [4] (fun jv => ∃ j : Nat, j ≤ s.size ∧ jv = .int .i64 j) (fun jv => s.size - (intOf jv).toNat)
    case atStart => exact ⟨0, Nat.zero_le _, rfl⟩
    case round =>
      obtain ⟨j, hj, rfl⟩ := hrel
      by_cases hlt : j < s.size
      · obtain ⟨p1, p2⟩ := pln_at hw hlt
        go_wp2_with (first
          | (go_at_call 12; refine (isSpace_any _ _).mono ?_; rintro e w' ⟨rfl, rfl⟩; rw [p1])
          | (go_at_call 13; refine (isSymbol_any _ _).mono ?_; rintro e w' ⟨rfl, rfl⟩; rw [p2]))
        go_round
        case rel => exact ⟨j + 1, by omega, by go_num⟩
        case measure => simp [intOf]; omega
      · go_wp2
        · have hin : s.toList = [105, 110] := by assumption
          go_ret
          exact ⟨ret_int (by rw [HK.out, hin]; rfl), rfl⟩
        · have hin : (s.toList == [105, 110]) = true ∨ (s.toList == [110, 111, 116, 105, 110]) = true := by assumption
          go_ret
          exact ⟨ret_int (by rw [HK.out, if_pos (Bool.or_eq_true _ _ |>.mpr hin)]), rfl⟩
        · have hin : (s.toList == [105, 110]) = false ∧ (s.toList == [110, 111, 116, 105, 110]) = false := by assumption
          go_ret
          exact ⟨ret_int (by rw [HK.out, hin.1, hin.2]; rfl), rfl⟩
  · rw [hK] at h1
    rw [h1] at h2
    have HS : Hid (symLex s.data.toList = K) := h1
    clear h1 hK
    go_enter Try.func11, Try.ntmps11
    go_wp2_with (go_at_call 19; refine (symLex_call _ _ K HS.out).mono ?_; rintro e w' ⟨rfl, rfl⟩)
    go_ret
    exact ⟨rfl, rfl⟩

end Go.Proofs.Qxb6602505a
