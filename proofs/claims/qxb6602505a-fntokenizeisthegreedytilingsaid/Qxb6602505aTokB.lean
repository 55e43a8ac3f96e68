/-
  SEAT b6602505a: the walk of 'tokenize'.
-/
import Derived.Test.Qxb6602505aTokA
namespace Go.Proofs.Qxb6602505a
open Go.RowKit
open Pl

theorem sym_call (s : ByteArray) (i : Nat) (k n : Int) (w : World) (hi : i < s.size) (h1 : (symG (s.data.toList.drop i)).1 = k) (h2 : (symG (s.data.toList.drop i)).2 = n) :
    Calls Try.prog 20 #[.string (s.extract i s.size)] w fun e w' => e = .returned (.tuple #[.int .i64 k, .int .i64 n]) ∧ w = w' := by
  refine (symbol_any _ _ (by simp; omega)).mono ?_
  rintro e w' ⟨rfl, rfl⟩
  rw [after_list, h1, h2]
  exact ⟨rfl, rfl⟩

theorem three_one (k : Int) (t : ByteArray) (p : Int) : ∀ x ∈ [Value.int .i64 k, .string t, .int .i64 p], x.oneCell' = true := by
  intro x hx
  simp at hx
  rcases hx with rfl | rfl | rfl <;> rfl

theorem push_keep {w wr w3 : World} {v v' : Value} {ts : List Tok} {t : Tok} {o : Obj} {c : List Value} (hown : wr.ownsRow w.heap.size 39 3 v ts.length (flat ts)) (hbel : Below w.heap.size w wr)
    (hown' : w3.ownsRow w.heap.size 39 3 v' (ts.length + 1) (flat ts ++ c)) (hg : (wr.alloc o).grownBy w3 v.ownBlock) (hc : flat ts ++ c = flat (ts ++ [t])) :
    w3.ownsRow w.heap.size 39 3 v' (ts ++ [t]).length (flat (ts ++ [t])) ∧ Below w.heap.size w w3 := by
  have hsz := hbel.size
  refine ⟨?_, Below.grown (hbel.alloc hsz _) hg (by simp; omega) (fun j hj => (hown.lt _ hj).1)⟩
  rw [hc] at hown'
  simpa using hown'

theorem kind_in (s : ByteArray) (i j : Nat) (hw : ((s.data.toList.drop i).take (j - i)).all pln = true) (h : ((s.extract i j).toList == [105, 110]) = true) : lexK ((s.data.toList.drop i).take (j - i)) = 2 := by
  rw [word_kind _ hw, ← Lib.extract_toList, h]; rfl
theorem kind_notin (s : ByteArray) (i j : Nat) (hw : ((s.data.toList.drop i).take (j - i)).all pln = true) (h : ((s.extract i j).toList == [110, 111, 116, 105, 110]) = true) : lexK ((s.data.toList.drop i).take (j - i)) = 2 := by
  rw [word_kind _ hw, ← Lib.extract_toList, h]; simp
theorem kind_word (s : ByteArray) (i j : Nat) (hw : ((s.data.toList.drop i).take (j - i)).all pln = true) (h : ((s.extract i j).toList == [105, 110]) = false) (h' : ((s.extract i j).toList == [110, 111, 116, 105, 110]) = false) : lexK ((s.data.toList.drop i).take (j - i)) = 1 := by
  rw [word_kind _ hw, ← Lib.extract_toList, h, h']; rfl

set_option maxRecDepth 100000 in
set_option maxHeartbeats 1000000 in
theorem tokenize_any (s : ByteArray) (w : World) (hs : s.size ≤ 4194304) :
    Calls Try.prog 18 #[.string s] w fun e w' => ∃ v, e = .returned v ∧ w'.ownsRow w.heap.size 39 3 v ((scan s.data.toList [] 0).length + 1) (flat (scan s.data.toList [] 0 ++ [⟨0, [], s.size⟩])) ∧ Below w.heap.size w w' ∧ (scan s.data.toList [] 0).length ≤ s.size := by
  obtain ⟨i0, hi0, hz0, hz1, hz2⟩ := info_parts info39
  go_enter Try.func18, Try.ntmps18
  go_wp2
  go_loopw [3, 4] (fun v iv wr => ∃ (i : Nat) (ts : List Tok), iv = .int .i64 i ∧ wr.ownsRow w.heap.size 39 3 v ts.length (flat ts) ∧ Below w.heap.size w wr ∧ Hid (Inv s ts i) ∧ i ≤ s.size ∧ ts.length ≤ i) (fun _ iv _ => s.size - (intOf iv).toNat)
  case atStart => exact ⟨0, [], rfl, World.ownsRow_nil _ _ _ _, Below.refl _ _, inv_start s, Nat.zero_le _, Nat.le_refl _⟩
  case round =>
    obtain ⟨i, ts, rfl, hown, hbel, HI, hile, htl⟩ := hrel
    by_cases hlt : i < s.size
    · by_cases hsp : isSp s[i] = true
      · go_wp2_with (go_at_call 21; refine (sp_yes _ _ hsp).mono ?_; rintro e w' ⟨r, rfl, hr, rfl⟩)
        go_roundw
        case rel => exact ⟨i + 1, ts, by go_num, hown, hbel, inv_sp HI.out hlt hsp, by omega, by omega⟩
        case measure => simp [intOf]; omega
      · have hsp' : isSp s[i] = false := by simpa using hsp
        have hd := drop_step s i hlt
        rcases (show _ from hd ▸ symG_hit s[i] (s.data.toList.drop (i + 1))) with ⟨g2, g1, hsy⟩ | ⟨n, hn, g2, hS⟩
        · have hpl : pln s[i] = true := by simp [pln, hsp', hsy]
          clear hd
          have HC : Hid (∀ w, Calls Try.prog 20 #[.string (s.extract i s.size)] w fun e w' => e = .returned (.tuple #[.int .i64 1, .int .i64 0]) ∧ w = w') := fun w => sym_call s i 1 0 w hlt g1 g2
          clear g1 g2 hsy
          go_wp2_with (first
            | (go_at_call 21; refine (sp_no _ _ hsp').mono ?_; rintro e w' ⟨r, rfl, hr, rfl⟩)
            | (go_at_call 20; refine (HC.out _).mono ?_; rintro e w' ⟨rfl, rfl⟩))
          go_loop [7] (fun jv => ∃ j : Nat, i ≤ j ∧ j ≤ s.size ∧ jv = .int .i64 j ∧ Hid (((s.data.toList.drop i).take (j - i)).all pln = true)) (fun jv => s.size - (intOf jv).toNat)
          case atStart => exact ⟨i, Nat.le_refl _, by omega, rfl, take_one s i⟩
          case round =>
            obtain ⟨j, hij, hjs, rfl, HW⟩ := hrel
            by_cases hgo : ∃ h : j < s.size, pln s[j] = true
            · obtain ⟨hj, hp⟩ := hgo
              go_wp2_with (go_at_call 21; refine (pl_yes _ _ hp).mono ?_; rintro e w' ⟨r', rfl, hr', rfl⟩)
              go_round
              case rel => exact ⟨j + 1, by omega, by omega, by go_num, take_more s i j hij hj HW.out hp⟩
              case measure => simp [intOf]; omega
            · have hstop : ∀ h : j < s.size, pln s[j] = false := fun h => by simpa using fun hp => hgo ⟨h, hp⟩
              have hlt2 : i < j := by
                rcases Nat.lt_or_ge i j with h | h
                · exact h
                · have e : j = i := by omega
                  subst e
                  exact absurd ⟨hlt, hpl⟩ hgo
              clear hgo
              by_cases hin : ((s.extract i j).toList == [105, 110]) = true
              · have hk : lexK ((s.data.toList.drop i).take (j - i)) = 2 := kind_in s i j HW.out hin
                obtain ⟨hI', hcells0⟩ := inv_word HI.out hlt2 hjs HW.out hstop hk
                have hcells : Hid _ := hcells0
                have hI2 : Hid _ := hI'
                clear hcells0 hI' hk
                by_cases hj : j < s.size
                · have hp := hstop hj
                  clear hstop
                  go_wp2_with (first
                    | (go_at_call 21; refine (pl_no _ _ hp).mono ?_; rintro e w' ⟨r', rfl, hr', rfl⟩)
                    | (at_builtin; refine wpList_append_own _ rfl _ _ 35 rfl w.heap.size 39 i0 (.agg #[.int .i64 0, .string ⟨#[]⟩, .int .i64 0]) 3 32 Try.underlying35 hi0 hz0 hz1 hz2 rfl (by decide) _ _ _ rfl (hown.alloc _) ⟨wr.heap.size, 0, none⟩ 1 1 [.int .i64 2, .string (s.extract i j), .int .i64 (i : Int)] rfl rfl (cell_three_new _ _ _ _ _) (three_one _ _ _) (by unfold maxLen; omega) (by omega) (by have := hbel.size; simp; omega) ?_; intro v' w3 hown' hgrow3 hnil3; have X := push_keep hown hbel hown' hgrow3 hcells.out; clear hown' hgrow3 hnil3))
                  go_roundw
                  case rel => exact ⟨j, _, rfl, X.1, X.2, hI2.out, hjs, by simp; omega⟩
                  case measure => simp [intOf]; omega
                · clear hstop
                  go_wp2_with (at_builtin; refine wpList_append_own _ rfl _ _ 35 rfl w.heap.size 39 i0 (.agg #[.int .i64 0, .string ⟨#[]⟩, .int .i64 0]) 3 32 Try.underlying35 hi0 hz0 hz1 hz2 rfl (by decide) _ _ _ rfl (hown.alloc _) ⟨wr.heap.size, 0, none⟩ 1 1 [.int .i64 2, .string (s.extract i j), .int .i64 (i : Int)] rfl rfl (cell_three_new _ _ _ _ _) (three_one _ _ _) (by unfold maxLen; omega) (by omega) (by have := hbel.size; simp; omega) ?_; intro v' w3 hown' hgrow3 hnil3; have X := push_keep hown hbel hown' hgrow3 hcells.out; clear hown' hgrow3 hnil3)
                  go_roundw
                  case rel => exact ⟨j, _, rfl, X.1, X.2, hI2.out, hjs, by simp; omega⟩
                  case measure => simp [intOf]; omega
              have hin' : ((s.extract i j).toList == [105, 110]) = false := by simpa using hin
              clear hin
              by_cases hnot : ((s.extract i j).toList == [110, 111, 116, 105, 110]) = true
              · have hk : lexK ((s.data.toList.drop i).take (j - i)) = 2 := kind_notin s i j HW.out hnot
                obtain ⟨hI', hcells0⟩ := inv_word HI.out hlt2 hjs HW.out hstop hk
                have hcells : Hid _ := hcells0
                have hI2 : Hid _ := hI'
                clear hcells0 hI' hk
                by_cases hj : j < s.size
                · have hp := hstop hj
                  clear hstop
                  go_wp2_with (first
                    | (go_at_call 21; refine (pl_no _ _ hp).mono ?_; rintro e w' ⟨r', rfl, hr', rfl⟩)
                    | (at_builtin; refine wpList_append_own _ rfl _ _ 35 rfl w.heap.size 39 i0 (.agg #[.int .i64 0, .string ⟨#[]⟩, .int .i64 0]) 3 32 Try.underlying35 hi0 hz0 hz1 hz2 rfl (by decide) _ _ _ rfl (hown.alloc _) ⟨wr.heap.size, 0, none⟩ 1 1 [.int .i64 2, .string (s.extract i j), .int .i64 (i : Int)] rfl rfl (cell_three_new _ _ _ _ _) (three_one _ _ _) (by unfold maxLen; omega) (by omega) (by have := hbel.size; simp; omega) ?_; intro v' w3 hown' hgrow3 hnil3; have X := push_keep hown hbel hown' hgrow3 hcells.out; clear hown' hgrow3 hnil3))
                  go_roundw
                  case rel => exact ⟨j, _, rfl, X.1, X.2, hI2.out, hjs, by simp; omega⟩
                  case measure => simp [intOf]; omega
                · clear hstop
                  go_wp2_with (at_builtin; refine wpList_append_own _ rfl _ _ 35 rfl w.heap.size 39 i0 (.agg #[.int .i64 0, .string ⟨#[]⟩, .int .i64 0]) 3 32 Try.underlying35 hi0 hz0 hz1 hz2 rfl (by decide) _ _ _ rfl (hown.alloc _) ⟨wr.heap.size, 0, none⟩ 1 1 [.int .i64 2, .string (s.extract i j), .int .i64 (i : Int)] rfl rfl (cell_three_new _ _ _ _ _) (three_one _ _ _) (by unfold maxLen; omega) (by omega) (by have := hbel.size; simp; omega) ?_; intro v' w3 hown' hgrow3 hnil3; have X := push_keep hown hbel hown' hgrow3 hcells.out; clear hown' hgrow3 hnil3)
                  go_roundw
                  case rel => exact ⟨j, _, rfl, X.1, X.2, hI2.out, hjs, by simp; omega⟩
                  case measure => simp [intOf]; omega
              have hnot' : ((s.extract i j).toList == [110, 111, 116, 105, 110]) = false := by simpa using hnot
              clear hnot
              · have hk : lexK ((s.data.toList.drop i).take (j - i)) = 1 := kind_word s i j HW.out hin' hnot'
                obtain ⟨hI', hcells0⟩ := inv_word HI.out hlt2 hjs HW.out hstop hk
                have hcells : Hid _ := hcells0
                have hI2 : Hid _ := hI'
                clear hcells0 hI' hk
                by_cases hj : j < s.size
                · have hp := hstop hj
                  clear hstop
                  go_wp2_with (first
                    | (go_at_call 21; refine (pl_no _ _ hp).mono ?_; rintro e w' ⟨r', rfl, hr', rfl⟩)
                    | (at_builtin; refine wpList_append_own _ rfl _ _ 35 rfl w.heap.size 39 i0 (.agg #[.int .i64 0, .string ⟨#[]⟩, .int .i64 0]) 3 32 Try.underlying35 hi0 hz0 hz1 hz2 rfl (by decide) _ _ _ rfl (hown.alloc _) ⟨wr.heap.size, 0, none⟩ 1 1 [.int .i64 1, .string (s.extract i j), .int .i64 (i : Int)] rfl rfl (cell_three_new _ _ _ _ _) (three_one _ _ _) (by unfold maxLen; omega) (by omega) (by have := hbel.size; simp; omega) ?_; intro v' w3 hown' hgrow3 hnil3; have X := push_keep hown hbel hown' hgrow3 hcells.out; clear hown' hgrow3 hnil3))
                  go_roundw
                  case rel => exact ⟨j, _, rfl, X.1, X.2, hI2.out, hjs, by simp; omega⟩
                  case measure => simp [intOf]; omega
                · clear hstop
                  go_wp2_with (at_builtin; refine wpList_append_own _ rfl _ _ 35 rfl w.heap.size 39 i0 (.agg #[.int .i64 0, .string ⟨#[]⟩, .int .i64 0]) 3 32 Try.underlying35 hi0 hz0 hz1 hz2 rfl (by decide) _ _ _ rfl (hown.alloc _) ⟨wr.heap.size, 0, none⟩ 1 1 [.int .i64 1, .string (s.extract i j), .int .i64 (i : Int)] rfl rfl (cell_three_new _ _ _ _ _) (three_one _ _ _) (by unfold maxLen; omega) (by omega) (by have := hbel.size; simp; omega) ?_; intro v' w3 hown' hgrow3 hnil3; have X := push_keep hown hbel hown' hgrow3 hcells.out; clear hown' hgrow3 hnil3)
                  go_roundw
                  case rel => exact ⟨j, _, rfl, X.1, X.2, hI2.out, hjs, by simp; omega⟩
                  case measure => simp [intOf]; omega
        · clear hd
          obtain ⟨k, hk⟩ : ∃ k, (symG (s.data.toList.drop i)).1 = k := ⟨_, rfl⟩
          rw [hk] at hS
          have HC : Hid (∀ w, Calls Try.prog 20 #[.string (s.extract i s.size)] w fun e w' => e = .returned (.tuple #[.int .i64 k, .int .i64 (n : Int)]) ∧ w = w') := fun w => sym_call s i k (n : Int) w hlt hk g2
          clear hk g2
          rcases hn with rfl | rfl
          · obtain ⟨hle, hI', hcells0⟩ := inv_sym HI.out hlt (by omega) hS
            have hcells : Hid _ := hcells0
            clear hS hcells0
            go_wp2_with (first
              | (go_at_call 21; refine (sp_no _ _ hsp').mono ?_; rintro e w' ⟨r, rfl, hr, rfl⟩)
              | (go_at_call 20; refine (HC.out _).mono ?_; rintro e w' ⟨rfl, rfl⟩)
              | (at_builtin; refine wpList_append_own _ rfl _ _ 35 rfl w.heap.size 39 i0 (.agg #[.int .i64 0, .string ⟨#[]⟩, .int .i64 0]) 3 32 Try.underlying35 hi0 hz0 hz1 hz2 rfl (by decide) _ _ _ rfl (hown.alloc _) ⟨wr.heap.size, 0, none⟩ 1 1 [.int .i64 k, .string (s.extract i (i + 1)), .int .i64 (i : Int)] rfl rfl (cell_three_new _ _ _ _ _) (three_one _ _ _) (by unfold maxLen; omega) (by omega) (by have := hbel.size; simp; omega) ?_; intro v' w3 hown' hgrow3 hnil3; have X := push_keep hown hbel hown' hgrow3 hcells.out; clear hown' hgrow3 hnil3))
            go_roundw
            case rel => exact ⟨i + 1, _, by go_num, X.1, X.2, hI', by omega, by simp; omega⟩
            case measure => simp [intOf]; omega
          · obtain ⟨hle, hI', hcells0⟩ := inv_sym HI.out hlt (by omega) hS
            have hcells : Hid _ := hcells0
            clear hS hcells0
            go_wp2_with (first
              | (go_at_call 21; refine (sp_no _ _ hsp').mono ?_; rintro e w' ⟨r, rfl, hr, rfl⟩)
              | (go_at_call 20; refine (HC.out _).mono ?_; rintro e w' ⟨rfl, rfl⟩)
              | (at_builtin; refine wpList_append_own _ rfl _ _ 35 rfl w.heap.size 39 i0 (.agg #[.int .i64 0, .string ⟨#[]⟩, .int .i64 0]) 3 32 Try.underlying35 hi0 hz0 hz1 hz2 rfl (by decide) _ _ _ rfl (hown.alloc _) ⟨wr.heap.size, 0, none⟩ 1 1 [.int .i64 k, .string (s.extract i (i + 2)), .int .i64 (i : Int)] rfl rfl (cell_three_new _ _ _ _ _) (three_one _ _ _) (by unfold maxLen; omega) (by omega) (by have := hbel.size; simp; omega) ?_; intro v' w3 hown' hgrow3 hnil3; have X := push_keep hown hbel hown' hgrow3 hcells.out; clear hown' hgrow3 hnil3))
            go_roundw
            case rel => exact ⟨i + 2, _, by go_num, X.1, X.2, hI', by omega, by simp; omega⟩
            case measure => simp [intOf]; omega
    · have hend := inv_end HI.out hlt
      have hl : (scan s.data.toList [] 0).length ≤ s.size := by rw [hend]; omega
      have hcells : Hid (flat ts ++ [.int .i64 0, .string ⟨#[]⟩, .int .i64 (s.size : Int)] = flat (ts ++ [⟨0, [], s.size⟩])) := by
        show _ = _
        rw [flat_append, flat_one]; rfl
      have HE : Hid (scan s.data.toList [] 0 = ts) := hend
      clear hend
      go_wp2_with (at_builtin; refine wpList_append_own _ rfl _ _ 35 rfl w.heap.size 39 i0 (.agg #[.int .i64 0, .string ⟨#[]⟩, .int .i64 0]) 3 32 Try.underlying35 hi0 hz0 hz1 hz2 rfl (by decide) _ _ _ rfl (hown.alloc _) ⟨wr.heap.size, 0, none⟩ 1 1 [.int .i64 0, .string ⟨#[]⟩, .int .i64 (s.size : Int)] rfl rfl (cell_three_new _ _ _ _ _) (three_one _ _ _) (by unfold maxLen; omega) (by omega) (by have := hbel.size; simp; omega) ?_; intro v' w3 hown' hgrow3 hnil3; have X := push_keep hown hbel hown' hgrow3 hcells.out; clear hown' hgrow3 hnil3)
      go_ret
      refine ⟨v', rfl, ?_, X.2, hl⟩
      rw [HE.out]
      simpa using X.1
end Go.Proofs.Qxb6602505a
