/-
  SEAT b6602505a: the walk of 'ZZTokenize'.
-/
import Derived.Test.Qxb6602505aZzA
namespace Go.Proofs.Qxb6602505a
open Go.RowKit
open Pl

/-- all tokens, the end's too -/
def toks (l : List UInt8) : List Tok := scan l [] 0 ++ [⟨0, [], l.length⟩]

theorem tok_call (s : ByteArray) (w : World) (hs : s.size ≤ 4194304) (T : List Tok) (hT : T = toks s.data.toList) :
    Calls Try.prog 18 #[.string s] w fun e w' => ∃ g cap, e = .returned (.slice (some ⟨g, 0, none⟩) T.length cap) ∧
      w'.ownsRow w.heap.size 39 3 (.slice (some ⟨g, 0, none⟩) T.length cap) T.length (flat T) ∧ Below w.heap.size w w' ∧ T.length ≤ 4194305 ∧ g < w'.heap.size := by
  subst hT
  refine (tokenize_any s w hs).mono ?_
  rintro e w' ⟨v, rfl, hown, hb, hl⟩
  have hn : (toks s.data.toList).length = (scan s.data.toList [] 0).length + 1 := by simp [toks]
  have ht : toks s.data.toList = scan s.data.toList [] 0 ++ [⟨0, [], s.size⟩] := rfl
  rw [← ht, ← hn] at hown
  rcases hown.2 with ⟨_, h0⟩ | ⟨g, cap, cur, rfl, _⟩
  · omega
  · exact ⟨g, cap, rfl, hown, hb, by omega, (hown.lt g rfl).2⟩

theorem held_start {w w1 w2 w3 w4 : World} {T : List Tok} {g cap : Nat} (o1 : w1.ownsRow w.heap.size 39 3 (.slice (some ⟨g, 0, none⟩) T.length cap) T.length (flat T))
    (o2 : w2.ownsRow w.heap.size 3 1 (.slice (some ⟨w1.heap.size, 0, none⟩) T.length T.length) T.length (madeCells (Value.int .i64 0).cells (T.length * 1)).toList)
    (o3 : w3.ownsRow w.heap.size 9 1 (.slice (some ⟨w2.heap.size, 0, none⟩) T.length T.length) T.length (madeCells (Value.string ⟨#[]⟩).cells (T.length * 1)).toList)
    (o4 : w4.ownsRow w.heap.size 3 1 (.slice (some ⟨w3.heap.size, 0, none⟩) T.length T.length) T.length (madeCells (Value.int .i64 0).cells (T.length * 1)).toList)
    (g2 : w1.grownBy w2 none) (g3 : w2.grownBy w3 none) (g4 : w3.grownBy w4 none) (hb : Below w.heap.size w w1) (hs : w.heap.size ≤ w1.heap.size) :
    Held w.heap.size T g cap w1.heap.size w2.heap.size w3.heap.size 0 w4 ∧ Below w.heap.size w w4 ∧ w1.heap.size < w2.heap.size ∧ w2.heap.size < w3.heap.size := by
  have ei : (madeCells (Value.int .i64 0).cells (T.length * 1)).toList = col kV (.int .i64 0) T 0 := by rw [col_zero, Nat.mul_one]; exact toList_madeCells_one _ _
  have ea : (madeCells (Value.int .i64 0).cells (T.length * 1)).toList = col pV (.int .i64 0) T 0 := by rw [col_zero, Nat.mul_one]; exact toList_madeCells_one _ _
  have es : (madeCells (Value.string ⟨#[]⟩).cells (T.length * 1)).toList = col tV (.string ⟨#[]⟩) T 0 := by rw [col_zero, Nat.mul_one]; exact toList_madeCells_one _ _
  have l2 := (o2.lt _ rfl).2
  have l3 := (o3.lt _ rfl).2
  rw [ei] at o2
  rw [es] at o3
  rw [ea] at o4
  have no : ∀ b n c, (Value.slice (some ⟨b, 0, none⟩) n c).ownBlock = none ∨ (Value.slice (some ⟨b, 0, none⟩) n c).ownBlock ≠ none := fun b n c => .inr (by simp [Value.ownBlock])
  refine ⟨⟨((o1.kept g2 (no _ _ _)).kept g3 (no _ _ _)).kept g4 (no _ _ _), (o2.kept g3 (no _ _ _)).kept g4 (no _ _ _), o3.kept g4 (no _ _ _), o4⟩, ?_, l2, l3⟩
  have s2 := g2.size
  have s3 := g3.size
  exact ((hb.grown g2 hs (fun k e => by cases e)).grown g3 (by omega) (fun k e => by cases e)).grown g4 (by omega) (fun k e => by cases e)

set_option maxRecDepth 100000 in
set_option maxHeartbeats 1000000 in
theorem zz_any (s : ByteArray) (w : World) (hs : s.size ≤ 4194304) (T : List Tok) (hT : Hid (T = toks s.data.toList)) :
    Calls Try.prog 8 #[.string s] w fun e w' => ∃ bk bt ba,
      e = .returned (.tuple #[.slice (some ⟨bk, 0, none⟩) T.length T.length, .slice (some ⟨bt, 0, none⟩) T.length T.length, .slice (some ⟨ba, 0, none⟩) T.length T.length]) ∧
      Got T bk bt ba w' ∧ Below w.heap.size w w' := by
  obtain ⟨i3, hi3, ha0, ha1, ha2⟩ := info_parts info3
  obtain ⟨i9, hi9, hb0, hb1, hb2⟩ := info_parts info9
  go_enter Try.func8, Try.ntmps8
  go_wp2_with (first
    | (go_at_call 18; refine (tok_call s _ hs T hT.out).mono ?_; rintro e w1 ⟨g, cap, rfl, hown1, hbel1, hn, hg1⟩; have hsz1 := hbel1.size)
    | (at_make; refine wpList_make_full _ rfl (.tmp 13) (.tmp 13) 23 rfl w.heap.size 3 i3 (.int .i64 0) 1 Try.underlying23 hi3 ha0 ha1 .i64 .i64 _ _ T.length rfl rfl rfl rfl (by rw [ha2]; omega) (by unfold maxLen; omega) hsz1 ?_; intro w2 hown2 hgr2; have hsz2 := hgr2.size)
    | (at_make; refine wpList_make_full _ rfl (.tmp 16) (.tmp 16) 24 rfl w.heap.size 9 i9 (.string ⟨#[]⟩) 1 Try.underlying24 hi9 hb0 hb1 .i64 .i64 _ _ T.length rfl rfl rfl rfl (by rw [hb2]; omega) (by unfold maxLen; omega) (by omega) ?_; intro w3 hown3 hgr3; have hsz3 := hgr3.size)
    | (at_make; refine wpList_make_full _ rfl (.tmp 19) (.tmp 19) 23 rfl w.heap.size 3 i3 (.int .i64 0) 1 Try.underlying23 hi3 ha0 ha1 .i64 .i64 _ _ T.length rfl rfl rfl rfl (by rw [ha2]; omega) (by unfold maxLen; omega) (by omega) ?_; intro w4 hown4 hgr4; have hsz4 := hgr4.size))
  have HS := held_start hown1 hown2 hown3 hown4 hgr2 hgr3 hgr4 hbel1 hsz1
  obtain ⟨hH4, hB4, e12, e23⟩ := HS
  have hw3 := (hown4.lt _ rfl).2
  have n1 : g ≠ w1.heap.size := by omega
  have n2 : g ≠ w2.heap.size := by omega
  have n3 : g ≠ w3.heap.size := by omega
  have n4 : w1.heap.size ≠ w2.heap.size := by omega
  have n5 : w1.heap.size ≠ w3.heap.size := by omega
  have n6 : w2.heap.size ≠ w3.heap.size := by omega
  have le1 : w.heap.size ≤ w1.heap.size := by omega
  have le2 : w.heap.size ≤ w2.heap.size := by omega
  have le3 : w.heap.size ≤ w3.heap.size := by omega
  clear hown1 hown2 hown3 hown4 hgr2 hgr3 hgr4 hbel1 hsz2 hsz3 hsz4 hsz1
  have c39 : Try.prog.cellsOf 39 = 3 := by kernel_rfl
  have c3 : Try.prog.cellsOf 3 = 1 := by kernel_rfl
  have c9 : Try.prog.cellsOf 9 = 1 := by kernel_rfl
  go_loopw [9] (fun iv wr => ∃ k : Nat, k ≤ T.length ∧ iv = .int .i64 k ∧ Held w.heap.size T g cap w1.heap.size w2.heap.size w3.heap.size k wr ∧ Below w.heap.size w wr) (fun iv _ => T.length - (intOf iv).toNat)
  case atStart => exact ⟨0, Nat.zero_le _, rfl, hH4, hB4⟩
  case round =>
    obtain ⟨k, hk, rfl, hH, hB⟩ := hrel
    by_cases hlt : k < T.length
    · obtain ⟨q0, q1, q2, f0, f1, f2, ⟨v0, o0⟩, ⟨v1, o1⟩, ⟨v2, o2⟩⟩ := held_cells hH hlt
      simp only [kV, tV, pV] at q0 q1 q2
      go_wp2
      go_roundw
      case rel => exact ⟨k + 1, by omega, by go_num, held_step hH hlt n1 n2 n3 n4 n5 n6, ((hB.setCell (by exact le1) _).setCell (by exact le2) _).setCell (by exact le3) _⟩
      case measure => simp [intOf]; omega
    · have hkk : k = T.length := by omega
      subst hkk
      have hG := hH.got
      go_wp2
      go_ret3
      exact ⟨_, _, _, rfl, hG, hB⟩
end Go.Proofs.Qxb6602505a
