/-
  SEAT b6602505a: 'FnTokenizeRespacedIsAFixedPoint': its walk.
-/
import Derived.Test.Qxb6602505aRespA
namespace Go.Proofs.Qxb6602505a
open Go.RowKit
open Pl
open Go.Lib (byteCells)

theorem info5 : (Try.prog.info? 5).map (fun i => (i.zero, i.size, i.bytes)) = some (some (.int .u8 0), 1, 1) := by kernel_rfl

theorem push_byte {w1 wr w3 : World} {v v' : Value} {l : List UInt8} {c : UInt8} {o : Obj} (hown : wr.ownsRow w1.heap.size 5 1 v l.length (byteCells l)) (hbel : Below w1.heap.size w1 wr)
    (hown' : w3.ownsRow w1.heap.size 5 1 v' (l.length + 1) (byteCells l ++ [.int .u8 (c.toNat : Int)])) (hg : (wr.alloc o).grownBy w3 v.ownBlock) :
    w3.ownsRow w1.heap.size 5 1 v' (l ++ [c]).length (byteCells (l ++ [c])) ∧ Below w1.heap.size w1 w3 := by
  have hsz := hbel.size
  refine ⟨?_, Below.grown (hbel.alloc hsz _) hg (by simp; omega) (fun j hj => (hown.lt _ hj).1)⟩
  have e : byteCells l ++ [.int .u8 (c.toNat : Int)] = byteCells (l ++ [c]) := by simp [byteCells]
  rw [e] at hown'
  simpa using hown'

theorem one_byte (n : Int) : ∀ x ∈ [Value.int .u8 n], x.oneCell' = true := by
  intro x hx
  simp at hx
  subst hx; rfl

theorem take_byte (x : ByteArray) (j : Nat) (h : j < x.size) (pre : List UInt8) : pre ++ x.data.toList.take (j + 1) = (pre ++ x.data.toList.take j) ++ [x[j]] := by
  rw [List.take_succ_eq_append_getElem (by rw [len_data]; exact h), List.append_assoc]
  rfl

theorem conv_own {w : World} {B : Nat} {v : Value} {l : List UInt8} (h : w.ownsRow B 5 1 v l.length (byteCells l)) : (convert 31 9 v).run Try.prog w = .ok (.string ⟨l.toArray⟩) w := by
  rcases h.2 with ⟨rfl, h0⟩ | ⟨g, cap, cur, rfl, _, hg, _, _, _, htk⟩
  · have : l = [] := List.eq_nil_of_length_eq_zero h0
    subst this
    exact Lib.run_convert_nil_bytes w 31 9 5 0 Try.underlying31 Try.underlying5 Try.underlying9
  · rw [Nat.mul_one] at htk
    exact run_convert_bytes_back w 31 9 5 ⟨g, 0, none⟩ cap l Try.underlying31 Try.underlying5 Try.underlying9 (Lib.bytes_of_row hg htk)

set_option maxHeartbeats 400000 in
theorem bytes1_any (s : ByteArray) (w : World) (hs : s.size ≤ maxLen) :
    Calls Try.prog 14 #[.string s] w fun e w' => e = .returned (.bool (decide (s.size ≤ 1048576))) ∧ w = w' := by
  unfold maxLen at hs
  by_cases h : s.size ≤ 1048576
  · go_enter Try.func14, Try.ntmps14
    go_wp2
    go_ret
    exact ⟨by simp [h], rfl⟩
  · go_enter Try.func14, Try.ntmps14
    go_wp2
    go_ret
    exact ⟨by simp [h], rfl⟩

def TextIs (A : List Tok) (i : Nat) (x : ByteArray) : Prop := ∃ t, A[i]? = some t ∧ t.text = x.data.toList

/-- what the first loop reads -/
theorem text_at {w1 wr : World} {s : ByteArray} {A T1 T2 : List Tok} {m k1 t1 a1 i : Nat} (R : Resp s A T1 T2 m) (hG : Got T1 k1 t1 a1 w1) (hB : Below w1.heap.size w1 wr) (hi : i < m) :
    ∃ x : ByteArray, wr.cell? ⟨t1, i, none⟩ = some (.string x) ∧ TextIs A i x ∧ x.size ≤ 2097152 := by
  have hlA : i < A.length := by rw [R.len]; exact hi
  have l1 : i < T1.length := by rw [R.n1]; omega
  have e1 : T1[i] = A[i] := by simp only [R.t1, List.getElem_append_left hlA]
  refine ⟨⟨A[i].text.toArray⟩, ?_, ⟨A[i], by simp [hlA], rfl⟩, ?_⟩
  · rw [hB.cell (p := ⟨t1, i, none⟩) hG.ltt, hG.ct i l1, e1]; rfl
  · have h2 := R.jle (i + 1)
    have h3 : A[i].text.length ≤ (jn A (i + 1)).length := by
      cases i with
      | zero => rw [jn_one A hlA]; exact Nat.le_refl _
      | succ i => rw [jn_succ A (i + 1) (by omega) hlA]; simp; omega
    show A[i].text.toArray.size ≤ _
    simp; omega

theorem jn_next {A : List Tok} {x : ByteArray} {i : Nat} (hi : 0 < i) (h : TextIs A i x) : jn A i ++ [32] ++ x.data.toList.take x.size = jn A (i + 1) := by
  obtain ⟨t, h1, h2⟩ := h
  obtain ⟨h3, rfl⟩ := List.getElem?_eq_some_iff.1 h1
  rw [jn_succ A i hi h3, h2, List.take_of_length_le (by rw [len_data]; exact Nat.le_refl _)]

theorem jn_first {A : List Tok} {x : ByteArray} {i : Nat} (hi : i = 0) (h : TextIs A i x) : jn A i ++ x.data.toList.take x.size = jn A (i + 1) := by
  subst hi
  obtain ⟨t, h1, h2⟩ := h
  obtain ⟨h3, rfl⟩ := List.getElem?_eq_some_iff.1 h1
  rw [jn_zero, jn_one A h3, h2, List.take_of_length_le (by rw [len_data]; exact Nat.le_refl _)]
  rfl

/-- what the last loop reads at i -/
theorem both_at {w2 : World} {s : ByteArray} {A T1 T2 : List Tok} {m k1 t1 a1 k2 t2 a2 i : Nat} (R : Resp s A T1 T2 m) (hG1 : Got T1 k1 t1 a1 w2) (hG2 : Got T2 k2 t2 a2 w2) (hi : i < m) :
    ∃ (k : Int) (x : ByteArray) (o : Nat), Hid (off (A.map Tok.text) i = o) ∧ Hid (off (A.map Tok.text) (i + 1) = o + (x.size + 1)) ∧ o ≤ 2097152 ∧ x.size ≤ 2097152 ∧
      w2.cell? ⟨k2, i, none⟩ = some (.int .i64 k) ∧ w2.cell? ⟨k1, i, none⟩ = some (.int .i64 k) ∧ w2.cell? ⟨t2, i, none⟩ = some (.string x) ∧ w2.cell? ⟨t1, i, none⟩ = some (.string x) ∧ w2.cell? ⟨a2, i, none⟩ = some (.int .i64 (o : Int)) := by
  have hlA : i < A.length := by rw [R.len]; exact hi
  have l1 : i < T1.length := by rw [R.n1]; omega
  have l2 : i < T2.length := by rw [R.n2]; omega
  have e1 : T1[i] = A[i] := by simp only [R.t1, List.getElem_append_left hlA]
  have e2 : T2[i] = ⟨A[i].kind, A[i].text, off (A.map Tok.text) i⟩ := by
    have := R.eq i A[i] (List.getElem?_eq_getElem hlA)
    rw [List.getElem?_eq_getElem l2] at this
    exact Option.some.inj this
  have hs : (⟨A[i].text.toArray⟩ : ByteArray).size = A[i].text.length := by show A[i].text.toArray.size = _; simp
  have ho := R.onx i A[i] (List.getElem?_eq_getElem hlA)
  have h1 := R.ole (i + 1) (by omega)
  refine ⟨A[i].kind, ⟨A[i].text.toArray⟩, _, rfl, ?_, R.ole i (by omega), by omega, ?_, ?_, ?_, ?_, ?_⟩
  · show _ = _
    rw [ho, hs]
  · rw [hG2.ck i l2, e2]; rfl
  · rw [hG1.ck i l1, e1]; rfl
  · rw [hG2.ct i l2, e2]; rfl
  · rw [hG1.ct i l1, e1]; rfl
  · rw [hG2.ca i l2, e2]; rfl

/-- what the law reads at the end -/
theorem both_end {w2 : World} {s J : ByteArray} {A T1 T2 : List Tok} {m k1 t1 a1 k2 t2 a2 : Nat} (R : Resp s A T1 T2 m) (hG1 : Got T1 k1 t1 a1 w2) (hG2 : Got T2 k2 t2 a2 w2) (hJ : J = ⟨(jn A m).toArray⟩) :
    w2.cell? ⟨k2, m, none⟩ = some (.int .i64 0) ∧ w2.cell? ⟨k1, m, none⟩ = some (.int .i64 0) ∧ w2.cell? ⟨t2, m, none⟩ = some (.string ⟨#[]⟩) ∧ w2.cell? ⟨t1, m, none⟩ = some (.string ⟨#[]⟩) ∧ w2.cell? ⟨a2, m, none⟩ = some (.int .i64 (J.size : Int)) := by
  have l1 : m < T1.length := by rw [R.n1]; omega
  have l2 : m < T2.length := by rw [R.n2]; omega
  have e1 : T1[m] = ⟨0, [], s.size⟩ := by
    have hm := R.len
    simp only [R.t1]
    rw [List.getElem_append_right (by omega)]
    simp
  have e2 : T2[m] = ⟨0, [], (jn A m).length⟩ := by
    have := R.last
    rw [List.getElem?_eq_getElem l2] at this
    exact Option.some.inj this
  have hs : J.size = (jn A m).length := by rw [hJ]; show (jn A m).toArray.size = _; simp
  refine ⟨?_, ?_, ?_, ?_, ?_⟩
  · rw [hG2.ck m l2, e2]; rfl
  · rw [hG1.ck m l1, e1]; rfl
  · rw [hG2.ct m l2, e2]; rfl
  · rw [hG1.ct m l1, e1]; rfl
  · rw [hG2.ca m l2, e2, hs]; rfl

set_option maxRecDepth 100000 in
set_option maxHeartbeats 1000000 in
theorem resp_in (s : ByteArray) (w : World) (hs : s.size ≤ 1048576) :
    Calls Try.prog 4 #[.string s] w fun e w' => e = .returned (.bool true) ∧ Below w.heap.size w w' := by
  have ms : s.size ≤ maxLen := by unfold maxLen; omega
  obtain ⟨i5, hi5, hz0, hz1, hz2⟩ := info_parts info5
  obtain ⟨A, T1, T2, m, R, hT1⟩ : ∃ A T1 T2 m, Resp s A T1 T2 m ∧ Hid (T1 = toks s.data.toList) := ⟨_, _, _, _, resp_of s hs, rfl⟩
  have hn1 : Hid (T1.length = m + 1) := R.n1
  have hn2 : Hid (T2.length = m + 1) := R.n2
  have hmle := R.mle
  obtain ⟨J, hJ⟩ : ∃ J : ByteArray, Hid (J = ⟨(jn A m).toArray⟩) := ⟨_, rfl⟩
  have hT2 : Hid (T2 = toks J.data.toList) := by rw [hJ.out]; exact R.t2
  have hjs : J.size ≤ 4194304 := by
    have := R.jle m
    rw [hJ.out]
    show (jn A m).toArray.size ≤ _
    simp; omega
  have hz : ((m : Int) + 1 == 0) = false := by rw [beq_eq_false_iff_ne]; omega
  go_enter Try.func4, Try.ntmps4
  go_wp2_with (first
    | (go_at_call 14; refine (bytes1_any _ _ ms).mono ?_; rintro e w' ⟨rfl, rfl⟩; rw [decide_eq_true hs])
    | (go_at_call_of 8 (Value.string s); refine (zz_call s _ (by omega) T1 (m + 1) hT1 hn1).mono ?_; rintro e w1 ⟨k1, t1, a1, rfl, hG, hB1⟩))
  go_loopw [7, 8] (fun v iv wr => ∃ i : Nat, i ≤ m ∧ iv = .int .i64 i ∧ wr.ownsRow w1.heap.size 5 1 v (jn A i).length (byteCells (jn A i)) ∧ Below w1.heap.size w1 wr) (fun _ iv _ => m - (intOf iv).toNat)
  case atStart => exact ⟨0, Nat.zero_le _, rfl, by rw [jn_zero]; exact World.ownsRow_nil _ _ _ _, Below.refl _ _⟩
  case round =>
    obtain ⟨i, hi, rfl, hown, hbel⟩ := hrel
    have hjle := R.jle i
    have hsz := hbel.size
    by_cases hlt : i < m
    · obtain ⟨x, cx, hx, hxs⟩ := text_at R hG hbel hlt
      have q1 : (i : Int) < (m : Int) + 1 := by omega
      by_cases hi0 : i = 0
      · have Hi0 : Hid (i = 0) := hi0
        have hix : ¬ (0 : Int) < (i : Int) := by omega
        clear hi0
        go_wp2
        go_loopw [7, 10] (fun v jv wr => ∃ j : Nat, j ≤ x.size ∧ jv = .int .i64 j ∧ wr.ownsRow w1.heap.size 5 1 v (jn A i ++ x.data.toList.take j).length (byteCells (jn A i ++ x.data.toList.take j)) ∧ Below w1.heap.size w1 wr) (fun _ jv _ => x.size - (intOf jv).toNat)
        case atStart => exact ⟨0, Nat.zero_le _, rfl, by simpa using hown, hbel⟩
        case round =>
          obtain ⟨j, hj, rfl, hown4, hbel4⟩ := hrel
          have hsz4 := hbel4.size
          by_cases hltj : j < x.size
          · have hl4 : (jn A i ++ x.data.toList.take j).length ≤ 4194400 := by rw [List.length_append, List.length_take, len_data]; (try rw [List.length_append, List.length_singleton]); omega
            have htk : Hid (jn A i ++ x.data.toList.take (j + 1) = (jn A i ++ x.data.toList.take j) ++ [x[j]]) := take_byte x j hltj _
            go_wp2_with (at_builtin; refine wpList_append_own _ rfl (.tmp 60) (.tmp 64) 31 rfl w1.heap.size 5 i5 (.int .u8 0) 1 1 Try.underlying31 hi5 hz0 hz1 hz2 rfl (by decide) _ _ _ rfl (hown4.alloc _) ⟨wr.heap.size, 0, none⟩ 1 1 [.int .u8 (x[j].toNat : Int)] rfl rfl (cell_one_new _ _ _) (one_byte _) (by unfold maxLen; omega) (by omega) (by simp; omega) ?_; intro v4 w4 hown5 hgrow5 hnil5; have Y := push_byte (c := x[j]) hown4 hbel4 hown5 hgrow5; clear hown5 hgrow5 hnil5)
            go_roundw
            case rel => exact ⟨j + 1, by omega, by go_num, by rw [htk.out]; exact Y.1, Y.2⟩
            case measure => simp [intOf]; omega
          · have hje : j = x.size := by omega
            subst hje
            rw [jn_first Hi0.out hx] at hown4
            go_wp2
            go_roundw
            case rel => exact ⟨i + 1, by omega, by go_num, hown4, hbel4⟩
            case measure => simp [intOf]; omega
      · have hip : 0 < i := by omega
        have hix : (0 : Int) < (i : Int) := by omega
        go_wp2_with (at_builtin; refine wpList_append_own _ rfl (.tmp 47) (.tmp 48) 31 rfl w1.heap.size 5 i5 (.int .u8 0) 1 1 Try.underlying31 hi5 hz0 hz1 hz2 rfl (by decide) _ _ _ rfl (hown.alloc _) ⟨wr.heap.size, 0, none⟩ 1 1 [.int .u8 32] rfl rfl (cell_one_new _ _ _) (one_byte _) (by unfold maxLen; omega) (by omega) (by simp; omega) ?_; intro v' w3 hown' hgrow3 hnil3; have X := push_byte (c := 32) hown hbel hown' hgrow3; have cx3 := (World.cell?_of_block (X.2.block t1 hG.ltt)).trans ((World.cell?_of_block (hbel.block t1 hG.ltt)).symm.trans cx); clear hown' hgrow3 hnil3)
        go_loopw [7, 10] (fun v jv wr => ∃ j : Nat, j ≤ x.size ∧ jv = .int .i64 j ∧ wr.ownsRow w1.heap.size 5 1 v ((jn A i ++ [32]) ++ x.data.toList.take j).length (byteCells ((jn A i ++ [32]) ++ x.data.toList.take j)) ∧ Below w1.heap.size w1 wr) (fun _ jv _ => x.size - (intOf jv).toNat)
        case atStart => exact ⟨0, Nat.zero_le _, rfl, by simpa using X.1, X.2⟩
        case round =>
          obtain ⟨j, hj, rfl, hown4, hbel4⟩ := hrel
          have hsz4 := hbel4.size
          by_cases hltj : j < x.size
          · have hl4 : ((jn A i ++ [32]) ++ x.data.toList.take j).length ≤ 4194400 := by rw [List.length_append, List.length_take, len_data]; (try rw [List.length_append, List.length_singleton]); omega
            have htk : Hid ((jn A i ++ [32]) ++ x.data.toList.take (j + 1) = ((jn A i ++ [32]) ++ x.data.toList.take j) ++ [x[j]]) := take_byte x j hltj _
            go_wp2_with (at_builtin; refine wpList_append_own _ rfl (.tmp 60) (.tmp 64) 31 rfl w1.heap.size 5 i5 (.int .u8 0) 1 1 Try.underlying31 hi5 hz0 hz1 hz2 rfl (by decide) _ _ _ rfl (hown4.alloc _) ⟨wr.heap.size, 0, none⟩ 1 1 [.int .u8 (x[j].toNat : Int)] rfl rfl (cell_one_new _ _ _) (one_byte _) (by unfold maxLen; omega) (by omega) (by simp; omega) ?_; intro v4 w4 hown5 hgrow5 hnil5; have Y := push_byte (c := x[j]) hown4 hbel4 hown5 hgrow5; clear hown5 hgrow5 hnil5)
            go_roundw
            case rel => exact ⟨j + 1, by omega, by go_num, by rw [htk.out]; exact Y.1, Y.2⟩
            case measure => simp [intOf]; omega
          · have hje : j = x.size := by omega
            subst hje
            rw [jn_next hip hx] at hown4
            go_wp2
            go_roundw
            case rel => exact ⟨i + 1, by omega, by go_num, hown4, hbel4⟩
            case measure => simp [intOf]; omega
    · have him : i = m := by omega
      subst him
      have hconv : (convert 31 9 u7).run Try.prog wr = .ok (.string J) wr := by rw [hJ.out]; exact conv_own hown
      go_wp2_with (go_at_call 8; refine (zz_call J _ hjs T2 (i + 1) hT2 hn2).mono ?_; rintro e w2 ⟨k2, t2, a2, rfl, hG2, hB2⟩)
      have hsz2 := hB2.size
      have hG1 : Got T1 k1 t1 a1 w2 := (hG.below hbel (Nat.le_refl _) hsz).below hB2 (Nat.le_refl _) hsz2
      have hBw : Below w.heap.size w w2 := (hB1.trans (hbel.mono hB1.size)).trans (hB2.mono (Nat.le_trans hB1.size hsz))
      clear hconv hown hbel hB1 hB2 hG
      go_loopw [15, 16] (fun av iv wr => ∃ j n : Nat, j ≤ i ∧ iv = .int .i64 j ∧ av = .int .i64 (off (A.map Tok.text) j : Int) ∧ wr = w2.drewN n) (fun _ iv _ => i - (intOf iv).toNat)
      case atStart => exact ⟨0, 0, Nat.zero_le _, rfl, by simp [off], rfl⟩
      case round =>
        obtain ⟨j, n, hj, rfl, rfl, rfl⟩ := hrel
        by_cases hltj : j < i
        · obtain ⟨k, x, o, ho, hon, hole, hxle, c1, c2, c3, c4, c5⟩ := both_at R hG1 hG2 hltj
          have q1 : (j : Int) < (i : Int) + 1 := by omega
          rw [ho.out]
          go_wp2
          go_quiet (fail)
          go_wp2
          go_roundw
          case rel => exact ⟨j + 1, _, by omega, by go_num, by rw [hon.out]; go_num, rfl⟩
          case measure => simp [intOf]; omega
        · obtain ⟨c1, c2, c3, c4, c5⟩ := both_end R hG1 hG2 hJ.out
          have q1 : (i : Int) < (i : Int) + 1 := by omega
          go_wp2
          go_quiet (fail)
          go_wp2
          go_ret
          exact ⟨rfl, below_drewN (below_drewN hBw _) _⟩

set_option maxRecDepth 100000 in
set_option maxHeartbeats 400000 in
theorem resp_any (s : ByteArray) (hs : s.size ≤ maxLen) (w : World) :
    Calls Try.prog 4 #[.string s] w fun e w' => e = .returned (.bool true) ∧ Below w.heap.size w w' := by
  by_cases h : s.size ≤ 1048576
  · exact resp_in s w h
  · go_enter Try.func4, Try.ntmps4
    go_wp2_with (go_at_call 14; refine (bytes1_any _ _ hs).mono ?_; rintro e w' ⟨rfl, rfl⟩; rw [decide_eq_false h])
    go_ret
    exact ⟨rfl, Below.refl _ _⟩

end Go.Proofs.Qxb6602505a
