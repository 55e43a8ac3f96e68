/-
  SEAT b6602697a: the walk of lastSegment (a range over a string), of EndsInVariable and of endsIn.
-/
import Derived.Test.Qxb6602697aWalkA
import Derived.Lib.OthersKept
namespace Go.Proofs.Qxb6602697a
open Go.RowKit
open Pl

theorem iterPos_at (w : World) (o : Obj) (s : ByteArray) (p : Nat) : ((w.alloc o).alloc (.stringIter s p)).iterPos (w.heap.size + 1) = p := by
  have h := World.iter_heap (w.alloc o) s p
  rw [show (w.alloc o).heap.size = w.heap.size + 1 from by simp] at h
  unfold World.iterPos
  rw [show ((w.alloc o).alloc (.stringIter s p)) = (w.alloc o).iter s p from rfl, h]

theorem next_rel {l : List UInt8} {q0 : Q} {pos n : Nat} {c : Int} {q q' : Q} (H : Hid (srun l 0 q0 = srun (l.drop pos) pos q)) (hO : Ok pos q) (hn : 1 ≤ n) (HR : Hid (srun (l.drop pos) pos q = srun (l.drop (pos + n)) (pos + n) (sstep pos c q))) (e : sstep pos c q = q') :
    Hid (srun l 0 q0 = srun (l.drop (pos + n)) (pos + n) q') ∧ Ok (pos + n) q' := by
  subst e
  exact ⟨H.out.trans HR.out, ok_step pos n c q hO hn⟩

theorem st_open {pos : Nat} {c d st co : Int} (h : (c == 123) = true) : sstep pos c ⟨d, st, co⟩ = ⟨d + 1, st, co⟩ := by simp [sstep, h]
theorem st_close {pos : Nat} {c d st co : Int} (h0 : (c == 123) = false) (h : (c == 125) = true) : sstep pos c ⟨d, st, co⟩ = ⟨d - 1, st, co⟩ := by simp [sstep, h0, h]
theorem st_slash {pos : Nat} {c d st co : Int} (h0 : (c == 123) = false) (h1 : (c == 125) = false) (h : (c == 47) = true) (hd : (d == 0) = true) : sstep pos c ⟨d, st, co⟩ = ⟨d, (pos : Int) + 1, -1⟩ := by simp [sstep, h0, h1, h, hd]
theorem st_slash' {pos : Nat} {c d st co : Int} (h0 : (c == 123) = false) (h1 : (c == 125) = false) (h : (c == 47) = true) (hd : (d == 0) = false) : sstep pos c ⟨d, st, co⟩ = ⟨d, st, co⟩ := by simp [sstep, h0, h1, h, hd]
theorem st_colon {pos : Nat} {c d st co : Int} (h0 : (c == 123) = false) (h1 : (c == 125) = false) (h2 : (c == 47) = false) (h : (c == 58) = true) (hd : (d == 0) = true) : sstep pos c ⟨d, st, co⟩ = ⟨d, st, (pos : Int)⟩ := by simp [sstep, h0, h1, h2, h, hd]
theorem st_colon' {pos : Nat} {c d st co : Int} (h0 : (c == 123) = false) (h1 : (c == 125) = false) (h2 : (c == 47) = false) (h : (c == 58) = true) (hd : (d == 0) = false) : sstep pos c ⟨d, st, co⟩ = ⟨d, st, co⟩ := by simp [sstep, h0, h1, h2, h, hd]
theorem st_other {pos : Nat} {c d st co : Int} (h0 : (c == 123) = false) (h1 : (c == 125) = false) (h2 : (c == 47) = false) (h : (c == 58) = false) : sstep pos c ⟨d, st, co⟩ = ⟨d, st, co⟩ := by simp [sstep, h0, h1, h2, h]

set_option maxRecDepth 100000 in
set_option maxHeartbeats 1000000 in
theorem last_any (vb p bd : ByteArray) (w : World) (hs : p.size ≤ 4194304) :
    Calls Try.prog 19 #[.agg #[.string vb, .string p, .string bd]] w fun e w' => ∃ q, Hid (srun p.data.toList 0 ⟨0, 0, -1⟩ = q) ∧ Ok p.size q ∧ e = .returned (.tuple #[.int .i64 q.st, .int .i64 q.co]) ∧ Below w.heap.size w w' := by
  go_enter Try.func19, Try.ntmps19
  go_wp2
  go_loopw [2, 3, 4] (fun s2 s3 s4 wr => ∃ (pos : Nat) (d st co : Int), s2 = .int .i64 st ∧ s3 = .int .i64 co ∧ s4 = .int .i64 d ∧ wr = ((w.alloc (.cells #[.string vb, .string p, .string bd] 30)).alloc (.stringIter p pos)) ∧
      Hid (srun p.data.toList 0 ⟨0, 0, -1⟩ = srun (p.data.toList.drop pos) pos ⟨d, st, co⟩) ∧ Hid (Ok pos ⟨d, st, co⟩) ∧ pos ≤ p.size) (fun _ _ _ wr => p.size - wr.iterPos (w.heap.size + 1))
  case atStart => exact ⟨0, 0, 0, -1, rfl, rfl, rfl, rfl, rfl, by show Ok _ _; unfold Ok; simp, Nat.zero_le _⟩
  case round =>
    obtain ⟨pos, d, st, co, rfl, rfl, rfl, rfl, H, hO, hple⟩ := hrel
    by_cases hp : pos < p.size
    · obtain ⟨hR, hle, hn1⟩ := rune_step p pos hp ⟨d, st, co⟩
      have hnx : ∀ ty, (Instr.next (.pointer (some ⟨w.heap.size + 1, 0, none⟩)) true ty).run Try.prog ((w.alloc (.cells #[.string vb, .string p, .string bd] 30)).alloc (.stringIter p pos)) = .ok (.tuple #[.bool true, .int .i64 pos, .int .i32 ((Utf8.decode p pos).1 : Int)]) ((w.alloc (.cells #[.string vb, .string p, .string bd] 30)).alloc (.stringIter p (pos + (Utf8.decode p pos).2))) := fun ty => by
        have h := run_next_any (P := Try.prog) (w.alloc (.cells #[.string vb, .string p, .string bd] 30)) p pos ty hp
        rw [show (w.alloc (.cells #[.string vb, .string p, .string bd] 30)).heap.size = w.heap.size + 1 from by simp] at h
        exact h
      obtain ⟨c, hc⟩ : ∃ c : Int, c = ((Utf8.decode p pos).1 : Int) := ⟨_, rfl⟩
      obtain ⟨n, hn⟩ : ∃ n : Nat, n = (Utf8.decode p pos).2 := ⟨_, rfl⟩
      rw [← hc, ← hn] at hnx hR
      rw [← hn] at hle hn1
      have HR : Hid _ := hR
      clear hR hc hn
      have hOk := hO.out
      obtain ⟨o1, o2, o3, o4, o5⟩ := hOk
      dsimp only at o1 o2 o3 o4
      clear o5
      go_wp2
      · go_roundw
        case rel =>
          have Z := next_rel H hO.out hn1 HR (st_open ‹_›)
          exact ⟨pos + n, _, _, _, rfl, rfl, rfl, rfl, Z.1, Z.2, hle⟩
        case measure => rw [iterPos_at, iterPos_at]; omega
      · go_roundw
        case rel =>
          have Z := next_rel H hO.out hn1 HR (st_close ‹_› ‹_›)
          exact ⟨pos + n, _, _, _, rfl, rfl, rfl, rfl, Z.1, Z.2, hle⟩
        case measure => rw [iterPos_at, iterPos_at]; omega
      · go_roundw
        case rel =>
          have Z := next_rel H hO.out hn1 HR (st_slash ‹_› ‹_› ‹_› ‹_›)
          exact ⟨pos + n, _, _, _, rfl, rfl, rfl, rfl, Z.1, Z.2, hle⟩
        case measure => rw [iterPos_at, iterPos_at]; omega
      · go_roundw
        case rel =>
          have Z := next_rel H hO.out hn1 HR (st_slash' ‹_› ‹_› ‹_› ‹_›)
          exact ⟨pos + n, _, _, _, rfl, rfl, rfl, rfl, Z.1, Z.2, hle⟩
        case measure => rw [iterPos_at, iterPos_at]; omega
      · go_roundw
        case rel =>
          have Z := next_rel H hO.out hn1 HR (st_colon ‹_› ‹_› ‹_› ‹_› ‹_›)
          exact ⟨pos + n, _, _, _, rfl, rfl, rfl, rfl, Z.1, Z.2, hle⟩
        case measure => rw [iterPos_at, iterPos_at]; omega
      · go_roundw
        case rel =>
          have Z := next_rel H hO.out hn1 HR (st_colon' ‹_› ‹_› ‹_› ‹_› ‹_›)
          exact ⟨pos + n, _, _, _, rfl, rfl, rfl, rfl, Z.1, Z.2, hle⟩
        case measure => rw [iterPos_at, iterPos_at]; omega
      · go_roundw
        case rel =>
          have Z := next_rel H hO.out hn1 HR (st_other ‹_› ‹_› ‹_› ‹_›)
          exact ⟨pos + n, _, _, _, rfl, rfl, rfl, rfl, Z.1, Z.2, hle⟩
        case measure => rw [iterPos_at, iterPos_at]; omega
    · have hpe : pos = p.size := by omega
      subst hpe
      have hnx : ∀ ty, (Instr.next (.pointer (some ⟨w.heap.size + 1, 0, none⟩)) true ty).run Try.prog ((w.alloc (.cells #[.string vb, .string p, .string bd] 30)).alloc (.stringIter p p.size)) = .ok (.tuple #[.bool false]) ((w.alloc (.cells #[.string vb, .string p, .string bd] 30)).alloc (.stringIter p p.size)) := fun ty => by
        have h := run_next_end (P := Try.prog) (w.alloc (.cells #[.string vb, .string p, .string bd] 30)) p p.size ty hp
        rw [show (w.alloc (.cells #[.string vb, .string p, .string bd] 30)).heap.size = w.heap.size + 1 from by simp] at h
        exact h
      go_wp2
      go_ret2
      refine ⟨⟨d, st, co⟩, ?_, hO.out, rfl, ((Below.refl _ _).alloc (Nat.le_refl _) _).alloc (by simp) _⟩
      show _ = _
      rw [H.out, List.drop_of_length_le (by rw [len_data]; exact Nat.le_refl _)]
      rfl

theorem last_call (vb p bd : ByteArray) (w : World) (hs : p.size ≤ 4194304) (d st co : Int) (hq : srun p.data.toList 0 ⟨0, 0, -1⟩ = ⟨d, st, co⟩) :
    Calls Try.prog 19 #[.agg #[.string vb, .string p, .string bd]] w fun e w' => e = .returned (.tuple #[.int .i64 st, .int .i64 co]) ∧ Below w.heap.size w w' := by
  refine (last_any vb p bd w hs).mono ?_
  rintro e w' ⟨q, h1, _, rfl, h2⟩
  have : q = ⟨d, st, co⟩ := h1.out.symm.trans hq
  subst this
  exact ⟨rfl, h2⟩

theorem pre_call (s : ByteArray) (w : World) (b : Bool) (h : Lib.hasPrefix s.data.toList [123] = b) :
    Calls Try.prog 21 #[.string s, .string ⟨#[123]⟩] w fun e w' => e = .returned (.bool b) ∧ w = w' := by
  refine (strings_HasPrefix s ⟨#[123]⟩ w).mono ?_
  rintro e w' ⟨rfl, rfl⟩
  subst h
  exact ⟨rfl, rfl⟩
theorem idx_call (s : ByteArray) (w : World) (n : Int) (h : Lib.indexByte s.data.toList 125 = n) :
    Calls Try.prog 22 #[.string s, .int .u8 125] w fun e w' => e = .returned (.int .i64 n) ∧ w = w' := by
  refine (strings_IndexByte s 125 w).mono ?_
  rintro e w' ⟨rfl, rfl⟩
  subst h
  exact ⟨rfl, rfl⟩

theorem cut_size (p : ByteArray) (a b : Nat) (h1 : a ≤ b) (h2 : b ≤ p.size) : (p.extract a b).data.toList.length = b - a := by
  rw [Lib.extract_data, List.length_take, List.length_drop, len_data]; omega

set_option maxRecDepth 100000 in
set_option maxHeartbeats 1000000 in
/-- the segment ends at a colon -/
theorem ends_colon (vb p bd : ByteArray) (w : World) (hs : p.size ≤ 4194304) (d : Int) (st e : Nat) (hq : srun p.data.toList 0 ⟨0, 0, -1⟩ = ⟨d, (st : Int), (e : Int)⟩) (h1 : st ≤ e) (h2 : e ≤ p.size) :
    Calls Try.prog 20 #[.agg #[.string vb, .string p, .string bd]] w fun r w' => r = .returned (.bool (ends (p.extract st e).data.toList)) ∧ Below w.heap.size w w' := by
  have HQ : Hid (srun p.data.toList 0 ⟨0, 0, -1⟩ = ⟨d, (st : Int), (e : Int)⟩) := hq
  clear hq
  have hsz := cut_size p st e h1 h2
  have i1 : (st : Int) ≤ (e : Int) := by omega
  have i2 : (e : Int) ≤ (p.size : Int) := by omega
  by_cases hp : Lib.hasPrefix (p.extract st e).data.toList [123] = true
  · obtain ⟨n, hn⟩ : ∃ n, Hid (Lib.indexByte (p.extract st e).data.toList 125 = n) := ⟨_, rfl⟩
    have HE : Hid (ends (p.extract st e).data.toList = (n == ((e - st : Nat) : Int) - 1)) := by show _ = _; unfold ends; rw [hp, hn.out, hsz]; rfl
    have HP : Hid _ := hp
    clear hp hsz
    go_enter Try.func20, Try.ntmps20
    go_wp2_with (first
      | (go_at_call 19; refine (last_call vb p bd _ hs d st e HQ.out).mono ?_; rintro r w1 ⟨rfl, hb⟩; have hc : w1.cell? ⟨w.heap.size, 1, none⟩ = some (.string p) := by (rw [hb.cell (p := ⟨w.heap.size, 1, none⟩) (by simp)]; simp))
      | (go_at_call 21; refine (pre_call _ _ true HP.out).mono ?_; rintro r w' ⟨rfl, rfl⟩)
      | (go_at_call 22; refine (idx_call _ _ n hn.out).mono ?_; rintro r w' ⟨rfl, rfl⟩))
    go_ret
    exact ⟨ret_bool HE.out.symm, ((Below.refl _ _).alloc (Nat.le_refl _) _).trans (hb.mono (by simp))⟩
  · have hpf : Lib.hasPrefix (p.extract st e).data.toList [123] = false := by simpa using hp
    have HE : Hid (ends (p.extract st e).data.toList = false) := by show _ = _; unfold ends; rw [hpf]; rfl
    have HP : Hid _ := hpf
    clear hp hpf hsz
    go_enter Try.func20, Try.ntmps20
    go_wp2_with (first
      | (go_at_call 19; refine (last_call vb p bd _ hs d st e HQ.out).mono ?_; rintro r w1 ⟨rfl, hb⟩; have hc : w1.cell? ⟨w.heap.size, 1, none⟩ = some (.string p) := by (rw [hb.cell (p := ⟨w.heap.size, 1, none⟩) (by simp)]; simp))
      | (go_at_call 21; refine (pre_call _ _ false HP.out).mono ?_; rintro r w' ⟨rfl, rfl⟩))
    go_ret
    exact ⟨ret_bool HE.out.symm, ((Below.refl _ _).alloc (Nat.le_refl _) _).trans (hb.mono (by simp))⟩

set_option maxRecDepth 100000 in
set_option maxHeartbeats 1000000 in
/-- the segment ends where the path ends -/
theorem ends_open (vb p bd : ByteArray) (w : World) (hs : p.size ≤ 4194304) (d : Int) (st : Nat) (hq : srun p.data.toList 0 ⟨0, 0, -1⟩ = ⟨d, (st : Int), (-1)⟩) (h1 : st ≤ p.size) (h2 : p.size ≤ p.size) :
    Calls Try.prog 20 #[.agg #[.string vb, .string p, .string bd]] w fun r w' => r = .returned (.bool (ends (p.extract st p.size).data.toList)) ∧ Below w.heap.size w w' := by
  have HQ : Hid (srun p.data.toList 0 ⟨0, 0, -1⟩ = ⟨d, (st : Int), (-1)⟩) := hq
  clear hq
  have hsz := cut_size p st p.size h1 h2
  have i1 : (st : Int) ≤ (p.size : Int) := by omega
  have i2 : (p.size : Int) ≤ (p.size : Int) := by omega
  by_cases hp : Lib.hasPrefix (p.extract st p.size).data.toList [123] = true
  · obtain ⟨n, hn⟩ : ∃ n, Hid (Lib.indexByte (p.extract st p.size).data.toList 125 = n) := ⟨_, rfl⟩
    have HE : Hid (ends (p.extract st p.size).data.toList = (n == ((p.size - st : Nat) : Int) - 1)) := by show _ = _; unfold ends; rw [hp, hn.out, hsz]; rfl
    have HP : Hid _ := hp
    clear hp hsz
    go_enter Try.func20, Try.ntmps20
    go_wp2_with (first
      | (go_at_call 19; refine (last_call vb p bd _ hs d st (-1) HQ.out).mono ?_; rintro r w1 ⟨rfl, hb⟩; have hc : w1.cell? ⟨w.heap.size, 1, none⟩ = some (.string p) := by (rw [hb.cell (p := ⟨w.heap.size, 1, none⟩) (by simp)]; simp))
      | (go_at_call 21; refine (pre_call _ _ true HP.out).mono ?_; rintro r w' ⟨rfl, rfl⟩)
      | (go_at_call 22; refine (idx_call _ _ n hn.out).mono ?_; rintro r w' ⟨rfl, rfl⟩))
    go_ret
    exact ⟨ret_bool HE.out.symm, ((Below.refl _ _).alloc (Nat.le_refl _) _).trans (hb.mono (by simp))⟩
  · have hpf : Lib.hasPrefix (p.extract st p.size).data.toList [123] = false := by simpa using hp
    have HE : Hid (ends (p.extract st p.size).data.toList = false) := by show _ = _; unfold ends; rw [hpf]; rfl
    have HP : Hid _ := hpf
    clear hp hpf hsz
    go_enter Try.func20, Try.ntmps20
    go_wp2_with (first
      | (go_at_call 19; refine (last_call vb p bd _ hs d st (-1) HQ.out).mono ?_; rintro r w1 ⟨rfl, hb⟩; have hc : w1.cell? ⟨w.heap.size, 1, none⟩ = some (.string p) := by (rw [hb.cell (p := ⟨w.heap.size, 1, none⟩) (by simp)]; simp))
      | (go_at_call 21; refine (pre_call _ _ false HP.out).mono ?_; rintro r w' ⟨rfl, rfl⟩))
    go_ret
    exact ⟨ret_bool HE.out.symm, ((Below.refl _ _).alloc (Nat.le_refl _) _).trans (hb.mono (by simp))⟩


set_option maxHeartbeats 400000 in
theorem in_colon (vb p bd : ByteArray) (w : World) (hs : p.size ≤ 4194304) (d : Int) (st e : Nat) (b : Bool) (hq : srun p.data.toList 0 ⟨0, 0, -1⟩ = ⟨d, (st : Int), (e : Int)⟩) (h1 : st ≤ e) (h2 : e ≤ p.size) (hb : ends (p.extract st e).data.toList = b) :
    Calls Try.prog 16 #[.string vb, .string p, .string bd] w fun r w' => r = .returned (.bool b) ∧ Below w.heap.size w w' := by
  have HB : Hid (ends (p.extract st e).data.toList = b) := hb
  have HQ : Hid (srun p.data.toList 0 ⟨0, 0, -1⟩ = ⟨d, (st : Int), (e : Int)⟩) := hq
  clear hq hb
  go_enter Try.func16, Try.ntmps16
  go_wp2_with (go_at_call 20; refine (ends_colon vb p bd _ hs d st e HQ.out h1 h2).mono ?_; rintro r w1 ⟨rfl, hb⟩; rw [HB.out])
  go_ret
  exact ⟨rfl, hb⟩

set_option maxHeartbeats 400000 in
theorem in_open (vb p bd : ByteArray) (w : World) (hs : p.size ≤ 4194304) (d : Int) (st : Nat) (b : Bool) (hq : srun p.data.toList 0 ⟨0, 0, -1⟩ = ⟨d, (st : Int), -1⟩) (h1 : st ≤ p.size) (hb : ends (p.extract st p.size).data.toList = b) :
    Calls Try.prog 16 #[.string vb, .string p, .string bd] w fun r w' => r = .returned (.bool b) ∧ Below w.heap.size w w' := by
  have HB : Hid (ends (p.extract st p.size).data.toList = b) := hb
  have HQ : Hid (srun p.data.toList 0 ⟨0, 0, -1⟩ = ⟨d, (st : Int), -1⟩) := hq
  clear hq hb
  go_enter Try.func16, Try.ntmps16
  go_wp2_with (go_at_call 20; refine (ends_open vb p bd _ hs d st HQ.out h1 (Nat.le_refl _)).mono ?_; rintro r w1 ⟨rfl, hb⟩; rw [HB.out])
  go_ret
  exact ⟨rfl, hb⟩

end Go.Proofs.Qxb6602697a
