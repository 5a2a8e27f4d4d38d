import Derived.Test.Qxb6601127aBase
import Derived.Test.Qxb6601127aLists
namespace Go.Proofs.Qxb6601127a
open Go.RowKit

set_option maxHeartbeats 400000 in
theorem cloneInts_some (x : Addr) (c : Nat) (zs : List Int) (N : Nat) (HN : Hid (zs.length = N)) (w : World) (hn : N ≤ 1048576)
    (hz : ∀ i, i < N → w.cell? (x.add i) = some (.int .i64 (zs[i]?.getD 0))) :
    Calls Try.prog 9 #[.slice (some x) N c] w fun e w' => e = .returned (.slice (some ⟨w.heap.size, 0, none⟩) N N) ∧
      Blk w' w.heap.size (zs.map (.int .i64)) 3 ∧ Below w.heap.size w w' ∧ w'.heap.size = w.heap.size + 1 := by
  have q22 : ∀ (w : World) (a : Option Addr) (n c n' c' : Nat), (binOp .eql 22 (.slice a n c) (.slice none n' c')).run Try.prog w = .ok (.bool a.isNone) w := fun w a n c n' c' => Lib.run_eql_slice_nil w _ _ a n c n' c' Try.underlying22
  have hmk := run_make_row' (P := Try.prog) 22 3 (.int .i64 0) 8 Try.underlying22 Try.info3 rfl .i64 .i64 N (by omega) (by omega)
  go_enter Try.func9, Try.ntmps9
  go_wp2
  go_loopg [4] N (fun g i wr => ∃ k : Nat, k ≤ N ∧ g = N - k ∧ i = .int .i64 k ∧ (∃ ys : List Int, Hid (ys.length = N) ∧ Hid (ys.take k = zs.take k) ∧ Blk wr w.heap.size (ys.map (.int .i64)) 3) ∧ Below w.heap.size w wr ∧ wr.heap.size = w.heap.size + 1)
  case atStart =>
    refine ⟨0, Nat.zero_le _, rfl, rfl, ⟨List.replicate N 0, by simp [Hid], by simp [Hid], ?_⟩, (Below.refl _ _).alloc (Nat.le_refl _) _, by simp⟩
    rw [List.map_replicate]
    exact Blk.made w _ _ _
  case round =>
    obtain ⟨k, hk, rfl, rfl, ⟨ys, HL, HT, hB⟩, hbel, hsz⟩ := hrel
    by_cases hlt : k < N
    · have hc : wr.cell? (x.add k) = some (.int .i64 (zs[k]?.getD 0)) := by
        have := World.block_lt_of_cell? _ _ (hz k hlt)
        rw [hbel.cell this]; exact hz k hlt
      have hc2 := hB.icell (i := k) (by rw [HL.out]; exact hlt)
      have hf2 := hB.frozen k
      go_wp2
      go_roundg (N - (k + 1))
      case measure => omega
      case rel =>
        refine ⟨k + 1, by omega, rfl, by go_num, ⟨_, ?_, take_fill (by rw [HL.out]; exact hlt) (by rw [HN.out]; exact hlt) HT.out, hB.iset k _⟩, hbel.setCell (by simp) _, by simpa using hsz⟩
        unfold Hid; rw [List.length_set]; exact HL
    · go_wp2
      go_ret
      have e : ys = zs := by
        have h1 := HT.out
        rwa [List.take_of_length_le (by rw [HL.out]; omega), List.take_of_length_le (by rw [HN.out]; omega)] at h1
      subst e
      exact ⟨rfl, hB, hbel, hsz⟩

theorem cloneInts_nil (w : World) :
    Calls Try.prog 9 #[.slice none 0 0] w fun e w' => e = .returned (.slice none 0 0) ∧ w' = w := by
  have q22 : ∀ (w : World) (a : Option Addr) (n c n' c' : Nat), (binOp .eql 22 (.slice a n c) (.slice none n' c')).run Try.prog w = .ok (.bool a.isNone) w := fun w a n c n' c' => Lib.run_eql_slice_nil w _ _ a n c n' c' Try.underlying22
  go_enter Try.func9, Try.ntmps9
  go_wp2
  go_ret
  exact ⟨rfl, rfl⟩

set_option maxHeartbeats 400000 in
theorem cloneInt32s_some (x : Addr) (c : Nat) (zs : List Int) (N : Nat) (HN : Hid (zs.length = N)) (w : World) (hn : N ≤ 1048576)
    (hz : ∀ i, i < N → w.cell? (x.add i) = some (.int .i32 (zs[i]?.getD 0))) :
    Calls Try.prog 10 #[.slice (some x) N c] w fun e w' => e = .returned (.slice (some ⟨w.heap.size, 0, none⟩) N N) ∧
      Blk w' w.heap.size (zs.map (.int .i32)) 21 ∧ Below w.heap.size w w' ∧ w'.heap.size = w.heap.size + 1 := by
  have q22 : ∀ (w : World) (a : Option Addr) (n c n' c' : Nat), (binOp .eql 23 (.slice a n c) (.slice none n' c')).run Try.prog w = .ok (.bool a.isNone) w := fun w a n c n' c' => Lib.run_eql_slice_nil w _ _ a n c n' c' Try.underlying23
  have hmk := run_make_row' (P := Try.prog) 23 21 (.int .i32 0) 4 Try.underlying23 Try.info21 rfl .i64 .i64 N (by omega) (by omega)
  go_enter Try.func10, Try.ntmps10
  go_wp2
  go_loopg [4] N (fun g i wr => ∃ k : Nat, k ≤ N ∧ g = N - k ∧ i = .int .i64 k ∧ (∃ ys : List Int, Hid (ys.length = N) ∧ Hid (ys.take k = zs.take k) ∧ Blk wr w.heap.size (ys.map (.int .i32)) 21) ∧ Below w.heap.size w wr ∧ wr.heap.size = w.heap.size + 1)
  case atStart =>
    refine ⟨0, Nat.zero_le _, rfl, rfl, ⟨List.replicate N 0, by simp [Hid], by simp [Hid], ?_⟩, (Below.refl _ _).alloc (Nat.le_refl _) _, by simp⟩
    rw [List.map_replicate]
    exact Blk.made w _ _ _
  case round =>
    obtain ⟨k, hk, rfl, rfl, ⟨ys, HL, HT, hB⟩, hbel, hsz⟩ := hrel
    by_cases hlt : k < N
    · have hc : wr.cell? (x.add k) = some (.int .i32 (zs[k]?.getD 0)) := by
        have := World.block_lt_of_cell? _ _ (hz k hlt)
        rw [hbel.cell this]; exact hz k hlt
      have hc2 := hB.icell (i := k) (by rw [HL.out]; exact hlt)
      have hf2 := hB.frozen k
      go_wp2
      go_roundg (N - (k + 1))
      case measure => omega
      case rel =>
        refine ⟨k + 1, by omega, rfl, by go_num, ⟨_, ?_, take_fill (by rw [HL.out]; exact hlt) (by rw [HN.out]; exact hlt) HT.out, hB.iset k _⟩, hbel.setCell (by simp) _, by simpa using hsz⟩
        unfold Hid; rw [List.length_set]; exact HL
    · go_wp2
      go_ret
      have e : ys = zs := by
        have h1 := HT.out
        rwa [List.take_of_length_le (by rw [HL.out]; omega), List.take_of_length_le (by rw [HN.out]; omega)] at h1
      subst e
      exact ⟨rfl, hB, hbel, hsz⟩

theorem cloneInt32s_nil (w : World) :
    Calls Try.prog 10 #[.slice none 0 0] w fun e w' => e = .returned (.slice none 0 0) ∧ w' = w := by
  have q22 : ∀ (w : World) (a : Option Addr) (n c n' c' : Nat), (binOp .eql 23 (.slice a n c) (.slice none n' c')).run Try.prog w = .ok (.bool a.isNone) w := fun w a n c n' c' => Lib.run_eql_slice_nil w _ _ a n c n' c' Try.underlying23
  go_enter Try.func10, Try.ntmps10
  go_wp2
  go_ret
  exact ⟨rfl, rfl⟩

end Go.Proofs.Qxb6601127a
