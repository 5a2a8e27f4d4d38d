import Derived.Test.Qxb6601149aWalk
import Derived.Laws.AppendOwnNone
namespace Go.Proofs.Qxb6601149a
open Go.RowKit
set_option linter.unusedVariables false
set_option linter.unusedSimpArgs false

theorem addr_add (b o i : Nat) : (⟨b, o, none⟩ : Addr).add i = ⟨b, o + i, none⟩ := by
  unfold Addr.add; split <;> simp_all

/-- bytes as the program holds them -/
def bv (bs : List Int) : List Value := bs.map (.int .u8)

theorem bv_src {w : World} {x : Addr} {bs : List Int} {n : Nat} (hl : bs.length = n) (hz : ∀ i, i < n → w.cell? (x.add i) = some (.int .u8 (bs[i]?.getD 0))) : ∀ j v, (bv bs)[j]? = some v → w.cell? (x.add j) = some v := by
  intro j v hj
  unfold bv at hj
  rw [List.getElem?_map] at hj
  by_cases h : j < bs.length
  · rw [hz j (by omega)]
    rw [List.getElem?_eq_getElem h] at hj ⊢
    simpa using hj
  · rw [List.getElem?_eq_none (by omega)] at hj; simp at hj

theorem bv_one (bs : List Int) : ∀ v ∈ bv bs, v.oneCell' = true := by
  intro v hv
  unfold bv at hv
  obtain ⟨z, _, rfl⟩ := List.mem_map.1 hv
  rfl

theorem info5_size : (Try.prog.info? 5).map (·.size) = some 1 := by kernel_rfl

theorem copy_made (w : World) (x : Addr) (bs : List Int) (n c : Nat) (hl : bs.length = n) (hz : ∀ i, i < n → w.cell? (x.add i) = some (.int .u8 (bs[i]?.getD 0))) :
    ∃ w2, (∀ ty, (Builtin.copy_ #[22, 22] ty #[.slice (some ⟨w.heap.size, 0, none⟩) n n, .slice (some x) n c]).run Try.prog (w.alloc (.cells (madeCells #[.int .u8 0] n) 5)) = .ok (goInt n) w2) ∧
      Blk w2 w.heap.size (bv bs) 5 ∧ Below w.heap.size w w2 ∧ w2.heap.size = w.heap.size + 1 := by
  have hg : (w.alloc (.cells (madeCells #[.int .u8 0] n) 5)).heap[w.heap.size]? = some (.cells (madeCells #[.int .u8 0] n) 5 (0, 0)) := by unfold World.alloc; simp
  have hlb : (bv bs).length = n := by unfold bv; simpa using hl
  have hsrc : ∀ j v, (bv bs)[j]? = some v → (w.alloc (.cells (madeCells #[.int .u8 0] n) 5)).cell? (x.add j) = some v := by
    intro j v hj
    have h := bv_src hl hz j v hj
    rw [World.cell?_alloc_lt _ _ _ (World.block_lt_of_cell? _ _ h)]
    exact h
  refine ⟨(w.alloc (.cells (madeCells #[.int .u8 0] n) 5)).setRow w.heap.size (bv bs).toArray, fun ty => ?_, ?_, ?_, ?_⟩
  · have h := run_copy_row (P := Try.prog) (w.alloc (.cells (madeCells #[.int .u8 0] n) 5)) 22 22 ty 5 w.heap.size 0 n n x n c (madeCells #[.int .u8 0] n) 5 (bv bs) Try.underlying22 info5_size hg (by simpa using hlb) hsrc (by rw [size_madeCells]; omega) (bv_one bs)
    rw [h, hlb]
    congr 2
    simp [List.drop_eq_nil_of_le, size_madeCells, hlb]
  · unfold Blk
    exact setRow_heap _ _ _ _ _ _ hg
  · refine ((Below.refl _ _).alloc (Nat.le_refl _) _).trans ⟨rfl, rfl, rfl, by simp, fun k hk => setRow_other _ _ _ _ (by omega)⟩
  · simp

set_option maxHeartbeats 400000 in
theorem clone_some (x : Addr) (c : Nat) (bs : List Int) (n : Nat) (HN : Hid (bs.length = n)) (w : World) (hn : n ≤ 4194304)
    (hz : ∀ i, i < n → w.cell? (x.add i) = some (.int .u8 (bs[i]?.getD 0))) :
    Calls Try.prog 10 #[.slice (some x) n c] w fun e w' => e = .returned (.slice (some ⟨w.heap.size, 0, none⟩) n n) ∧
      Blk w' w.heap.size (bv bs) 5 ∧ Below w.heap.size w w' ∧ w'.heap.size = w.heap.size + 1 := by
  have q22 : ∀ (w : World) (a : Option Addr) (n c n' c' : Nat), (binOp .eql 22 (.slice a n c) (.slice none n' c')).run Try.prog w = .ok (.bool a.isNone) w := fun w a n c n' c' => Lib.run_eql_slice_nil w _ _ a n c n' c' Try.underlying22
  have hmk := run_make_row' (P := Try.prog) 22 5 (.int .u8 0) 1 Try.underlying22 Try.info5 rfl .i64 .i64 n (by omega) (by omega)
  obtain ⟨w2, hcp, h1, h2, h3⟩ := copy_made w x bs n c HN.out hz
  have H1 := hid h1
  have H2 := hid h2
  have H3 := hid h3
  clear h1 h2 h3 hz
  go_enter Try.func10, Try.ntmps10
  go_wp2
  go_ret
  exact ⟨rfl, H1, H2, H3⟩

theorem clone_nil (w : World) :
    Calls Try.prog 10 #[.slice none 0 0] w fun e w' => e = .returned (.slice none 0 0) ∧ w = w' := by
  have q22 : ∀ (w : World) (a : Option Addr) (n c n' c' : Nat), (binOp .eql 22 (.slice a n c) (.slice none n' c')).run Try.prog w = .ok (.bool a.isNone) w := fun w a n c n' c' => Lib.run_eql_slice_nil w _ _ a n c n' c' Try.underlying22
  go_enter Try.func10, Try.ntmps10
  go_wp2
  go_ret
  exact ⟨rfl, rfl⟩

end Go.Proofs.Qxb6601149a
