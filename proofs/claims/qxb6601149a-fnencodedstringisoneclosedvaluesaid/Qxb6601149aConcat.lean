import Derived.Test.Qxb6601149aLaws
namespace Go.Proofs.Qxb6601149a
open Go.RowKit
set_option linter.unusedVariables false
set_option linter.unusedSimpArgs false

/-- a slice of bytes to read from: nil, or n bytes at a -/
def Src (w : World) (a : Option Addr) (n c : Nat) (bs : List Int) : Prop :=
  bs.length = n ∧ ((a = none ∧ n = 0 ∧ c = 0) ∨ ∃ x, a = some x ∧ ∀ i, i < n → w.cell? (x.add i) = some (.int .u8 (bs[i]?.getD 0)))

theorem own_ints {w : World} {base n : Nat} {v : Value} {bs : List Int} (h : w.ownsRow base 5 1 v n (bv bs)) (hn : 0 < n) : ∃ g cap, v = .slice (some ⟨g, 0, none⟩) n cap ∧ base ≤ g ∧ Ints .u8 w g 0 bs ∧ bs.length = n := by
  have hl : bs.length = n := by have := h.1; unfold bv at this; simpa using this
  rcases h.2 with ⟨_, h0⟩ | ⟨g, cap, cur, rfl, hg, hheap, hnc, hcm, hcs, htake⟩
  · omega
  · refine ⟨g, cap, rfl, hg, fun i hi => ?_, hl⟩
    rw [Nat.zero_add]
    have : cur[i]? = (bv bs)[i]? := by
      rw [← htake, List.getElem?_take, if_pos (by omega), Array.getElem?_toList]
    simp only [World.cell?, hheap, Option.isSome_none, Bool.false_eq_true, if_false]
    rw [this]
    unfold bv
    simp [hi]

set_option maxHeartbeats 1000000 in
set_option maxRecDepth 100000 in
theorem concat_any (x0 : Addr) (n0 c0 : Nat) (bs0 : List Int) (a1 : Option Addr) (n1 c1 : Nat) (bs1 : List Int) (w : World) (hn0 : n0 ≤ 1048576) (hn1 : n1 ≤ 1048576) (hpos : 0 < n0)
    (HL0 : Hid (bs0.length = n0)) (H0 : Hid (∀ i, i < n0 → w.cell? (x0.add i) = some (.int .u8 (bs0[i]?.getD 0)))) (H1 : Hid (Src w a1 n1 c1 bs1)) :
    Calls Try.prog 17 #[.slice (some x0) n0 c0, .slice a1 n1 c1] w fun e w' => ∃ g cap, e = .returned (.slice (some ⟨g, 0, none⟩) (n0 + n1) cap) ∧ w.heap.size ≤ g ∧ Ints .u8 w' g 0 (bs0 ++ bs1) ∧ Below w.heap.size w w' := by
  obtain ⟨i0, hi0, hzz⟩ := Option.map_eq_some_iff.1 Try.info5
  simp only [Prod.mk.injEq] at hzz
  obtain ⟨hz0, hs0, hb0⟩ := hzz
  have hmk : ∀ w, (Instr.makeSlice 22 (.int .i64 0) (.int .i64 ((n0 : Int) + n1))).run Try.prog w = .ok (.slice (some ⟨w.heap.size, 0, none⟩) 0 (n0 + n1)) (w.alloc (.cells (madeCells #[.int .u8 0] (n0 + n1)) 5)) := by
    intro w
    have h := run_make (P := Try.prog) w 22 5 i0 _ Try.underlying22 hi0 hz0 .i64 .i64 0 ((n0 : Int) + n1) (by omega) (by omega) (by rw [hb0]; omega) (by omega)
    rw [h, hs0]
    have e : ((n0 : Int) + n1).toNat = n0 + n1 := by omega
    simp [e, Value.cells]
  have hsrc0 : ∀ j v, (bv bs0)[j]? = some v → (w.alloc (.cells (madeCells #[.int .u8 0] (n0 + n1)) 5)).cell? (x0.add j) = some v := by
    intro j v hj
    have h := bv_src HL0.out H0.out j v hj
    rw [World.cell?_alloc_lt _ _ _ (World.block_lt_of_cell? _ _ h)]; exact h
  have HS0 := hid hsrc0
  have HOWN : Hid ((w.alloc (.cells (madeCells #[.int .u8 0] (n0 + n1)) 5)).ownsRow w.heap.size 5 1 (.slice (some ⟨w.heap.size, 0, none⟩) 0 (n0 + n1)) 0 []) :=
    World.ownsRow_made w _ _ (Nat.le_refl _) (by unfold maxLen; omega) (by rw [size_madeCells]; omega)
  clear hsrc0
  go_enter Try.func17, Try.ntmps17
  go_wp2_with (at_builtin; refine wpList_append_own _ rfl _ _ 22 rfl w.heap.size 5 i0 (.int .u8 0) 1 1 Try.underlying22 hi0 hz0 hs0 hb0 rfl (by decide) _ 0 [] rfl HOWN.out x0 n0 c0 (bv bs0) rfl ?c1 ?c2 ?c3 ?c4 ?c5 ?c6 ?_)
  case c1 => have := HL0.out; simpa [bv] using this
  case c2 => exact HS0.out
  case c3 => exact bv_one bs0
  case c4 => unfold maxLen; omega
  case c5 => omega
  case c6 => simp
  intro v1 w1 hown hgrow _
  have hb1 : Below w.heap.size w w1 := ((Below.refl _ _).alloc (Nat.le_refl _) _).grown hgrow (by simp) (by intro k hk; simp [Value.ownBlock] at hk; omega)
  have HB1 := hid hb1
  have HO1 := hid hown
  clear hown hgrow hb1 HOWN HS0 hmk
  rcases H1.out.2 with ⟨rfl, rfl, rfl⟩ | ⟨x1, rfl, hx1⟩
  · have hbs : bs1 = [] := List.length_eq_zero_iff.1 H1.out.1
    subst hbs
    go_wp2_with (at_builtin; refine wpList_append_own_none rfl _ _ 22 rfl w.heap.size 5 i0 1 Try.underlying22 hi0 v1 n0 (bv bs0) rfl HO1.out rfl ?_)
    obtain ⟨g, cap, rfl, h1, h2, h3⟩ := own_ints HO1.out hpos
    go_ret
    exact ⟨g, cap, rfl, h1, by rw [List.append_nil]; exact h2, HB1⟩
  · have hsrc1 : ∀ j v, (bv bs1)[j]? = some v → w1.cell? (x1.add j) = some v := by
      intro j v hj
      have h := bv_src H1.out.1 hx1 j v hj
      rw [HB1.out.cell (World.block_lt_of_cell? _ _ h)]; exact h
    have HS1 := hid hsrc1
    clear hsrc1 hx1
    go_wp2_with (at_builtin; refine wpList_append_own _ rfl _ _ 22 rfl w.heap.size 5 i0 (.int .u8 0) 1 1 Try.underlying22 hi0 hz0 hs0 hb0 rfl (by decide) v1 n0 (bv bs0) rfl HO1.out x1 n1 c1 (bv bs1) rfl ?d1 ?d2 ?d3 ?d4 ?d5 ?d6 ?_)
    case d1 => have := H1.out.1; simpa [bv] using this
    case d2 => exact HS1.out
    case d3 => exact bv_one bs1
    case d4 => unfold maxLen; omega
    case d5 => omega
    case d6 => exact HB1.out.size
    intro v2 w2 hown hgrow _
    have hb2 : Below w.heap.size w w2 := HB1.out.grown hgrow HB1.out.size (fun k hk => (HO1.out.lt k hk).1)
    have e : bv bs0 ++ bv bs1 = bv (bs0 ++ bs1) := by simp [bv]
    rw [e] at hown
    obtain ⟨g, cap, rfl, h1, h2, h3⟩ := own_ints hown (by omega)
    have HF := hid (And.intro h1 (And.intro h2 hb2))
    clear hown hgrow hb2 e h1 h2 h3
    go_wp2
    go_ret
    exact ⟨g, cap, rfl, HF.out.1, HF.out.2.1, HF.out.2.2⟩

end Go.Proofs.Qxb6601149a
