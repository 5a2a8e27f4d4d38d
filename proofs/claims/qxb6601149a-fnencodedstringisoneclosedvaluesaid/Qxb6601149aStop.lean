import Derived.Test.Qxb6601149aConcat
namespace Go.Proofs.Qxb6601149a
open Go.RowKit
set_option linter.unusedVariables false
set_option linter.unusedSimpArgs false

/-- cloneBytes, whatever came in: what it hands back can be read. -/
theorem clone_src (a : Option Addr) (n c : Nat) (bs : List Int) (w : World) (hn : n ≤ 4194304) (hs : Src w a n c bs) :
    Calls Try.prog 10 #[.slice a n c] w fun e w' => ∃ a' c', e = .returned (.slice a' n c') ∧ Src w' a' n c' bs ∧ Below w.heap.size w w' := by
  obtain ⟨hl, h | ⟨x, rfl, hx⟩⟩ := hs
  · obtain ⟨rfl, rfl, rfl⟩ := h
    exact (clone_nil w).mono (by rintro e w' ⟨rfl, rfl⟩; exact ⟨_, _, rfl, ⟨hl, .inl ⟨rfl, rfl, rfl⟩⟩, Below.refl _ _⟩)
  · refine (clone_some x c bs n hl w hn hx).mono ?_
    rintro e w' ⟨rfl, h1, h2, h3⟩
    refine ⟨_, _, rfl, ⟨hl, .inr ⟨_, rfl, fun i hi => ?_⟩⟩, h2⟩
    rw [addr_add]
    exact Ints.of_blk h1 i (by rw [hl]; exact hi)

theorem Src.below {w w' : World} {a : Option Addr} {n c : Nat} {bs : List Int} (h : Src w a n c bs) (hb : Below w.heap.size w w') : Src w' a n c bs := by
  obtain ⟨hl, h | ⟨x, rfl, hx⟩⟩ := h
  · exact ⟨hl, .inl h⟩
  · refine ⟨hl, .inr ⟨x, rfl, fun i hi => ?_⟩⟩
    rw [hb.cell (World.block_lt_of_cell? _ _ (hx i hi))]; exact hx i hi

theorem Row.src {w : World} {a : Option Addr} {len cap : Nat} {zs : List Int} (h : Row .u8 w a len cap zs) : Src w a len cap (zs.take len) := by
  rcases h with ⟨rfl, rfl, rfl, rfl⟩ | ⟨x, rfl, h2, h3, h4, h5, h6⟩
  · exact ⟨rfl, .inl ⟨rfl, rfl, rfl⟩⟩
  · refine ⟨by rw [List.length_take]; omega, .inr ⟨x, rfl, fun i hi => ?_⟩⟩
    rw [h5 i (by omega), List.getD_eq_getElem?_getD]
    simp [hi]

theorem Ints.below' {k : IntKind} {w w' : World} {b off : Nat} {zs : List Int} (h : Ints k w b off zs) (hb : Below w.heap.size w w') : Ints k w' b off zs := by
  intro i hi
  have := World.block_lt_of_cell? _ _ (h i hi)
  rw [hb.cell this]; exact h i hi

set_option maxHeartbeats 1000000 in
set_option maxRecDepth 100000 in
theorem stopLaw_out (a0 : Option Addr) (n0 c0 : Nat) (a1 : Option Addr) (n1 c1 : Nat) (w : World) (b0 : n0 ≤ 9223372036854775807) (b1 : n1 ≤ 9223372036854775807) (hno : ¬ (n0 ≤ 524288 ∧ n1 ≤ 524288)) :
    Calls Try.prog 6 #[.slice a0 n0 c0, .slice a1 n1 c1] w fun e w' => e = .returned (.bool true) ∧ Below w.heap.size w w' := by
  go_enter Try.func6, Try.ntmps6
  go_wp2_with (go_at_call 21; refine (bytes21 _ _ _ _ _ _ _ b0 b1).mono ?_; rintro e w' ⟨⟨b, rfl⟩, rfl⟩)
  all_goals first
    | (exfalso; simp at *; omega)
    | (go_ret; exact ⟨rfl, Below.refl _ _⟩)

set_option maxHeartbeats 1000000 in
set_option maxRecDepth 100000 in
theorem stopLaw_nil (a1 : Option Addr) (n1 c1 : Nat) (cs : List Int) (w : World) (b1 : n1 ≤ 524288) (H1 : Hid (Src w a1 n1 c1 cs)) :
    Calls Try.prog 6 #[.slice none 0 0, .slice a1 n1 c1] w fun e w' => e = .returned (.bool true) ∧ Below w.heap.size w w' := by
  have b1' : n1 ≤ 9223372036854775807 := by omega
  have HB := hid (fun W => bytes21 none a1 0 0 n1 c1 W (by omega) b1')
  have HC := hid (clone_src a1 n1 c1 cs w (by omega) H1.out)
  go_enter Try.func6, Try.ntmps6
  go_wp2_with fail
  refine (HB.out w).mono ?_
  rintro e w' ⟨⟨b, rfl⟩, rfl⟩
  go_wp2_with fail
  · go_ret; exact ⟨rfl, Below.refl _ _⟩
  refine (clone_nil w).mono ?_
  rintro e w1 ⟨rfl, rfl⟩
  go_wp2_with fail
  refine HC.out.mono ?_
  rintro e w2 ⟨a', c', rfl, _, h2⟩
  have H2 := hid h2
  clear h2
  go_wp2_with fail
  refine (zzwalk_of (walk_zero true none 0 w2)).mono ?_
  rintro e w3 ⟨rfl, rfl⟩
  go_wp2_with fail
  refine (zzwalk_of (walk_zero false none 0 w2)).mono ?_
  rintro e w3 ⟨rfl, rfl⟩
  go_wp2_with fail
  go_ret
  exact ⟨rfl, H2⟩

set_option maxHeartbeats 1000000 in
set_option maxRecDepth 100000 in
theorem stopLaw_some (x0 : Addr) (n0 c0 : Nat) (bs : List Int) (a1 : Option Addr) (n1 c1 : Nat) (cs : List Int) (w : World) (b0 : n0 ≤ 524288) (b1 : n1 ≤ 524288) (HL : Hid (bs.length = n0))
    (H0 : Hid (∀ i, i < n0 → w.cell? (x0.add i) = some (.int .u8 (bs[i]?.getD 0)))) (H1 : Hid (Src w a1 n1 c1 cs)) :
    Calls Try.prog 6 #[.slice (some x0) n0 c0, .slice a1 n1 c1] w fun e w' => e = .returned (.bool true) ∧ Below w.heap.size w w' := by
  have b0' : n0 ≤ 9223372036854775807 := by omega
  have b1' : n1 ≤ 9223372036854775807 := by omega
  have HB := hid (fun W => bytes21 (some x0) a1 n0 c0 n1 c1 W b0' b1')
  have HC0 := hid (clone_some x0 c0 bs n0 HL w (by omega) H0.out)
  have HC1 := hid (fun W hs => clone_src a1 n1 c1 cs W (by omega) hs)
  have HWT := hid (fun W HI => zzwalk_of (walk_any true w.heap.size 0 n0 n0 bs W HL (by omega) HI))
  have HWF := hid (fun W HI => zzwalk_of (walk_any false w.heap.size 0 n0 n0 bs W HL (by omega) HI))
  have hA1 := run_false_fst bs 0 0 0 0
  have hT0 := run_ge true bs 0 0 0 0
  have hTA := run_le_all bs 0 0 0 0
  have HT := hid (run_true bs 0 0 0 0)
  have HWX : Hid (∀ (g cap m : Nat) (W : World), (bs.take m ++ cs).length = m + n1 → m + n1 ≤ 4194304 → Ints .u8 W g 0 (bs.take m ++ cs) →
    Calls Try.prog 16 #[.slice (some ⟨g, 0, none⟩) (m + n1) cap, .bool true] W fun e w' => e = .returned (.tuple #[.int .i64 (run true 0 0 0 0 (bs.take m ++ cs)).1, .int .i64 (run true 0 0 0 0 (bs.take m ++ cs)).2]) ∧ W = w') :=
    fun g cap m W h1 h2 h3 => zzwalk_of (walk_any true g 0 (m + n1) cap (bs.take m ++ cs) W h1 h2 h3)
  generalize hr : run true 0 0 0 0 bs = r at *
  generalize hra : run false 0 0 0 0 bs = ra at *
  obtain ⟨r1, r2⟩ := r
  obtain ⟨ra1, ra2⟩ := ra
  simp only at hA1 hT0 hTA
  subst hA1
  have HTe : Hid ((r1 = -1 ∧ r2 = ra2) ∨ ∃ m : Nat, r1 = (m : Int) ∧ 1 ≤ m ∧ m ≤ n0 ∧ run true 0 0 0 0 (bs.take m ++ cs) = (r1, r2)) := by
    rcases HT.out with ⟨h1, h2⟩ | ⟨m, h1, h2, h3, h4⟩
    · left; simp only [Prod.mk.injEq] at h2; exact ⟨h1, h2.2⟩
    · right; exact ⟨m, by simpa using h1, h2, by rw [HL.out] at h3; exact h3, h4 cs⟩
  clear hr hra HT H0
  rcases HTe.out with ⟨h1, h2⟩ | ⟨m, hm1, hm2, hm3, hm4⟩
  · subst h1 h2
    have hee : (r2 == r2) = true := by simp
    clear HTe
    go_enter Try.func6, Try.ntmps6
    go_wp2_with fail
    refine (HB.out w).mono ?_
    rintro e w' ⟨⟨b, rfl⟩, rfl⟩
    go_wp2_with fail
    · go_ret; exact ⟨rfl, Below.refl _ _⟩
    refine HC0.out.mono ?_
    rintro e w1 ⟨rfl, g1, g2, g3⟩
    have G1 := hid g1
    have G2 := hid g2
    clear g1 g2 g3
    go_wp2_with fail
    refine (HC1.out w1 (H1.out.below G2.out)).mono ?_
    rintro e w2 ⟨a', c', rfl, g4, g5⟩
    have G5 : Hid (Below w.heap.size w w2) := G2.out.trans (g5.mono G2.out.size)
    have G6 : Hid (Ints .u8 w2 w.heap.size 0 bs) := (Ints.of_blk G1.out).below' g5
    clear g4 g5
    go_wp2_with fail
    refine (HWT.out w2 G6).mono ?_
    rintro e w3 ⟨rfl, rfl⟩
    go_wp2_with fail
    refine (HWF.out w2 G6).mono ?_
    rintro e w3 ⟨rfl, rfl⟩
    go_wp2_with fail
    go_ret
    exact ⟨rfl, G5⟩
  · subst hm1
    have HM4 := hid hm4
    clear hm4 HTe
    have hne : ((m : Int) == -1) = false := by simp
    have hee : (r2 == r2) = true := by simp
    have hme : ((m : Int) == (m : Int)) = true := by simp
    have HLX : Hid ((bs.take m ++ cs).length = m + n1) := by show _ = _; rw [List.length_append, List.length_take, HL.out, H1.out.1]; omega
    go_enter Try.func6, Try.ntmps6
    go_wp2_with fail
    refine (HB.out w).mono ?_
    rintro e w' ⟨⟨b, rfl⟩, rfl⟩
    go_wp2_with fail
    · go_ret; exact ⟨rfl, Below.refl _ _⟩
    refine HC0.out.mono ?_
    rintro e w1 ⟨rfl, g1, g2, g3⟩
    have G1 := hid g1
    have G2 := hid g2
    clear g1 g2 g3
    go_wp2_with fail
    refine (HC1.out w1 (H1.out.below G2.out)).mono ?_
    rintro e w2 ⟨a', c', rfl, g4, g5⟩
    have G5 : Hid (Below w.heap.size w w2) := G2.out.trans (g5.mono G2.out.size)
    have G6 : Hid (Ints .u8 w2 w.heap.size 0 bs) := (Ints.of_blk G1.out).below' g5
    have G7 := hid g4
    clear g4 g5
    go_wp2_with fail
    refine (HWT.out w2 G6).mono ?_
    rintro e w3 ⟨rfl, rfl⟩
    go_wp2_with fail
    refine (HWF.out w2 G6).mono ?_
    rintro e w3 ⟨rfl, rfl⟩
    go_wp2_with fail
    refine (concat_any ⟨w.heap.size, 0, none⟩ m n0 (bs.take m) a' n1 c' cs w2 (by omega) (by omega) (by omega) (by show _ = _; rw [List.length_take, HL.out]; omega) (fun i hi => ?_) G7).mono ?_
    · rw [addr_add, G6.out i (by rw [HL.out]; omega)]; simp [hi]
    rintro e w4 ⟨g, cap, rfl, k1, k2, k3⟩
    have K2 := hid k2
    have K3 : Hid (Below w.heap.size w w4) := G5.out.trans (k3.mono G5.out.size)
    clear k1 k2 k3
    have HX := hid (HWX.out g cap m w4 HLX.out (by omega) K2.out)
    rw [HM4.out] at HX
    go_wp2_with fail
    refine HX.out.mono ?_
    rintro e w5 ⟨rfl, rfl⟩
    go_wp2_with fail
    go_ret
    exact ⟨rfl, K3⟩

theorem stopLaw (a0 : Option Addr) (len0 cap0 : Nat) (z0 : List Int) (a1 : Option Addr) (len1 cap1 : Nat) (z1 : List Int) (w : World) (w0 : Row .u8 w a0 len0 cap0 z0) (w1 : Row .u8 w a1 len1 cap1 z1) :
    Calls Try.prog 6 #[.slice a0 len0 cap0, .slice a1 len1 cap1] w fun e w' => e = .returned (.bool true) ∧ Below w.heap.size w w' := by
  by_cases h : len0 ≤ 524288 ∧ len1 ≤ 524288
  · rcases w0.cases with ⟨rfl, rfl, rfl⟩ | ⟨x, rfl, h1, h2⟩
    · exact stopLaw_nil a1 len1 cap1 _ w h.2 w1.src
    · exact stopLaw_some x len0 cap0 (z0.take len0) a1 len1 cap1 _ w h.1 h.2 h1 h2 w1.src
  · exact stopLaw_out a0 len0 cap0 a1 len1 cap1 w w0.len w1.len h

end Go.Proofs.Qxb6601149a
