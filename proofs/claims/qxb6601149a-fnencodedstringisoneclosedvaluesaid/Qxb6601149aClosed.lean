import Derived.Test.Qxb6601149aAppend
namespace Go.Proofs.Qxb6601149a
open Go.RowKit
set_option linter.unusedVariables false
set_option linter.unusedSimpArgs false

set_option maxHeartbeats 1000000 in
theorem span_any (b n c : Nat) (bs : List Int) (w : World) (HL : Hid (bs.length = n)) (hn : n ≤ 4194304) (hn0 : 0 < n) (HB : Hid (Ints .u8 w b 0 bs)) (r1 r2 : Int) (HR : Hid (run true 0 0 0 0 bs = (r1, r2))) (hr : 0 ≤ r1)
    (HH : Hid (bs[0]?.getD 0 = 34 ∨ bs[0]?.getD 0 = 91)) :
    Calls Try.prog 18 #[.slice (some ⟨b, 0, none⟩) n c] w fun e w' => e = .returned (.int .i64 r1) ∧ w = w' := by
  have HW := hid (walk_any true b 0 n c bs w HL hn HB)
  rw [HR.out] at HW
  have c0 := HB.out 0 (by rw [HL.out]; exact hn0)
  have hne : ((n : Int) == 0) = false := by simp; omega
  have hi0 : (0 : Int) < n := by omega
  simp only [Nat.add_zero] at c0
  rcases HH.out with h | h
  all_goals
    rw [h] at c0
    clear h HH
    go_enter Try.func18, Try.ntmps18
    go_wp2_with fail
    refine HW.out.mono ?_
    rintro e w' ⟨rfl, rfl⟩
    go_wp2_with fail
    go_ret
    exact ⟨rfl, rfl⟩

set_option maxHeartbeats 400000 in
theorem bytes15 (s : ByteArray) (a1 : Option Addr) (n1 c1 : Nat) (w : World) (h0 : s.size ≤ 9223372036854775807) (h1 : n1 ≤ 9223372036854775807) :
    Calls Try.prog 15 #[.string s, .slice a1 n1 c1] w fun e w' => (∃ b, e = .returned (.bool b)) ∧ w = w' := by
  go_enter Try.func15, Try.ntmps15
  go_wp2
  all_goals (go_ret; exact ⟨⟨_, rfl⟩, rfl⟩)

set_option maxHeartbeats 1000000 in
set_option maxRecDepth 100000 in
theorem closedLaw_out (s : ByteArray) (a1 : Option Addr) (n1 c1 : Nat) (w : World) (b0 : s.size ≤ 9223372036854775807) (b1 : n1 ≤ 9223372036854775807) (hno : ¬ (s.size ≤ 65536 ∧ n1 ≤ 524288)) :
    Calls Try.prog 4 #[.string s, .slice a1 n1 c1] w fun e w' => e = .returned (.bool true) ∧ Below w.heap.size w w' := by
  go_enter Try.func4, Try.ntmps4
  go_wp2_with (go_at_call 15; refine (bytes15 _ _ _ _ _ b0 b1).mono ?_; rintro e w' ⟨⟨b, rfl⟩, rfl⟩)
  all_goals first
    | (exfalso; simp at *; omega)
    | (go_ret; exact ⟨rfl, Below.refl _ _⟩)

theorem Ints.add {w : World} {g : Nat} {bs : List Int} {n : Nat} (h : Ints .u8 w g 0 bs) (hl : bs.length = n) : ∀ i, i < n → w.cell? ((⟨g, 0, none⟩ : Addr).add i) = some (.int .u8 (bs[i]?.getD 0)) := by
  intro i hi
  rw [addr_add]; exact h i (by omega)

theorem head_append (a b : List Int) (h : 0 < a.length) : (a ++ b)[0]?.getD 0 = a[0]?.getD 0 := by
  rw [List.getElem?_append_left h]

set_option maxHeartbeats 2000000 in
set_option maxRecDepth 100000 in
theorem closedLaw_in (s : ByteArray) (a1 : Option Addr) (n1 c1 : Nat) (rs : List Int) (w : World) (b0 : s.size ≤ 65536) (b1 : n1 ≤ 524288) (H1 : Hid (Src w a1 n1 c1 rs))
    (es ar : List Int) (E : Nat) (HEQ : Hid (es = enc (sb s))) (HEL : Hid (es.length = E)) (hE1 : 2 ≤ E) (hE2 : E ≤ 400000) (HHE : Hid (es[0]?.getD 0 = 34)) (HAR : Hid (ar = 91 :: (es ++ [93]))) (HAL : Hid (ar.length = E + 2))
    (HR1 : Hid (run false 0 0 0 0 es = (-1, 0))) (HR2 : Hid (run true 0 0 0 0 (es ++ rs) = ((E : Int), (0 : Int)))) (HR3 : Hid (run false 0 0 0 0 ar = (-1, 1))) (HR4 : Hid (run true 0 0 0 0 (ar ++ rs) = ((E : Int) + 2, (1 : Int)))) :
    Calls Try.prog 4 #[.string s, .slice a1 n1 c1] w fun e w' => e = .returned (.bool true) ∧ Below w.heap.size w w' := by
  have b0' : s.size ≤ 9223372036854775807 := by omega
  have b1' : n1 ≤ 9223372036854775807 := by omega
  have HB := hid (fun W => bytes15 s a1 n1 c1 W b0' b1')
  have HC := hid (clone_src a1 n1 c1 rs w (by omega) H1.out)
  obtain ⟨i0, hi0, hzz⟩ := Option.map_eq_some_iff.1 Try.info5
  simp only [Prod.mk.injEq] at hzz
  obtain ⟨hz0, hs0, hb0⟩ := hzz
  have hmk : ∀ w, (Instr.makeSlice 22 (.int .i64 0) (.int .i64 ((E : Int) + 2))).run Try.prog w = .ok (.slice (some ⟨w.heap.size, 0, none⟩) 0 (E + 2)) (w.alloc (.cells (madeCells #[.int .u8 0] (E + 2)) 5)) := by
    intro w
    have h := run_make (P := Try.prog) w 22 5 i0 _ Try.underlying22 hi0 hz0 .i64 .i64 0 ((E : Int) + 2) (by omega) (by omega) (by rw [hb0]; omega) (by omega)
    rw [h, hs0]
    have e : ((E : Int) + 2).toNat = E + 2 := by omega
    simp [e, Value.cells]
  have HMK := hid hmk
  clear hmk
  have hEE : ((E : Int) != (E : Int)) = false := by simp
  go_enter Try.func4, Try.ntmps4
  go_wp2_with fail
  refine (HB.out w).mono ?_
  rintro e w' ⟨⟨b, rfl⟩, rfl⟩
  clear HB
  go_wp2_with fail
  · go_ret; exact ⟨rfl, Below.refl _ _⟩
  refine HC.out.mono ?_
  rintro e w1 ⟨a', c', rfl, g1, g2⟩
  have G1 := hid g1
  have G2 := hid g2
  clear g1 g2 HC H1
  go_wp2_with fail
  refine (append_any s w1.heap.size 0 [] (.slice none 0 0) w1 b0 (by omega) (Nat.le_refl _) (World.ownsRow_nil _ _ _ _)).mono ?_
  rintro e w2 ⟨v', rfl, k1, k2⟩
  rw [Nat.zero_add, List.nil_append, ← HEQ.out, HEL.out] at k1
  obtain ⟨g, cap, rfl, k3, k4, k5⟩ := own_ints k1 (by omega)
  have K4 := hid k4
  have K2 : Hid (Below w.heap.size w w2) := G2.out.trans (k2.mono G2.out.size)
  have G1' := hid (G1.out.below k2)
  have HG := hid k3
  clear k1 k2 k3 k4 k5 G1
  go_wp2_with fail
  refine (zzwalk_of (walk_any false g 0 E cap es w2 HEL (by omega) K4)).mono ?_
  rintro e w3 ⟨rfl, rfl⟩
  rw [HR1.out]
  go_wp2_with fail
  refine (concat_any ⟨g, 0, none⟩ E cap es a' n1 c' rs w2 (by omega) (by omega) (by omega) HEL (Ints.add K4.out HEL.out) G1').mono ?_
  rintro e w3 ⟨gx, capx, rfl, x1, x2, x3⟩
  have X2 := hid x2
  have X3 : Hid (Below w.heap.size w w3) := K2.out.trans (x3.mono K2.out.size)
  have K4' := hid (K4.out.below' x3)
  have G1'' := hid (G1'.out.below x3)
  have HXL : Hid ((es ++ rs).length = E + n1) := by show _ = _; rw [List.length_append, HEL.out, G1'.out.1]
  clear x1 x2 x3 K4 G1' K2
  go_wp2_with fail
  refine (span_any gx (E + n1) capx (es ++ rs) w3 HXL (by omega) (by omega) X2 _ _ HR2 (by omega) (.inl (by rw [head_append _ _ (by rw [HEL.out]; omega)]; exact HHE.out))).mono ?_
  rintro e w4 ⟨rfl, rfl⟩
  go_wp2_with fail
  refine (zzwalk_of (walk_any true gx 0 (E + n1) capx (es ++ rs) w3 HXL (by omega) X2)).mono ?_
  rintro e w4 ⟨rfl, rfl⟩
  rw [HR2.out]
  have HOWN : Hid ((w3.alloc (.cells (madeCells #[.int .u8 0] (E + 2)) 5)).ownsRow w3.heap.size 5 1 (.slice (some ⟨w3.heap.size, 0, none⟩) 0 (E + 2)) 0 []) :=
    World.ownsRow_made w3 _ _ (Nat.le_refl _) (by unfold maxLen; omega) (by rw [size_madeCells]; omega)
  have hmk := HMK.out
  go_wp2_with (at_builtin; refine wpList_append_own _ rfl _ _ 22 rfl w3.heap.size 5 i0 (.int .u8 0) 1 1 Try.underlying22 hi0 hz0 hs0 hb0 rfl (by decide) _ 0 [] rfl (HOWN.out.alloc _) ⟨w3.heap.size + 1, 0, none⟩ 1 1 [.int .u8 91] rfl rfl ?c2 ?c3 ?c4 ?c5 ?c6 ?_)
  case c2 =>
    intro j u hj
    match j, hj with
    | 0, hj => simp at hj; subst hj; have h := World.cell?_alloc_new (w3.alloc (.cells (madeCells #[.int .u8 0] (E + 2)) 5)) #[.int .u8 91] 5 0; rw [World.size_alloc] at h; rw [addr_add]; exact h
  case c3 => intro u hu; simp at hu; subst hu; rfl
  case c4 => unfold maxLen; omega
  case c5 => omega
  case c6 => simp; omega
  intro v4 w4 hown hgrow _
  have hb4 : Below w3.heap.size w3 w4 := (((Below.refl _ _).alloc (Nat.le_refl _) _).alloc (by simp) _).grown hgrow (by simp; omega) (by intro k hk; simp [Value.ownBlock] at hk; omega)
  have HO4 := hid hown
  have HB4 := hid hb4
  have K5 : Hid (∀ i, i < E → w4.cell? ((⟨g, 0, none⟩ : Addr).add i) = some (.int .u8 (es[i]?.getD 0))) := Ints.add (K4'.out.below' hb4) HEL.out
  clear hown hgrow hb4 HOWN hmk HMK K4'
  have HS5 := hid (bv_src HEL.out K5.out)
  go_wp2_with (at_builtin; refine wpList_append_own _ rfl _ _ 22 rfl w3.heap.size 5 i0 (.int .u8 0) 1 1 Try.underlying22 hi0 hz0 hs0 hb0 rfl (by decide) v4 1 [.int .u8 91] rfl HO4.out ⟨g, 0, none⟩ E cap (bv es) rfl ?d1 ?d2 ?d3 ?d4 ?d5 ?d6 ?_)
  case d1 => have := HEL.out; simpa [bv] using this
  case d2 => exact HS5.out
  case d3 => exact bv_one es
  case d4 => unfold maxLen; omega
  case d5 => omega
  case d6 => exact HB4.out.size
  intro v5 w5 hown hgrow _
  have hb5 : Below w3.heap.size w3 w5 := HB4.out.grown hgrow HB4.out.size (fun k hk => (HO4.out.lt k hk).1)
  have HO5 := hid hown
  have HB5 := hid hb5
  clear hown hgrow hb5 HS5 K5 HO4 HB4
  go_wp2_with (at_builtin; refine wpList_append_own _ rfl _ _ 22 rfl w3.heap.size 5 i0 (.int .u8 0) 1 1 Try.underlying22 hi0 hz0 hs0 hb0 rfl (by decide) v5 (1 + E) ([.int .u8 91] ++ bv es) rfl (HO5.out.alloc _) ⟨w5.heap.size, 0, none⟩ 1 1 [.int .u8 93] rfl rfl ?e2 ?e3 ?e4 ?e5 ?e6 ?_)
  case e2 => exact cell_one_new _ _ _
  case e3 => intro u hu; simp at hu; subst hu; rfl
  case e4 => unfold maxLen; omega
  case e5 => omega
  case e6 => have := HB5.out.size; simp; omega
  intro v6 w6 hown hgrow _
  have hb6 : Below w3.heap.size w3 w6 := (HB5.out.alloc HB5.out.size _).grown hgrow (by have := HB5.out.size; simp; omega) (fun k hk => (HO5.out.lt k hk).1)
  have e1 : Value.int .u8 91 :: (bv es ++ [.int .u8 93]) = bv ar := by rw [HAR.out]; simp [bv]
  rw [e1, show 1 + E + 1 = E + 2 by omega] at hown
  obtain ⟨ga, capa, rfl, y1, y2, y3⟩ := own_ints hown (by omega)
  have Y2 := hid y2
  have HB6 := hid hb6
  have G6 := hid (G1''.out.below hb6)
  clear hown hgrow hb6 e1 y1 y2 y3 HO5 HB5
  have HWA := hid (zzwalk_of (walk_any false ga 0 (E + 2) capa ar w6 HAL (by omega) Y2))
  rw [HR3.out] at HWA
  go_wp2_with fail
  refine HWA.out.mono ?_
  rintro e w7 ⟨rfl, rfl⟩
  go_wp2_with fail
  refine (concat_any ⟨ga, 0, none⟩ (E + 2) capa ar a' n1 c' rs w6 (by omega) (by omega) (by omega) HAL (Ints.add Y2.out HAL.out) G6).mono ?_
  rintro e w7 ⟨gy, capy, rfl, z1, z2, z3⟩
  have Z2 := hid z2
  have Z3 : Hid (Below w.heap.size w w7) := X3.out.trans ((HB6.out.trans (z3.mono HB6.out.size)).mono X3.out.size)
  clear z1 z2 z3
  have HYL : Hid ((ar ++ rs).length = E + 2 + n1) := by show _ = _; rw [List.length_append, HAL.out, G6.out.1]
  have HWY := hid (zzwalk_of (walk_any true gy 0 (E + 2 + n1) capy (ar ++ rs) w7 HYL (by omega) Z2))
  rw [HR4.out] at HWY
  have HSY := hid (span_any gy (E + 2 + n1) capy (ar ++ rs) w7 HYL (by omega) (by omega) Z2 _ _ HR4 (by omega) (.inr (by rw [head_append _ _ (by rw [HAL.out]; omega), HAR.out]; rfl)))
  go_wp2_with fail
  refine HWY.out.mono ?_
  rintro e w8 ⟨rfl, rfl⟩
  go_wp2_with fail
  refine HSY.out.mono ?_
  rintro e w8 ⟨rfl, rfl⟩
  go_wp2_with fail
  go_ret
  exact ⟨rfl, Z3⟩

theorem sb_nonneg (s : ByteArray) : ∀ c ∈ sb s, 0 ≤ c := by
  intro c hc
  unfold sb at hc
  obtain ⟨x, _, rfl⟩ := List.mem_map.1 hc
  omega

theorem closedLaw (a0 : ByteArray) (w0 : a0.size ≤ maxLen) (a1 : Option Addr) (len1 cap1 : Nat) (z1 : List Int) (w : World) (w1 : Row .u8 w a1 len1 cap1 z1) :
    Calls Try.prog 4 #[.string a0, .slice a1 len1 cap1] w fun e w' => e = .returned (.bool true) ∧ Below w.heap.size w w' := by
  have hs0 : a0.size ≤ 9223372036854775807 := by unfold maxLen at w0; omega
  by_cases h : a0.size ≤ 65536 ∧ len1 ≤ 524288
  · have hb := body_length (sb a0)
    rw [sb_length] at hb
    have hn := sb_nonneg a0
    refine closedLaw_in a0 a1 len1 cap1 (z1.take len1) w h.1 h.2 w1.src (enc (sb a0)) (arr (sb a0)) (enc (sb a0)).length rfl rfl (by rw [enc_length]; omega) (by rw [enc_length]; omega) rfl rfl (arr_length _)
      (run_enc_alone _ hn) (run_enc_stop _ _ hn) (run_arr_alone _ hn) ?_
    have := run_arr_stop (sb a0) (z1.take len1) hn
    rw [arr_length] at this
    exact hid (by simpa using this)
  · exact closedLaw_out a0 a1 len1 cap1 w hs0 w1.len h

end Go.Proofs.Qxb6601149a
