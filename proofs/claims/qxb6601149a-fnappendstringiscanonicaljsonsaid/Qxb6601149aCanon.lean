import Derived.Test.Qxb6601149aDecode
namespace Go.Proofs.Qxb6601149a
open Go.RowKit
set_option linter.unusedVariables false
set_option linter.unusedSimpArgs false

set_option maxHeartbeats 1000000 in
theorem same_some (x0 x1 : Addr) (n c0 c1 : Nat) (bs : List Int) (w : World) (hn : n ≤ 4194304) (H0 : Hid (∀ i, i < n → w.cell? (x0.add i) = some (.int .u8 (bs[i]?.getD 0)))) (H1 : Hid (∀ i, i < n → w.cell? (x1.add i) = some (.int .u8 (bs[i]?.getD 0)))) :
    Calls Try.prog 12 #[.slice (some x0) n c0, .slice (some x1) n c1] w fun e w' => e = .returned (.bool true) ∧ ∃ m, w' = w.drewN m := by
  go_enter Try.func12, Try.ntmps12
  go_wp2
  go_loopg [5] n (fun g vi wr => ∃ i q : Nat, i ≤ n ∧ g = n - i ∧ vi = .int .i64 i ∧ Hid (wr = w.drewN q))
  case atStart => exact ⟨0, 0, Nat.zero_le _, rfl, rfl, rfl⟩
  case round =>
    obtain ⟨i, q, hi, rfl, rfl, HW⟩ := hrel
    have hw := HW.out
    subst hw
    clear HW
    by_cases hlt : i < n
    · have k0 := H0.out i hlt
      have k1 := H1.out i hlt
      generalize bs[i]?.getD 0 = bx at *
      have hne : (bx != bx) = false := by simp
      go_wp2
      go_quiet (fail)
      go_wp2
      go_roundg (n - (i + 1))
      case measure => omega
      case rel => exact ⟨i + 1, _, by omega, rfl, by go_num, rfl⟩
    · go_wp2
      go_ret
      exact ⟨rfl, _, rfl⟩

set_option maxHeartbeats 400000 in
theorem same_zero (a0 a1 : Option Addr) (c0 c1 : Nat) (w : World) :
    Calls Try.prog 12 #[.slice a0 0 c0, .slice a1 0 c1] w fun e w' => e = .returned (.bool true) ∧ ∃ m, w' = w.drewN m := by
  go_enter Try.func12, Try.ntmps12
  go_wp2
  go_loopg [5] 0 (fun g vi wr => vi = .int .i64 0 ∧ Hid (w = wr))
  case atStart => exact ⟨rfl, rfl⟩
  case round =>
    obtain ⟨rfl, HW⟩ := hrel
    go_wp2
    go_ret
    exact ⟨rfl, 0, HW.out.symm⟩

theorem same_any (x0 : Addr) (a1 : Option Addr) (n c0 c1 : Nat) (bs : List Int) (w : World) (hn : n ≤ 4194304) (H0 : Hid (∀ i, i < n → w.cell? (x0.add i) = some (.int .u8 (bs[i]?.getD 0)))) (H1 : Hid (Src w a1 n c1 bs)) :
    Calls Try.prog 12 #[.slice (some x0) n c0, .slice a1 n c1] w fun e w' => e = .returned (.bool true) ∧ ∃ m, w' = w.drewN m := by
  rcases H1.out.2 with ⟨rfl, rfl, rfl⟩ | ⟨x1, rfl, h⟩
  · exact same_zero _ _ _ _ _
  · exact same_some x0 x1 n c0 c1 bs w hn H0 h

set_option maxHeartbeats 1000000 in
theorem sameS_some (g cap : Nat) (s : ByteArray) (w : World) (hn : s.size ≤ 65536) (HI : Hid (Ints .u8 w g 0 (sb s))) :
    Calls Try.prog 14 #[.slice (some ⟨g, 0, none⟩) s.size cap, .string s] w fun e w' => e = .returned (.bool true) ∧ ∃ m, w' = w.drewN m := by
  go_enter Try.func14, Try.ntmps14
  go_wp2
  go_loopg [5] s.size (fun g vi wr => ∃ i q : Nat, i ≤ s.size ∧ g = s.size - i ∧ vi = .int .i64 i ∧ Hid (wr = w.drewN q))
  case atStart => exact ⟨0, 0, Nat.zero_le _, rfl, rfl, rfl⟩
  case round =>
    obtain ⟨i, q, hi, rfl, rfl, HW⟩ := hrel
    have hw := HW.out
    subst hw
    clear HW
    by_cases hlt : i < s.size
    · have k0 := HI.out i (by rw [sb_length]; exact hlt)
      rw [sb_get s i hlt, Nat.zero_add] at k0
      simp only [Option.getD_some] at k0
      have hne : ((s[i].toNat : Int) != (s[i].toNat : Int)) = false := by simp
      go_wp2
      go_quiet (fail)
      go_wp2
      go_roundg (s.size - (i + 1))
      case measure => omega
      case rel => exact ⟨i + 1, _, by omega, rfl, by go_num, rfl⟩
    · go_wp2
      go_ret
      exact ⟨rfl, _, rfl⟩

set_option maxHeartbeats 400000 in
theorem sameS_zero (a0 : Option Addr) (c0 : Nat) (s : ByteArray) (hs : s.size = 0) (w : World) :
    Calls Try.prog 14 #[.slice a0 0 c0, .string s] w fun e w' => e = .returned (.bool true) ∧ ∃ m, w' = w.drewN m := by
  go_enter Try.func14, Try.ntmps14
  go_wp2
  go_loopg [5] 0 (fun g vi wr => vi = .int .i64 0 ∧ Hid (w = wr))
  case atStart => exact ⟨rfl, rfl⟩
  case round =>
    obtain ⟨rfl, HW⟩ := hrel
    go_wp2
    go_ret
    exact ⟨rfl, 0, HW.out.symm⟩

theorem sameS_any (v : Value) (base : Nat) (s : ByteArray) (w : World) (hn : s.size ≤ 65536) (HO : Hid (w.ownsRow base 5 1 v s.size (bv (sb s)))) :
    Calls Try.prog 14 #[v, .string s] w fun e w' => e = .returned (.bool true) ∧ ∃ m, w' = w.drewN m := by
  by_cases h : s.size = 0
  · have hO := HO.out
    rw [h] at hO
    rcases hO.2 with ⟨rfl, _⟩ | ⟨g, cap, cur, rfl, _⟩
    · exact sameS_zero _ _ s h w
    · exact sameS_zero _ _ s h w
  · obtain ⟨g, cap, rfl, _, h2, _⟩ := own_ints HO.out (by omega)
    exact sameS_some g cap s w hn h2

set_option maxHeartbeats 400000 in
theorem bytes9 (a0 : Option Addr) (n0 c0 : Nat) (s : ByteArray) (w : World) (h0 : n0 ≤ 9223372036854775807) (h1 : s.size ≤ 9223372036854775807) :
    Calls Try.prog 9 #[.slice a0 n0 c0, .string s] w fun e w' => (∃ b, e = .returned (.bool b)) ∧ w = w' := by
  go_enter Try.func9, Try.ntmps9
  go_wp2
  all_goals (go_ret; exact ⟨⟨_, rfl⟩, rfl⟩)

set_option maxHeartbeats 1000000 in
set_option maxRecDepth 100000 in
theorem canonLaw_out (a0 : Option Addr) (n0 c0 : Nat) (s : ByteArray) (w : World) (b0 : n0 ≤ 9223372036854775807) (b1 : s.size ≤ 9223372036854775807) (hno : ¬ (n0 ≤ 524288 ∧ s.size ≤ 65536)) :
    Calls Try.prog 3 #[.slice a0 n0 c0, .string s] w fun e w' => e = .returned (.bool true) ∧ Below w.heap.size w w' := by
  go_enter Try.func3, Try.ntmps3
  go_wp2_with (go_at_call 9; refine (bytes9 _ _ _ _ _ b0 b1).mono ?_; rintro e w' ⟨⟨b, rfl⟩, rfl⟩)
  all_goals first
    | (exfalso; simp at *; omega)
    | (go_ret; exact ⟨rfl, Below.refl _ _⟩)

theorem sb_byte (s : ByteArray) : ∀ c ∈ sb s, 0 ≤ c ∧ c ≤ 255 := by
  intro c hc
  unfold sb at hc
  obtain ⟨x, _, rfl⟩ := List.mem_map.1 hc
  have : x.toNat < 256 := UInt8.toNat_lt x
  omega

/-- a clone, owned -/
theorem clone_own (a : Option Addr) (n c : Nat) (bs : List Int) (w : World) (hn : n ≤ 4194304) (hs : Src w a n c bs) :
    Calls Try.prog 10 #[.slice a n c] w fun e w' => ∃ v, e = .returned v ∧ w'.ownsRow w.heap.size 5 1 v n (bv bs) ∧ Below w.heap.size w w' := by
  obtain ⟨hl, h | ⟨x, rfl, hx⟩⟩ := hs
  · obtain ⟨rfl, rfl, rfl⟩ := h
    have hbs : bs = [] := List.length_eq_zero_iff.1 hl
    subst hbs
    exact (clone_nil w).mono (by rintro e w' ⟨rfl, rfl⟩; exact ⟨_, rfl, World.ownsRow_nil _ _ _ _, Below.refl _ _⟩)
  · refine (clone_some x c bs n hl w hn hx).mono ?_
    rintro e w' ⟨rfl, h1, h2, h3⟩
    refine ⟨_, rfl, ⟨by simp [bv, hl], .inr ⟨w.heap.size, n, (bv bs).toArray, rfl, Nat.le_refl _, h1, Nat.le_refl _, by unfold maxLen; omega, by simp [bv, hl], ?_⟩⟩, h2⟩
    rw [List.toList_toArray, List.take_of_length_le (by simp [bv, hl])]

set_option maxHeartbeats 2000000 in
set_option maxRecDepth 100000 in
theorem canonLaw_in (a0 : Option Addr) (n0 c0 : Nat) (ds : List Int) (s : ByteArray) (w : World) (b0 : n0 ≤ 524288) (b1 : s.size ≤ 65536) (H0 : Hid (Src w a0 n0 c0 ds))
    (L : Nat) (HL : Hid ((body (sb s)).length = L)) (hL : L ≤ 400000) :
    Calls Try.prog 3 #[.slice a0 n0 c0, .string s] w fun e w' => e = .returned (.bool true) ∧ Below w.heap.size w w' := by
  have b0' : n0 ≤ 9223372036854775807 := by omega
  have b1' : s.size ≤ 9223372036854775807 := by omega
  have HB := hid (fun W => bytes9 a0 n0 c0 s W b0' b1')
  have HC := hid (clone_src a0 n0 c0 ds w (by omega) H0.out)
  go_enter Try.func3, Try.ntmps3
  go_wp2_with fail
  refine (HB.out w).mono ?_
  rintro e w' ⟨⟨b, rfl⟩, rfl⟩
  clear HB
  go_wp2_with fail
  · go_ret; exact ⟨rfl, Below.refl _ _⟩
  refine HC.out.mono ?_
  rintro e w1 ⟨a', c', rfl, g1, g2⟩
  have G1 := hid g1
  have G2 := hid g2
  clear g1 g2 HC H0
  go_wp2_with fail
  refine (clone_own a' n0 c' ds w1 (by omega) G1.out).mono ?_
  rintro e w2 ⟨v2, rfl, k1, k2⟩
  have K1 := hid k1
  have K2 := hid k2
  clear k1 k2
  go_wp2_with fail
  refine (append_any s w1.heap.size n0 ds v2 w2 b1 (by omega) K2.out.size K1).mono ?_
  rintro e w3 ⟨v3, rfl, q1, q2⟩
  rw [enc_length, HL.out] at q1
  obtain ⟨g, cap, rfl, q3, q4, q5⟩ := own_ints q1 (by omega)
  have hcapn : n0 + (L + 2) ≤ cap ∧ cap ≤ 9223372036854775807 := by
    rcases q1.2 with ⟨h, _⟩ | ⟨g', cap', cur, h, _, _, h1, h2, _⟩
    · cases h
    · simp only [Value.slice.injEq] at h
      obtain ⟨_, _, rfl⟩ := h
      unfold maxLen at h2
      exact ⟨h1, by omega⟩
  have Q4 := hid q4
  have HB3 : Hid (Below w1.heap.size w1 w3) := K2.out.trans q2
  have HBW : Hid (Below w.heap.size w w3) := G2.out.trans (HB3.out.mono G2.out.size)
  have G3 := hid (G1.out.below HB3.out)
  clear q1 q2 q3 q4 q5 K1 K2 G1
  obtain ⟨hc1, hc2⟩ := hcapn
  have HEQ0 : Hid (∀ i, i < n0 → w3.cell? ((⟨g, 0, none⟩ : Addr).add i) = some (.int .u8 (ds[i]?.getD 0))) := by
    intro i hi
    rw [addr_add, Q4.out i (by rw [List.length_append, G3.out.1]; omega), List.getElem?_append_left (by rw [G3.out.1]; exact hi)]
  have HENC : Hid (Ints .u8 w3 g n0 (enc (sb s))) := by
    intro i hi
    have := Q4.out (n0 + i) (by rw [List.length_append, G3.out.1]; omega)
    rw [Nat.zero_add] at this
    rw [this, List.getElem?_append_right (by rw [G3.out.1]; omega), G3.out.1, Nat.add_sub_cancel_left]
  clear Q4
  have hlt3 : ¬ ((n0 : Int) + ((L : Int) + 2) < (n0 : Int) + 2) := by omega
  go_wp2_with fail
  refine (same_any ⟨g, 0, none⟩ a' n0 cap c' ds w3 (by omega) HEQ0 G3).mono ?_
  rintro e w4 ⟨rfl, q, hw4⟩
  subst hw4
  have hn1 : n0 < cap := by omega
  have hn2 : ¬ cap = n0 := by omega
  go_wp2_with fail
  refine (decode_any g n0 (cap - n0) L s.size (sb s) (w3.drewN q) HL (sb_length s) (by omega) (by omega) (by omega) HENC.out (sb_byte s)).mono ?_
  rintro e w5 ⟨v5, rfl, r1, r2⟩
  have R1 := hid r1
  have R2 : Hid (Below w.heap.size w w5) := (Below.drewN' HBW.out q).trans (r2.mono HBW.out.size)
  clear r1 r2
  go_wp2_with fail
  refine (sameS_any v5 _ s w5 b1 R1).mono ?_
  rintro e w6 ⟨rfl, q6, hw6⟩
  subst hw6
  go_wp2_with fail
  go_ret
  exact ⟨rfl, Below.drewN' R2.out _⟩

theorem canonLaw (a0 : Option Addr) (len0 cap0 : Nat) (z0 : List Int) (a1 : ByteArray) (w : World) (w0 : Row .u8 w a0 len0 cap0 z0) (w1 : a1.size ≤ maxLen) :
    Calls Try.prog 3 #[.slice a0 len0 cap0, .string a1] w fun e w' => e = .returned (.bool true) ∧ Below w.heap.size w w' := by
  have hs1 : a1.size ≤ 9223372036854775807 := by unfold maxLen at w1; omega
  by_cases h : len0 ≤ 524288 ∧ a1.size ≤ 65536
  · have hb := body_length (sb a1)
    rw [sb_length] at hb
    exact canonLaw_in a0 len0 cap0 _ a1 w h.1 h.2 w0.src _ rfl (by omega)
  · exact canonLaw_out a0 len0 cap0 a1 w w0.len hs1 h

end Go.Proofs.Qxb6601149a
