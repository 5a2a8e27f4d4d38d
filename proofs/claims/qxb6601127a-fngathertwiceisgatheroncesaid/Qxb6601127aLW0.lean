import Derived.Test.Qxb6601127aZZG
import Derived.Test.Qxb6601127aClone
namespace Go.Proofs.Qxb6601127a
open Go.RowKit
set_option linter.unusedVariables false
set_option linter.unusedSimpArgs false

/-- what is known of a slice of integers that came in -/
def IRow (k : IntKind) (w : World) (a : Option Addr) (len cap : Nat) (zs : List Int) : Prop :=
  (a = none ∧ len = 0 ∧ cap = 0 ∧ zs = []) ∨
  ∃ x, a = some x ∧ len ≤ cap ∧ cap ≤ maxLen ∧ zs.length = cap ∧ (∀ i, i < zs.length → w.cell? (x.add i) = some (.int k (zs.getD i 0))) ∧ ∀ n ∈ zs, (Lit.int k n).wf = true

/-- the slice oa (of n) reads as zs -/
def RX (k : IntKind) (w : World) (oa : Option Addr) (n : Nat) (zs : List Int) : Prop :=
  zs.length = n ∧ ∀ i, i < n → ∃ x, oa = some x ∧ w.cell? (x.add i) = some (.int k (zs[i]?.getD 0))

theorem IRow.len {k : IntKind} {w : World} {a : Option Addr} {len cap : Nat} {zs : List Int} (h : IRow k w a len cap zs) : len ≤ 9223372036854775807 := by
  rcases h with ⟨_, h, _⟩ | ⟨x, _, h1, h2, _⟩
  · omega
  · unfold maxLen at h2; omega

theorem IRow.rx {k : IntKind} {w : World} {a : Option Addr} {len cap : Nat} {zs : List Int} (h : IRow k w a len cap zs) : RX k w a len (zs.take len) := by
  rcases h with ⟨rfl, rfl, rfl, rfl⟩ | ⟨x, rfl, h1, h2, h3, h4, h5⟩
  · exact ⟨rfl, fun i hi => by omega⟩
  · refine ⟨by rw [List.length_take]; omega, fun i hi => ⟨x, rfl, ?_⟩⟩
    rw [h4 i (by omega), List.getElem?_take, if_pos hi, List.getD_eq_getElem?_getD]

theorem IRow.fits {k : IntKind} {w : World} {a : Option Addr} {len cap : Nat} {zs : List Int} (h : IRow k w a len cap zs) : ∀ z ∈ zs.take len, (Lit.int k z).wf = true := by
  intro z hz
  rcases h with ⟨rfl, rfl, rfl, rfl⟩ | ⟨x, rfl, h1, h2, h3, h4, h5⟩
  · simp at hz
  · exact h5 z (List.mem_of_mem_take hz)

theorem addr_at (b i : Nat) : Addr.add ⟨b, 0, none⟩ i = ⟨b, i, none⟩ := by
  unfold Addr.add
  by_cases h : i = 0
  · subst h; simp
  · simp [h]

theorem RD.rx {k : IntKind} {D : Nat} {w : World} {v : Value} {zs : List Int} (h : RD k D w v zs) : ∃ oa c, v = .slice oa zs.length c ∧ RX k w oa zs.length zs := by
  obtain ⟨oa, c, hv, hh⟩ := h
  refine ⟨oa, c, hv, rfl, fun i hi => ?_⟩
  obtain ⟨b, _, ho, hc⟩ := hh (by omega)
  exact ⟨_, ho, by rw [addr_at]; exact hc i hi⟩

theorem RX.drew {k : IntKind} {w : World} {oa : Option Addr} {n : Nat} {zs : List Int} (h : RX k w oa n zs) (m : Nat) : RX k (w.drewN m) oa n zs := h

/-- the answer is P's truth -/
def BoolAns (P : Prop) (r : Ending) : Prop := ∃ b : Bool, r = .returned (.bool b) ∧ (b = true ↔ P)

/-- the lengths are none negative and add up to e -/
def Layout (zs : List Int) (e : Nat) : Prop := (∀ z ∈ zs, 0 ≤ z) ∧ zs.sum = (e : Int)

theorem nonneg_sum {zs : List Int} (h : ∀ z ∈ zs, 0 ≤ z) : 0 ≤ zs.sum := by
  induction zs with
  | nil => simp
  | cons z zs ih =>
    have h1 := h z (by simp)
    have h2 := ih (fun y hy => h y (by simp [hy]))
    simp; omega

theorem Layout.upto {zs : List Int} {e k : Nat} {z : Int} (h : Layout zs e) (hz : zs[k]? = some z) : 0 ≤ z ∧ (zs.take k).sum + z ≤ (e : Int) := by
  obtain ⟨h1, h2⟩ := h
  refine ⟨h1 z (List.mem_of_getElem? hz), ?_⟩
  have e1 : zs = zs.take k ++ [z] ++ zs.drop (k + 1) := by
    have := (List.take_append_drop (k + 1) zs).symm
    rw [List.take_add_one, hz] at this
    simpa using this
  have e2 := congrArg List.sum e1
  rw [List.sum_append, List.sum_append] at e2
  have e3 := nonneg_sum (zs := zs.drop (k + 1)) (fun y hy => h1 y (List.mem_of_mem_drop hy))
  simp at e2
  omega

set_option maxHeartbeats 400000 in
theorem layout_call (oa : Option Addr) (n c e : Nat) (zs : List Int) (w : World) (hn : n ≤ 65536) (he : e ≤ 65536) (H : Hid (RX .i64 w oa n zs)) (HF : Hid (∀ z ∈ zs, -9223372036854775808 ≤ z ∧ z ≤ 9223372036854775807)) :
    Calls Try.prog 19 #[.slice oa n c, .int .i64 (e : Int)] w fun r w' => BoolAns (Layout zs e) r ∧ w = w' := by
  have HL := hidG H.out.1
  go_enter Try.func19, Try.ntmps19
  go_wp2_with fail
  go_loopg [5, 6] n (fun g v5 i wr => ∃ (k : Nat) (s : Int), k ≤ n ∧ g = n - k ∧ v5 = .int .i64 s ∧ i = .int .i64 k ∧ 0 ≤ s ∧ s ≤ (e : Int) ∧ Hid ((zs.take k).sum = s ∧ (∀ z ∈ zs.take k, 0 ≤ z)) ∧ w = wr)
  case atStart => exact ⟨0, 0, by omega, by omega, rfl, rfl, by omega, by omega, ⟨by simp, by simp⟩, rfl⟩
  case round =>
    obtain ⟨k, s, hk, rfl, rfl, rfl, hs0, hse, HS, rfl⟩ := hrel
    by_cases hlt : k < n
    · obtain ⟨x, hx, hc⟩ := H.out.2 k hlt
      subst hx
      obtain ⟨z, hz⟩ : ∃ z, zs[k]? = some z := ⟨_, List.getElem?_eq_getElem (by rw [HL.out]; exact hlt)⟩
      rw [hz] at hc
      simp only [Option.getD_some] at hc
      have hf := HF.out z (List.mem_of_getElem? hz)
      have hlt' : (k : Int) < (n : Int) := by omega
      have HZ := hidG hz
      clear hz
      by_cases hneg : z < 0
      · have HNO : Hid (¬ Layout zs e) := fun h => by have := (h.upto HZ.out).1; omega
        go_wp2_with fail
        go_ret
        exact ⟨⟨false, rfl, by simp [HNO.out]⟩, rfl⟩
      · by_cases hbig : (e : Int) - s < z
        · have HNO : Hid (¬ Layout zs e) := fun h => by have := (h.upto HZ.out).2; rw [HS.out.1] at this; omega
          go_wp2_with fail
          go_ret
          exact ⟨⟨false, rfl, by simp [HNO.out]⟩, rfl⟩
        · have HN : Hid ((zs.take (k + 1)).sum = s + z ∧ (∀ y ∈ zs.take (k + 1), 0 ≤ y)) := by
            rw [List.take_add_one, HZ.out]
            refine ⟨by rw [List.sum_append, HS.out.1]; simp, fun y hy => ?_⟩
            rw [List.mem_append] at hy
            rcases hy with hy | hy
            · exact HS.out.2 y hy
            · simp at hy; omega
          go_wp2_with fail
          go_roundg (n - (k + 1))
          case measure => omega
          case rel => exact ⟨k + 1, s + z, by omega, rfl, by go_num, by go_num, by omega, by omega, HN, rfl⟩
    · have hge : k = n := by omega
      subst hge
      have HB : Hid (∀ b : Bool, b = decide (s = (e : Int)) → (b = true ↔ Layout zs e)) := by
        rintro b rfl
        have h1 := HS.out
        rw [List.take_of_length_le (by rw [HL.out]; exact Nat.le_refl _)] at h1
        simp only [decide_eq_true_eq]
        constructor
        · intro h; exact ⟨h1.2, by rw [h1.1, h]⟩
        · intro h; rw [← h1.1, h.2]
      go_wp2_with fail
      go_ret
      refine ⟨⟨_, rfl, HB.out _ ?_⟩, rfl⟩
      rw [Bool.eq_iff_iff]; simp

set_option maxHeartbeats 400000 in
theorem tails_call (oa : Option Addr) (n c N : Nat) (zs : List Int) (w : World) (hn : n ≤ 65536) (hN : N ≤ 65536) (H : Hid (RX .i32 w oa n zs)) (HF : Hid (∀ z ∈ zs, -2147483648 ≤ z ∧ z ≤ 2147483647)) :
    Calls Try.prog 20 #[.slice oa n c, .int .i64 (N : Int)] w fun r w' => BoolAns (∀ z ∈ zs, 0 ≤ z ∧ z < (N : Int)) r ∧ w = w' := by
  have HL := hidG H.out.1
  go_enter Try.func20, Try.ntmps20
  go_wp2_with fail
  go_loopg [5] n (fun g i wr => ∃ (k : Nat), k ≤ n ∧ g = n - k ∧ i = .int .i64 k ∧ Hid (∀ z ∈ zs.take k, 0 ≤ z ∧ z < (N : Int)) ∧ w = wr)
  case atStart => exact ⟨0, by omega, by omega, rfl, by simp [Hid], rfl⟩
  case round =>
    obtain ⟨k, hk, rfl, rfl, HS, rfl⟩ := hrel
    by_cases hlt : k < n
    · obtain ⟨x, hx, hc⟩ := H.out.2 k hlt
      subst hx
      obtain ⟨z, hz⟩ : ∃ z, zs[k]? = some z := ⟨_, List.getElem?_eq_getElem (by rw [HL.out]; exact hlt)⟩
      rw [hz] at hc
      simp only [Option.getD_some] at hc
      have hf := HF.out z (List.mem_of_getElem? hz)
      have hlt' : (k : Int) < (n : Int) := by omega
      have HZ := hidG hz
      clear hz
      by_cases hneg : z < 0
      · have HNO : Hid (¬ ∀ z ∈ zs, 0 ≤ z ∧ z < (N : Int)) := fun h => by have := h z (List.mem_of_getElem? HZ.out); omega
        go_wp2_with fail
        go_ret
        exact ⟨⟨false, rfl, by simp only [Bool.false_eq_true, false_iff]; exact HNO.out⟩, rfl⟩
      · by_cases hbig : (N : Int) ≤ z
        · have HNO : Hid (¬ ∀ z ∈ zs, 0 ≤ z ∧ z < (N : Int)) := fun h => by have := h z (List.mem_of_getElem? HZ.out); omega
          go_wp2_with fail
          go_ret
          exact ⟨⟨false, rfl, by simp only [Bool.false_eq_true, false_iff]; exact HNO.out⟩, rfl⟩
        · have HN : Hid (∀ y ∈ zs.take (k + 1), 0 ≤ y ∧ y < (N : Int)) := by
            rw [List.take_add_one, HZ.out]
            intro y hy
            rw [List.mem_append] at hy
            rcases hy with hy | hy
            · exact HS.out y hy
            · simp at hy; omega
          go_wp2_with fail
          go_roundg (n - (k + 1))
          case measure => omega
          case rel => exact ⟨k + 1, by omega, rfl, by go_num, HN, rfl⟩
    · have hge : k = n := by omega
      subst hge
      have HB : Hid (∀ z ∈ zs, 0 ≤ z ∧ z < (N : Int)) := by
        have h1 := HS.out
        rw [List.take_of_length_le (by rw [HL.out]; exact Nat.le_refl _)] at h1
        exact h1
      go_wp2_with fail
      go_ret
      exact ⟨⟨true, rfl, by simp only [true_iff]; exact HB.out⟩, rfl⟩

set_option maxHeartbeats 400000 in
theorem same_call (oa ob : Option Addr) (n c d : Nat) (zs : List Int) (w : World) (hn : n ≤ 1048576) (H : Hid (RX .i64 w oa n zs)) (H2 : Hid (RX .i64 w ob n zs)) :
    Calls Try.prog 23 #[.slice oa n c, .slice ob n d] w fun r w' => r = .returned (.bool true) ∧ ∃ m, w' = w.drewN m := by
  have HL := hidG H.out.1
  go_enter Try.func23, Try.ntmps23
  go_wp2_with fail
  go_loopg [5] n (fun g i wr => ∃ (k : Nat), k ≤ n ∧ g = n - k ∧ i = .int .i64 k ∧ ∃ m, wr = w.drewN m)
  case atStart => exact ⟨0, by omega, by omega, rfl, 0, rfl⟩
  case round =>
    obtain ⟨k, hk, rfl, rfl, m, rfl⟩ := hrel
    by_cases hlt : k < n
    · obtain ⟨x, hx, hc⟩ := H.out.2 k hlt
      obtain ⟨y, hy, hd⟩ := H2.out.2 k hlt
      subst hx hy
      generalize zs[k]?.getD 0 = z at hc hd
      have hc' : (w.drewN m).cell? (x.add k) = some (.int .i64 z) := hc
      have hd' : (w.drewN m).cell? (y.add k) = some (.int .i64 z) := hd
      have hlt' : (k : Int) < (n : Int) := by omega
      go_wp2_with fail
      go_quiet (fail)
      go_wp2_with fail
      go_roundg (n - (k + 1))
      case measure => omega
      case rel => exact ⟨k + 1, by omega, rfl, by go_num, m + nq, rfl⟩
    · have hge : k = n := by omega
      subst hge
      go_wp2_with fail
      go_ret
      exact ⟨rfl, m, rfl⟩

set_option maxHeartbeats 400000 in
theorem cloneUint32s_some (x : Addr) (c : Nat) (zs : List Int) (N : Nat) (HN : Hid (zs.length = N)) (w : World) (hn : N ≤ 1048576)
    (hz : ∀ i, i < N → w.cell? (x.add i) = some (.int .u32 (zs[i]?.getD 0))) :
    Calls Try.prog 21 #[.slice (some x) N c] w fun e w' => e = .returned (.slice (some ⟨w.heap.size, 0, none⟩) N N) ∧
      Blk w' w.heap.size (zs.map (.int .u32)) 46 ∧ Below w.heap.size w w' ∧ w'.heap.size = w.heap.size + 1 := by
  have q22 : ∀ (w : World) (a : Option Addr) (n c n' c' : Nat), (binOp .eql 38 (.slice a n c) (.slice none n' c')).run Try.prog w = .ok (.bool a.isNone) w := fun w a n c n' c' => Lib.run_eql_slice_nil w _ _ a n c n' c' Try.underlying38
  have hmk := run_make_row' (P := Try.prog) 38 46 (.int .u32 0) 4 Try.underlying38 Try.info46 rfl .i64 .i64 N (by omega) (by omega)
  go_enter Try.func21, Try.ntmps21
  go_wp2
  go_loopg [4] N (fun g i wr => ∃ k : Nat, k ≤ N ∧ g = N - k ∧ i = .int .i64 k ∧ (∃ ys : List Int, Hid (ys.length = N) ∧ Hid (ys.take k = zs.take k) ∧ Blk wr w.heap.size (ys.map (.int .u32)) 46) ∧ Below w.heap.size w wr ∧ wr.heap.size = w.heap.size + 1)
  case atStart =>
    refine ⟨0, Nat.zero_le _, rfl, rfl, ⟨List.replicate N 0, by simp [Hid], by simp [Hid], ?_⟩, (Below.refl _ _).alloc (Nat.le_refl _) _, by simp⟩
    rw [List.map_replicate]
    exact Blk.made w _ _ _
  case round =>
    obtain ⟨k, hk, rfl, rfl, ⟨ys, HL, HT, hB⟩, hbel, hsz⟩ := hrel
    by_cases hlt : k < N
    · have hc : wr.cell? (x.add k) = some (.int .u32 (zs[k]?.getD 0)) := by
        have := World.block_lt_of_cell? _ _ (hz k hlt)
        rw [hbel.cell this]; exact hz k hlt
      have hc2 := hB.icell (i := k) (by rw [HL.out]; exact hlt)
      have hf2 := hB.frozen k
      go_wp2
      go_roundg (N - (k + 1))
      case measure => omega
      case rel =>
        refine ⟨k + 1, by omega, rfl, by go_num, ⟨_, ?_, take_fill (by rw [HL.out]; exact hlt) (by rw [HN.out]; exact hlt) HT.out, hB.iset k _⟩, hbel.setCell (by simp) _, by simpa using hsz⟩
        unfold Hid; rw [List.length_set]; exact HL
    · go_wp2
      go_ret
      have e : ys = zs := by
        have h1 := HT.out
        rwa [List.take_of_length_le (by rw [HL.out]; omega), List.take_of_length_le (by rw [HN.out]; omega)] at h1
      subst e
      exact ⟨rfl, hB, hbel, hsz⟩

theorem cloneUint32s_nil (w : World) :
    Calls Try.prog 21 #[.slice none 0 0] w fun e w' => e = .returned (.slice none 0 0) ∧ w' = w := by
  have q22 : ∀ (w : World) (a : Option Addr) (n c n' c' : Nat), (binOp .eql 38 (.slice a n c) (.slice none n' c')).run Try.prog w = .ok (.bool a.isNone) w := fun w a n c n' c' => Lib.run_eql_slice_nil w _ _ a n c n' c' Try.underlying38
  go_enter Try.func21, Try.ntmps21
  go_wp2
  go_ret
  exact ⟨rfl, rfl⟩

/-- a clone reads as its original; w0: the world in which the original was met -/
def Cloned (k : IntKind) (w : World) (zs : List Int) (r : Ending) (w' : World) : Prop := ∃ v, r = .returned v ∧ RD k w'.heap.size w' v zs ∧ Below w.heap.size w w'

theorem clone10 {w0 : World} {a : Option Addr} {len cap : Nat} {zs : List Int} (h : IRow .i32 w0 a len cap zs) (hl : len ≤ 65536) (w : World) (hb : Below w0.heap.size w0 w) :
    Calls Try.prog 10 #[.slice a len cap] w fun r w' => Cloned .i32 w (zs.take len) r w' := by
  rcases h with ⟨rfl, rfl, rfl, rfl⟩ | ⟨x, rfl, h1, h2, h3, h4, h5⟩
  · exact (cloneInt32s_nil w).mono (by rintro e w' ⟨rfl, rfl⟩; exact ⟨_, rfl, RD.nil, Below.refl _ _⟩)
  · refine (cloneInt32s_some x cap (zs.take len) len (by simp [Hid]; omega) w (by omega) (fun i hi => ?_)).mono ?_
    · have := h4 i (by omega)
      rw [hb.cell (World.block_lt_of_cell? _ _ this), this, List.getElem?_take, if_pos hi, List.getD_eq_getElem?_getD]
    · rintro e w' ⟨rfl, hB, hbel, hsz⟩
      refine ⟨_, rfl, ?_, hbel⟩
      have := RD.of_blk (D := w'.heap.size) (c := len) hB (by omega)
      rwa [show (zs.take len).length = len by rw [List.length_take]; omega] at this

theorem clone21 {w0 : World} {a : Option Addr} {len cap : Nat} {zs : List Int} (h : IRow .u32 w0 a len cap zs) (hl : len ≤ 65536) (w : World) (hb : Below w0.heap.size w0 w) :
    Calls Try.prog 21 #[.slice a len cap] w fun r w' => Cloned .u32 w (zs.take len) r w' := by
  rcases h with ⟨rfl, rfl, rfl, rfl⟩ | ⟨x, rfl, h1, h2, h3, h4, h5⟩
  · exact (cloneUint32s_nil w).mono (by rintro e w' ⟨rfl, rfl⟩; exact ⟨_, rfl, RD.nil, Below.refl _ _⟩)
  · refine (cloneUint32s_some x cap (zs.take len) len (by simp [Hid]; omega) w (by omega) (fun i hi => ?_)).mono ?_
    · have := h4 i (by omega)
      rw [hb.cell (World.block_lt_of_cell? _ _ this), this, List.getElem?_take, if_pos hi, List.getD_eq_getElem?_getD]
    · rintro e w' ⟨rfl, hB, hbel, hsz⟩
      refine ⟨_, rfl, ?_, hbel⟩
      have := RD.of_blk (D := w'.heap.size) (c := len) hB (by omega)
      rwa [show (zs.take len).length = len by rw [List.length_take]; omega] at this

theorem clone9 {w0 : World} {a : Option Addr} {len cap : Nat} {zs : List Int} (h : IRow .i64 w0 a len cap zs) (hl : len ≤ 65536) (w : World) (hb : Below w0.heap.size w0 w) :
    Calls Try.prog 9 #[.slice a len cap] w fun r w' => Cloned .i64 w (zs.take len) r w' := by
  rcases h with ⟨rfl, rfl, rfl, rfl⟩ | ⟨x, rfl, h1, h2, h3, h4, h5⟩
  · exact (cloneInts_nil w).mono (by rintro e w' ⟨rfl, rfl⟩; exact ⟨_, rfl, RD.nil, Below.refl _ _⟩)
  · refine (cloneInts_some x cap (zs.take len) len (by simp [Hid]; omega) w (by omega) (fun i hi => ?_)).mono ?_
    · have := h4 i (by omega)
      rw [hb.cell (World.block_lt_of_cell? _ _ this), this, List.getElem?_take, if_pos hi, List.getD_eq_getElem?_getD]
    · rintro e w' ⟨rfl, hB, hbel, hsz⟩
      refine ⟨_, rfl, ?_, hbel⟩
      have := RD.of_blk (D := w'.heap.size) (c := len) hB (by omega)
      rwa [show (zs.take len).length = len by rw [List.length_take]; omega] at this

set_option maxHeartbeats 1000000 in
theorem bytes24 (n : Int) (a1 a2 a3 a4 : Option Addr) (l1 k1 l2 k2 l3 k3 l4 k4 : Nat) (w : World) (h1 : l1 ≤ 9223372036854775807) (h2 : l2 ≤ 9223372036854775807) (h3 : l3 ≤ 9223372036854775807) (h4 : l4 ≤ 9223372036854775807) :
    Calls Try.prog 24 #[.int .i64 n, .slice a1 l1 k1, .slice a2 l2 k2, .slice a3 l3 k3, .slice a4 l4 k4] w fun e w' => (∃ b, e = .returned (.bool b)) ∧ w = w' := by
  go_enter Try.func24, Try.ntmps24
  go_wp2
  all_goals (go_ret; exact ⟨⟨_, rfl⟩, rfl⟩)

end Go.Proofs.Qxb6601127a
