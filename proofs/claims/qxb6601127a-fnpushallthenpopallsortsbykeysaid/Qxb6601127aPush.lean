import Derived.Test.Qxb6601127aHeapBase
import Derived.Test.Qxb6601127aPushPlain
import Derived.Deep.CutRange
namespace Go.Proofs.Qxb6601127a
open Go.RowKit
set_option linter.unusedVariables false
set_option linter.unusedSimpArgs false

theorem Try.info57p : (Try.prog.info? 57).map (fun i => (i.zero, i.size, i.bytes)) = some (some (.agg #[.int .i64 0, .int .i32 0]), 2, 16) := by kernel_rfl
theorem hid' {p : Prop} (h : p) : Hid p := h

/-- the world while push works: the box hb, the array g -/
structure UW (w : World) (base hb g n cap : Nat) (hs : List (Int × Int)) (r : List Value) (wr : World) : Prop where
  box : Blk wr hb [.slice (some ⟨g, 0, none⟩) n cap] 32
  arr : Blk wr g (hv hs ++ r) 57
  os : wr.os = w.os
  tape : wr.tape = w.tape
  output : wr.output = w.output
  size : w.heap.size ≤ wr.heap.size
  block : ∀ k, k < base → k ≠ hb → wr.heap[k]? = w.heap[k]?
  hg : base ≤ g

theorem UW.set {w : World} {base hb g n cap : Nat} {hs : List (Int × Int)} {r : List Value} {wr : World} (h : UW w base hb g n cap hs r wr) (hb' : hb < base) {i : Nat} (hi : i < hs.length) (k c : Int) :
    UW w base hb g n cap (hs.set i (k, c)) r ((wr.setCell ⟨g, i * 2, none⟩ (.int .i64 k)).setCell ⟨g, i * 2 + 1, none⟩ (.int .i32 c)) := by
  have hg := h.hg
  refine ⟨(h.box.set_ne _ _ (by simp; omega)).set_ne _ _ (by simp; omega), ?_, h.os, h.tape, h.output, by simpa using h.size, fun k' h1 h2 => ?_, hg⟩
  · rw [← hv_set _ _ _ _ _ hi]; exact (h.arr.set _ _).set _ _
  · rw [Below.heap_setCell _ _ _ _ (by simp; omega), Below.heap_setCell _ _ _ _ (by simp; omega)]
    exact h.block k' h1 h2

theorem UW.drewN {w : World} {base hb g n cap : Nat} {hs : List (Int × Int)} {r : List Value} {wr : World} (h : UW w base hb g n cap hs r wr) (m : Nat) : UW w base hb g n cap hs r (wr.drewN m) :=
  ⟨h.box, h.arr, h.os, h.tape, h.output, h.size, h.block, h.hg⟩

theorem UW.ents {w : World} {base hb g n cap : Nat} {hs : List (Int × Int)} {r : List Value} {wr : World} (h : UW w base hb g n cap hs r wr) : Ents wr g hs := ⟨r, h.arr⟩

/-- what push leaves -/
def PushPost (w : World) (base hb n : Nat) (es : List (Int × Int)) (key c : Int) (w' : World) : Prop :=
  ∃ es' g cap r, Pushed es (key, c) es' ∧ UW w base hb g (n + 1) cap es' r w' ∧ n + 1 ≤ cap ∧ cap ≤ maxLen ∧ (hv es' ++ r).length = cap * 2

set_option maxRecDepth 100000 in
set_option maxHeartbeats 2000000 in
theorem push_any (hb base n : Nat) (es : List (Int × Int)) (key c : Int) (v : Value) (w : World) (HL : Hid (es.length = n)) (hn : n + 1 ≤ 1048576) (hbase : base ≤ w.heap.size) (hhb : hb < base)
    (HB : Hid (Blk w hb [v] 32)) (HO : Hid (w.ownsRow base 57 2 v n (hv es))) :
    Calls Try.prog 33 #[.pointer (some ⟨hb, 0, none⟩), .int .i64 key, .int .i32 c] w fun e w' => e = .returned (.tuple #[]) ∧ PushPost w base hb n es key c w' := by
  have hsl : w.cell? ⟨hb, 0, none⟩ = some v := by rw [HB.out.cell]; rfl
  have hbb := HB.out.lt
  obtain ⟨i0, hi0, hzz⟩ := Option.map_eq_some_iff.1 Try.info57p
  simp only [Prod.mk.injEq] at hzz
  obtain ⟨hz0, hs0, hb0⟩ := hzz
  go_enter Try.func33, Try.ntmps33
  go_wp2_with (at_builtin; refine wpList_append_own _ rfl _ _ 32 rfl base 57 i0 (.agg #[.int .i64 0, .int .i32 0]) 2 16 Try.underlying32 hi0 hz0 hs0 hb0 rfl (by decide) v n (hv es) rfl (HO.out.alloc _) ⟨w.heap.size, 0, none⟩ 1 1 [.int .i64 0, .int .i32 0] rfl rfl ?c1 ?c2 ?c3 ?c4 ?c5 ?_)
  case c1 =>
    intro j u hj
    match j, hj with
    | 0, hj => simp at hj; subst hj; simp [Addr.add]
    | 1, hj => simp at hj; subst hj; simp [Addr.add]
  case c2 => intro u hu; simp at hu; rcases hu with rfl | rfl <;> rfl
  case c3 => unfold maxLen; omega
  case c4 => omega
  case c5 => simp; omega
  intro v' w1 hown hgrow _
  rcases hown.2 with ⟨_, h0⟩ | ⟨g, cap, cur, rfl, hg, hheap, hnc, hcm, hcs, htake⟩
  · omega
  obtain ⟨r, hr⟩ : ∃ r, hv (es ++ [(0, 0)]) ++ r = cur.toList := by
    refine ⟨cur.toList.drop ((n + 1) * 2), ?_⟩
    have e : hv (es ++ [(0, 0)]) = hv es ++ [.int .i64 0, .int .i32 0] := by rw [hv_append]; rfl
    rw [e, ← htake, List.take_append_drop]
  have hbl : (w.alloc (.cells #[.int .i64 0, .int .i32 0] 57)).heap.size = w.heap.size + 1 := by simp
  have hown' := HO.out.lt
  have hblk : ∀ k, k < base → w1.heap[k]? = w.heap[k]? := by
    intro k hk
    rw [hgrow.block k (by simp; omega) (fun e => by have := hown' k e.symm; omega), Below.heap_alloc _ _ _ (by omega)]
  have HU : Hid (UW w base hb g (n + 1) cap (es ++ [(0, 0)]) r (w1.setCell ⟨hb, 0, none⟩ (.slice (some ⟨g, 0, none⟩) (n + 1) cap))) := by
    refine ⟨?_, ?_, hgrow.os, hgrow.tape, hgrow.output, ?_, fun k h1 h2 => ?_, hg⟩
    · have hB1 : Blk w1 hb [v] 32 := by unfold Blk; rw [hblk hb hhb]; exact HB.out
      exact hB1.set 0 _
    · have hA1 : Blk w1 g (hv (es ++ [(0, 0)]) ++ r) 57 := by unfold Blk; rw [hr]; exact hheap
      exact hA1.set_ne _ _ (by simp; omega)
    · have := hgrow.size; simp at this ⊢; omega
    · rw [Below.heap_setCell _ _ _ _ (by simpa using h2)]; exact hblk k h1
  have hlen : Hid ((hv (es ++ [(0, 0)]) ++ r).length = cap * 2) := by show _ = _; rw [hr, ← hcs]; simp
  have hsl1 : w1.cell? ⟨hb, 0, none⟩ = some v := by rw [← hsl]; exact World.cell?_of_block (w := w) (hblk hb hhb)
  have hsf1 : w1.frozen? ⟨hb, 0, none⟩ = false := by rw [World.frozen?_of_block (w := w) (hblk hb hhb)]; exact HB.out.frozen 0
  clear hown hgrow hheap hcs htake hr hblk hbl hown' hz0 hs0 hb0 hi0 hsl
  have HRS : Hid (Rise es (key, c) (es ++ [(0, 0)]) n) := by have := rise_start es (key, c) (0, 0); rw [HL.out] at this; exact this
  clear HB HO
  go_wp2
  clear hsl1 hsf1
  go_loopg [6] n (fun gg vi wr => ∃ i : Nat, i = gg ∧ i ≤ n ∧ vi = .int .i64 i ∧ Hid (∃ hs, UW w base hb g (n + 1) cap hs r wr ∧ Rise es (key, c) hs i))
  case atStart => exact ⟨n, rfl, Nat.le_refl _, rfl, _, HU, HRS⟩
  case round =>
    clear HU HRS
    obtain ⟨i, rfl, hin, rfl, HI⟩ := hrel
    obtain ⟨hs, hU, hR⟩ := HI.out
    have hsl : wr.cell? ⟨hb, 0, none⟩ = some (.slice (some ⟨g, 0, none⟩) (n + 1) cap) := by rw [hU.box.cell]; rfl
    have hhl : hs.length = n + 1 := by rw [hR.len, HL.out]
    have ci1 := hU.ents.key (i := i) (by omega)
    have ci2 := hU.ents.comp (i := i) (by omega)
    have fi1 := hU.ents.frozen (i * 2)
    have fi2 := hU.ents.frozen (i * 2 + 1)
    have HU := hid' hU
    have HRI := hid' hR
    have HHL := hid' hhl
    have hix : (i : Int) < (n : Int) + 1 := by omega
    clear hU hR hhl HI
    have HLEN : Hid (∀ x : Int × Int, (hv (hs.set i x) ++ r).length = cap * 2) := by
      intro x
      have := hlen.out
      rw [List.length_append, hv_length] at this ⊢
      rw [List.length_set, HHL.out]
      simp [HL.out] at this
      omega
    by_cases h0 : i = 0
    · subst h0
      have HQ : Hid (Pushed es (key, c) (hs.set 0 (key, c))) := rise_end HRI.out (.inl rfl)
      have HX := hid' (HU.out.set hhb (by rw [HHL.out]; omega : 0 < hs.length) key c)
      have HLEN' := hid' (HLEN.out (key, c))
      simp only [Nat.zero_mul, Nat.zero_add] at ci1 ci2 fi1 fi2 HX
      clear HLEN HRI HU
      go_wp2
      go_end0
      exact ⟨rfl, _, g, cap, r, HQ, HX, hnc, hcm, HLEN'⟩
    · have hp1 : 1 ≤ i := by omega
      have cp1 := HU.out.ents.key (i := (i - 1) / 2) (by rw [HHL.out]; omega)
      have cp2 := HU.out.ents.comp (i := (i - 1) / 2) (by rw [HHL.out]; omega)
      by_cases hlt : key < kk hs ((i - 1) / 2)
      · have HQ : Hid (Rise es (key, c) (hs.set i (kk hs ((i - 1) / 2), cc hs ((i - 1) / 2))) ((i - 1) / 2)) := rise_step HRI.out hp1 hlt
        have HX := hid' (HU.out.set hhb (by rw [HHL.out]; omega : i < hs.length) (kk hs ((i - 1) / 2)) (cc hs ((i - 1) / 2)))
        clear HLEN HRI HU
        generalize kk hs ((i - 1) / 2) = kp at *
        generalize cc hs ((i - 1) / 2) = cp at *
        go_wp2
        go_region
        go_wp2
        go_roundg ((i - 1) / 2)
        case measure => omega
        case rel => exact ⟨(i - 1) / 2, rfl, by omega, by go_num, _, HX.out.drewN 1, HQ⟩
      · have HQ : Hid (Pushed es (key, c) (hs.set i (key, c))) := rise_end HRI.out (.inr (by show _ ≤ key; omega))
        have HX := hid' (HU.out.set hhb (by rw [HHL.out]; omega : i < hs.length) key c)
        have HLEN' := hid' (HLEN.out (key, c))
        clear HLEN HRI HU
        generalize kk hs ((i - 1) / 2) = kp at *
        generalize cc hs ((i - 1) / 2) = cp at *
        go_wp2
        go_end0
        exact ⟨rfl, _, g, cap, r, HQ, HX, hnc, hcm, HLEN'⟩

theorem hpush_any (hb base n : Nat) (es : List (Int × Int)) (key c : Int) (v : Value) (w : World) (HL : Hid (es.length = n)) (hn : n + 1 ≤ 1048576) (hbase : base ≤ w.heap.size) (hhb : hb < base)
    (HB : Hid (Blk w hb [v] 32)) (HO : Hid (w.ownsRow base 57 2 v n (hv es))) :
    Calls Try.prog 15 #[.pointer (some ⟨hb, 0, none⟩), .int .i64 key, .int .i32 c] w fun e w' => e = .returned (.tuple #[]) ∧ PushPost w base hb n es key c w' := by
  have HP := hid' (push_any hb base n es key c v w HL hn hbase hhb HB HO)
  go_enter Try.func15, Try.ntmps15
  go_wp2_with fail
  refine HP.out.mono ?_
  rintro e w' ⟨rfl, H⟩
  have HH := hid' H
  clear H
  go_wp2_with fail
  go_end0
  exact ⟨rfl, HH.out⟩

end Go.Proofs.Qxb6601127a
