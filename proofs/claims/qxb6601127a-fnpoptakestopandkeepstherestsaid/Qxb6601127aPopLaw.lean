import Derived.Test.Qxb6601127aPopWalk
import Derived.Deep.CutRange
namespace Go.Proofs.Qxb6601127a
open Go.RowKit
set_option linter.unusedVariables false
set_option linter.unusedSimpArgs false

theorem below_undrew {B : Nat} {w w' : World} (h : Below B w.drew w') : Below B w w' := ⟨h.os, h.tape, h.output, h.size, h.block⟩

theorem zzpop_N (kb kc cb cc' N m : Nat) (HN : Hid (N = m + 1)) (keys comps : List Int) (w : World) (HK : Hid (keys.length = N)) (HC : Hid (comps.length = N)) (hn : N ≤ 1048576)
    (HBK : Hid (Ints .i64 w kb 0 keys)) (HBC : Hid (Ints .i32 w cb 0 comps)) :
    Calls Try.prog 11 #[.slice (some ⟨kb, 0, none⟩) N kc, .slice (some ⟨cb, 0, none⟩) N cc'] w fun e w' => ∃ es' ok oc,
      e = .returned (.tuple #[.int .i32 (comps[0]?.getD 0), .slice (some ⟨ok, 0, none⟩) m m, .slice (some ⟨oc, 0, none⟩) m m]) ∧ Popped (keys.zip comps) es' ∧
      Blk w' ok ((es'.map Prod.fst).map (.int .i64)) 3 ∧ Blk w' oc ((es'.map Prod.snd).map (.int .i32)) 21 ∧ Below w.heap.size w w' := by
  have h := HN.out
  subst h
  exact zzpop_any kb kc cb cc' m keys comps w HK HC hn HBK HBC

set_option maxRecDepth 100000 in
set_option maxHeartbeats 2000000 in
theorem popLaw_in (x0 x1 : Addr) (cap0 cap1 N m : Nat) (keys comps : List Int) (w : World) (HN : Hid (N = m + 1)) (hm1 : m < N) (hm2 : (N : Int) - 1 ≤ m) (hn : N ≤ 65536) (hn2 : 8 * N + 4 * N ≤ 1048576)
    (HK : Hid (keys.length = N)) (HC : Hid (comps.length = N))
    (HZ0 : Hid (∀ i, i < N → w.cell? (x0.add i) = some (.int .i64 (keys[i]?.getD 0))))
    (HZ1 : Hid (∀ i, i < N → w.cell? (x1.add i) = some (.int .i32 (comps[i]?.getD 0)))) :
    Calls Try.prog 3 #[.slice (some x0) N cap0, .slice (some x1) N cap1] w fun e w' => e = .returned (.bool true) ∧ Below w.heap.size w w' := by
  have hb : N ≤ 9223372036854775807 := by omega
  have HB8 : Hid (∀ w, _) := fun w => bytes8 (some x0) (some x1) N cap0 N cap1 w hb hb
  have hn0 : 0 < N := by omega
  have hn1 : N ≤ 1048576 := by omega
  go_enter Try.func3, Try.ntmps3
  go_wp2_with (go_at_call 8; refine (HB8.out _).mono ?_; rintro e w' ⟨⟨b, rfl⟩, rfl⟩)
  · go_ret; exact ⟨rfl, Below.refl _ _⟩
  clear HB8
  refine (cloneInts_some x0 cap0 keys N HK w hn1 HZ0.out).mono ?_
  rintro e w1 ⟨rfl, hK1, hbel1, hs1⟩
  have HZ1' : Hid (∀ i, i < N → w1.cell? (x1.add i) = some (.int .i32 (comps[i]?.getD 0))) := fun i hi => by
    have := World.block_lt_of_cell? _ _ (HZ1.out i hi)
    rw [hbel1.cell this]; exact HZ1.out i hi
  have HK1 := hid (hK1)
  have HBEL1 := hid (hbel1)
  have HS1 := hid (hs1)
  clear hK1 hbel1 hs1 HZ0 HZ1
  go_wp2_with fail
  refine (cloneInt32s_some x1 cap1 comps N HC w1 hn1 HZ1'.out).mono ?_
  rintro e w2 ⟨rfl, hC2, hbel2, hs2⟩
  have HK2 := hid (HK1.out.below hbel2 (by have := HS1.out; omega))
  have HC2 := hid (hC2)
  have HBEL2 : Hid (Below w.heap.size w w2) := HBEL1.out.trans (hbel2.mono (by have := HS1.out; omega))
  have HS2 : Hid (w2.heap.size = w.heap.size + 2 ∧ w1.heap.size = w.heap.size + 1) := by have := HS1.out; exact ⟨by omega, by omega⟩
  clear hC2 hbel2 hs2 HZ1' HK1 HBEL1 HS1
  go_wp2_with fail
  refine (zzpop_N _ _ _ _ N m HN keys comps w2 HK HC hn1 (Ints.of_blk HK2.out) (Ints.of_blk HC2.out)).mono ?_
  rintro e w3 ⟨es', ok, oc, rfl, hpop, hok, hoc, hbel3⟩
  have HK3 := hid (HK2.out.below hbel3 HK2.out.lt)
  have HC3 := hid (HC2.out.below hbel3 HC2.out.lt)
  have HBEL3 : Hid (Below w.heap.size w w3) := HBEL2.out.trans (hbel3.mono (by have := HS2.out; omega))
  have HOK := hid (hok)
  have HOC := hid (hoc)
  have HPOP := hid (hpop)
  have HSZ := hid (hbel3.size)
  clear hok hoc hpop hbel3 HK2 HC2 HBEL2
  have c0 : w3.cell? ⟨w1.heap.size, 0, none⟩ = some (.int .i32 (comps[0]?.getD 0)) := HC3.out.icell (by rw [HC.out]; exact hn0)
  generalize comps[0]?.getD 0 = top at *
  have hNm : N - 1 = m := by omega
  have h1N : (1 : Int) ≤ N := by omega
  obtain ⟨o, ho⟩ : ∃ o, o = if N = 1 then 0 else 1 := ⟨_, rfl⟩
  have e1 : (if N = 1 then some (⟨w1.heap.size, 0, none⟩ : Addr) else some ⟨w1.heap.size, 1, none⟩) = some ⟨w1.heap.size, o, none⟩ := by rw [ho]; split <;> rfl
  have e2 : (if N = 1 then some (⟨w.heap.size, 0, none⟩ : Addr) else some ⟨w.heap.size, 1, none⟩) = some ⟨w.heap.size, o, none⟩ := by rw [ho]; split <;> rfl
  have HA3 : Hid (Ints .i32 w3 w1.heap.size o (comps.drop 1)) := by
    intro i hi
    rw [List.length_drop, HC.out] at hi
    rw [ho, if_neg (by omega)]
    exact (Ints.of_blk HC3.out).drop 1 i (by rw [List.length_drop, HC.out]; exact hi)
  have HB3 : Hid (BArg w3 (.slice (some ⟨w.heap.size, o, none⟩) m m) (some (keys.drop 1)) m) := by
    refine .inr ⟨_, _, _, _, rfl, rfl, by rw [List.length_drop, HK.out]; exact hNm, ?_⟩
    intro i hi
    rw [List.length_drop, HK.out] at hi
    rw [ho, if_neg (by omega)]
    exact (Ints.of_blk HK3.out).drop 1 i (by rw [List.length_drop, HK.out]; exact hi)
  clear ho
  have HM1 := hid (fun W hA hB => merge_all w1.heap.size o m m (.slice (some ⟨w.heap.size, o, none⟩) m m) (comps.drop 1) (some (keys.drop 1)) W (by show _ = _; rw [List.length_drop, HC.out]; exact hNm) (by omega) hA hB)
  go_wp2_with fail
  go_cut [9] from 14 (fun v wc => ∃ xb xs, v = .slice (some ⟨xb, 0, none⟩) m m ∧ Hid (w3.heap.size ≤ xb ∧ Blk wc xb (xs.map nv) 3 ∧ Sorted (comps.drop 1) (some (keys.drop 1)) m xs ∧ Below w3.heap.size w3 wc))
  case first =>
    go_region_with (go_at_call 12; refine (HM1.out _ ?_ ?_).mono ?_; exact HA3.out; exact HB3.out; rintro e w4 ⟨xb, xs, rfl, h1, h2, h3, h4⟩; have HH := hid (And.intro h1 (And.intro h2 (And.intro h3 h4))); clear h1 h2 h3 h4)
    go_wp2_with fail
    go_meet
    case rel => exact ⟨xb, xs, rfl, HH.out.1, HH.out.2.1, HH.out.2.2.1, below_undrew HH.out.2.2.2⟩
  case rest =>
    obtain ⟨xb, xs, rfl, HX⟩ := hcut
    clear HA3 HB3 HM1 e1 e2 c0
    have HBEL4 : Hid (Below w.heap.size w wc) := HBEL3.out.trans (HX.out.2.2.2.mono (by have := HS2.out; have := HSZ.out; omega))
    have HK4 : Hid (Blk wc w.heap.size (keys.map (.int .i64)) 3) := HK3.out.below HX.out.2.2.2 HK3.out.lt
    have HC4 : Hid (Blk wc w1.heap.size (comps.map (.int .i32)) 21) := HC3.out.below HX.out.2.2.2 HC3.out.lt
    have HOK4 := hid (HOK.out.below HX.out.2.2.2 HOK.out.lt)
    have HOC4 := hid (HOC.out.below HX.out.2.2.2 HOC.out.lt)
    have HEL : Hid (es'.length = m) := by
      have h1 := HPOP.out.length
      rw [List.length_zip, HK.out, HC.out] at h1
      show _ = _; omega
    have HXB := hid HX.out.2.1
    have HXS := hid HX.out.2.2.1
    have HSZ4 := hid HX.out.2.2.2.size
    clear HBEL3 HK3 HC3 HOK HOC HX
    go_wp2_with fail
    refine (merge_all oc 0 m m (.slice (some ⟨ok, 0, none⟩) m m) (es'.map Prod.snd) (some (es'.map Prod.fst)) wc (by show _ = _; rw [List.length_map]; exact HEL.out) (by omega) (Ints.of_blk HOC4.out)
      (.inr ⟨_, _, _, _, rfl, rfl, by rw [List.length_map]; exact HEL.out, Ints.of_blk HOK4.out⟩)).mono ?_
    rintro e w5 ⟨yb, ys, rfl, hy1, hy2, hy3, hbel5⟩
    have HBEL5 : Hid (Below w.heap.size w w5) := HBEL4.out.trans (hbel5.mono (by have := HS2.out; have := HSZ.out; have := HSZ4.out; omega))
    have HK5 := hid (HK4.out.below hbel5 HK4.out.lt)
    have HC5 := hid (HC4.out.below hbel5 HC4.out.lt)
    have HOK5 := hid (HOK4.out.below hbel5 HOK4.out.lt)
    have HOC5 := hid (HOC4.out.below hbel5 HOC4.out.lt)
    have HXB5 := hid (HXB.out.below hbel5 HXB.out.lt)
    have HYB := hid hy2
    have HSAME : Hid (∀ i, i < m → comps[xs[i]?.getD 0 + 1]?.getD 0 = (es'.map Prod.snd)[ys[i]?.getD 0]?.getD 0 ∧ keys[xs[i]?.getD 0 + 1]?.getD 0 = (es'.map Prod.fst)[ys[i]?.getD 0]?.getD 0) := fun i hi =>
      pop_same (by rw [HK.out]; exact HN.out) (by rw [HC.out]; exact HN.out) HPOP.out HXS.out hy3 i hi
    have HXR : Hid (∀ i, i < m → xs[i]?.getD 0 < m) := fun i hi => perm_range_lt HXS.out.perm i hi
    have HYR : Hid (∀ i, i < m → ys[i]?.getD 0 < m) := fun i hi => perm_range_lt hy3.perm i hi
    have HLX := hid HXS.out.length
    have HLY := hid hy3.length
    have HHEAP : Hid (isHp keys = true → isHp (es'.map Prod.fst) = true) := pop_heap HK.out HC.out HPOP.out
    clear hy1 hy2 hy3 hbel5 HBEL4 HK4 HC4 HOK4 HOC4 HXB HXS HSZ4
    go_wp2
    go_loopg [11] m (fun g vi wr => ∃ i q : Nat, i ≤ m ∧ g = m - i ∧ vi = .int .i64 i ∧ Hid (wr = w5.drewN q))
    case atStart => exact ⟨0, 0, Nat.zero_le _, rfl, rfl, rfl⟩
    case round =>
      obtain ⟨i, q, hi, rfl, rfl, HW⟩ := hrel
      have hw := HW.out
      subst hw
      clear HW
      by_cases hlt : i < m
      · have c1 := HXB5.out.ncell (i := i) (by rw [HLX.out]; exact hlt)
        have c2 := HYB.out.ncell (i := i) (by rw [HLY.out]; exact hlt)
        have b1 := HXR.out i hlt
        have b2 := HYR.out i hlt
        have hs := HSAME.out i hlt
        generalize xs[i]?.getD 0 = xi at *
        generalize ys[i]?.getD 0 = yi at *
        have c3 := HC5.out.icell (i := xi + 1) (by rw [HC.out]; omega)
        have c4 := HK5.out.icell (i := xi + 1) (by rw [HK.out]; omega)
        have c5 := HOC5.out.icell (i := yi) (by rw [List.length_map, HEL.out]; exact b2)
        have c6 := HOK5.out.icell (i := yi) (by rw [List.length_map, HEL.out]; exact b2)
        rw [hs.1] at c3
        rw [hs.2] at c4
        generalize (es'.map Prod.snd)[yi]?.getD 0 = cv at *
        generalize (es'.map Prod.fst)[yi]?.getD 0 = kv at *
        clear hs
        have hx1 : (xi : Int) + 1 < N := by omega
        have hg : (cv != cv) = false := by simp
        go_wp2
        go_quiet (fail)
        go_wp2
        go_roundg (m - (i + 1))
        case measure => omega
        case rel => exact ⟨i + 1, _, by omega, rfl, by go_num, rfl⟩
      · go_wp2_with fail
        refine (isHeap_any w.heap.size N N keys (w5.drewN q) HK hn1 (Ints.of_blk HK5.out)).mono ?_
        rintro e w6 ⟨rfl, q6, hw6⟩
        subst hw6
        cases hh : isHp keys
        · go_wp2_with fail
          go_ret
          exact ⟨rfl, Below.drewN' HBEL5.out _⟩
        · have hh2 := HHEAP.out hh
          go_wp2_with fail
          refine (isHeap_any ok m m (es'.map Prod.fst) (w5.drewN (q + q6)) (by show _ = _; rw [List.length_map]; exact HEL.out) (by omega) (Ints.of_blk HOK5.out)).mono ?_
          rintro e w7 ⟨rfl, q7, hw7⟩
          subst hw7
          rw [hh2]
          go_wp2_with fail
          go_ret
          exact ⟨rfl, Below.drewN' HBEL5.out _⟩

theorem popLaw (a0 : Option Addr) (len0 cap0 : Nat) (z0 : List Int) (a1 : Option Addr) (len1 cap1 : Nat) (z1 : List Int) (w : World) (w0 : Row .i64 w a0 len0 cap0 z0) (w1 : Row .i32 w a1 len1 cap1 z1) :
    Calls Try.prog 3 #[.slice a0 len0 cap0, .slice a1 len1 cap1] w fun e w' => e = .returned (.bool true) ∧ Below w.heap.size w w' := by
  by_cases h : len0 ≤ 65536 ∧ len1 ≤ 65536 ∧ 8 * len0 + 4 * len1 ≤ 1048576 ∧ len1 = len0 ∧ 0 < len0
  · obtain ⟨h1, h2, h3, h4, h5⟩ := h
    subst h4
    obtain ⟨x0, rfl, l0, k0⟩ := w0.some h5
    obtain ⟨x1, rfl, l1, k1⟩ := w1.some h5
    exact popLaw_in x0 x1 cap0 cap1 len1 (len1 - 1) (z0.take len1) (z1.take len1) w (by show _ = _; omega) (by omega) (by omega) h1 h3 l0 l1 k0 k1
  · exact popLaw_out a0 len0 cap0 a1 len1 cap1 w w0.len w1.len h

end Go.Proofs.Qxb6601127a
