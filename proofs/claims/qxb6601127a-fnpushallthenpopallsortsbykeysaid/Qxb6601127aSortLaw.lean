import Derived.Test.Qxb6601127aSortWalk
import Derived.Deep.RegionWith
namespace Go.Proofs.Qxb6601127a
open Go.RowKit
set_option linter.unusedVariables false
set_option linter.unusedSimpArgs false

/-- the frame of the law: the clones, the order, and what was there -/
structure Fr (w : World) (keys comps : List Int) (xs : List Nat) (kb cb xb : Nat) (wr : World) : Prop where
  bk : Blk wr kb (keys.map (.int .i64)) 3
  bc : Blk wr cb (comps.map (.int .i32)) 21
  bx : Blk wr xb (xs.map nv) 3
  bel : Below w.heap.size w wr

/-- the heap while the law pushes -/
structure PushW (w : World) (base hb n : Nat) (es : List (Int × Int)) (wr : World) : Prop where
  row : ∃ v, Blk wr hb [v] 32 ∧ wr.ownsRow base 57 2 v n (hv es)
  os : wr.os = w.os
  tape : wr.tape = w.tape
  output : wr.output = w.output
  size : w.heap.size ≤ wr.heap.size
  block : ∀ k, k < base → k ≠ hb → wr.heap[k]? = w.heap[k]?

theorem pushW_step {w : World} {base hb n : Nat} {es : List (Int × Int)} {wr : World} (h : PushW w base hb n es wr) {key c : Int} {w' : World} (hp : PushPost wr base hb n es key c w') :
    ∃ es', Pushed es (key, c) es' ∧ PushW w base hb (n + 1) es' w' := by
  obtain ⟨es', g, cap, r, h1, h2, h3, h4, h5⟩ := hp
  refine ⟨es', h1, ⟨_, h2.box, ?_⟩, h2.os.trans h.os, h2.tape.trans h.tape, h2.output.trans h.output, Nat.le_trans h.size h2.size, fun k a b => (h2.block k a b).trans (h.block k a b)⟩
  have hl := h1.length
  have h0 := h.row
  obtain ⟨v, _, hv0⟩ := h0
  have hle : es.length = n := by have := hv0.1; rw [hv_length] at this; omega
  refine ⟨by rw [hv_length]; omega, .inr ⟨g, cap, (hv es' ++ r).toArray, rfl, h2.hg, h2.arr, h3, h4, by simpa using h5, ?_⟩⟩
  rw [List.toList_toArray, List.take_append_of_le_length (by rw [hv_length]; omega), List.take_of_length_le (by rw [hv_length]; omega)]

theorem PushW.heap {w : World} {base hb n : Nat} {es : List (Int × Int)} {wr : World} (h : PushW w base hb n es wr) (hn : 0 < n) :
    ∃ g cap, Blk wr hb [.slice (some ⟨g, 0, none⟩) n cap] 32 ∧ Ents wr g es ∧ base ≤ g ∧ n ≤ cap ∧ cap ≤ maxLen ∧ es.length = n := by
  obtain ⟨v, h1, h2⟩ := h.row
  have hle : es.length = n := by have := h2.1; rw [hv_length] at this; omega
  rcases h2.2 with ⟨_, h0⟩ | ⟨g, cap, cur, rfl, hg, hheap, hnc, hcm, hcs, htake⟩
  · omega
  · refine ⟨g, cap, h1, ⟨cur.toList.drop (n * 2), ?_⟩, hg, hnc, hcm, hle⟩
    unfold Blk
    rw [← htake, List.take_append_drop]
    exact hheap

/-- the heap while the law pops -/
structure PopW (hb g sb cap m : Nat) (es : List (Int × Int)) (seen : List Bool) (wr : World) : Prop where
  box : Blk wr hb [.slice (some ⟨g, 0, none⟩) m cap] 32
  ents : Ents wr g es
  bs : Blk wr sb (seen.map .bool) 4

theorem addr_add (b o i : Nat) : (⟨b, o, none⟩ : Addr).add i = ⟨b, o + i, none⟩ := by
  unfold Addr.add; split <;> simp_all

theorem cell_plain {w : World} {x : Addr} {v : Value} (h : w.cell? (x.add 0) = some v) : ∃ b o, x = ⟨b, o, none⟩ := by
  obtain ⟨b, o, s⟩ := x
  have := World.cell?_spot h
  simp [Addr.add] at this
  subst this
  exact ⟨b, o, rfl⟩

set_option maxRecDepth 100000 in
set_option maxHeartbeats 2000000 in
theorem sortLaw_in (x0 : Addr) (ab ao cap0 cap1 N : Nat) (keys comps : List Int) (w : World) (hn0 : 0 < N) (hn : N ≤ 65536) (hn2 : 8 * N + 4 * N ≤ 1048576)
    (HK : Hid (keys.length = N)) (HC : Hid (comps.length = N))
    (HZ0 : Hid (∀ i, i < N → w.cell? (x0.add i) = some (.int .i64 (keys[i]?.getD 0))))
    (HZ1 : Hid (Ints .i32 w ab ao comps)) :
    Calls Try.prog 4 #[.slice (some x0) N cap0, .slice (some ⟨ab, ao, none⟩) N cap1] w fun e w' => e = .returned (.bool true) ∧ Below w.heap.size w w' := by
  have hb : N ≤ 9223372036854775807 := by omega
  have hn1 : N ≤ 1048576 := by omega
  have HB8 : Hid (∀ w, _) := fun w => bytes14 (some x0) (some ⟨ab, ao, none⟩) N cap0 N cap1 w hb hb
  have HM := hid (merge_any ab ao N cap1 (.slice none 0 0) comps none w HC hn0 hn1 HZ1 (.inl ⟨rfl, rfl⟩))
  have hmk := run_make_row' (P := Try.prog) 35 4 (.bool false) 1 Try.underlying35 Try.info4 rfl .i64 .i64 N (by omega) (by omega)
  have HMK := hid hmk
  clear hmk
  go_enter Try.func4, Try.ntmps4
  go_wp2_with fail
  refine (HB8.out w).mono ?_
  rintro e w' ⟨⟨b, rfl⟩, rfl⟩
  clear HB8
  go_wp2_with fail
  · go_ret; exact ⟨rfl, Below.refl _ _⟩
  refine HM.out.mono ?_
  rintro e w1 ⟨xb, xs, rfl, hxb, hB1, hS, hbel1⟩
  have HXB := hid hxb
  have HB1 := hid hB1
  have HS := hid hS
  have HBEL1 := hid hbel1
  have HA1 : Hid (Ints .i32 w1 ab ao comps) := HZ1.out.below' hbel1
  have HZ01 : Hid (∀ i, i < N → w1.cell? (x0.add i) = some (.int .i64 (keys[i]?.getD 0))) := fun i hi => by
    have := World.block_lt_of_cell? _ _ (HZ0.out i hi)
    rw [hbel1.cell this]; exact HZ0.out i hi
  clear hxb hB1 hS hbel1 HM HZ0 HZ1
  have HLX := hid HS.out.length
  go_wp2_with fail
  go_loopg [7] (N - 1) (fun g vi wr => ∃ i q : Nat, 1 ≤ i ∧ i ≤ N ∧ g = N - i ∧ vi = .int .i64 i ∧ Hid (wr = w1.drewN q) ∧ Hid (∀ j, 1 ≤ j → j < i → co comps xs (j - 1) ≠ co comps xs j))
  case atStart => exact ⟨1, 0, Nat.le_refl _, hn0, rfl, rfl, rfl, fun j h1 h2 => by omega⟩
  case round =>
    obtain ⟨i, q, hi1, hi2, rfl, rfl, HW, HD⟩ := hrel
    have hw := HW.out
    subst hw
    clear HW
    by_cases hlt : i < N
    · have c1 := HB1.out.ncell (i := i) (by rw [HLX.out]; exact hlt)
      have c2 := HB1.out.ncell (i := i - 1) (by rw [HLX.out]; omega)
      have b1 := perm_range_lt HS.out.perm i hlt
      have b2 := perm_range_lt HS.out.perm (i - 1) (by omega)
      have HD' : Hid (comps[xs[i - 1]?.getD 0]?.getD 0 ≠ comps[xs[i]?.getD 0]?.getD 0 → ∀ j, 1 ≤ j → j < i + 1 → co comps xs (j - 1) ≠ co comps xs j) := by
        intro h j h1 h2
        by_cases e : j = i
        · subst e; exact h
        · exact HD.out j h1 (by omega)
      generalize xs[i]?.getD 0 = xi at *
      generalize xs[i - 1]?.getD 0 = xp at *
      have c3 := HA1.out xi (by rw [HC.out]; exact b1)
      have c4 := HA1.out xp (by rw [HC.out]; exact b2)
      generalize comps[xi]?.getD 0 = ci at *
      generalize comps[xp]?.getD 0 = cp at *
      have hip : (i : Int) - 1 < N := by omega
      have ei : ((i : Int) - 1).toNat = i - 1 := by omega
      have hi0 : (0 : Int) ≤ (i : Int) - 1 := by omega
      go_wp2
      go_quiet (fail)
      go_wp2
      · go_ret
        exact ⟨rfl, Below.drewN' (Below.drewN' HBEL1.out _) _⟩
      · have hne : (cp == ci) = false := by assumption
        go_roundg (N - (i + 1))
        case measure => omega
        case rel => exact ⟨i + 1, _, by omega, by omega, rfl, by go_num, rfl, HD'.out (by simpa using hne)⟩
    · have HDD : Hid (∀ j, 1 ≤ j → j < N → co comps xs (j - 1) ≠ co comps xs j) := fun j h1 h2 => HD.out j h1 (by omega)
      clear HD
      go_wp2_with fail
      refine (cloneInts_some x0 cap0 keys N HK (w1.drewN q) hn1 HZ01.out).mono ?_
      rintro e w2 ⟨rfl, hK2, hbel2, hs2⟩
      have HK2 := hid hK2
      have HBEL2 : Hid (Below w.heap.size w w2) := (Below.drewN' HBEL1.out q).trans (hbel2.mono HBEL1.out.size)
      have HB2 : Hid (Blk w2 xb (xs.map nv) 3) := (HB1.out.drewN q).below hbel2 HB1.out.lt
      have HA2 : Hid (Ints .i32 w2 ab ao comps) := (HA1.out.drewN q).below' hbel2
      clear hK2 hbel2 hs2 HZ01 HBEL1 HB1 HA1
      go_wp2_with fail
      refine (cloneInt32s_some ⟨ab, ao, none⟩ cap1 comps N HC w2 hn1 (fun i hi => by rw [addr_add]; exact HA2.out i (by rw [HC.out]; exact hi))).mono ?_
      rintro e w3 ⟨rfl, hC3, hbel3, hs3⟩
      have HF3 : Hid (Fr w keys comps xs w1.heap.size w2.heap.size xb w3) := ⟨HK2.out.below hbel3 HK2.out.lt, hC3, HB2.out.below hbel3 HB2.out.lt, HBEL2.out.trans (hbel3.mono HBEL2.out.size)⟩
      clear hC3 hbel3 hs3 HK2 HB2 HA2 HBEL2
      generalize w1.heap.size = kb at *
      generalize w2.heap.size = cb at *
      go_wp2_with fail
      have HF4 : Hid (Fr w keys comps xs kb cb xb (w3.alloc (.cells #[.slice none 0 0] 32))) := ⟨HF3.out.bk.alloc _, HF3.out.bc.alloc _, HF3.out.bx.alloc _, HF3.out.bel.alloc HF3.out.bel.size _⟩
      have HP4 : Hid (PushW (w3.alloc (.cells #[.slice none 0 0] 32)) (w3.heap.size + 1) w3.heap.size 0 [] (w3.alloc (.cells #[.slice none 0 0] 32))) :=
        ⟨⟨_, Blk.new w3 _ _, World.ownsRow_nil _ _ _ _⟩, rfl, rfl, rfl, Nat.le_refl _, fun _ _ _ => rfl⟩
      have HLT : Hid (kb < w3.heap.size ∧ cb < w3.heap.size ∧ xb < w3.heap.size ∧ w.heap.size ≤ w3.heap.size) := ⟨HF3.out.bk.lt, HF3.out.bc.lt, HF3.out.bx.lt, HF3.out.bel.size⟩
      have hw4 : (w3.alloc (.cells #[.slice none 0 0] 32)).heap.size = w3.heap.size + 1 := by simp
      have HW4 := hid hw4
      clear hw4
      generalize w3.heap.size = hb' at *
      generalize w3.alloc (.cells #[.slice none 0 0] 32) = w4 at *
      go_loopg [9] N (fun g vi wr => ∃ i : Nat, i ≤ N ∧ g = N - i ∧ vi = .int .i64 i ∧ Hid (∃ es, PushW w4 (hb' + 1) hb' i es wr ∧ es.Perm ((keys.zip comps).take i) ∧ HeapE es))
      case atStart => exact ⟨0, Nat.zero_le _, rfl, rfl, [], HP4, by simp, fun k h1 h2 => by simp at h2⟩
      case round =>
        obtain ⟨i, hi, rfl, rfl, HI⟩ := hrel
        by_cases hlt : i < N
        · obtain ⟨es, hP, hperm, hheap⟩ := HI.out
          have hel : es.length = i := by rw [hperm.length_eq, List.length_take, List.length_zip, HK.out, HC.out]; omega
          have hbk : wr.heap[kb]? = w4.heap[kb]? := hP.block kb (by have := HLT.out; omega) (by have := HLT.out; omega)
          have hbc : wr.heap[cb]? = w4.heap[cb]? := hP.block cb (by have := HLT.out; omega) (by have := HLT.out; omega)
          have c1 : wr.cell? ⟨kb, i, none⟩ = some (.int .i64 (keys[i]?.getD 0)) := by rw [World.cell?_of_block (w := w4) hbk]; exact HF4.out.bk.icell (by rw [HK.out]; exact hlt)
          have c2 : wr.cell? ⟨cb, i, none⟩ = some (.int .i32 (comps[i]?.getD 0)) := by rw [World.cell?_of_block (w := w4) hbc]; exact HF4.out.bc.icell (by rw [HC.out]; exact hlt)
          obtain ⟨v, hv1, hv2⟩ := hP.row
          have HPU := hid (fun q => hpush_any hb' (hb' + 1) i es (keys[i]?.getD 0) (comps[i]?.getD 0) v (wr.drewN q) hel (by omega) (by have := hP.size; have := HW4.out; show _ ≤ wr.heap.size; omega) (by omega) hv1 hv2)
          have HST : Hid (∀ w', PushPost (wr.drewN 1) (hb' + 1) hb' i es (keys[i]?.getD 0) (comps[i]?.getD 0) w' → ∃ es', PushW w4 (hb' + 1) hb' (i + 1) es' w' ∧ es'.Perm ((keys.zip comps).take (i + 1)) ∧ HeapE es') := by
            intro w' hpp
            obtain ⟨es', g1, g2⟩ := pushW_step (wr := wr.drewN 1) ⟨hP.row, hP.os, hP.tape, hP.output, hP.size, hP.block⟩ hpp
            refine ⟨es', g2, g1.perm.trans ?_, g1.heap hheap⟩
            rw [take_succ_getD (keys.zip comps) i (0, 0) (by rw [List.length_zip, HK.out, HC.out]; omega), zip_get _ _ _ (by rw [HK.out]; exact hlt) (by rw [HC.out]; exact hlt)]
            exact hperm.append_right _
          generalize keys[i]?.getD 0 = kx at *
          generalize comps[i]?.getD 0 = cx at *
          clear hP hperm hheap hel hbk hbc hv1 hv2 HI
          go_wp2_with fail
          go_region_with (go_at_call 15; refine (HPU.out 1).mono ?_; rintro e w5 ⟨rfl, hpp⟩; have HPP := hid hpp; clear hpp)
          all_goals
            go_wp2_with fail
            go_roundg (N - (i + 1))
            case measure => omega
            case rel => exact ⟨i + 1, by omega, rfl, by go_num, HST.out _ HPP.out⟩
        · have HI2 : Hid (∃ es g cap, Blk wr hb' [.slice (some ⟨g, 0, none⟩) N cap] 32 ∧ Ents wr g es ∧ hb' < g ∧ N ≤ cap ∧ cap ≤ 9223372036854775807 ∧ es.Perm (keys.zip comps) ∧ HeapE es ∧ es.length = N ∧ Fr w keys comps xs kb cb xb wr) := by
            obtain ⟨es, hP, hperm, hheap⟩ := HI.out
            have e : i = N := by omega
            subst e
            obtain ⟨g, cap, h1, h2, h3, h4, h5, h6⟩ := hP.heap hn0
            rw [List.take_of_length_le (by rw [List.length_zip, HK.out, HC.out]; omega)] at hperm
            have hl := HLT.out
            refine ⟨es, g, cap, h1, h2, by omega, h4, by unfold maxLen at h5; omega, hperm, hheap, h6, ?_⟩
            refine ⟨?_, ?_, ?_, ?_⟩
            · unfold Blk; rw [hP.block kb (by omega) (by omega)]; exact HF4.out.bk
            · unfold Blk; rw [hP.block cb (by omega) (by omega)]; exact HF4.out.bc
            · unfold Blk; rw [hP.block xb (by omega) (by omega)]; exact HF4.out.bx
            · refine HF4.out.bel.trans ⟨hP.os, hP.tape, hP.output, hP.size, fun k hk => hP.block k (by omega) (by omega)⟩
          clear HI HF4 HP4 HF3
          obtain ⟨es0, g, cap, hbox, hents, hgb, hcap, hcap', hperm, hheap, hel, hF⟩ := HI2.out
          have HBOX := hid hbox
          have HENTS := hid hents
          have HPERM := hid hperm
          have HHEAP := hid hheap
          have HEL := hid hel
          have HF := hid hF
          clear hbox hents hperm hheap hel hF HI2
          have hmk := HMK.out
          go_wp2_with fail
          clear hmk
          have HF5 : Hid (Fr w keys comps xs kb cb xb (wr.alloc (.cells (madeCells #[.bool false] N) 4))) := ⟨HF.out.bk.alloc _, HF.out.bc.alloc _, HF.out.bx.alloc _, HF.out.bel.alloc HF.out.bel.size _⟩
          have HP5 : Hid (PopW hb' g wr.heap.size cap N es0 (List.replicate N false) (wr.alloc (.cells (madeCells #[.bool false] N) 4))) := by
            refine ⟨HBOX.out.alloc _, HENTS.out.alloc _, ?_⟩
            rw [List.map_replicate]; exact Blk.made wr _ _ _
          have hgs : g < wr.heap.size := HENTS.out.lt
          have HS5 : Hid (PopSt keys comps N 0 es0 [] (List.replicate N false) 0) := popst_start HK.out HC.out HPERM.out HHEAP.out 0
          clear HBOX HENTS HPERM HHEAP HEL HF
          generalize wr.heap.size = sb at *
          generalize wr.alloc (.cells (madeCells #[.bool false] N) 4) = w5 at *
          go_loopg [11, 12] N (fun gg vp vs wr => ∃ (s m : Nat) (prev : Int), m + s = N ∧ m = gg ∧ vp = .int .i64 prev ∧ vs = .int .i64 s ∧ Hid (∃ es don seen, PopW hb' g sb cap m es seen wr ∧ PopSt keys comps N s es don seen prev ∧ Fr w keys comps xs kb cb xb wr))
          case atStart => exact ⟨0, N, 0, rfl, rfl, rfl, rfl, es0, [], _, HP5, HS5, HF5⟩
          case round =>
            clear HF5 HP5 HS5
            obtain ⟨s, m, prev, hms, rfl, rfl, rfl, HI⟩ := hrel
            have HMS := hid hms
            have hsN : s ≤ N := by omega
            clear hms
            by_cases hlt : s < N
            · obtain ⟨es, don, seen, hP, hS, hF⟩ := HI.out
              obtain ⟨m', rfl⟩ : ∃ m', m = m' + 1 := ⟨m - 1, by have := HMS.out; omega⟩
              have hel : es.length = m' + 1 := by have := hS.len; have := HMS.out; omega
              have hl := HLT.out
              go_wp2_with fail
              refine (hpop_any hb' g m' cap es wr hel (by have := HMS.out; omega) (by have := HMS.out; omega) hcap' hP.box hP.ents (by omega)).mono ?_
              rintro e w6 ⟨es', rfl, hpop, hbox6, hents6, hkeep⟩
              obtain ⟨p, q, hpn, hqn, hxq, hq1, hpc, hq3, hseen, hpk, hprev, hS'⟩ := popst_step HK.out HC.out HS.out HDD.out hS hlt hpop
              have hmem : ∀ k, k ≠ hb' → k ≠ g → k ∉ [hb', g] := fun k h1 h2 h3 => by simp at h3; omega
              have HF6 : Hid (Fr w keys comps xs kb cb xb w6) := ⟨hF.bk.keeps hkeep (hmem _ (by omega) (by omega)), hF.bc.keeps hkeep (hmem _ (by omega) (by omega)), hF.bx.keeps hkeep (hmem _ (by omega) (by omega)),
                hF.bel.trans (hkeep.below hF.bel.size (by simp; omega))⟩
              have HSB : Hid (Blk w6 sb (seen.map .bool) 4) := hP.bs.keeps hkeep (hmem _ (by omega) (by omega))
              have HBOX := hid hbox6
              have HENTS := hid hents6
              have HFIND := hid (find_any cb 0 N N xb N comps xs q (cc es 0) w6 HC hn1 HLX (Ints.of_blk HF6.out.bc) HF6.out.bx (fun i hi => perm_range_lt HS.out.perm i hi) hqn hq1 (by show _ = _; rw [hxq]; exact hpc) hq3 p hxq)
              have HS' := hid hS'
              have HSL := hid hS.slen
              have d1 : w6.cell? ⟨sb, p, none⟩ = some (.bool false) := by
                rw [HSB.out.cell]
                have : p < seen.length := by rw [HSL.out]; exact hpn
                simp only [List.getElem?_map, List.getElem?_eq_getElem this, Option.map_some]
                rw [List.getElem?_eq_getElem this] at hseen
                simpa using hseen
              have d2 := HSB.out.frozen p
              have d3 : w6.cell? ⟨kb, p, none⟩ = some (.int .i64 (kk es 0)) := by rw [← hpk]; exact HF6.out.bk.icell (by rw [HK.out]; exact hpn)
              have HPV := hid hprev
              clear hP hS hF hpop hbox6 hents6 hkeep hxq hq1 hpc hq3 hseen hpk hprev hS' hmem HI hel hl
              generalize cc es 0 = cv at *
              generalize kk es 0 = kv at *
              go_wp2_with fail
              refine HFIND.out.mono ?_
              rintro e w7 ⟨rfl, rfl⟩
              clear HFIND
              have hpN : (p : Int) < N := by omega
              have hk1 : sb ≠ kb := by have := HLT.out; omega
              have hk2 : kb ≠ sb := by have := HLT.out; omega
              have HFIN : Hid (∃ (s' m : Nat) (prev : Int), m + s' = N ∧ m = m' ∧ Value.int .i64 kv = .int .i64 prev ∧ Value.int .i64 ((s : Int) + 1) = .int .i64 s' ∧ Hid (∃ es don seen, PopW hb' g sb cap m es seen (w6.setCell ⟨sb, p, none⟩ (.bool true)) ∧ PopSt keys comps N s' es don seen prev ∧ Fr w keys comps xs kb cb xb (w6.setCell ⟨sb, p, none⟩ (.bool true)))) := by
                have hl := HLT.out
                have hB := HSB.out.set p (.bool true)
                rw [← List.map_set] at hB
                obtain ⟨r0, hr0⟩ := HENTS.out
                refine ⟨s + 1, m', kv, by have := HMS.out; omega, rfl, rfl, by go_num, es', _, _, ⟨HBOX.out.set_ne _ _ (by simp; omega), ⟨r0, hr0.set_ne _ _ (by simp; omega)⟩, hB⟩, HS'.out, ?_⟩
                exact ⟨HF6.out.bk.set_ne _ _ hk2, HF6.out.bc.set_ne _ _ (by simp; omega), HF6.out.bx.set_ne _ _ (by simp; omega), HF6.out.bel.setCell (by simp; omega) _⟩
              by_cases hs0 : s = 0
              · have hz : ¬ (0 : Int) < (s : Int) := by omega
                clear hs0
                go_wp2_with fail
                go_roundg m'
                case measure => omega
                case rel => exact HFIN.out
              · have hz : (0 : Int) < (s : Int) := by omega
                have hnl : ¬ kv < prev := by have := HPV.out (by omega); omega
                clear hs0
                go_wp2_with fail
                go_roundg m'
                case measure => omega
                case rel => exact HFIN.out
            · obtain ⟨es, don, seen, hP, hS, hF⟩ := HI.out
              have hm0 : m = 0 := by have := HMS.out; omega
              subst hm0
              have c1 : wr.cell? ⟨hb', 0, none⟩ = some (.slice (some ⟨g, 0, none⟩) 0 cap) := by rw [hP.box.cell]; rfl
              have HBF := hid hF.bel
              clear hP hS hF HI
              go_wp2_with fail
              go_ret
              exact ⟨rfl, HBF.out⟩

theorem sortLaw (a0 : Option Addr) (len0 cap0 : Nat) (z0 : List Int) (a1 : Option Addr) (len1 cap1 : Nat) (z1 : List Int) (w : World) (w0 : Row .i64 w a0 len0 cap0 z0) (w1 : Row .i32 w a1 len1 cap1 z1) :
    Calls Try.prog 4 #[.slice a0 len0 cap0, .slice a1 len1 cap1] w fun e w' => e = .returned (.bool true) ∧ Below w.heap.size w w' := by
  by_cases h : len0 ≤ 65536 ∧ len1 ≤ 65536 ∧ 8 * len0 + 4 * len1 ≤ 1048576 ∧ len1 = len0
  · obtain ⟨h1, h2, h3, h4⟩ := h
    subst h4
    by_cases h5 : len1 = 0
    · subst h5
      refine sortLaw_zero a0 cap0 a1 cap1 w ?_ ?_
      · intro e; rcases w0 with ⟨_, _, h, _⟩ | ⟨x, h, _⟩
        · exact h
        · rw [e] at h; cases h
      · intro e; rcases w1 with ⟨_, _, h, _⟩ | ⟨x, h, _⟩
        · exact h
        · rw [e] at h; cases h
    · obtain ⟨x0, rfl, l0, k0⟩ := w0.some (by omega)
      obtain ⟨x1, rfl, l1, k1⟩ := w1.some (by omega)
      obtain ⟨ab, ao, rfl⟩ := cell_plain (k1 0 (by omega))
      exact sortLaw_in x0 ab ao cap0 cap1 len1 (z0.take len1) (z1.take len1) w (by omega) h1 h3 l0 l1 k0 (fun i hi => by rw [← addr_add]; exact k1 i (by rw [l1] at hi; exact hi))
  · exact sortLaw_out a0 len0 cap0 a1 len1 cap1 w w0.len w1.len h

end Go.Proofs.Qxb6601127a
