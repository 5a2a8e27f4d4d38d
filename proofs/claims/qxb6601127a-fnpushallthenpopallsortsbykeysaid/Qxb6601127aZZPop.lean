import Derived.Test.Qxb6601127aPopAny
import Derived.Test.Qxb6601127aMerge
namespace Go.Proofs.Qxb6601127a
open Go.RowKit
set_option linter.unusedVariables false
set_option linter.unusedSimpArgs false

theorem Try.info57 : (Try.prog.info? 57).map (fun i => (i.zero, i.size, i.bytes)) = some (some (.agg #[.int .i64 0, .int .i32 0]), 2, 16) := by kernel_rfl

/-- 'make([]readyComp, n)', n a variable -/
theorem make_heap (n : Nat) (hn : n ≤ 1048576) (w : World) : (Instr.makeSlice 32 (.int .i64 (n : Int)) (.int .i64 (n : Int))).run Try.prog w =
    .ok (.slice (some ⟨w.heap.size, 0, none⟩) n n) (w.alloc (.cells (hv (List.replicate n (0, 0))).toArray 57)) := by
  obtain ⟨i, hi, hzz⟩ := Option.map_eq_some_iff.1 Try.info57
  simp only [Prod.mk.injEq] at hzz
  obtain ⟨hz, hs, hb⟩ := hzz
  have hr := run_make (P := Try.prog) w 32 57 i _ Try.underlying32 hi hz .i64 .i64 n n (by omega) (Int.le_refl _) (by rw [hb]; omega) (by omega)
  simp only [Int.toNat_natCast, hs] at hr
  rw [hr]
  have e : madeCells (Value.agg #[.int .i64 0, .int .i32 0]).cells (n * 2) = (hv (List.replicate n (0, 0))).toArray := by
    apply Array.ext'
    rw [List.toList_toArray]
    apply List.ext_getElem?
    intro j
    by_cases hj : j < n * 2
    · have h0 : (hv (List.replicate n (0, 0)))[j]? = if j % 2 = 0 then some (.int .i64 0) else some (.int .i32 0) := by
        by_cases h2 : j % 2 = 0
        · have := hv_key (List.replicate n (0, 0)) [] (j / 2) (by simp; omega)
          rw [List.append_nil, show j / 2 * 2 = j by omega] at this
          rw [this]; simp [h2, kk]
          by_cases h3 : j / 2 < n <;> simp [h3]
        · have := hv_comp (List.replicate n (0, 0)) [] (j / 2) (by simp; omega)
          rw [List.append_nil, show j / 2 * 2 + 1 = j by omega] at this
          rw [this]; simp [h2, cc]
          by_cases h3 : j / 2 < n <;> simp [h3]
      rw [h0]
      simp [madeCells, hj, Value.cells]
      by_cases h2 : j % 2 = 0
      · simp [h2]
      · have : j % 2 = 1 := by omega
        simp [this]
    · rw [List.getElem?_eq_none (by simp [size_madeCells]; omega), List.getElem?_eq_none (by rw [hv_length]; simp; omega)]
  rw [e]

/-- the world while ZZPop fills its heap -/
structure FW (w : World) (N : Nat) (hs : List (Int × Int)) (wr : World) : Prop where
  ents : Blk wr w.heap.size (hv hs) 57
  box : Blk wr (w.heap.size + 1) [.slice (some ⟨w.heap.size, 0, none⟩) N N] 32
  bel : Below w.heap.size w wr
  size : wr.heap.size = w.heap.size + 2

theorem FW.set {w : World} {N : Nat} {hs : List (Int × Int)} {wr : World} (h : FW w N hs wr) {i : Nat} (hi : i < hs.length) (k c : Int) :
    FW w N (hs.set i (k, c)) ((wr.setCell ⟨w.heap.size, i * 2, none⟩ (.int .i64 k)).setCell ⟨w.heap.size, i * 2 + 1, none⟩ (.int .i32 c)) := by
  refine ⟨?_, (h.box.set_ne _ _ (by simp)).set_ne _ _ (by simp), (h.bel.setCell (by simp) _).setCell (by simp) _, by simpa using h.size⟩
  have := (h.ents.set (i * 2) (.int .i64 k)).set (i * 2 + 1) (.int .i32 c)
  have e := hv_set hs [] i k c hi
  rw [List.append_nil, List.append_nil] at e
  rw [e] at this
  exact this

/-- the world while ZZPop reads its heap back: the new slices lie in blocks p and p + 1 -/
structure OW (w : World) (p n : Nat) (es : List (Int × Int)) (ks cs : List Int) (wr : World) : Prop where
  ents : Ents wr w.heap.size es
  box : Blk wr (w.heap.size + 1) [.slice (some ⟨w.heap.size, 0, none⟩) n (n + 1)] 32
  bk : Blk wr p (ks.map (.int .i64)) 3
  bc : Blk wr (p + 1) (cs.map (.int .i32)) 21
  bel : Below w.heap.size w wr
  hp : w.heap.size + 2 ≤ p
  lk : ks.length = n
  lc : cs.length = n

theorem OW.set {w : World} {p n : Nat} {es : List (Int × Int)} {ks cs : List Int} {wr : World} (h : OW w p n es ks cs wr) (i : Nat) (k c : Int) :
    OW w p n es (ks.set i k) (cs.set i c) ((wr.setCell ⟨p, i, none⟩ (.int .i64 k)).setCell ⟨p + 1, i, none⟩ (.int .i32 c)) := by
  have hp := h.hp
  exact ⟨(h.ents.set_ne _ _ (by simp; omega)).set_ne _ _ (by simp; omega), (h.box.set_ne _ _ (by simp; omega)).set_ne _ _ (by simp; omega), (h.bk.iset i k).set_ne _ _ (by simp), (h.bc.set_ne _ _ (by simp)).iset i c,
    (h.bel.setCell (by simp; omega) _).setCell (by simp; omega) _, hp, by rw [List.length_set]; exact h.lk, by rw [List.length_set]; exact h.lc⟩

theorem zip_get (keys comps : List Int) (i : Nat) (h1 : i < keys.length) (h2 : i < comps.length) : (keys.zip comps)[i]?.getD (0, 0) = (keys[i]?.getD 0, comps[i]?.getD 0) := by
  rw [List.getElem?_eq_getElem (by rw [List.length_zip]; omega), List.getElem_zip]
  simp [h1, h2]
theorem zip_kk (keys comps : List Int) (i : Nat) (h1 : i < keys.length) (h2 : i < comps.length) : kk (keys.zip comps) i = keys[i]?.getD 0 := by
  unfold kk; rw [zip_get _ _ _ h1 h2]
theorem zip_cc (keys comps : List Int) (i : Nat) (h1 : i < keys.length) (h2 : i < comps.length) : cc (keys.zip comps) i = comps[i]?.getD 0 := by
  unfold cc; rw [zip_get _ _ _ h1 h2]

set_option maxRecDepth 100000 in
set_option maxHeartbeats 2000000 in
theorem zzpop_any (kb kc cb cc' n : Nat) (keys comps : List Int) (w : World) (HK : Hid (keys.length = n + 1)) (HC : Hid (comps.length = n + 1)) (hn : n + 1 ≤ 1048576)
    (HBK : Hid (Ints .i64 w kb 0 keys)) (HBC : Hid (Ints .i32 w cb 0 comps)) :
    Calls Try.prog 11 #[.slice (some ⟨kb, 0, none⟩) (n + 1) kc, .slice (some ⟨cb, 0, none⟩) (n + 1) cc'] w fun e w' => ∃ es' ok oc,
      e = .returned (.tuple #[.int .i32 (comps[0]?.getD 0), .slice (some ⟨ok, 0, none⟩) n n, .slice (some ⟨oc, 0, none⟩) n n]) ∧ Popped (keys.zip comps) es' ∧
      Blk w' ok ((es'.map Prod.fst).map (.int .i64)) 3 ∧ Blk w' oc ((es'.map Prod.snd).map (.int .i32)) 21 ∧ Below w.heap.size w w' := by
  have hmk : ∀ w, (Instr.makeSlice 32 (.int .i64 ((n : Int) + 1)) (.int .i64 ((n : Int) + 1))).run Try.prog w =
    .ok (.slice (some ⟨w.heap.size, 0, none⟩) (n + 1) (n + 1)) (w.alloc (.cells (hv (List.replicate (n + 1) (0, 0))).toArray 57)) := fun w => make_heap (n + 1) (by omega) w
  obtain ⟨es, hes⟩ : ∃ es, es = keys.zip comps := ⟨_, rfl⟩
  have hel : es.length = n + 1 := by rw [hes, List.length_zip, HK.out, HC.out]; simp
  rw [← hes]
  have Hes : Hid _ := hes
  have HEL : Hid _ := hel
  clear hes hel
  have HC0 : Hid (cc es 0 = comps[0]?.getD 0) := by
    unfold Hid; rw [Hes.out]; exact zip_cc _ _ _ (by rw [HK.out]; omega) (by rw [HC.out]; omega)
  generalize comps[0]?.getD 0 = top at *
  go_enter Try.func11, Try.ntmps11
  go_wp2
  clear hmk
  go_loopg [18] (n + 1) (fun g i wr => ∃ k : Nat, k ≤ n + 1 ∧ g = n + 1 - k ∧ i = .int .i64 k ∧ Hid (∃ hs : List (Int × Int), hs.length = n + 1 ∧ hs.take k = es.take k ∧ FW w (n + 1) hs wr))
  case atStart =>
    refine ⟨0, Nat.zero_le _, rfl, rfl, List.replicate (n + 1) (0, 0), by simp, by simp, ?_, ?_, ?_, by simp⟩
    · exact (Blk.new w _ 57).alloc _
    · have := Blk.new (w.alloc (.cells (hv (List.replicate (n + 1) (0, 0))).toArray 57)) #[.slice (some ⟨w.heap.size, 0, none⟩) (n + 1) (n + 1)] 32
      simpa using this
    · exact ((Below.refl _ _).alloc (Nat.le_refl _) _).alloc (by simp) _
  case round =>
    obtain ⟨k, hk, rfl, rfl, HI⟩ := hrel
    by_cases hlt : k < n + 1
    · obtain ⟨hs, hl, ht, hF⟩ := HI.out
      have hsz := hF.size
      have c1 : wr.cell? ⟨w.heap.size + 1, 0, none⟩ = some (.slice (some ⟨w.heap.size, 0, none⟩) (n + 1) (n + 1)) := by rw [hF.box.cell]; rfl
      have c2 : wr.cell? ⟨kb, k, none⟩ = some (.int .i64 (keys[k]?.getD 0)) := by
        have := HBK.out.below' hF.bel k (by rw [HK.out]; exact hlt)
        simpa using this
      have c3 : wr.cell? ⟨cb, k, none⟩ = some (.int .i32 (comps[k]?.getD 0)) := by
        have := HBC.out.below' hF.bel k (by rw [HC.out]; exact hlt)
        simpa using this
      have hE : Ents wr w.heap.size hs := ⟨[], by rw [List.append_nil]; exact hF.ents⟩
      have c4 := hE.key (i := k) (by omega)
      have c5 := hE.comp (i := k) (by omega)
      have f4 := hE.frozen (k * 2)
      have f5 := hE.frozen (k * 2 + 1)
      have HX : Hid _ := hF.set (by omega : k < hs.length) (keys[k]?.getD 0) (comps[k]?.getD 0)
      have HT := take_fill (d := (0, 0)) (by omega : k < hs.length) (by rw [HEL.out]; exact hlt) ht
      rw [Hes.out, zip_get _ _ _ (by rw [HK.out]; exact hlt) (by rw [HC.out]; exact hlt), ← Hes.out] at HT
      have HT' : Hid _ := HT
      have HLL : Hid _ := hl
      clear HT hE hF hl ht HI
      have hki : (k : Int) < (n : Int) + 1 := by omega
      generalize keys[k]?.getD 0 = kx at *
      generalize comps[k]?.getD 0 = cx at *
      go_wp2
      go_region
      go_wp2
      go_roundg (n + 1 - (k + 1))
      case measure => omega
      case rel =>
        refine ⟨k + 1, by omega, rfl, by go_num, _, by rw [List.length_set]; exact HLL, HT', ?_⟩
        exact ⟨HX.out.ents, HX.out.box, Below.drewN' HX.out.bel 1, HX.out.size⟩
    · have HF : Hid (FW w (n + 1) es wr) := by
        obtain ⟨hs, hl, ht, hF⟩ := HI.out
        rw [List.take_of_length_le (by omega), List.take_of_length_le (by rw [HEL.out]; omega)] at ht
        subst ht; exact hF
      clear HI
      go_wp2_with fail
      refine (pop_any (w.heap.size + 1) w.heap.size n (n + 1) es wr HEL hn (Nat.le_refl _) (by omega) HF.out.box ⟨[], by rw [List.append_nil]; exact HF.out.ents⟩ (by omega)).mono ?_
      rintro e w1 ⟨es', he, hpop, hbox, hents, hkeep⟩
      rw [HC0.out] at he
      subst he
      have hbel1 : Below w.heap.size w w1 := HF.out.bel.trans (hkeep.below (by have := HF.out.size; omega) (by simp))
      have hsz1 : w.heap.size + 2 ≤ w1.heap.size := by have := HF.out.size; have := hkeep.size; omega
      have hsz2 : w.heap.size + 1 < w1.heap.size := by omega
      have hel : es'.length = n := by rw [hpop.length, HEL.out]; rfl
      have c1 : w1.cell? ⟨w.heap.size + 1, 0, none⟩ = some (.slice (some ⟨w.heap.size, 0, none⟩) n (n + 1)) := by rw [hbox.cell]; rfl
      have c2 : ∀ o, (w1.alloc o).cell? ⟨w.heap.size + 1, 0, none⟩ = some (.slice (some ⟨w.heap.size, 0, none⟩) n (n + 1)) := fun o => by rw [(hbox.alloc o).cell]; rfl
      have c3 : ∀ o o', ((w1.alloc o).alloc o').cell? ⟨w.heap.size + 1, 0, none⟩ = some (.slice (some ⟨w.heap.size, 0, none⟩) n (n + 1)) := fun o o' => by rw [((hbox.alloc o).alloc o').cell]; rfl
      have HO : Hid (OW w w1.heap.size n es' (List.replicate n 0) (List.replicate n 0) ((w1.alloc (.cells (madeCells #[.int .i64 0] n) 3)).alloc (.cells (madeCells #[.int .i32 0] n) 21))) := by
        refine ⟨(hents.alloc _).alloc _, (hbox.alloc _).alloc _, ?_, ?_, (hbel1.alloc (by omega) _).alloc (by simp; omega) _, hsz1, by simp, by simp⟩
        · rw [List.map_replicate]; exact (Blk.made w1 _ _ _).alloc _
        · rw [List.map_replicate]
          have := Blk.made (w1.alloc (.cells (madeCells #[.int .i64 0] n) 3)) (.int .i32 0) n 21
          simpa using this
      have HPOP : Hid _ := hpop
      have HEL' : Hid _ := hel
      clear hpop hbox hents hkeep hel HF hbel1
      have hmk1 := run_make_row' (P := Try.prog) 22 3 (.int .i64 0) 8 Try.underlying22 Try.info3 rfl .i64 .i64 n (by omega) (by omega)
      have hmk2 := run_make_row' (P := Try.prog) 23 21 (.int .i32 0) 4 Try.underlying23 Try.info21 rfl .i64 .i64 n (by omega) (by omega)
      go_wp2
      clear hmk1 hmk2 c1 c2 c3
      go_loopg [43] n (fun g i wr => ∃ k : Nat, k ≤ n ∧ g = n - k ∧ i = .int .i64 k ∧ Hid (∃ ks cs : List Int, ks.take k = (es'.map Prod.fst).take k ∧ cs.take k = (es'.map Prod.snd).take k ∧ OW w w1.heap.size n es' ks cs wr))
      case atStart => exact ⟨0, Nat.zero_le _, rfl, rfl, _, _, by simp, by simp, HO⟩
      case round =>
        clear HO
        obtain ⟨k, hk, rfl, rfl, HI⟩ := hrel
        by_cases hlt : k < n
        · obtain ⟨ks, cs, ht1, ht2, hO⟩ := HI.out
          have c1 : wr.cell? ⟨w.heap.size + 1, 0, none⟩ = some (.slice (some ⟨w.heap.size, 0, none⟩) n (n + 1)) := by rw [hO.box.cell]; rfl
          have c2 := hO.ents.key (i := k) (by rw [HEL'.out]; exact hlt)
          have c3 := hO.ents.comp (i := k) (by rw [HEL'.out]; exact hlt)
          have d1 := hO.bk.icell (i := k) (by rw [hO.lk]; exact hlt)
          have d2 := hO.bc.icell (i := k) (by rw [hO.lc]; exact hlt)
          have f1 := hO.bk.frozen k
          have f2 := hO.bc.frozen k
          have HX : Hid _ := hO.set k (kk es' k) (cc es' k)
          have HT1 := take_fill (d := 0) (by rw [hO.lk]; exact hlt) (by rw [List.length_map, HEL'.out]; exact hlt) ht1
          have HT2 := take_fill (d := 0) (by rw [hO.lc]; exact hlt) (by rw [List.length_map, HEL'.out]; exact hlt) ht2
          have e1 : (es'.map Prod.fst)[k]?.getD 0 = kk es' k := by simp [kk, HEL'.out, hlt]
          have e2 : (es'.map Prod.snd)[k]?.getD 0 = cc es' k := by simp [cc, HEL'.out, hlt]
          rw [e1] at HT1
          rw [e2] at HT2
          have HT1' : Hid _ := HT1
          have HT2' : Hid _ := HT2
          clear HT1 HT2 e1 e2 ht1 ht2 hO HI
          generalize kk es' k = kx at *
          generalize cc es' k = cx at *
          generalize ks[k]?.getD 0 = kold at *
          generalize cs[k]?.getD 0 = cold at *
          go_wp2
          go_roundg (n - (k + 1))
          case measure => omega
          case rel => exact ⟨k + 1, by omega, rfl, by go_num, _, _, HT1', HT2', HX⟩
        · go_wp2
          obtain ⟨ks, cs, ht1, ht2, hO⟩ := HI.out
          rw [List.take_of_length_le (by rw [hO.lk]; omega), List.take_of_length_le (by rw [List.length_map, HEL'.out]; omega)] at ht1
          rw [List.take_of_length_le (by rw [hO.lc]; omega), List.take_of_length_le (by rw [List.length_map, HEL'.out]; omega)] at ht2
          subst ht1 ht2
          go_ret3
          exact ⟨es', _, _, rfl, HPOP, hO.bk, hO.bc, hO.bel⟩

end Go.Proofs.Qxb6601127a
