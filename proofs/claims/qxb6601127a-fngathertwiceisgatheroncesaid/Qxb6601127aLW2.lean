import Derived.Test.Qxb6601127aLL
namespace Go.Proofs.Qxb6601127a
open Go.RowKit
set_option linter.unusedVariables false
set_option linter.unusedSimpArgs false

set_option maxRecDepth 1000000 in
set_option maxHeartbeats 4000000 in
theorem law_in (N n L : Nat) (a1 : Option Addr) (cap1 : Nat) (z1 : List Int) (a2 : Option Addr) (cap2 : Nat) (z2 : List Int) (a3 : Option Addr) (cap3 : Nat) (z3 : List Int) (a4 : Option Addr) (cap4 : Nat) (z4 : List Int) (w : World)
    (w1 : Hid (IRow .i32 w a1 n cap1 z1)) (w2 : Hid (IRow .i32 w a2 n cap2 z2)) (w3 : Hid (IRow .u32 w a3 n cap3 z3)) (w4 : Hid (IRow .i64 w a4 L cap4 z4)) (hN : N ≤ 65536) (hn : n ≤ 65536) (hL : L ≤ 65536) (hb : 4 * n + 4 * n + 4 * n + 8 * L ≤ 1048576) :
    Calls Try.prog 6 #[.int .i64 (N : Int), .slice a1 n cap1, .slice a2 n cap2, .slice a3 n cap3, .slice a4 L cap4] w fun e w' => e = .returned (.bool true) ∧ Below w.heap.size w w' := by
  have q22 : ∀ (w : World) (a : Option Addr) (n c n' c' : Nat), (binOp .eql 22 (.slice a n c) (.slice none n' c')).run Try.prog w = .ok (.bool a.isNone) w := fun w a n c n' c' => Lib.run_eql_slice_nil w _ _ a n c n' c' Try.underlying22
  have HBY := hidG (bytes24 (N : Int) a1 a2 a3 a4 n cap1 n cap2 n cap3 L cap4 w (by omega) (by omega) (by omega) (by omega))
  have HLA := hidG (layout_call a4 L cap4 n (z4.take L) w hL hn (hidG w4.out.rx) (hidG fun z hz => wf_i64 (w4.out.fits z hz)))
  have HTA := hidG (tails_call a1 n cap1 N (z1.take n) w hn hN (hidG w1.out.rx) (hidG fun z hz => wf_i32 (w1.out.fits z hz)))
  go_enter Try.func6, Try.ntmps6
  go_wp2_with fail
  refine HBY.out.mono ?_
  rintro e w' ⟨⟨b, rfl⟩, rfl⟩
  cases b with
  | false =>
    go_wp2_with fail
    go_ret
    exact ⟨rfl, Below.refl _ _⟩
  | true =>
  go_wp2_with fail
  refine HLA.out.mono ?_
  rintro e w' ⟨⟨b, rfl, hLay⟩, rfl⟩
  cases b with
  | false =>
    clear hLay
    go_wp2_with fail
    go_ret
    exact ⟨rfl, Below.refl _ _⟩
  | true =>
  have HLay := hidG (hLay.1 rfl)
  clear hLay
  go_wp2_with fail
  refine HTA.out.mono ?_
  rintro e w' ⟨⟨b, rfl, hTl⟩, rfl⟩
  cases b with
  | false =>
    clear hTl
    go_wp2_with fail
    go_ret
    exact ⟨rfl, Below.refl _ _⟩
  | true =>
  have HTl := hidG (hTl.1 rfl)
  clear hTl HBY HLA HTA
  go_wp2_with fail
  refine (clone10 w1.out hn w (Below.refl _ _)).mono ?_
  rintro e wa ⟨vf, rfl, hf, bf⟩
  have HF := hidG hf
  have BF := hidG bf
  clear hf bf
  go_wp2_with fail
  refine (clone10 w2.out hn wa BF.out).mono ?_
  rintro e wb ⟨vt, rfl, ht, bt⟩
  have HT := hidG ht
  have BT := hidG bt
  have BT' := hidG (BF.out.trans (bt.mono BF.out.size))
  clear ht bt
  go_wp2_with fail
  refine (clone21 w3.out hn wb BT'.out).mono ?_
  rintro e wc ⟨vk, rfl, hk, bk⟩
  have HK := hidG hk
  have BK := hidG bk
  have BK' := hidG (BT'.out.trans (bk.mono BT'.out.size))
  clear hk bk
  go_wp2_with fail
  refine (clone9 w4.out hL wc BK'.out).mono ?_
  rintro e wd ⟨vl, rfl, hl, bl⟩
  have BL' := hidG (BK'.out.trans (bl.mono BK'.out.size))
  obtain ⟨E, hE⟩ : ∃ E, zipE n (z1.take n) (z2.take n) (z3.take n) = E := ⟨_, rfl⟩
  obtain ⟨ls, hls⟩ : ∃ ls, (z4.take L).map Int.toNat = ls := ⟨_, rfl⟩
  have hEf : fsE E = z1.take n := by rw [← hE]; exact fsE_zip w1.out.rx.1
  have hEt : tsE E = z2.take n := by rw [← hE]; exact tsE_zip w2.out.rx.1
  have hEk : ksE E = z3.take n := by rw [← hE]; exact ksE_zip w3.out.rx.1
  have hEl : E.length = n := by rw [← hE]; exact zipE_length _ _ _ _
  have hTl : Tails N E := by rw [tails_of, hEf]; exact HTl.out
  have hln := HLay.out.nats
  rw [hls] at hln
  have hlL : ls.length = L := by rw [← hls, List.length_map]; exact w4.out.rx.1
  have B1 := BT.out.trans ((BK.out.mono BT.out.size).trans (bl.mono (Nat.le_trans BT.out.size BK.out.size)))
  have B2 := BK.out.trans (bl.mono BK.out.size)
  have R1 : RD .i32 wd.heap.size wd vf (fsE E) := by rw [hEf]; exact (HF.out.below B1).mono B1.size
  have R2 : RD .i32 wd.heap.size wd vt (tsE E) := by rw [hEt]; exact (HT.out.below B2).mono B2.size
  have R3 : RD .u32 wd.heap.size wd vk (ksE E) := by rw [hEk]; exact (HK.out.below bl).mono bl.size
  have R4 : RD .i64 wd.heap.size wd vl (ls.map fun n : Nat => (n : Int)) := by rw [hln.1]; exact hl
  have Z1 := hidG (zzgather_call N L n vf vt vk vl E ls wd hN hn (hidG hEl) hL (hidG hlL) (hidG hln.2) (hidG hTl) (hidG R1) (hidG R2) (hidG R3) (hidG R4))
  have HTL := hidG hTl
  have HEL := hidG hEl
  clear hl bl hE hls hEf hEt hEk hEl hTl hln hlL B1 B2 R1 R2 R3 R4 HF BF HT BT BT' HK BK BK' HLay HTl w1 w2 w3 w4
  go_wp2_with fail
  refine Z1.out.mono ?_
  rintro e w5 ⟨st, vF, vT, vK, vL, rfl, hz⟩
  have hgl := grouped_len HTL.out
  have hgt := grouped_tails HTL.out
  rw [HEL.out] at hgl
  obtain ⟨oF, cF, hvF, xF⟩ := hz.f.rx
  obtain ⟨oT, cT, hvT, xT⟩ := hz.t.rx
  obtain ⟨oK, cK, hvK, xK⟩ := hz.k.rx
  obtain ⟨oL, cL, hvL, xL⟩ := hz.l.rx
  have lF : (fsE (grouped N E)).length = n := by unfold fsE; rw [List.length_map, hgl]
  have lT : (tsE (grouped N E)).length = n := by unfold tsE; rw [List.length_map, hgl]
  have lK : (ksE (grouped N E)).length = n := by unfold ksE; rw [List.length_map, hgl]
  rw [HEL.out] at hvL xL
  obtain ⟨m, hm⟩ : ∃ m, ((chunkL n).map fun n : Nat => (n : Int)).length = m := ⟨_, rfl⟩
  have hm6 : m ≤ 65536 := by rw [← hm, List.length_map, chunkL_length]; omega
  rw [lF] at hvF xF
  rw [lT] at hvT xT
  rw [lK] at hvK xK
  rw [hm] at hvL xL
  subst hvF hvT hvK hvL
  have L2 := hidG (layout_call oL m cL n _ w5 hm6 hn (hidG xL) (hidG (by
    intro z hz'
    obtain ⟨c, hc, rfl⟩ := List.mem_map.1 hz'
    unfold chunkL at hc
    obtain ⟨i, _, rfl⟩ := List.mem_map.1 hc
    omega)))
  have T2 := hidG (tails_call oF n cF N _ w5 hn hN (hidG xF) (hidG (by
    intro z hz'
    have := (tails_of.1 hgt) z hz'
    omega)))
  have Z2 := hidG (zzgather_call N m n _ _ _ _ (grouped N E) (chunkL n) w5 hN hn (hidG hgl) hm6 (hidG (by rw [← hm, List.length_map])) (hidG (chunkL_sum n)) (hidG hgt) (hidG hz.f) (hidG hz.t) (hidG hz.k) (hidG (by have := hz.l; rw [HEL.out] at this; exact this)))
  have HZ := hidG hz
  have HX := hidG (And.intro xF (And.intro xT (And.intro xK xL)))
  have HGT := hidG (And.intro hgt (And.intro hgl (And.intro lF (And.intro lT (And.intro lK hm)))))
  clear hz xF xT xK xL Z1 hgt hgl lF lT lK hm
  go_wp2_with fail
  refine L2.out.mono ?_
  rintro e w5' ⟨⟨b, rfl, hb2⟩, rfl⟩
  obtain rfl : b = true := hb2.2 (chunkL_layout n)
  clear hb2 L2
  go_wp2_with fail
  refine T2.out.mono ?_
  rintro e w5' ⟨⟨b, rfl, hb2⟩, rfl⟩
  obtain rfl : b = true := hb2.2 (tails_of.1 HGT.out.1)
  clear hb2 T2
  go_wp2_with fail
  refine Z2.out.mono ?_
  rintro e w6 ⟨st2, vF2, vT2, vK2, vL2, rfl, hz2⟩
  obtain ⟨hgt, hgl, lF, lT, lK, hm⟩ := HGT.out
  have hgg := grouped_twice HTL.out
  obtain ⟨oF2, cF2, hvF2, yF⟩ := hz2.f.rx
  obtain ⟨oT2, cT2, hvT2, yT⟩ := hz2.t.rx
  obtain ⟨oK2, cK2, hvK2, yK⟩ := hz2.k.rx
  obtain ⟨oL2, cL2, hvL2, yL⟩ := hz2.l.rx
  rw [hgg, lF] at hvF2 yF
  rw [hgg, lT] at hvT2 yT
  rw [hgg, lK] at hvK2 yK
  rw [hgl, hm] at hvL2 yL
  subst hvF2 hvT2 hvK2 hvL2
  have S1 : RX .i64 w6 (some ⟨st, 0, none⟩) (N + 1) ((List.range (N + 1)).map fun n => (befE E n : Int)) := (HZ.out.start.of_block (hz2.below.block st HZ.out.start.lt)).rx
  have S2 : RX .i64 w6 (some ⟨st2, 0, none⟩) (N + 1) ((List.range (N + 1)).map fun n => (befE E n : Int)) := (hz2.start.congr fun i hi => by rw [grouped_bef HTL.out i (by omega)]).rx
  have bx : ∀ {k : IntKind} {oa : Option Addr} {c : Nat} {zs : List Int}, RX k w5 oa c zs → RX k w6 oa c zs := by
    intro k oa c zs h
    refine ⟨h.1, fun i hi => ?_⟩
    obtain ⟨x, hx, hc⟩ := h.2 i hi
    exact ⟨x, hx, by rw [hz2.below.cell (World.block_lt_of_cell? _ _ hc)]; exact hc⟩
  have C1 := hidG (same_call (some ⟨st2, 0, none⟩) (some ⟨st, 0, none⟩) (N + 1) (N + 1) (N + 1) _ w6 (by omega) (hidG S2) (hidG S1))
  have C2 := hidG (fun m' => same_call oL2 oL m cL2 cL _ (w6.drewN m') (by omega) (hidG (yL.drew m')) (hidG ((bx HX.out.2.2.2).drew m')))
  have HX2 := hidG (And.intro (bx HX.out.1) (And.intro yF (And.intro (bx HX.out.2.1) (And.intro yT (And.intro (bx HX.out.2.2.1) yK)))))
  have BB := hidG (BL'.out.trans ((HZ.out.below.trans (hz2.below.mono HZ.out.below.size)).mono BL'.out.size))
  clear hz2 yF yT yK yL S1 S2 bx hgg hgt hgl lF lT lK hm HZ HX HGT Z2 BL'
  go_wp2_with fail
  refine C1.out.mono ?_
  rintro e w7 ⟨rfl, m1, rfl⟩
  go_wp2_with fail
  refine (C2.out m1).mono ?_
  rintro e w8 ⟨rfl, m2, hw8⟩
  rw [World.drewN_drewN] at hw8
  subst hw8
  clear C1 C2
  go_wp2_with fail
  refine lloop n cF cT cK cF2 cT2 cK2 oF oT oK oF2 oT2 oK2 _ _ _ _ _ hn (hidG (HX2.out.1.drew _)) (hidG (HX2.out.2.1.drew _)) (hidG (HX2.out.2.2.1.drew _)) (hidG (HX2.out.2.2.2.1.drew _)) (hidG (HX2.out.2.2.2.2.1.drew _)) (hidG (HX2.out.2.2.2.2.2.drew _)) ?_
  intro u10 u22 u184 u185 u186 u187 u188 u189 u190 u191 u192 u193 u194 u195 u196 u197 u198 u199 u200 u201 u202 u203 u204 u205 u206 u207 u208 u209 u210 u211 u212 u213 u214 u215 u216 u217 u218 u219 m3
  go_wp2_with fail
  go_ret
  exact ⟨rfl, Below.drewN' (Below.drewN' BB.out _) _⟩

set_option maxRecDepth 1000000 in
set_option maxHeartbeats 4000000 in
theorem law_out (a0 : Int) (a1 : Option Addr) (len1 cap1 : Nat) (a2 : Option Addr) (len2 cap2 : Nat) (a3 : Option Addr) (len3 cap3 : Nat) (a4 : Option Addr) (len4 cap4 : Nat) (w : World) (b0 : -9223372036854775808 ≤ a0 ∧ a0 ≤ 9223372036854775807) (b1 : len1 ≤ 9223372036854775807) (b2 : len2 ≤ 9223372036854775807) (b3 : len3 ≤ 9223372036854775807) (b4 : len4 ≤ 9223372036854775807)
    (hno : ¬ (len1 ≤ 65536 ∧ len2 ≤ 65536 ∧ len3 ≤ 65536 ∧ len4 ≤ 65536 ∧ 4 * len1 + 4 * len2 + 4 * len3 + 8 * len4 ≤ 1048576 ∧ 0 ≤ a0 ∧ a0 ≤ 65536 ∧ len2 = len1 ∧ len3 = len1)) :
    Calls Try.prog 6 #[.int .i64 a0, .slice a1 len1 cap1, .slice a2 len2 cap2, .slice a3 len3 cap3, .slice a4 len4 cap4] w fun e w' => e = .returned (.bool true) ∧ Below w.heap.size w w' := by
  have HBY := hidG (bytes24 a0 a1 a2 a3 a4 len1 cap1 len2 cap2 len3 cap3 len4 cap4 w b1 b2 b3 b4)
  go_enter Try.func6, Try.ntmps6
  go_wp2_with fail
  refine HBY.out.mono ?_
  rintro e w' ⟨⟨b, rfl⟩, rfl⟩
  cases b with
  | false =>
    go_wp2_with fail
    go_ret
    exact ⟨rfl, Below.refl _ _⟩
  | true =>
  by_cases h1 : len1 ≤ 65536 ∧ len2 ≤ 65536 ∧ len3 ≤ 65536 ∧ len4 ≤ 65536
  · obtain ⟨h1, h2, h3, h4⟩ := h1
    go_wp2_with fail
    all_goals first
      | (exfalso; simp at *; omega)
      | (go_ret; exact ⟨rfl, Below.refl _ _⟩)
  · have h1' : 65536 < len1 ∨ 65536 < len2 ∨ 65536 < len3 ∨ 65536 < len4 := by omega
    clear hno
    go_wp2_with fail
    all_goals first
      | (exfalso; simp at *; omega)
      | (go_ret; exact ⟨rfl, Below.refl _ _⟩)

theorem gatherLaw (a0 : Int) (a1 : Option Addr) (len1 cap1 : Nat) (z1 : List Int) (a2 : Option Addr) (len2 cap2 : Nat) (z2 : List Int) (a3 : Option Addr) (len3 cap3 : Nat) (z3 : List Int) (a4 : Option Addr) (len4 cap4 : Nat) (z4 : List Int) (w : World) (w0 : (Lit.int .i64 a0).wf = true) (w1 : IRow .i32 w a1 len1 cap1 z1) (w2 : IRow .i32 w a2 len2 cap2 z2) (w3 : IRow .u32 w a3 len3 cap3 z3) (w4 : IRow .i64 w a4 len4 cap4 z4) :
    Calls Try.prog 6 #[.int .i64 a0, .slice a1 len1 cap1, .slice a2 len2 cap2, .slice a3 len3 cap3, .slice a4 len4 cap4] w fun e w' => e = .returned (.bool true) ∧ Below w.heap.size w w' := by
  by_cases h : len1 ≤ 65536 ∧ len2 ≤ 65536 ∧ len3 ≤ 65536 ∧ len4 ≤ 65536 ∧ 4 * len1 + 4 * len2 + 4 * len3 + 8 * len4 ≤ 1048576 ∧ 0 ≤ a0 ∧ a0 ≤ 65536 ∧ len2 = len1 ∧ len3 = len1
  · obtain ⟨h1, h2, h3, h4, h5, h6, h7, rfl, rfl⟩ := h
    obtain ⟨N, rfl⟩ : ∃ N : Nat, a0 = (N : Int) := ⟨a0.toNat, by omega⟩
    exact law_in N _ len4 a1 cap1 z1 a2 cap2 z2 a3 cap3 z3 a4 cap4 z4 w w1 w2 w3 w4 (by omega) h1 h4 h5
  · exact law_out a0 a1 len1 cap1 a2 len2 cap2 a3 len3 cap3 a4 len4 cap4 w (wf_i64 w0) w1.len w2.len w3.len w4.len h

end Go.Proofs.Qxb6601127a
