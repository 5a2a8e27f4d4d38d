import Derived.Test.Qxb6601127aZL3
import Derived.Test.Qxb6601127aZL1
namespace Go.Proofs.Qxb6601127a
open Go.RowKit
set_option linter.unusedVariables false
set_option linter.unusedSimpArgs false

/-- the lengths of the chunks of T edges -/
def chunkL (T : Nat) : List Nat := (List.range ((T + 511) / 512)).map fun i => min 512 (T - 512 * i)

theorem lensP_chunked {T : Nat} {PL : List Part} (h : Chunked T PL) (hl : PL.length = (T + 511) / 512) : lensP PL = (chunkL T).map fun n : Nat => (n : Int) := by
  apply List.ext_getElem?
  intro i
  unfold lensP chunkL
  rw [List.getElem?_map, List.getElem?_map, List.getElem?_map]
  by_cases hi : i < PL.length
  · have hp : PL[i]? = some PL[i] := List.getElem?_eq_getElem hi
    rw [hp, List.getElem?_range (by omega)]
    have := h i _ hp
    simp [this]
  · rw [List.getElem?_eq_none (by omega), List.getElem?_eq_none (by simp; omega)]; rfl

/-- what ZZGather answers -/
structure ZOut (w w' : World) (st N : Nat) (E : List Edge) (vF vT vK vL : Value) : Prop where
  below : Below w.heap.size w w'
  start : IB w' st (N + 1) (fun n => (befE E n : Int))
  f : RD .i32 w'.heap.size w' vF (fsE (grouped N E))
  t : RD .i32 w'.heap.size w' vT (tsE (grouped N E))
  k : RD .u32 w'.heap.size w' vK (ksE (grouped N E))
  l : RD .i64 w'.heap.size w' vL ((chunkL E.length).map fun n : Nat => (n : Int))

theorem Outs.new (w : World) : Outs w.heap.size ((((w.alloc (.cells #[] 21)).alloc (.cells #[] 21)).alloc (.cells #[] 46)).alloc (.cells #[] 3)) (o4 (.slice (some ⟨w.heap.size, 0, none⟩) 0 0) (.slice (some ⟨w.heap.size + 1, 0, none⟩) 0 0) (.slice (some ⟨w.heap.size + 1 + 1, 0, none⟩) 0 0) (.slice (some ⟨w.heap.size + 1 + 1 + 1, 0, none⟩) 0 0)) (o4 [] [] [] []) := by
  have s1 : (w.alloc (.cells #[] 21)).heap.size = w.heap.size + 1 := by simp
  have s2 : ((w.alloc (.cells #[] 21)).alloc (.cells #[] 21)).heap.size = w.heap.size + 1 + 1 := by simp
  have s3 : (((w.alloc (.cells #[] 21)).alloc (.cells #[] 21)).alloc (.cells #[] 46)).heap.size = w.heap.size + 1 + 1 + 1 := by simp
  have b0 := (((Blk.new w #[] 21).alloc (.cells #[] 21)).alloc (.cells #[] 46)).alloc (.cells #[] 3)
  have b1 := ((Blk.new (w.alloc (.cells #[] 21)) #[] 21).alloc (.cells #[] 46)).alloc (.cells #[] 3)
  have b2 := (Blk.new ((w.alloc (.cells #[] 21)).alloc (.cells #[] 21)) #[] 46).alloc (.cells #[] 3)
  have b3 := Blk.new (((w.alloc (.cells #[] 21)).alloc (.cells #[] 21)).alloc (.cells #[] 46)) #[] 3
  rw [s1] at b1
  rw [s2] at b2
  rw [s3] at b3
  refine ⟨fun i hi => ?_, fun i j hi hj hij b hb => ?_⟩
  · rcases i with _ | _ | _ | _ | i
    · exact ⟨rfl, .inr ⟨_, 0, #[], rfl, by omega, b0, Nat.le_refl 0, by unfold maxLen; omega, rfl, rfl⟩⟩
    · exact ⟨rfl, .inr ⟨_, 0, #[], rfl, by omega, b1, Nat.le_refl 0, by unfold maxLen; omega, rfl, rfl⟩⟩
    · exact ⟨rfl, .inr ⟨_, 0, #[], rfl, by omega, b2, Nat.le_refl 0, by unfold maxLen; omega, rfl, rfl⟩⟩
    · exact ⟨rfl, .inr ⟨_, 0, #[], rfl, by omega, b3, Nat.le_refl 0, by unfold maxLen; omega, rfl, rfl⟩⟩
    · omega
  · rcases i with _ | _ | _ | _ | i <;> rcases j with _ | _ | _ | _ | j <;> first | omega | (simp [o4, Value.ownBlock] at hb ⊢; omega)

theorem results_tmp5 {fn : Func} {a b c d e : Tmp} (h : fn.results = #[.tmp a, .tmp b, .tmp c, .tmp d, .tmp e]) (tmps : Array Value) (P : Program) (w : World) :
    (results fn tmps).run P w = .ok (.tuple #[tmps.getD a undef, tmps.getD b undef, tmps.getD c undef, tmps.getD d undef, tmps.getD e undef]) w := by
  simp [results, h]

set_option maxRecDepth 1000000 in
set_option maxHeartbeats 4000000 in
theorem zzgather_call (N L T : Nat) (fv tv kv lv : Value) (E : List Edge) (ls : List Nat) (w : World) (hN : N ≤ 65536) (hT : T ≤ 65536) (HE : Hid (E.length = T)) (hL : L ≤ 65536) (HL : Hid (ls.length = L)) (HS : Hid (ls.sum = T)) (HTL : Hid (Tails N E))
    (RF : Hid (RD .i32 w.heap.size w fv (fsE E))) (RT : Hid (RD .i32 w.heap.size w tv (tsE E))) (RK : Hid (RD .u32 w.heap.size w kv (ksE E))) (RL : Hid (RD .i64 w.heap.size w lv (ls.map fun n : Nat => (n : Int)))) :
    Calls Try.prog 22 #[.int .i64 (N : Int), fv, tv, kv, lv, .slice none 0 0] w fun e w' => ∃ st vF vT vK vL, e = .returned (.tuple #[.slice (some ⟨st, 0, none⟩) (N + 1) (N + 1), vF, vT, vK, vL]) ∧ ZOut w w' st N E vF vT vK vL := by
  obtain ⟨oa, lc, hlv⟩ := RL.out.len
  rw [List.length_map, HL.out] at hlv
  subst hlv
  go_enter Try.func22, Try.ntmps22
  go_wp2_with fail
  have HG0 : Hid (∃ P τ ps ov, GStart (w.alloc (.cells #[.slice none 0 0, .int .i64 (N : Int), .slice none 0 0, .slice none 0 0, .slice none 0 0, .bool false, .slice none 0 0, .bool false] 67)) w.heap.size w.heap.size N P τ ps ov ∧ Below w.heap.size (w.alloc (.cells #[.slice none 0 0, .int .i64 (N : Int), .slice none 0 0, .slice none 0 0, .slice none 0 0, .bool false, .slice none 0 0, .bool false] 67)) (w.alloc (.cells #[.slice none 0 0, .int .i64 (N : Int), .slice none 0 0, .slice none 0 0, .slice none 0 0, .bool false, .slice none 0 0, .bool false] 67)) ∧ P.length = 0 ∧ flat P = E.take 0) := by
    have hB := Blk.new w #[.slice none 0 0, .int .i64 (N : Int), .slice none 0 0, .slice none 0 0, .slice none 0 0, .bool false, .slice none 0 0, .bool false] 67
    exact ⟨[], _, _, _, GStart.first ((Keeps.refl [] w).alloc _) (by simp) (by rw [hB.cell]; rfl) (by rw [hB.cell]; rfl) (by rw [hB.cell]; rfl) (fun i => hB.frozen i), Below.refl _ _, rfl, by simp [flat]⟩
  have hk0 : Keeps [] w (w.alloc (.cells #[.slice none 0 0, .int .i64 (N : Int), .slice none 0 0, .slice none 0 0, .slice none 0 0, .bool false, .slice none 0 0, .bool false] 67)) := (Keeps.refl [] w).alloc _
  have HB0 := hidG (hk0.below (Nat.le_refl _) (by simp))
  refine zloop1 w.heap.size N w.heap.size L T fv tv kv _ E ls _ _ hT HE hL HL HS HTL (hidG (RF.out.keeps hk0 (by simp))) (hidG (RT.out.keeps hk0 (by simp))) (hidG (RK.out.keeps hk0 (by simp))) (hidG (RL.out.keeps hk0 (by simp))) HG0 ?_
  intro a18 a20 a21 a22 a37 a38 a39 a40 a41 a42 a43 a44 a45 a46 a47 a48 a49 a50 a51 a52 a53 a54 a55 a56 a57 a58 a59 a60 a61 a62 a63 a64 a65 a66 a67 a68 a69 a70 a71 a72 a73 a74 a75 a76 a77 w1 H1
  obtain ⟨P, τ, ps, ov, h1, hb1, hP1, hf1⟩ := H1.out
  rw [List.take_of_length_le (by rw [HE.out]; exact Nat.le_refl _)] at hf1
  have GC := hidG (gather_call w.heap.size N w.heap.size L T P τ ps ov w1 hN hL (hidG hP1) hT (hidG (by rw [hf1]; exact HE.out)) (hidG h1))
  have HBW1 := hidG (HB0.out.trans hb1)
  have HF1 := hidG hf1
  clear H1 h1 hb1 hP1 hf1 HG0 hk0 HB0
  go_wp2_with fail
  refine GC.out.mono ?_
  rintro e2 w2 ⟨rfl, st, PL, v, τ', ps', ov', HG2⟩
  rw [HF1.out] at HG2
  obtain ⟨xs, hxr, hxl, hxp⟩ := HG2.gi.row gP
  rw [HG2.ov] at hxr
  rw [HG2.pl] at hxl hxp
  rw [List.length_map] at hxl
  obtain ⟨pa, pc, hv⟩ := hxr.slice
  rw [hxl] at hv
  have hlen := HG2.len
  rw [HE.out] at hlen
  obtain ⟨m, hm⟩ : ∃ m, PL.length = m := ⟨_, rfl⟩
  rw [hm] at hv hxl hlen
  have hm6 : m ≤ 65536 := by omega
  have c3 := HG2.cg3
  rw [hv] at c3
  have hgw : w.heap.size < w2.heap.size := World.block_lt_of_cell? w2 _ c3
  have HGE := hidG HG2
  have HRW := hidG (And.intro hxr (And.intro hxl hxp))
  have HM := hidG hm
  have HV := hidG hv
  clear HG2 hxr hxl hxp hv hm GC hlen
  have c3' := alloc_cell (alloc_cell (alloc_cell (alloc_cell c3 (.cells #[] 21)) (.cells #[] 21)) (.cells #[] 46)) (.cells #[] 3)
  clear c3
  go_wp2_with fail
  have hk3 : Keeps [] w2 ((((w2.alloc (.cells #[] 21)).alloc (.cells #[] 21)).alloc (.cells #[] 46)).alloc (.cells #[] 3)) := ((((Keeps.refl [] w2).alloc _).alloc _).alloc _).alloc _
  have hfl : (flat PL).length ≤ 65536 := by
    rw [HGE.out.fl, grouped_length HTL.out, befE_all HTL.out, HE.out]; exact hT
  refine zloop3 m w2.heap.size (.slice pa m pc) _ _ _ _ PL _ _ hm6 HM hfl hk3.size ?hR ?hP (Outs.new w2) ?_
  case hR =>
    refine ⟨xs, ?_, HRW.out.2.1, fun i p hp => HRW.out.2.2 i p (by rw [List.getElem?_map, hp]; rfl), fun b hb => ?_⟩
    · have := HRW.out.1.keeps hk3 (by simp)
      rw [HV.out] at this; exact this
    · have := HGE.out.gi.out gP b (by rw [HGE.out.ov, HV.out]; exact hb)
      exact (live_lt HGE.out.gi this (by simp)).2
  case hP =>
    intro i p hp
    have := (HGE.out.gi.part gP i p (by rw [HGE.out.pl, List.getElem?_map, hp]; rfl)).1
    exact ⟨this.keeps hk3 (by simp), this.lt⟩
  intro b23 b24 b25 b26 b28 b30 b89 b90 b91 b92 b93 b94 b95 b96 b97 b98 b99 b100 b101 b102 b103 b104 b105 b106 b107 b108 b109 b110 b111 b112 b113 b114 b115 b116 b117 b118 b119 b120 w4 H4
  have hB4 := (hk3.below (B := w2.heap.size) (Nat.le_refl _) (by simp)).trans H4.out.2
  have c4 : w4.cell? ⟨w.heap.size, 4, none⟩ = some (.slice (some ⟨st, 0, none⟩) (N + 1) (N + 1)) := by
    rw [World.cell?_of_block (w := w2) (a := ⟨w.heap.size, 4, none⟩) (hB4.block _ hgw)]; exact HGE.out.cg4
  have HB4 := hidG hB4
  have HO := hidG H4.out.1
  clear H4 hB4
  go_wp2_with fail
  (try simp only [Exit.inBlock, Exit.then])
  refine bodyPost_ret (results_tmp5 rfl _ _ _) rfl ?_
  refine ⟨st, b23, b24, b25, b26, rfl, (HBW1.out.trans HGE.out.below).trans (HB4.out.mono (Nat.le_of_lt hgw)), ?_, ?_, ?_, ?_, ?_⟩
  · exact HGE.out.start.of_block (HB4.out.block st HGE.out.start.lt)
  · rw [← HGE.out.fl]; exact RD.of_owns (HO.out.row 0 (by omega)) (Nat.le_refl _)
  · rw [← HGE.out.fl]; exact RD.of_owns (HO.out.row 1 (by omega)) (Nat.le_refl _)
  · rw [← HGE.out.fl]; exact RD.of_owns (HO.out.row 2 (by omega)) (Nat.le_refl _)
  · rw [← lensP_chunked HGE.out.ch HGE.out.len]; exact RD.of_owns (HO.out.row 3 (by omega)) (Nat.le_refl _)

end Go.Proofs.Qxb6601127a
