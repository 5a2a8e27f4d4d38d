import Derived.Test.Qxb6601127aZG2
namespace Go.Proofs.Qxb6601127a
open Go.RowKit
set_option linter.unusedVariables false
set_option linter.unusedSimpArgs false

theorem grown_cell {w w' : World} {r : Option Nat} (h : w.grownBy w' r) {a : Addr} {x : Value} (hc : w.cell? a = some x) (hr : r ≠ some a.block) : w'.cell? a = some x :=
  (World.cell?_of_block (w := w) (h.block _ (World.block_lt_of_cell? w a hc) (fun e => hr e.symm))).trans hc

set_option maxRecDepth 1000000 in
set_option maxHeartbeats 4000000 in
theorem zloop4 (b l cap D : Nat) (vF vT vK vL : Value) (xF xT xK xL : List Value) (es : List Edge) (w : World) (Q : Exit → Act → World → Prop)
    (hl : l ≤ 65536) (hlc : l ≤ cap) (HL : Hid (es.length = l)) (hD : D ≤ w.heap.size) (hF : xF.length ≤ 65536) (hT : xT.length ≤ 65536) (hK : xK.length ≤ 65536) (hb : b < D) (HP : Hid (PartAt w b cap es))
    (H : Hid (Outs D w (o4 vF vT vK vL) (o4 xF xT xK xL))) {c0 c1 c2 c3 c4 c5 c6 c7 c8 c9 c10 c11 c12 c13 c14 c15 c16 c17 c18 c19 c20 c21 c22 c26 c27 c28 c29 c30 c31 c32 c33 c34 c35 c36 c37 c38 c39 c40 c41 c42 c43 c44 c45 c46 c47 c48 c49 c50 c51 c52 c53 c54 c55 c56 c57 c58 c59 c60 c61 c62 c63 c64 c65 c66 c67 c68 c69 c70 c71 c72 c73 c74 c75 c76 c77 c78 c79 c80 c81 c82 c83 c84 c85 c86 c87 c88 c89 c90 c91 c92 c93 c94 c95 c96 c97 c101 c102 c103 c104 c105 c106 c107 c108 c109 c110 c111 c112 c113 c114 c115 c116 c117 c118 c119 c120 c121 c122 c123 c124 c125 c126 c127 c128 : Value}
    (hexit : ∀ u23 u24 u25 u30 u100 u101 u102 u103 u104 u105 u106 u107 u108 u109 u110 u111 u112 u113 u114 u115 u116 u117 u118 u119 w', Hid (Outs D w' (o4 u23 u24 u25 vL) (o4 (xF ++ (fsE es).map (.int .i32)) (xT ++ (tsE es).map (.int .i32)) (xK ++ (ksE es).map (.int .u32)) xL) ∧ Below D w w') → Q (.exit 6) ⟨(List.toArray (c0 :: c1 :: c2 :: c3 :: c4 :: c5 :: c6 :: c7 :: c8 :: c9 :: c10 :: c11 :: c12 :: c13 :: c14 :: c15 :: c16 :: c17 :: c18 :: c19 :: c20 :: c21 :: c22 :: u23 :: u24 :: u25 :: c26 :: c27 :: c28 :: c29 :: u30 :: c31 :: c32 :: c33 :: c34 :: c35 :: c36 :: c37 :: c38 :: c39 :: c40 :: c41 :: c42 :: c43 :: c44 :: c45 :: c46 :: c47 :: c48 :: c49 :: c50 :: c51 :: c52 :: c53 :: c54 :: c55 :: c56 :: c57 :: c58 :: c59 :: c60 :: c61 :: c62 :: c63 :: c64 :: c65 :: c66 :: c67 :: c68 :: c69 :: c70 :: c71 :: c72 :: c73 :: c74 :: c75 :: c76 :: c77 :: c78 :: c79 :: c80 :: c81 :: c82 :: c83 :: c84 :: c85 :: c86 :: c87 :: c88 :: c89 :: c90 :: c91 :: c92 :: c93 :: c94 :: c95 :: c96 :: c97 :: (Value.slice (some ⟨b, 0, none⟩) l cap) :: (Value.int .i64 (l : Int)) :: u100 :: u101 :: u102 :: u103 :: u104 :: u105 :: u106 :: u107 :: u108 :: u109 :: u110 :: u111 :: u112 :: u113 :: u114 :: u115 :: u116 :: u117 :: u118 :: u119 :: c120 :: c121 :: c122 :: c123 :: c124 :: c125 :: c126 :: c127 :: c128 :: [])), []⟩ w') :
    (Code.loop (loopOf Try.f22 3)).wp Try.prog Q ⟨(List.toArray (c0 :: c1 :: c2 :: c3 :: c4 :: c5 :: c6 :: c7 :: c8 :: c9 :: c10 :: c11 :: c12 :: c13 :: c14 :: c15 :: c16 :: c17 :: c18 :: c19 :: c20 :: c21 :: c22 :: vF :: vT :: vK :: c26 :: c27 :: c28 :: c29 :: c30 :: c31 :: c32 :: c33 :: c34 :: c35 :: c36 :: c37 :: c38 :: c39 :: c40 :: c41 :: c42 :: c43 :: c44 :: c45 :: c46 :: c47 :: c48 :: c49 :: c50 :: c51 :: c52 :: c53 :: c54 :: c55 :: c56 :: c57 :: c58 :: c59 :: c60 :: c61 :: c62 :: c63 :: c64 :: c65 :: c66 :: c67 :: c68 :: c69 :: c70 :: c71 :: c72 :: c73 :: c74 :: c75 :: c76 :: c77 :: c78 :: c79 :: c80 :: c81 :: c82 :: c83 :: c84 :: c85 :: c86 :: c87 :: c88 :: c89 :: c90 :: c91 :: c92 :: c93 :: c94 :: c95 :: c96 :: c97 :: (Value.slice (some ⟨b, 0, none⟩) l cap) :: (Value.int .i64 (l : Int)) :: (Value.int .i64 0) :: c101 :: c102 :: c103 :: c104 :: c105 :: c106 :: c107 :: c108 :: c109 :: c110 :: c111 :: c112 :: c113 :: c114 :: c115 :: c116 :: c117 :: c118 :: c119 :: c120 :: c121 :: c122 :: c123 :: c124 :: c125 :: c126 :: c127 :: c128 :: [])), []⟩ w := by
  conv => arg 2; arg 1; whnf
  obtain ⟨iA, hiA, hzz⟩ := Option.map_eq_some_iff.1 Try.info21
  simp only [Prod.mk.injEq] at hzz
  obtain ⟨hziA, hsiA, hbiA⟩ := hzz
  obtain ⟨iB, hiB, hzz⟩ := Option.map_eq_some_iff.1 Try.info46
  simp only [Prod.mk.injEq] at hzz
  obtain ⟨hziB, hsiB, hbiB⟩ := hzz
  go_loopg [23, 24, 25, 100] l (fun gg f t kk i wr => ∃ k : Nat, k ≤ l ∧ gg = l - k ∧ i = .int .i64 k ∧ Hid (Outs D wr (o4 f t kk vL) (o4 (xF ++ (fsE (es.take k)).map (.int .i32)) (xT ++ (tsE (es.take k)).map (.int .i32)) (xK ++ (ksE (es.take k)).map (.int .u32)) xL) ∧ Below D w wr))
  case atStart => exact ⟨0, by omega, by omega, rfl, hidG ⟨by simpa [fsE, tsE, ksE] using H.out, Below.refl _ _⟩⟩
  case round =>
    obtain ⟨k, hk, rfl, rfl, HI⟩ := hrel
    by_cases hlt : k < l
    · have hlt' : (k : Int) < (l : Int) := by omega
      obtain ⟨h1, hbel⟩ := HI.out
      obtain ⟨⟨ef, et, ek⟩, he⟩ : ∃ e, es[k]? = some e := ⟨_, List.getElem?_eq_getElem (by rw [HL.out]; exact hlt)⟩
      have htk : es.take (k + 1) = es.take k ++ [(ef, et, ek)] := by rw [List.take_add_one, he]; simp
      have hP : PartAt wr b cap es := HP.out.of_block (hbel.block b hb)
      obtain ⟨g1, g2, g3⟩ := hP.get (i := k) (by rw [HL.out]; exact hlt)
      obtain ⟨q1, q2, q3⟩ := eF_get es k _ he
      simp only at g1 g2 g3 q1 q2 q3
      rw [q1] at g1
      rw [q2] at g2
      rw [q3] at g3
      have hbw : b < wr.heap.size := hP.lt
      have hDr : D ≤ wr.heap.size := Nat.le_trans hD hbel.size
      have hDb : D ≤ (wr.alloc (.cells #[.int .i32 ef, .int .i32 et, .int .u32 ek] 70)).heap.size := by simp; omega
      obtain ⟨yF, hyF⟩ : ∃ y, xF ++ (fsE (es.take k)).map (Value.int .i32) = y := ⟨_, rfl⟩
      obtain ⟨yT, hyT⟩ : ∃ y, xT ++ (tsE (es.take k)).map (Value.int .i32) = y := ⟨_, rfl⟩
      obtain ⟨yK, hyK⟩ : ∃ y, xK ++ (ksE (es.take k)).map (Value.int .u32) = y := ⟨_, rfl⟩
      have lF : yF.length ≤ 131072 := by rw [← hyF]; simp [fsE]; omega
      have lT : yT.length ≤ 131072 := by rw [← hyT]; simp [tsE]; omega
      have lK : yK.length ≤ 131072 := by rw [← hyK]; simp [ksE]; omega
      rw [hyF, hyT, hyK] at h1
      have HE : Hid ((xF ++ (fsE (es.take (k + 1))).map (Value.int .i32) = yF ++ [.int .i32 ef]) ∧ (xT ++ (tsE (es.take (k + 1))).map (Value.int .i32) = yT ++ [.int .i32 et]) ∧ (xK ++ (ksE (es.take (k + 1))).map (Value.int .u32) = yK ++ [.int .u32 ek])) := by
        rw [htk, ← hyF, ← hyT, ← hyK]; simp [fsE, tsE, ksE, Hid]
      have nT : u24.ownBlock ≠ some wr.heap.size := by intro e; have := (h1.lt (i := 1) (by omega) e).2; omega
      have nF : u23.ownBlock ≠ some wr.heap.size := by intro e; have := (h1.lt (i := 0) (by omega) e).2; omega
      have nK : u25.ownBlock ≠ some wr.heap.size := by intro e; have := (h1.lt (i := 2) (by omega) e).2; omega
      have kB : ∀ j : Nat, (wr.alloc (.cells #[.int .i32 ef, .int .i32 et, .int .u32 ek] 70)).cell? ⟨wr.heap.size, j, none⟩ = [Value.int .i32 ef, Value.int .i32 et, Value.int .u32 ek][j]? := fun j => (Blk.new wr _ 70).cell j
      have O0 := hidG (h1.keeps ((Keeps.refl [] wr).alloc (.cells #[.int .i32 ef, .int .i32 et, .int .u32 ek] 70)))
      have HR1 : Hid ((wr.alloc (.cells #[.int .i32 ef, .int .i32 et, .int .u32 ek] 70)).ownsRow D 21 1 u23 yF.length yF) := O0.out.row 0 (by omega)
      have HBE := hidG (hbel.trans (((Keeps.refl [] wr).alloc (.cells #[.int .i32 ef, .int .i32 et, .int .u32 ek] 70)).below hDr (by simp)))
      have c1 : (wr.alloc (.cells #[.int .i32 ef, .int .i32 et, .int .u32 ek] 70)).cell? ⟨wr.heap.size, 1, none⟩ = some (.int .i32 et) := kB 1
      have c2 : (wr.alloc (.cells #[.int .i32 ef, .int .i32 et, .int .u32 ek] 70)).cell? ⟨wr.heap.size, 2, none⟩ = some (.int .u32 ek) := kB 2
      have HC := hidG (And.intro c1 c2)
      have hsz : (wr.alloc (.cells #[.int .i32 ef, .int .i32 et, .int .u32 ek] 70)).heap.size = wr.heap.size + 1 := by simp
      clear HI h1 hbel he htk hP q1 q2 q3 hyF hyT hyK kB c1 c2
      go_wp2_with (first
        | (at_builtin; refine wpList_append_own_at _ rfl _ _ 23 rfl D 21 iA (.int .i32 0) 1 4 Try.underlying23 hiA hziA hsiA hbiA rfl (by decide) u23 yF.length yF rfl ?o1 ⟨wr.heap.size + 1, 0, none⟩ 1 1 [.int .i32 ef] rfl rfl ?c2 ?c3 ?c4 ?c5 ?c6 ?_; (case o1 => exact World.ownsRow.alloc HR1.out _); (case c2 => rw [← hsz]; exact cell_one_new _ _ _); (case c3 => intro u hu; simp at hu; subst hu; rfl); (case c4 => unfold maxLen; omega); (case c5 => omega); (case c6 => simp; omega); (intro vF2 w2 hown hgrow hnil hat; obtain ⟨O1', B1'⟩ := O0.out.pushF hDb hown hgrow hat; have O1 := hidG O1'; have HB1 := hidG (HBE.out.trans B1'); have hD2 : D ≤ w2.heap.size := Nat.le_trans hDb B1'.size; have HR2 : Hid (w2.ownsRow D 21 1 u24 yT.length yT) := O1.out.row 1 (by omega); have k21 := grown_cell hgrow (alloc_cell HC.out.1 _) nF; have k22 := grown_cell hgrow (alloc_cell HC.out.2 _) nF; have hb2 := World.block_lt_of_cell? w2 _ k21; clear O1' B1' hown hgrow hnil hat))
        | (at_builtin; refine wpList_append_own_at _ rfl _ _ 23 rfl D 21 iA (.int .i32 0) 1 4 Try.underlying23 hiA hziA hsiA hbiA rfl (by decide) u24 yT.length yT rfl ?o1 ⟨w2.heap.size, 0, none⟩ 1 1 [.int .i32 et] rfl rfl ?c2 ?c3 ?c4 ?c5 ?c6 ?_; (case o1 => exact World.ownsRow.alloc HR2.out _); (case c2 => exact cell_one_new _ _ _); (case c3 => intro u hu; simp at hu; subst hu; rfl); (case c4 => unfold maxLen; omega); (case c5 => omega); (case c6 => simp; omega); (intro vT3 w3 hown hgrow hnil hat; obtain ⟨O2', B2'⟩ := O1.out.pushT hD2 hown hgrow hat; have O2 := hidG O2'; have HB2 := hidG (HB1.out.trans B2'); have hD3 : D ≤ w3.heap.size := Nat.le_trans hD2 B2'.size; have HR3 : Hid (w3.ownsRow D 46 1 u25 yK.length yK) := O2.out.row 2 (by omega); have k32 := grown_cell hgrow (alloc_cell k22 _) nT; have hb3 := World.block_lt_of_cell? w3 _ k32; clear O2' B2' hown hgrow hnil hat))
        | (at_builtin; refine wpList_append_own_at _ rfl _ _ 38 rfl D 46 iB (.int .u32 0) 1 4 Try.underlying38 hiB hziB hsiB hbiB rfl (by decide) u25 yK.length yK rfl ?o1 ⟨w3.heap.size, 0, none⟩ 1 1 [.int .u32 ek] rfl rfl ?c2 ?c3 ?c4 ?c5 ?c6 ?_; (case o1 => exact World.ownsRow.alloc HR3.out _); (case c2 => exact cell_one_new _ _ _); (case c3 => intro u hu; simp at hu; subst hu; rfl); (case c4 => unfold maxLen; omega); (case c5 => omega); (case c6 => simp; omega); (intro vK4 w4 hown hgrow hnil hat; obtain ⟨O3', B3'⟩ := O2.out.pushK hD3 hown hgrow hat; have O3 := hidG O3'; have HB3 := hidG (HB2.out.trans B3'); clear O3' B3' hown hgrow hnil hat)))
      have HN : Hid (Outs D w4 (o4 vF2 vT3 vK4 vL) (o4 (xF ++ (fsE (es.take (k + 1))).map (.int .i32)) (xT ++ (tsE (es.take (k + 1))).map (.int .i32)) (xK ++ (ksE (es.take (k + 1))).map (.int .u32)) xL) ∧ Below D w w4) := by
        rw [HE.out.1, HE.out.2.1, HE.out.2.2]
        exact ⟨O3.out, HB3.out⟩
      go_roundg (l - (k + 1))
      case measure => omega
      case rel => exact ⟨k + 1, by omega, rfl, by go_num, HN⟩
    · have hge : k = l := by omega
      subst hge
      have HQ := HI
      rw [show es.take k = es from List.take_of_length_le (by rw [HL.out]; exact Nat.le_refl _)] at HQ
      clear HI
      go_wp2_with fail
      exact HQ

end Go.Proofs.Qxb6601127a
