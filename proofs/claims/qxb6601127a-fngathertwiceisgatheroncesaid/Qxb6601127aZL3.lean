import Derived.Test.Qxb6601127aZL4
namespace Go.Proofs.Qxb6601127a
open Go.RowKit
set_option linter.unusedVariables false
set_option linter.unusedSimpArgs false

/-- the parts' lengths -/
def lensP (P : List Part) : List Int := P.map fun p => (p.es.length : Int)

set_option maxRecDepth 1000000 in
set_option maxHeartbeats 4000000 in
theorem zloop3 (m D : Nat) (v vF vT vK vL : Value) (PL : List Part) (w : World) (Q : Exit → Act → World → Prop)
    (hm : m ≤ 65536) (HM : Hid (PL.length = m)) (hfl : (flat PL).length ≤ 65536) (hD : D ≤ w.heap.size)
    (HR : Hid (∃ xs, Row w v xs ∧ xs.length = m ∧ (∀ (i : Nat) (p : Part), PL[i]? = some p → xs[i]? = some p.val) ∧ ∀ b, v.ownBlock = some b → b < D)) (HPA : Hid (∀ (i : Nat) (p : Part), PL[i]? = some p → PartAt w p.b p.cap p.es ∧ p.b < D))
    (H : Hid (Outs D w (o4 vF vT vK vL) (o4 [] [] [] []))) {c0 c1 c2 c3 c4 c5 c6 c7 c8 c9 c10 c11 c12 c13 c14 c15 c16 c17 c18 c19 c20 c21 c22 c27 c28 c29 c30 c31 c32 c33 c34 c35 c36 c37 c38 c39 c40 c41 c42 c43 c44 c45 c46 c47 c48 c49 c50 c51 c52 c53 c54 c55 c56 c57 c58 c59 c60 c61 c62 c63 c64 c65 c66 c67 c68 c69 c70 c71 c72 c73 c74 c75 c76 c77 c78 c79 c80 c81 c82 c83 c84 c85 c86 c90 c91 c92 c93 c94 c95 c96 c97 c98 c99 c100 c101 c102 c103 c104 c105 c106 c107 c108 c109 c110 c111 c112 c113 c114 c115 c116 c117 c118 c119 c120 c121 c122 c123 c124 c125 c126 c127 c128 : Value}
    (hexit : ∀ u23 u24 u25 u26 u28 u30 u89 u90 u91 u92 u93 u94 u95 u96 u97 u98 u99 u100 u101 u102 u103 u104 u105 u106 u107 u108 u109 u110 u111 u112 u113 u114 u115 u116 u117 u118 u119 u120 w', Hid (Outs D w' (o4 u23 u24 u25 u26) (o4 ((fsE (flat PL)).map (.int .i32)) ((tsE (flat PL)).map (.int .i32)) ((ksE (flat PL)).map (.int .u32)) ((lensP PL).map (.int .i64))) ∧ Below D w w') → Q (.exit 4) ⟨(List.toArray (c0 :: c1 :: c2 :: c3 :: c4 :: c5 :: c6 :: c7 :: c8 :: c9 :: c10 :: c11 :: c12 :: c13 :: c14 :: c15 :: c16 :: c17 :: c18 :: c19 :: c20 :: c21 :: c22 :: u23 :: u24 :: u25 :: u26 :: c27 :: u28 :: c29 :: u30 :: c31 :: c32 :: c33 :: c34 :: c35 :: c36 :: c37 :: c38 :: c39 :: c40 :: c41 :: c42 :: c43 :: c44 :: c45 :: c46 :: c47 :: c48 :: c49 :: c50 :: c51 :: c52 :: c53 :: c54 :: c55 :: c56 :: c57 :: c58 :: c59 :: c60 :: c61 :: c62 :: c63 :: c64 :: c65 :: c66 :: c67 :: c68 :: c69 :: c70 :: c71 :: c72 :: c73 :: c74 :: c75 :: c76 :: c77 :: c78 :: c79 :: c80 :: c81 :: c82 :: c83 :: c84 :: c85 :: c86 :: v :: (Value.int .i64 (m : Int)) :: u89 :: u90 :: u91 :: u92 :: u93 :: u94 :: u95 :: u96 :: u97 :: u98 :: u99 :: u100 :: u101 :: u102 :: u103 :: u104 :: u105 :: u106 :: u107 :: u108 :: u109 :: u110 :: u111 :: u112 :: u113 :: u114 :: u115 :: u116 :: u117 :: u118 :: u119 :: u120 :: c121 :: c122 :: c123 :: c124 :: c125 :: c126 :: c127 :: c128 :: [])), []⟩ w') :
    (Code.loop (loopOf Try.f22 2)).wp Try.prog Q ⟨(List.toArray (c0 :: c1 :: c2 :: c3 :: c4 :: c5 :: c6 :: c7 :: c8 :: c9 :: c10 :: c11 :: c12 :: c13 :: c14 :: c15 :: c16 :: c17 :: c18 :: c19 :: c20 :: c21 :: c22 :: vF :: vT :: vK :: vL :: c27 :: c28 :: c29 :: c30 :: c31 :: c32 :: c33 :: c34 :: c35 :: c36 :: c37 :: c38 :: c39 :: c40 :: c41 :: c42 :: c43 :: c44 :: c45 :: c46 :: c47 :: c48 :: c49 :: c50 :: c51 :: c52 :: c53 :: c54 :: c55 :: c56 :: c57 :: c58 :: c59 :: c60 :: c61 :: c62 :: c63 :: c64 :: c65 :: c66 :: c67 :: c68 :: c69 :: c70 :: c71 :: c72 :: c73 :: c74 :: c75 :: c76 :: c77 :: c78 :: c79 :: c80 :: c81 :: c82 :: c83 :: c84 :: c85 :: c86 :: v :: (Value.int .i64 (m : Int)) :: (Value.int .i64 0) :: c90 :: c91 :: c92 :: c93 :: c94 :: c95 :: c96 :: c97 :: c98 :: c99 :: c100 :: c101 :: c102 :: c103 :: c104 :: c105 :: c106 :: c107 :: c108 :: c109 :: c110 :: c111 :: c112 :: c113 :: c114 :: c115 :: c116 :: c117 :: c118 :: c119 :: c120 :: c121 :: c122 :: c123 :: c124 :: c125 :: c126 :: c127 :: c128 :: [])), []⟩ w := by
  conv => arg 2; arg 1; whnf
  obtain ⟨iC, hiC, hzz⟩ := Option.map_eq_some_iff.1 Try.info3
  simp only [Prod.mk.injEq] at hzz
  obtain ⟨hziC, hsiC, hbiC⟩ := hzz
  go_loopg [23, 24, 25, 26, 89] m (fun gg f t kk l i wr => ∃ k : Nat, k ≤ m ∧ gg = m - k ∧ i = .int .i64 k ∧ Hid (Outs D wr (o4 f t kk l) (o4 ((fsE (flat (PL.take k))).map (.int .i32)) ((tsE (flat (PL.take k))).map (.int .i32)) ((ksE (flat (PL.take k))).map (.int .u32)) ((lensP (PL.take k)).map (.int .i64))) ∧ Below D w wr))
  case atStart => exact ⟨0, by omega, by omega, rfl, hidG ⟨by simpa [fsE, tsE, ksE, flat, lensP] using H.out, Below.refl _ _⟩⟩
  case round =>
    obtain ⟨k, hk, rfl, rfl, HI⟩ := hrel
    by_cases hlt : k < m
    · have hlt' : (k : Int) < (m : Int) := by omega
      obtain ⟨h1, hbel⟩ := HI.out
      obtain ⟨p, hp⟩ : ∃ p, PL[k]? = some p := ⟨_, List.getElem?_eq_getElem (by rw [HM.out]; exact hlt)⟩
      obtain ⟨xs, hr, hxl, hxp, hvb⟩ := HR.out
      have hr2 : Row wr v xs := hr.of_blocks fun b hb => hbel.block b (hvb b hb)
      obtain ⟨ob, cp, hv, hcp, hcp', hcell, _, hobl⟩ := hr2.len (by omega)
      rw [hxl] at hv hcp
      have kob := hcell k _ (hxp k p hp)
      unfold Part.val at kob
      obtain ⟨hPp, hpD⟩ := HPA.out k p hp
      have hple := hPp.le
      have hpl : p.es.length ≤ 65536 := by have := flat_le PL k p hp; omega
      have hDr : D ≤ wr.heap.size := Nat.le_trans hD hbel.size
      have hpre : (flat (PL.take k)).length ≤ 65536 := by have := flat_le PL k p hp; omega
      obtain ⟨yF, hyF⟩ : ∃ y, (fsE (flat (PL.take k))).map (Value.int .i32) = y := ⟨_, rfl⟩
      obtain ⟨yT, hyT⟩ : ∃ y, (tsE (flat (PL.take k))).map (Value.int .i32) = y := ⟨_, rfl⟩
      obtain ⟨yK, hyK⟩ : ∃ y, (ksE (flat (PL.take k))).map (Value.int .u32) = y := ⟨_, rfl⟩
      obtain ⟨yL, hyL⟩ : ∃ y, (lensP (PL.take k)).map (Value.int .i64) = y := ⟨_, rfl⟩
      have lF : yF.length ≤ 65536 := by rw [← hyF]; simpa [fsE] using hpre
      have lT : yT.length ≤ 65536 := by rw [← hyT]; simpa [tsE] using hpre
      have lK : yK.length ≤ 65536 := by rw [← hyK]; simpa [ksE] using hpre
      have lL : yL.length ≤ 65536 := by rw [← hyL]; simp [lensP]; omega
      rw [hyF, hyT, hyK, hyL] at h1
      have HE : Hid ((fsE (flat (PL.take (k + 1)))).map (Value.int .i32) = yF ++ (fsE p.es).map (.int .i32) ∧ (tsE (flat (PL.take (k + 1)))).map (Value.int .i32) = yT ++ (tsE p.es).map (.int .i32) ∧ (ksE (flat (PL.take (k + 1)))).map (Value.int .u32) = yK ++ (ksE p.es).map (.int .u32) ∧ (lensP (PL.take (k + 1))).map (Value.int .i64) = yL ++ [.int .i64 (p.es.length : Int)]) := by
        have hL : lensP (PL.take (k + 1)) = lensP (PL.take k) ++ [(p.es.length : Int)] := by unfold lensP; rw [List.take_add_one, hp]; simp
        rw [flat_take PL k p hp, hL, ← hyF, ← hyT, ← hyK, ← hyL]; simp [fsE, tsE, ksE, Hid]
      have HR1 : Hid (wr.ownsRow D 3 1 u26 yL.length yL) := h1.row 3 (by omega)
      have HO := hidG h1
      have HBE := hidG hbel
      have HPD := hidG (And.intro hPp hpD)
      clear HI h1 hbel hp hxl hxp hvb hr hr2 hcell hPp hpre hyF hyT hyK hyL
      subst hv
      go_wp2_with (first
        | (at_builtin; refine wpList_append_own_at _ rfl _ _ 22 rfl D 3 iC (.int .i64 0) 1 8 Try.underlying22 hiC hziC hsiC hbiC rfl (by decide) u26 yL.length yL rfl ?o1 ⟨wr.heap.size, 0, none⟩ 1 1 [.int .i64 (p.es.length : Int)] rfl rfl ?c2 ?c3 ?c4 ?c5 ?c6 ?_; (case o1 => exact World.ownsRow.alloc HR1.out _); (case c2 => exact cell_one_new _ _ _); (case c3 => intro u hu; simp at hu; subst hu; rfl); (case c4 => unfold maxLen; omega); (case c5 => omega); (case c6 => simp; omega); (intro vL2 w2 hown hgrow hnil hat; obtain ⟨O1', B1'⟩ := HO.out.pushL hDr hown hgrow hat; have O1 := hidG O1'; have HB1 := hidG B1'; clear O1' B1' hown hgrow hnil hat)))
      have hD2 : D ≤ w2.heap.size := Nat.le_trans hDr HB1.out.size
      have hBw := hidG (HBE.out.trans HB1.out)
      have HP2 : Hid (PartAt w2 p.b p.cap p.es) := HPD.out.1.of_block (hBw.out.block _ HPD.out.2)
      refine zloop4 p.b p.es.length p.cap D u23 u24 u25 vL2 yF yT yK _ p.es w2 _ hpl hple rfl hD2 lF lT lK HPD.out.2 HP2 O1 ?_
      intro y23 y24 y25 y30 y100 y101 y102 y103 y104 y105 y106 y107 y108 y109 y110 y111 y112 y113 y114 y115 y116 y117 y118 y119 w4 H4
      have HN : Hid (Outs D w4 (o4 y23 y24 y25 vL2) (o4 ((fsE (flat (PL.take (k + 1)))).map (.int .i32)) ((tsE (flat (PL.take (k + 1)))).map (.int .i32)) ((ksE (flat (PL.take (k + 1)))).map (.int .u32)) ((lensP (PL.take (k + 1))).map (.int .i64))) ∧ Below D w w4) := by
        rw [HE.out.1, HE.out.2.1, HE.out.2.2.1, HE.out.2.2.2]
        exact ⟨H4.out.1, hBw.out.trans H4.out.2⟩
      clear H4
      go_wp2_with fail
      go_roundg (m - (k + 1))
      case measure => omega
      case rel => exact ⟨k + 1, by omega, rfl, by go_num, HN⟩
    · have hge : k = m := by omega
      subst hge
      have HQ := HI
      rw [show PL.take k = PL from List.take_of_length_le (by rw [HM.out]; exact Nat.le_refl _)] at HQ
      clear HI
      go_wp2_with fail
      exact HQ

end Go.Proofs.Qxb6601127a
