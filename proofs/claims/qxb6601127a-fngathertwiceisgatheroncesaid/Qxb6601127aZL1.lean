import Derived.Test.Qxb6601127aZG1
namespace Go.Proofs.Qxb6601127a
open Go.RowKit
set_option linter.unusedVariables false
set_option linter.unusedSimpArgs false

theorem sum_take_le (ls : List Nat) (k : Nat) : (ls.take k).sum ≤ ls.sum := by
  have := congrArg List.sum (List.take_append_drop k ls)
  rw [List.sum_append] at this
  omega

theorem sum_take_next {ls : List Nat} {k n : Nat} (h : ls[k]? = some n) : (ls.take (k + 1)).sum = (ls.take k).sum + n := by
  rw [List.take_add_one, h, List.sum_append]; simp

set_option maxRecDepth 1000000 in
set_option maxHeartbeats 4000000 in
theorem zloop1 (g N B L T : Nat) (fv tv kv lv : Value) (E : List Edge) (ls : List Nat) (w : World) (Q : Exit → Act → World → Prop)
    (hT : T ≤ 65536) (HE : Hid (E.length = T)) (hL : L ≤ 65536) (HL : Hid (ls.length = L)) (HS : Hid (ls.sum = T)) (HTL : Hid (Tails N E)) (RF : Hid (RD .i32 B w fv (fsE E))) (RT : Hid (RD .i32 B w tv (tsE E))) (RK : Hid (RD .u32 B w kv (ksE E))) (RL : Hid (RD .i64 B w lv (ls.map fun n : Nat => (n : Int))))
    (H : Hid (∃ P τ ps ov, GStart w B g N P τ ps ov ∧ Below B w w ∧ P.length = 0 ∧ flat P = E.take 0)) {c0 c4 c5 c6 c7 c8 c9 c10 c11 c12 c13 c14 c15 c16 c19 c20 c21 c22 c23 c24 c25 c26 c27 c28 c29 c30 c31 c32 c33 c34 c38 c39 c40 c41 c42 c43 c44 c45 c46 c47 c48 c49 c50 c51 c52 c53 c54 c55 c56 c57 c58 c59 c60 c61 c62 c63 c64 c65 c66 c67 c68 c69 c70 c71 c72 c73 c74 c75 c76 c77 c78 c79 c80 c81 c82 c83 c84 c85 c86 c87 c88 c89 c90 c91 c92 c93 c94 c95 c96 c97 c98 c99 c100 c101 c102 c103 c104 c105 c106 c107 c108 c109 c110 c111 c112 c113 c114 c115 c116 c117 c118 c119 c120 c121 c122 c123 c124 c125 c126 c127 c128 : Value}
    (hexit : ∀ u18 u20 u21 u22 u37 u38 u39 u40 u41 u42 u43 u44 u45 u46 u47 u48 u49 u50 u51 u52 u53 u54 u55 u56 u57 u58 u59 u60 u61 u62 u63 u64 u65 u66 u67 u68 u69 u70 u71 u72 u73 u74 u75 u76 u77 w', Hid (∃ P τ ps ov, GStart w' B g N P τ ps ov ∧ Below B w w' ∧ P.length = L ∧ flat P = E.take T) → Q (.exit 0) ⟨(List.toArray (c0 :: fv :: tv :: kv :: c4 :: c5 :: c6 :: c7 :: c8 :: c9 :: c10 :: c11 :: c12 :: c13 :: c14 :: c15 :: c16 :: (Value.pointer (some ⟨g, 0, none⟩)) :: u18 :: c19 :: u20 :: u21 :: u22 :: c23 :: c24 :: c25 :: c26 :: c27 :: c28 :: c29 :: c30 :: c31 :: c32 :: c33 :: c34 :: lv :: (Value.int .i64 (L : Int)) :: u37 :: u38 :: u39 :: u40 :: u41 :: u42 :: u43 :: u44 :: u45 :: u46 :: u47 :: u48 :: u49 :: u50 :: u51 :: u52 :: u53 :: u54 :: u55 :: u56 :: u57 :: u58 :: u59 :: u60 :: u61 :: u62 :: u63 :: u64 :: u65 :: u66 :: u67 :: u68 :: u69 :: u70 :: u71 :: u72 :: u73 :: u74 :: u75 :: u76 :: u77 :: c78 :: c79 :: c80 :: c81 :: c82 :: c83 :: c84 :: c85 :: c86 :: c87 :: c88 :: c89 :: c90 :: c91 :: c92 :: c93 :: c94 :: c95 :: c96 :: c97 :: c98 :: c99 :: c100 :: c101 :: c102 :: c103 :: c104 :: c105 :: c106 :: c107 :: c108 :: c109 :: c110 :: c111 :: c112 :: c113 :: c114 :: c115 :: c116 :: c117 :: c118 :: c119 :: c120 :: c121 :: c122 :: c123 :: c124 :: c125 :: c126 :: c127 :: c128 :: [])), []⟩ w') :
    (Code.loop (loopOf Try.f22 0)).wp Try.prog Q ⟨(List.toArray (c0 :: fv :: tv :: kv :: c4 :: c5 :: c6 :: c7 :: c8 :: c9 :: c10 :: c11 :: c12 :: c13 :: c14 :: c15 :: c16 :: (Value.pointer (some ⟨g, 0, none⟩)) :: (Value.int .i64 0) :: c19 :: c20 :: c21 :: c22 :: c23 :: c24 :: c25 :: c26 :: c27 :: c28 :: c29 :: c30 :: c31 :: c32 :: c33 :: c34 :: lv :: (Value.int .i64 (L : Int)) :: (Value.int .i64 0) :: c38 :: c39 :: c40 :: c41 :: c42 :: c43 :: c44 :: c45 :: c46 :: c47 :: c48 :: c49 :: c50 :: c51 :: c52 :: c53 :: c54 :: c55 :: c56 :: c57 :: c58 :: c59 :: c60 :: c61 :: c62 :: c63 :: c64 :: c65 :: c66 :: c67 :: c68 :: c69 :: c70 :: c71 :: c72 :: c73 :: c74 :: c75 :: c76 :: c77 :: c78 :: c79 :: c80 :: c81 :: c82 :: c83 :: c84 :: c85 :: c86 :: c87 :: c88 :: c89 :: c90 :: c91 :: c92 :: c93 :: c94 :: c95 :: c96 :: c97 :: c98 :: c99 :: c100 :: c101 :: c102 :: c103 :: c104 :: c105 :: c106 :: c107 :: c108 :: c109 :: c110 :: c111 :: c112 :: c113 :: c114 :: c115 :: c116 :: c117 :: c118 :: c119 :: c120 :: c121 :: c122 :: c123 :: c124 :: c125 :: c126 :: c127 :: c128 :: [])), []⟩ w := by
  conv => arg 2; arg 1; whnf
  obtain ⟨i0, hi0, hzz⟩ := Option.map_eq_some_iff.1 Try.info68
  simp only [Prod.mk.injEq] at hzz
  obtain ⟨hz0, hs0, hb0⟩ := hzz
  go_loopg [18, 37] L (fun gg v18 i wr => ∃ k p : Nat, k ≤ L ∧ gg = L - k ∧ v18 = .int .i64 (p : Int) ∧ i = .int .i64 k ∧ Hid ((ls.take k).sum = p) ∧ Hid (∃ P τ ps ov, GStart wr B g N P τ ps ov ∧ Below B w wr ∧ P.length = k ∧ flat P = E.take p))
  case atStart => exact ⟨0, 0, by omega, by omega, rfl, rfl, by simp [Hid], H⟩
  case round =>
    obtain ⟨k, p, hk, rfl, rfl, rfl, HSU, HI⟩ := hrel
    by_cases hlt : k < L
    · have hlt' : (k : Int) < (L : Int) := by omega
      obtain ⟨P, τ, ps, ov, h1, hbel, hPl, hfl⟩ := HI.out
      obtain ⟨n, hn⟩ : ∃ n, ls[k]? = some n := ⟨_, List.getElem?_eq_getElem (by rw [HL.out]; exact hlt)⟩
      have hsn := sum_take_next hn
      have hsl := sum_take_le ls (k + 1)
      rw [HSU.out] at hsn
      rw [HS.out, hsn] at hsl
      obtain ⟨lb, lc, hlv, hlb, klv⟩ := (RL.out.below hbel).get (i := k) (by rw [List.length_map, HL.out]; exact hlt)
      rw [show (ls.map fun n : Nat => (n : Int))[k]?.getD 0 = (n : Int) by rw [List.getElem?_map, hn]; rfl] at klv
      rw [List.length_map, HL.out] at hlv
      have hmk : ∀ w, (Instr.makeSlice 68 (.int .i64 (n : Int)) (.int .i64 (n : Int))).run Try.prog w = .ok (.slice (some ⟨w.heap.size, 0, none⟩) n n) (w.alloc (.cells (zs3 n).toArray 70)) := fun w => make_edges n n (Nat.le_refl _) (by omega) w
      obtain ⟨xs, hx⟩ := h1.gi.rowOf gG
      obtain ⟨oa, cp, hv⟩ := hx.1.slice
      have hxk : xs.length = k := by rw [hx.2.1, h1.hG, List.length_map, hPl]
      rw [hxk] at hv
      have hka : Keeps [] wr (wr.alloc (.cells (zs3 n).toArray 70)) := (Keeps.refl [] wr).alloc _
      have hB1 := h1.hB
      have RF1 := hidG ((RF.out.below hbel).keeps hka (by simp))
      have RT1 := hidG ((RT.out.below hbel).keeps hka (by simp))
      have RK1 := hidG ((RK.out.below hbel).keeps hka (by simp))
      have HPF : Hid (∃ gs : List Edge, PartAt (wr.alloc (.cells (zs3 n).toArray 70)) wr.heap.size n gs ∧ gs.length = n) := ⟨_, PartAt.full (b := 0), by simp⟩
      have HH := hidG (And.intro h1 (And.intro hbel (And.intro hPl (And.intro hfl (And.intro hn (And.intro hx (And.intro hxk hv)))))))
      have HKA := hidG hka
      have hgw : g < wr.heap.size := World.block_lt_of_cell? wr _ h1.cg1
      subst hlv
      clear HI h1 hbel hPl hfl hn hx hv hka
      go_wp2_with fail
      refine zloop2 wr.heap.size n p (p + n) B T fv tv kv E _ _ hT HE rfl hsl hB1 RF1 RT1 RK1 HPF ?_
      intro y22 y45 y46 y47 y48 y49 y50 y51 y52 y53 y54 y55 y56 y57 y58 y59 y60 y61 y62 y63 y64 y65 y66 w5 H5
      have hk5 := HKA.out.trans_new H5.out.1 (Nat.le_refl _)
      have c3 : w5.cell? ⟨g, 3, none⟩ = some (.slice oa k cp) := by
        rw [← HH.out.2.2.2.2.2.2.2]; exact hk5.cell HH.out.1.cg3 (by simp)
      have hg5 : g < w5.heap.size := World.block_lt_of_cell? w5 _ c3
      have HO : Hid (w5.ownsRow 0 68 1 (.slice oa k cp) xs.length xs) := by
        have := (HH.out.2.2.2.2.2.1.1).keeps hk5 (by simp)
        rw [HH.out.2.2.2.2.2.2.2] at this; exact this
      have HK5 := hidG hk5
      have HP5 := hidG H5.out.2
      clear hk5 H5
      go_wp2_with (first | (at_builtin; refine wpList_append_own_at _ rfl _ _ 64 rfl 0 68 i0 (.slice none 0 0) 1 24 Try.underlying64 hi0 hz0 hs0 hb0 rfl (by decide) (.slice oa k cp) xs.length xs rfl ?o1 ⟨w5.heap.size, 0, none⟩ 1 1 [.slice (some ⟨wr.heap.size, 0, none⟩) n n] rfl rfl ?c2 ?c3 ?c4 ?c5 ?c6 ?_; (case o1 => exact World.ownsRow.alloc HO.out _); (case c2 => exact cell_one_new _ _ _); (case c3 => intro u hu; simp at hu; subst hu; rfl); (case c4 => unfold maxLen; omega); (case c5 => omega); (case c6 => simp); (intro v2 w7 hown hgrow hnil hat; obtain ⟨HG, c37, f37⟩ := HH.out.1.push HK5.out (Nat.le_refl _) HP5.out (by rw [List.length_take, List.length_drop, HE.out]; omega) ((Keeps.refl [] w5).alloc (.cells #[.slice (some ⟨wr.heap.size, 0, none⟩) n n] 68)) HH.out.2.2.2.2.2.2.2 HH.out.2.2.2.2.2.1 hown hgrow hat (by rw [HH.out.2.2.2.1, ← List.take_add]; exact fun e he => HTL.out e (List.mem_of_mem_take he)); obtain ⟨a2, l2, k2, rfl⟩ := owns_slice hown; clear hown hgrow hat hnil)))
      have HN : Hid ((ls.take (k + 1)).sum = p + n ∧ ∃ P τ ps ov, GStart (w7.setCell ⟨g, 3, none⟩ (.slice a2 l2 k2)) B g N P τ ps ov ∧ Below B w (w7.setCell ⟨g, 3, none⟩ (.slice a2 l2 k2)) ∧ P.length = (k + 1) ∧ flat P = E.take (p + n)) := by
        obtain ⟨τ', ps', ov', z1, z2⟩ := HG.out
        refine ⟨hsn, _, τ', ps', ov', z1, HH.out.2.1.trans z2, by rw [List.length_append, HH.out.2.2.1]; rfl, ?_⟩
        have : ∀ (X : List Part) (q : Part), flat (X ++ [q]) = flat X ++ q.es := by intro X q; simp [flat]
        rw [this, HH.out.2.2.2.1, ← List.take_add]
      clear HG
      go_roundg (L - (k + 1))
      case measure => omega
      case rel => exact ⟨k + 1, p + n, by omega, rfl, by go_num, by go_num, hidG HN.out.1, hidG HN.out.2⟩
    · have hge : k = L := by omega
      subst hge
      have HQ : Hid (∃ P τ ps ov, GStart wr B g N P τ ps ov ∧ Below B w wr ∧ P.length = k ∧ flat P = E.take T) := by
        obtain ⟨P, τ, ps, ov, h1, h2, h3, h4⟩ := HI.out
        have := HSU.out
        rw [List.take_of_length_le (by rw [HL.out]; exact Nat.le_refl _), HS.out] at this
        subst this
        exact ⟨P, τ, ps, ov, h1, h2, h3, h4⟩
      clear HI
      go_wp2_with fail
      exact HQ

end Go.Proofs.Qxb6601127a
