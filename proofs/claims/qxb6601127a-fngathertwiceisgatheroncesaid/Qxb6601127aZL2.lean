import Derived.Test.Qxb6601127aZR10
namespace Go.Proofs.Qxb6601127a
open Go.RowKit
set_option linter.unusedVariables false
set_option linter.unusedSimpArgs false

theorem take_set_next {gs ds : List Edge} {k : Nat} {e : Edge} (h : gs.take k = ds.take k) (hk : k < gs.length) (he : ds[k]? = some e) : (gs.set k e).take (k + 1) = ds.take (k + 1) := by
  rw [List.take_add_one, List.take_add_one, List.take_set_of_le (Nat.le_refl _), h, List.getElem?_set_self hk, he]

set_option maxRecDepth 1000000 in
set_option maxHeartbeats 4000000 in
theorem zloop2 (b n p pn D T : Nat) (fv tv kv : Value) (E : List Edge) (w : World) (Q : Exit → Act → World → Prop)
    (hT : T ≤ 65536) (HE : Hid (E.length = T)) (hpq : p + n = pn) (hpn : pn ≤ T) (hDb : D ≤ b) (RF : Hid (RD .i32 D w fv (fsE E))) (RT : Hid (RD .i32 D w tv (tsE E))) (RK : Hid (RD .u32 D w kv (ksE E)))
    (HP : Hid (∃ gs : List Edge, PartAt w b n gs ∧ gs.length = n)) {c0 c4 c5 c6 c7 c8 c9 c10 c11 c12 c13 c14 c15 c16 c17 c19 c20 c22 c23 c24 c25 c26 c27 c28 c29 c30 c31 c32 c33 c34 c35 c36 c37 c38 c39 c40 c41 c42 c46 c47 c48 c49 c50 c51 c52 c53 c54 c55 c56 c57 c58 c59 c60 c61 c62 c63 c64 c65 c66 c67 c68 c69 c70 c71 c72 c73 c74 c75 c76 c77 c78 c79 c80 c81 c82 c83 c84 c85 c86 c87 c88 c89 c90 c91 c92 c93 c94 c95 c96 c97 c98 c99 c100 c101 c102 c103 c104 c105 c106 c107 c108 c109 c110 c111 c112 c113 c114 c115 c116 c117 c118 c119 c120 c121 c122 c123 c124 c125 c126 c127 c128 : Value}
    (hexit : ∀ u22 u45 u46 u47 u48 u49 u50 u51 u52 u53 u54 u55 u56 u57 u58 u59 u60 u61 u62 u63 u64 u65 u66 w', Hid (Keeps [b] w w' ∧ PartAt w' b n ((E.drop p).take n)) → Q (.exit 2) ⟨(List.toArray (c0 :: fv :: tv :: kv :: c4 :: c5 :: c6 :: c7 :: c8 :: c9 :: c10 :: c11 :: c12 :: c13 :: c14 :: c15 :: c16 :: c17 :: (Value.int .i64 (pn : Int)) :: c19 :: c20 :: (Value.slice (some ⟨b, 0, none⟩) n n) :: u22 :: c23 :: c24 :: c25 :: c26 :: c27 :: c28 :: c29 :: c30 :: c31 :: c32 :: c33 :: c34 :: c35 :: c36 :: c37 :: c38 :: c39 :: c40 :: c41 :: c42 :: (Value.slice (some ⟨b, 0, none⟩) n n) :: (Value.int .i64 (n : Int)) :: u45 :: u46 :: u47 :: u48 :: u49 :: u50 :: u51 :: u52 :: u53 :: u54 :: u55 :: u56 :: u57 :: u58 :: u59 :: u60 :: u61 :: u62 :: u63 :: u64 :: u65 :: u66 :: c67 :: c68 :: c69 :: c70 :: c71 :: c72 :: c73 :: c74 :: c75 :: c76 :: c77 :: c78 :: c79 :: c80 :: c81 :: c82 :: c83 :: c84 :: c85 :: c86 :: c87 :: c88 :: c89 :: c90 :: c91 :: c92 :: c93 :: c94 :: c95 :: c96 :: c97 :: c98 :: c99 :: c100 :: c101 :: c102 :: c103 :: c104 :: c105 :: c106 :: c107 :: c108 :: c109 :: c110 :: c111 :: c112 :: c113 :: c114 :: c115 :: c116 :: c117 :: c118 :: c119 :: c120 :: c121 :: c122 :: c123 :: c124 :: c125 :: c126 :: c127 :: c128 :: [])), []⟩ w') :
    (Code.loop (loopOf Try.f22 1)).wp Try.prog Q ⟨(List.toArray (c0 :: fv :: tv :: kv :: c4 :: c5 :: c6 :: c7 :: c8 :: c9 :: c10 :: c11 :: c12 :: c13 :: c14 :: c15 :: c16 :: c17 :: (Value.int .i64 (p : Int)) :: c19 :: c20 :: (Value.slice (some ⟨b, 0, none⟩) n n) :: c22 :: c23 :: c24 :: c25 :: c26 :: c27 :: c28 :: c29 :: c30 :: c31 :: c32 :: c33 :: c34 :: c35 :: c36 :: c37 :: c38 :: c39 :: c40 :: c41 :: c42 :: (Value.slice (some ⟨b, 0, none⟩) n n) :: (Value.int .i64 (n : Int)) :: (Value.int .i64 0) :: c46 :: c47 :: c48 :: c49 :: c50 :: c51 :: c52 :: c53 :: c54 :: c55 :: c56 :: c57 :: c58 :: c59 :: c60 :: c61 :: c62 :: c63 :: c64 :: c65 :: c66 :: c67 :: c68 :: c69 :: c70 :: c71 :: c72 :: c73 :: c74 :: c75 :: c76 :: c77 :: c78 :: c79 :: c80 :: c81 :: c82 :: c83 :: c84 :: c85 :: c86 :: c87 :: c88 :: c89 :: c90 :: c91 :: c92 :: c93 :: c94 :: c95 :: c96 :: c97 :: c98 :: c99 :: c100 :: c101 :: c102 :: c103 :: c104 :: c105 :: c106 :: c107 :: c108 :: c109 :: c110 :: c111 :: c112 :: c113 :: c114 :: c115 :: c116 :: c117 :: c118 :: c119 :: c120 :: c121 :: c122 :: c123 :: c124 :: c125 :: c126 :: c127 :: c128 :: [])), []⟩ w := by
  conv => arg 2; arg 1; whnf
  go_loopg [18, 45] n (fun gg v18 i wr => ∃ k q : Nat, k ≤ n ∧ gg = n - k ∧ p + k = q ∧ v18 = .int .i64 (q : Int) ∧ i = .int .i64 k ∧ Hid (Keeps [b] w wr ∧ ∃ gs : List Edge, PartAt wr b n gs ∧ gs.length = n ∧ gs.take k = (E.drop p).take k))
  case atStart =>
    obtain ⟨gs, h1, h2⟩ := HP.out
    exact ⟨0, p, by omega, by omega, rfl, rfl, rfl, hidG ⟨Keeps.refl _ _, gs, h1, h2, by simp⟩⟩
  case round =>
    obtain ⟨k, q, hk, rfl, hq, rfl, rfl, HI⟩ := hrel
    by_cases hlt : k < n
    · have hlt' : (k : Int) < (n : Int) := by omega
      obtain ⟨hk1, gs, hP, hgl, hgt⟩ := HI.out
      have hi : q < E.length := by rw [HE.out]; omega
      obtain ⟨⟨ef, et, ek⟩, he⟩ : ∃ e, E[q]? = some e := ⟨_, List.getElem?_eq_getElem hi⟩
      obtain ⟨fb, fc, hfv, hfb, kf⟩ := (RF.out.keeps hk1 (by simpa using hDb)).get (i := q) (by unfold fsE; simpa using hi)
      obtain ⟨tb, tc, htv, htb, kt⟩ := (RT.out.keeps hk1 (by simpa using hDb)).get (i := q) (by unfold tsE; simpa using hi)
      obtain ⟨kb, kc, hkv, hkb, kk⟩ := (RK.out.keeps hk1 (by simpa using hDb)).get (i := q) (by unfold ksE; simpa using hi)
      rw [show (fsE E)[q]?.getD 0 = ef by unfold fsE; rw [List.getElem?_map, he]; rfl] at kf
      rw [show (tsE E)[q]?.getD 0 = et by unfold tsE; rw [List.getElem?_map, he]; rfl] at kt
      rw [show (ksE E)[q]?.getD 0 = ek by unfold ksE; rw [List.getElem?_map, he]; rfl] at kk
      rw [show (fsE E).length = T by unfold fsE; rw [List.length_map, HE.out]] at hfv
      rw [show (tsE E).length = T by unfold tsE; rw [List.length_map, HE.out]] at htv
      rw [show (ksE E).length = T by unfold ksE; rw [List.length_map, HE.out]] at hkv
      obtain ⟨m1, m2, m3⟩ := hP.get (i := k) (by rw [hgl]; exact hlt)
      have f1 := hP.frozen (k * 3)
      have f2 := hP.frozen (k * 3 + 1)
      have f3 := hP.frozen (k * 3 + 2)
      have hbb : b < wr.heap.size := hP.lt
      have HN : Hid (∀ w5, w5 = (set3 wr b k (ef, et, ek)).drew → (Keeps [b] w w5 ∧ ∃ gs : List Edge, PartAt w5 b n gs ∧ gs.length = n ∧ gs.take (k + 1) = (E.drop p).take (k + 1))) := by
        rintro w5 rfl
        refine ⟨((((hk1.setCell (.inl (by simp)) _).setCell (.inl (by simp)) _).setCell (.inl (by simp)) _).drew), gs.set k (ef, et, ek), hP.set (by rw [hgl]; exact hlt) _, by rw [List.length_set]; exact hgl, take_set_next hgt (by rw [hgl]; exact hlt) (by rw [List.getElem?_drop, hq]; exact he)⟩
      have ip : (0 : Int) ≤ (q : Int) ∧ (q : Int) < (T : Int) := by omega
      have ik : (0 : Int) ≤ (k : Int) := by omega
      subst hfv htv hkv
      have d1 : fb ≠ b := by omega
      have d2 : tb ≠ b := by omega
      have d3 : kb ≠ b := by omega
      clear HI hk1 hP hgl hgt he hi
      go_wp2_with fail
      refine zregion10 fb tb kb b fc tc kc T n q k _ _ _ ef et ek wr _ hT (by omega) hlt (by omega) kf kt kk m1 m2 m3 f1 f2 f3 d1 d2 d3 ?_
      intro y48 y49 y50 y51 y52 y53 y54 y55 y56 y57 y58 y59 y60 y61 y62 y63 w5 H5
      have HN5 := hidG (HN.out w5 H5.out)
      clear HN H5 kf kt kk m1 m2 m3 f1 f2 f3
      go_wp2_with fail
      go_roundg (n - (k + 1))
      case measure => omega
      case rel => exact ⟨k + 1, q + 1, by omega, rfl, by omega, by go_num, by go_num, HN5⟩
    · have hge : k = n := by omega
      subst hge
      obtain rfl : q = pn := by omega
      have HQ : Hid (Keeps [b] w wr ∧ PartAt wr b k ((E.drop p).take k)) := by
        obtain ⟨h1, gs, h2, h3, h4⟩ := HI.out
        rw [List.take_of_length_le (by omega)] at h4
        rw [← h4]; exact ⟨h1, h2⟩
      clear HI
      go_wp2_with fail
      exact HQ

end Go.Proofs.Qxb6601127a
