import Derived.Test.Qxb6601127aZG0
import Derived.Deep.RegionHeld3
import Derived.Deep.DrawnRows
namespace Go.Proofs.Qxb6601127a
open Go.RowKit
set_option linter.unusedVariables false
set_option linter.unusedSimpArgs false

set_option maxRecDepth 1000000 in
set_option maxHeartbeats 4000000 in
theorem zregion10 (fb tb kb b fc tc kc T n q k : Nat) (x1 x2 x3 : Value) (ef et ek : Int) (w : World) (Q : Exit → Act → World → Prop) (hT : T ≤ 65536) (hq : q < T) (hk : k < n) (hn : n ≤ 65536)
    (kf : w.cell? ⟨fb, q, none⟩ = some (.int .i32 ef)) (kt : w.cell? ⟨tb, q, none⟩ = some (.int .i32 et)) (kk : w.cell? ⟨kb, q, none⟩ = some (.int .u32 ek))
    (m1 : w.cell? ⟨b, k * 3, none⟩ = some x1) (m2 : w.cell? ⟨b, k * 3 + 1, none⟩ = some x2) (m3 : w.cell? ⟨b, k * 3 + 2, none⟩ = some x3)
    (f1 : w.frozen? ⟨b, k * 3, none⟩ = false) (f2 : w.frozen? ⟨b, k * 3 + 1, none⟩ = false) (f3 : w.frozen? ⟨b, k * 3 + 2, none⟩ = false) (d1 : fb ≠ b) (d2 : tb ≠ b) (d3 : kb ≠ b) {c0 c4 c5 c6 c7 c8 c9 c10 c11 c12 c13 c14 c15 c16 c17 c19 c20 c23 c24 c25 c26 c27 c28 c29 c30 c31 c32 c33 c34 c35 c36 c37 c38 c39 c40 c41 c42 c43 c44 c45 c46 c47 c48 c49 c50 c51 c52 c53 c54 c55 c56 c57 c58 c59 c60 c61 c62 c63 c64 c65 c66 c67 c68 c69 c70 c71 c72 c73 c74 c75 c76 c77 c78 c79 c80 c81 c82 c83 c84 c85 c86 c87 c88 c89 c90 c91 c92 c93 c94 c95 c96 c97 c98 c99 c100 c101 c102 c103 c104 c105 c106 c107 c108 c109 c110 c111 c112 c113 c114 c115 c116 c117 c118 c119 c120 c121 c122 c123 c124 c125 c126 c127 c128 : Value}
    (hQ : ∀ u48 u49 u50 u51 u52 u53 u54 u55 u56 u57 u58 u59 u60 u61 u62 u63 w', Hid (w' = (set3 w b k (ef, et, ek)).drew) → Q .normal ⟨(List.toArray (c0 :: (Value.slice (some ⟨fb, 0, none⟩) T fc) :: (Value.slice (some ⟨tb, 0, none⟩) T tc) :: (Value.slice (some ⟨kb, 0, none⟩) T kc) :: c4 :: c5 :: c6 :: c7 :: c8 :: c9 :: c10 :: c11 :: c12 :: c13 :: c14 :: c15 :: c16 :: c17 :: (Value.int .i64 (q : Int)) :: c19 :: c20 :: (Value.slice (some ⟨b, 0, none⟩) n n) :: (Value.int .i64 (k : Int)) :: c23 :: c24 :: c25 :: c26 :: c27 :: c28 :: c29 :: c30 :: c31 :: c32 :: c33 :: c34 :: c35 :: c36 :: c37 :: c38 :: c39 :: c40 :: c41 :: c42 :: c43 :: c44 :: c45 :: c46 :: c47 :: u48 :: u49 :: u50 :: u51 :: u52 :: u53 :: u54 :: u55 :: u56 :: u57 :: u58 :: u59 :: u60 :: u61 :: u62 :: u63 :: c64 :: c65 :: c66 :: c67 :: c68 :: c69 :: c70 :: c71 :: c72 :: c73 :: c74 :: c75 :: c76 :: c77 :: c78 :: c79 :: c80 :: c81 :: c82 :: c83 :: c84 :: c85 :: c86 :: c87 :: c88 :: c89 :: c90 :: c91 :: c92 :: c93 :: c94 :: c95 :: c96 :: c97 :: c98 :: c99 :: c100 :: c101 :: c102 :: c103 :: c104 :: c105 :: c106 :: c107 :: c108 :: c109 :: c110 :: c111 :: c112 :: c113 :: c114 :: c115 :: c116 :: c117 :: c118 :: c119 :: c120 :: c121 :: c122 :: c123 :: c124 :: c125 :: c126 :: c127 :: c128 :: [])), []⟩ w') :
    (regionOf Try.f22 10).wp Try.prog Q ⟨(List.toArray (c0 :: (Value.slice (some ⟨fb, 0, none⟩) T fc) :: (Value.slice (some ⟨tb, 0, none⟩) T tc) :: (Value.slice (some ⟨kb, 0, none⟩) T kc) :: c4 :: c5 :: c6 :: c7 :: c8 :: c9 :: c10 :: c11 :: c12 :: c13 :: c14 :: c15 :: c16 :: c17 :: (Value.int .i64 (q : Int)) :: c19 :: c20 :: (Value.slice (some ⟨b, 0, none⟩) n n) :: (Value.int .i64 (k : Int)) :: c23 :: c24 :: c25 :: c26 :: c27 :: c28 :: c29 :: c30 :: c31 :: c32 :: c33 :: c34 :: c35 :: c36 :: c37 :: c38 :: c39 :: c40 :: c41 :: c42 :: c43 :: c44 :: c45 :: c46 :: c47 :: c48 :: c49 :: c50 :: c51 :: c52 :: c53 :: c54 :: c55 :: c56 :: c57 :: c58 :: c59 :: c60 :: c61 :: c62 :: c63 :: c64 :: c65 :: c66 :: c67 :: c68 :: c69 :: c70 :: c71 :: c72 :: c73 :: c74 :: c75 :: c76 :: c77 :: c78 :: c79 :: c80 :: c81 :: c82 :: c83 :: c84 :: c85 :: c86 :: c87 :: c88 :: c89 :: c90 :: c91 :: c92 :: c93 :: c94 :: c95 :: c96 :: c97 :: c98 :: c99 :: c100 :: c101 :: c102 :: c103 :: c104 :: c105 :: c106 :: c107 :: c108 :: c109 :: c110 :: c111 :: c112 :: c113 :: c114 :: c115 :: c116 :: c117 :: c118 :: c119 :: c120 :: c121 :: c122 :: c123 :: c124 :: c125 :: c126 :: c127 :: c128 :: [])), []⟩ w := by
  refine wp_onlyN ?_
  conv => arg 2; whnf
  generalize hQ' : (fun a w => Q .normal a w) = NN
  replace hQ : ∀ u48 u49 u50 u51 u52 u53 u54 u55 u56 u57 u58 u59 u60 u61 u62 u63 w', Hid (w' = (set3 w b k (ef, et, ek)).drew) → NN ⟨(List.toArray (c0 :: (Value.slice (some ⟨fb, 0, none⟩) T fc) :: (Value.slice (some ⟨tb, 0, none⟩) T tc) :: (Value.slice (some ⟨kb, 0, none⟩) T kc) :: c4 :: c5 :: c6 :: c7 :: c8 :: c9 :: c10 :: c11 :: c12 :: c13 :: c14 :: c15 :: c16 :: c17 :: (Value.int .i64 (q : Int)) :: c19 :: c20 :: (Value.slice (some ⟨b, 0, none⟩) n n) :: (Value.int .i64 (k : Int)) :: c23 :: c24 :: c25 :: c26 :: c27 :: c28 :: c29 :: c30 :: c31 :: c32 :: c33 :: c34 :: c35 :: c36 :: c37 :: c38 :: c39 :: c40 :: c41 :: c42 :: c43 :: c44 :: c45 :: c46 :: c47 :: u48 :: u49 :: u50 :: u51 :: u52 :: u53 :: u54 :: u55 :: u56 :: u57 :: u58 :: u59 :: u60 :: u61 :: u62 :: u63 :: c64 :: c65 :: c66 :: c67 :: c68 :: c69 :: c70 :: c71 :: c72 :: c73 :: c74 :: c75 :: c76 :: c77 :: c78 :: c79 :: c80 :: c81 :: c82 :: c83 :: c84 :: c85 :: c86 :: c87 :: c88 :: c89 :: c90 :: c91 :: c92 :: c93 :: c94 :: c95 :: c96 :: c97 :: c98 :: c99 :: c100 :: c101 :: c102 :: c103 :: c104 :: c105 :: c106 :: c107 :: c108 :: c109 :: c110 :: c111 :: c112 :: c113 :: c114 :: c115 :: c116 :: c117 :: c118 :: c119 :: c120 :: c121 :: c122 :: c123 :: c124 :: c125 :: c126 :: c127 :: c128 :: [])), []⟩ w' := by subst hQ'; exact hQ
  clear hQ'
  have HQ := hidG hQ
  clear hQ
  have i1 : (0 : Int) ≤ (q : Int) ∧ (q : Int) < (T : Int) := by omega
  have i2 : (0 : Int) ≤ (k : Int) ∧ (k : Int) < (n : Int) := by omega
  go_big_region
  all_goals exact HQ.out _ _ _ _ _ _ _ _ _ _ _ _ _ _ _ _ _ rfl

end Go.Proofs.Qxb6601127a
