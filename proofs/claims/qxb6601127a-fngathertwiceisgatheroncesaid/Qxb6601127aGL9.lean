import Derived.Test.Qxb6601127aGPass3
import Derived.Test.Qxb6601127aGR39
namespace Go.Proofs.Qxb6601127a
open Go.RowKit
set_option linter.unusedVariables false
set_option linter.unusedSimpArgs false

theorem Row.slice {w : World} {v : Value} {xs : List Value} (h : Row w v xs) : ∃ oa cp, v = .slice oa xs.length cp := by
  rcases h.2 with ⟨h1, h2⟩ | ⟨g, cap, cur, h1, _⟩
  · exact ⟨none, 0, by rw [h1, h2]⟩
  · exact ⟨_, _, h1⟩

set_option maxRecDepth 1000000 in
set_option maxHeartbeats 4000000 in
theorem loop9 (gb g st rb fb spb N R B M T en : Nat) (vP : Value) (E pr : List Edge) (PL0 : List Part) (τ0 : Nat → Role) (ps0 : Nat → List (Option Part)) (ov0 : Nat → Value) (w : World) (Q : Exit → Act → World → Prop)
    (hN : N ≤ 65536) (hR : R ≤ 1024) (HE : Hid (E.length = T)) (hT : T ≤ 65536) (hen : en ≤ T) (hM : M ≤ 1048570) (hPL : 512 * PL0.length ≤ T + 511)
    (H : Hid (P2 w B τ0 ps0 ov0 rb fb spb R N E pr pr PL0 M)) (HV : Hid (ov0 gP = vP)) (HST : Hid (w.cell? ⟨st, N, none⟩ = some (.int .i64 (T : Int)))) (T2 : Hid (τ0 st = .fix 2))
    (C1 : Hid (w.cell? ⟨gb, 0, none⟩ = some (.pointer (some ⟨g, 0, none⟩)))) (C2 : Hid (w.cell? ⟨g, 1, none⟩ = some (.int .i64 (N : Int)))) (T1 : Hid (τ0 gb = .fix 1)) (T0 : Hid (τ0 g = .fix 0)) (hB : B ≤ w.heap.size) {c0 c3 c4 c5 c6 c7 c8 c9 c10 c11 c12 c14 c15 c16 c17 c18 c19 c20 c22 c23 c24 c26 c27 c28 c29 c30 c31 c32 c33 c34 c35 c36 c37 c38 c39 c40 c41 c42 c43 c44 c45 c46 c47 c48 c49 c50 c51 c52 c53 c54 c55 c56 c57 c58 c59 c60 c61 c62 c63 c64 c65 c66 c67 c68 c69 c70 c71 c72 c73 c74 c75 c76 c77 c78 c79 c80 c81 c82 c83 c84 c85 c86 c87 c88 c89 c90 c91 c92 c93 c94 c95 c96 c97 c98 c99 c100 c101 c102 c103 c104 c105 c106 c107 c108 c109 c110 c111 c112 c113 c114 c115 c116 c117 c118 c119 c120 c121 c122 c123 c124 c125 c126 c127 c128 c129 c130 c131 c132 c133 c134 c135 c136 c137 c138 c139 c140 c141 c142 c143 c144 c145 c146 c147 c148 c149 c150 c151 c152 c153 c154 c155 c156 c157 c158 c159 c160 c161 c162 c163 c164 c165 c166 c167 c168 c169 c170 c171 c172 c173 c174 c175 c176 c177 c178 c179 c180 c181 c182 c183 c184 c185 c186 c187 c188 c189 c190 c191 c192 c193 c194 c195 c196 c197 c198 c199 c200 c201 c202 c203 c204 c205 c206 c207 c208 c209 c210 c211 c212 c213 c214 c215 c216 c217 c218 c219 c220 c221 c222 c223 c224 c225 c226 c227 c228 c229 c230 c231 c232 c233 c234 c235 c236 c237 c238 c239 c240 c241 c242 c243 c244 c245 c246 c247 c248 c249 c250 c251 c252 c253 c254 c255 c256 c257 c258 c259 c260 c261 c262 c263 c264 c265 c266 c267 c268 c269 c270 c271 c272 c273 c274 c275 c276 c277 c278 c279 c280 c281 c282 c283 c284 c285 c286 c287 c288 c289 c290 c291 c292 c293 c294 c295 c296 c297 c298 c299 c300 c301 c302 c303 c304 c305 c306 c307 c308 c309 c310 c311 c312 c313 c314 c315 c316 c317 c318 c319 : Value}
    (hexit : ∀ u21 u26 u253 u254 u255 u256 u257 u258 u259 u260 u261 u262 u263 u264 u265 u266 u267 u268 u269 u270 u271 u272 u273 u274 u275 u276 w', Hid (∃ τ ps ov PL, P2 w' B τ ps ov rb fb spb R N E pr pr PL M ∧ Step B [6] w τ0 w' τ ∧ (∀ g, g ≠ gP → g ≠ gS → ps g = ps0 g ∧ ov g = ov0 g) ∧ ov gP = u21 ∧ en ≤ 512 * PL.length ∧ 512 * PL.length ≤ T + 511) → Q (.exit 16) ⟨(List.toArray (c0 :: (Value.pointer (some ⟨gb, 0, none⟩)) :: (Value.slice (some ⟨st, 0, none⟩) (N + 1) (N + 1)) :: c3 :: c4 :: c5 :: c6 :: c7 :: c8 :: c9 :: c10 :: c11 :: c12 :: (Value.pointer (some ⟨spb, 0, none⟩)) :: c14 :: c15 :: c16 :: c17 :: c18 :: c19 :: c20 :: u21 :: c22 :: c23 :: c24 :: (Value.int .i64 (en : Int)) :: u26 :: c27 :: c28 :: c29 :: c30 :: c31 :: c32 :: c33 :: c34 :: c35 :: c36 :: c37 :: c38 :: c39 :: c40 :: c41 :: c42 :: c43 :: c44 :: c45 :: c46 :: c47 :: c48 :: c49 :: c50 :: c51 :: c52 :: c53 :: c54 :: c55 :: c56 :: c57 :: c58 :: c59 :: c60 :: c61 :: c62 :: c63 :: c64 :: c65 :: c66 :: c67 :: c68 :: c69 :: c70 :: c71 :: c72 :: c73 :: c74 :: c75 :: c76 :: c77 :: c78 :: c79 :: c80 :: c81 :: c82 :: c83 :: c84 :: c85 :: c86 :: c87 :: c88 :: c89 :: c90 :: c91 :: c92 :: c93 :: c94 :: c95 :: c96 :: c97 :: c98 :: c99 :: c100 :: c101 :: c102 :: c103 :: c104 :: c105 :: c106 :: c107 :: c108 :: c109 :: c110 :: c111 :: c112 :: c113 :: c114 :: c115 :: c116 :: c117 :: c118 :: c119 :: c120 :: c121 :: c122 :: c123 :: c124 :: c125 :: c126 :: c127 :: c128 :: c129 :: c130 :: c131 :: c132 :: c133 :: c134 :: c135 :: c136 :: c137 :: c138 :: c139 :: c140 :: c141 :: c142 :: c143 :: c144 :: c145 :: c146 :: c147 :: c148 :: c149 :: c150 :: c151 :: c152 :: c153 :: c154 :: c155 :: c156 :: c157 :: c158 :: c159 :: c160 :: c161 :: c162 :: c163 :: c164 :: c165 :: c166 :: c167 :: c168 :: c169 :: c170 :: c171 :: c172 :: c173 :: c174 :: c175 :: c176 :: c177 :: c178 :: c179 :: c180 :: c181 :: c182 :: c183 :: c184 :: c185 :: c186 :: c187 :: c188 :: c189 :: c190 :: c191 :: c192 :: c193 :: c194 :: c195 :: c196 :: c197 :: c198 :: c199 :: c200 :: c201 :: c202 :: c203 :: c204 :: c205 :: c206 :: c207 :: c208 :: c209 :: c210 :: c211 :: c212 :: c213 :: c214 :: c215 :: c216 :: c217 :: c218 :: c219 :: c220 :: c221 :: c222 :: c223 :: c224 :: c225 :: c226 :: c227 :: c228 :: c229 :: c230 :: c231 :: c232 :: c233 :: c234 :: c235 :: c236 :: c237 :: c238 :: c239 :: c240 :: c241 :: c242 :: c243 :: c244 :: c245 :: c246 :: c247 :: c248 :: c249 :: c250 :: c251 :: c252 :: u253 :: u254 :: u255 :: u256 :: u257 :: u258 :: u259 :: u260 :: u261 :: u262 :: u263 :: u264 :: u265 :: u266 :: u267 :: u268 :: u269 :: u270 :: u271 :: u272 :: u273 :: u274 :: u275 :: u276 :: c277 :: c278 :: c279 :: c280 :: c281 :: c282 :: c283 :: c284 :: c285 :: c286 :: c287 :: c288 :: c289 :: c290 :: c291 :: c292 :: c293 :: c294 :: c295 :: c296 :: c297 :: c298 :: c299 :: c300 :: c301 :: c302 :: c303 :: c304 :: c305 :: c306 :: c307 :: c308 :: c309 :: c310 :: c311 :: c312 :: c313 :: c314 :: c315 :: c316 :: c317 :: c318 :: c319 :: [])), []⟩ w') :
    (Code.loop (loopOf Try.f34 8)).wp Try.prog Q ⟨(List.toArray (c0 :: (Value.pointer (some ⟨gb, 0, none⟩)) :: (Value.slice (some ⟨st, 0, none⟩) (N + 1) (N + 1)) :: c3 :: c4 :: c5 :: c6 :: c7 :: c8 :: c9 :: c10 :: c11 :: c12 :: (Value.pointer (some ⟨spb, 0, none⟩)) :: c14 :: c15 :: c16 :: c17 :: c18 :: c19 :: c20 :: vP :: c22 :: c23 :: c24 :: (Value.int .i64 (en : Int)) :: c26 :: c27 :: c28 :: c29 :: c30 :: c31 :: c32 :: c33 :: c34 :: c35 :: c36 :: c37 :: c38 :: c39 :: c40 :: c41 :: c42 :: c43 :: c44 :: c45 :: c46 :: c47 :: c48 :: c49 :: c50 :: c51 :: c52 :: c53 :: c54 :: c55 :: c56 :: c57 :: c58 :: c59 :: c60 :: c61 :: c62 :: c63 :: c64 :: c65 :: c66 :: c67 :: c68 :: c69 :: c70 :: c71 :: c72 :: c73 :: c74 :: c75 :: c76 :: c77 :: c78 :: c79 :: c80 :: c81 :: c82 :: c83 :: c84 :: c85 :: c86 :: c87 :: c88 :: c89 :: c90 :: c91 :: c92 :: c93 :: c94 :: c95 :: c96 :: c97 :: c98 :: c99 :: c100 :: c101 :: c102 :: c103 :: c104 :: c105 :: c106 :: c107 :: c108 :: c109 :: c110 :: c111 :: c112 :: c113 :: c114 :: c115 :: c116 :: c117 :: c118 :: c119 :: c120 :: c121 :: c122 :: c123 :: c124 :: c125 :: c126 :: c127 :: c128 :: c129 :: c130 :: c131 :: c132 :: c133 :: c134 :: c135 :: c136 :: c137 :: c138 :: c139 :: c140 :: c141 :: c142 :: c143 :: c144 :: c145 :: c146 :: c147 :: c148 :: c149 :: c150 :: c151 :: c152 :: c153 :: c154 :: c155 :: c156 :: c157 :: c158 :: c159 :: c160 :: c161 :: c162 :: c163 :: c164 :: c165 :: c166 :: c167 :: c168 :: c169 :: c170 :: c171 :: c172 :: c173 :: c174 :: c175 :: c176 :: c177 :: c178 :: c179 :: c180 :: c181 :: c182 :: c183 :: c184 :: c185 :: c186 :: c187 :: c188 :: c189 :: c190 :: c191 :: c192 :: c193 :: c194 :: c195 :: c196 :: c197 :: c198 :: c199 :: c200 :: c201 :: c202 :: c203 :: c204 :: c205 :: c206 :: c207 :: c208 :: c209 :: c210 :: c211 :: c212 :: c213 :: c214 :: c215 :: c216 :: c217 :: c218 :: c219 :: c220 :: c221 :: c222 :: c223 :: c224 :: c225 :: c226 :: c227 :: c228 :: c229 :: c230 :: c231 :: c232 :: c233 :: c234 :: c235 :: c236 :: c237 :: c238 :: c239 :: c240 :: c241 :: c242 :: c243 :: c244 :: c245 :: c246 :: c247 :: c248 :: c249 :: c250 :: c251 :: c252 :: c253 :: c254 :: c255 :: c256 :: c257 :: c258 :: c259 :: c260 :: c261 :: c262 :: c263 :: c264 :: c265 :: c266 :: c267 :: c268 :: c269 :: c270 :: c271 :: c272 :: c273 :: c274 :: c275 :: c276 :: c277 :: c278 :: c279 :: c280 :: c281 :: c282 :: c283 :: c284 :: c285 :: c286 :: c287 :: c288 :: c289 :: c290 :: c291 :: c292 :: c293 :: c294 :: c295 :: c296 :: c297 :: c298 :: c299 :: c300 :: c301 :: c302 :: c303 :: c304 :: c305 :: c306 :: c307 :: c308 :: c309 :: c310 :: c311 :: c312 :: c313 :: c314 :: c315 :: c316 :: c317 :: c318 :: c319 :: [])), []⟩ w := by
  conv => arg 2; arg 1; whnf
  obtain ⟨i0, hi0, hzz⟩ := Option.map_eq_some_iff.1 Try.info68
  simp only [Prod.mk.injEq] at hzz
  obtain ⟨hz0, hs0, hb0⟩ := hzz
  go_loopg [21] (en - 512 * PL0.length) (fun gg v wr => ∃ (oa : Option Addr) (m cp : Nat), v = .slice oa m cp ∧ gg = en - 512 * m ∧ 512 * m ≤ T + 511 ∧ Hid (∃ τ ps ov PL, P2 wr B τ ps ov rb fb spb R N E pr pr PL M ∧ Step B [6] w τ0 wr τ ∧ (∀ g, g ≠ gP → g ≠ gS → ps g = ps0 g ∧ ov g = ov0 g) ∧ ov gP = (.slice oa m cp) ∧ PL.length = m))
  case atStart =>
    obtain ⟨xs, hx, hxl, _⟩ := H.out.gi.row gP
    obtain ⟨oa, cp, hv⟩ := hx.slice
    rw [hxl, H.out.pl, List.length_map, HV.out] at hv
    exact ⟨oa, PL0.length, cp, hv, rfl, hPL, hidG ⟨τ0, ps0, ov0, PL0, H.out, Step.refl _ _ _ _, fun _ _ _ => ⟨rfl, rfl⟩, by rw [HV.out, hv], rfl⟩⟩
  case round =>
    obtain ⟨oa, m, cp, rfl, rfl, hm, HI⟩ := hrel
    have hsl : IntKind.i64.wrap ((m : Int) * 2 ^ 9) = 512 * (m : Int) := by rw [IntKind.wrap_i64]; omega
    by_cases hlt : 512 * m < en
    · have hlt' : 512 * (m : Int) < (en : Int) := by omega
      obtain ⟨n, hn⟩ : ∃ n, min 512 (T - 512 * m) = n := ⟨_, rfl⟩
      have hn0 : 0 < n := by omega
      have hn5 : n ≤ 512 := by omega
      have HX : Hid (∃ τ ps ov PL xs, P2 wr B τ ps ov rb fb spb R N E pr pr PL M ∧ Step B [6] w τ0 wr τ ∧ (∀ g, g ≠ gP → g ≠ gS → ps g = ps0 g ∧ ov g = ov0 g) ∧ ov gP = .slice oa m cp ∧ PL.length = m ∧ RowOf wr (ps gP) (ov gP) xs ∧ xs.length = m) := by
        obtain ⟨τ, ps, ov, PL, h1, h2, h3, h4, h5⟩ := HI.out
        obtain ⟨xs, hx⟩ := h1.gi.rowOf gP
        exact ⟨τ, ps, ov, PL, xs, h1, h2, h3, h4, h5, hx, by rw [hx.2.1, h1.pl, List.length_map, h5]⟩
      obtain ⟨τ, ps, ov, PL, xs, h1, hst, hg1, hg2, hg3, hx, hxl⟩ := HX.out
      have hBr : B ≤ wr.heap.size := Nat.le_trans hB hst.below.size
      have TK := hidG (take_GI (w := wr) spb n hn5 hBr (hidG h1.gi) (hidG h1.spare) (Nat.le_trans h1.slen (by omega)) (hidG h1.box) h1.t6)
      have kst := (World.cell?_of_block (w := w) (a := ⟨st, N, none⟩) (hst.same st 2 T2.out (by simp))).trans HST.out
      have kgb := (World.cell?_of_block (w := w) (a := ⟨gb, 0, none⟩) (hst.same gb 1 T1.out (by simp))).trans C1.out
      have kg := (World.cell?_of_block (w := w) (a := ⟨g, 1, none⟩) (hst.same g 0 T0.out (by simp))).trans C2.out
      have HH := hidG (And.intro h1 (And.intro hst (And.intro hg1 (And.intro hg2 (And.intro hg3 (And.intro hx hxl))))))
      clear HI HX h1 hst hg1 hg2 hg3 hx hxl
      have hsu : IntKind.i64.wrap ((T : Int) - 512 * (m : Int)) = ((T - 512 * m : Nat) : Int) := by rw [IntKind.wrap_i64]; omega
      have iN : (0 : Int) ≤ (N : Int) ∧ (N : Int) < (N : Int) + 1 := by omega
      go_wp2_with fail
      all_goals
        first
          | rw [show ((T : Int) - (m : Int) * 512) = (n : Int) by omega]
          | rw [show (512 : Int) = (n : Int) by omega]
        refine TK.out.mono ?_
        rintro e9 w1 ⟨b, rfl, τ1, ps1, ov1, hT1⟩
        have HT := hidG hT1
        have HX : Hid (∃ xs, RowOf w1 (ps1 gP) (ov1 gP) xs ∧ xs.length = m ∧ ov1 gP = .slice oa m cp) := by
          obtain ⟨h1, hst, hg1, hg2, hg3, hx, hxl⟩ := HH.out
          obtain ⟨xs, hx1⟩ := hT1.gi.rowOf gP
          have hPS : gP ≠ gS := by unfold gP gS; omega
          exact ⟨xs, hx1, by rw [hx1.2.1, (hT1.other gP hPS).1, h1.pl, List.length_map, hg3], (hT1.other gP hPS).2.trans hg2⟩
        obtain ⟨xs1, HXS⟩ := HX
        have hxm : xs1.length = m := HXS.2.1
        have HO : Hid (w1.ownsRow 0 68 1 (.slice oa m cp) xs1.length xs1) := by
          have := HXS.1.1
          rw [HXS.2.2] at this; exact this
        have HXS' := hidG HXS
        clear HXS hT1 TK
        have in1 : (0 : Int) ≤ (n : Int) ∧ (n : Int) ≤ (n : Int) := by omega
        go_wp2_with (first | (at_builtin; refine wpList_append_own_at _ rfl _ _ 64 rfl 0 68 i0 (.slice none 0 0) 1 24 Try.underlying64 hi0 hz0 hs0 hb0 rfl (by decide) (.slice oa m cp) xs1.length xs1 rfl ?o1 ⟨w1.heap.size, 0, none⟩ 1 1 [.slice (some ⟨b, 0, none⟩) n n] rfl rfl ?c2 ?c3 ?c4 ?c5 ?c6 ?_; (case o1 => exact World.ownsRow.alloc HO.out _); (case c2 => exact cell_one_new _ _ _); (case c3 => intro u hu; simp at hu; subst hu; rfl); (case c4 => unfold maxLen; omega); (case c5 => omega); (case c6 => simp); (intro v2 w2 hown hgrow _ hat)))
        have HN : Hid (∃ oa' cp', v2 = .slice oa' (m + 1) cp' ∧ (∃ τ ps ov PL, P2 w2 B τ ps ov rb fb spb R N E pr pr PL M ∧ Step B [6] w τ0 w2 τ ∧ (∀ g, g ≠ gP → g ≠ gS → ps g = ps0 g ∧ ov g = ov0 g) ∧ ov gP = (.slice oa' (m + 1) cp') ∧ PL.length = m + 1)) := by
          obtain ⟨h1, hst, hg1, hg2, hg3, hx, hxl⟩ := HH.out
          have hrow : Row w2 v2 (xs1 ++ [.slice (some ⟨b, 0, none⟩) n n]) := by unfold Row; rw [List.length_append]; exact hown
          obtain ⟨oa', cp', hv2⟩ := hrow.slice
          rw [List.length_append, hxm] at hv2
          simp only [List.length_cons, List.length_nil, Nat.zero_add] at hv2
          have hovE : (ov1 gP).ownBlock = (Value.slice oa m cp).ownBlock := by rw [HXS'.out.2.2]
          obtain ⟨τ3, ps3, ov3, PL3, z1, z2, z3, z4, z5⟩ := h1.extend hBr hR (n := n) (by rw [HE.out, hg3]; exact hn.symm) HT.out ((Keeps.refl [] w1).alloc _) HXS'.out.1 hown (by rw [hovE]; exact hgrow) (by rw [hovE]; exact hat)
          refine ⟨oa', cp', hv2, τ3, ps3, ov3, PL3, z1, hst.trans z2, fun g e1 e2 => ?_, by rw [z4, hv2], by rw [z5, hg3]⟩
          rw [(z3 g e1 e2).1, (z3 g e1 e2).2]; exact hg1 g e1 e2
        clear hown hgrow hat HT HO HXS' HH
        obtain ⟨oa', cp', HN'⟩ := HN
        have hv2 := HN'.1
        have HN2 := hidG HN'.2
        clear HN'
        subst hv2
        go_roundg (en - 512 * (m + 1))
        case measure => omega
        case rel => exact ⟨oa', m + 1, cp', rfl, rfl, by omega, HN2⟩
    · have HQ : Hid (∃ τ ps ov PL, P2 wr B τ ps ov rb fb spb R N E pr pr PL M ∧ Step B [6] w τ0 wr τ ∧ (∀ g, g ≠ gP → g ≠ gS → ps g = ps0 g ∧ ov g = ov0 g) ∧ ov gP = (.slice oa m cp) ∧ en ≤ 512 * PL.length ∧ 512 * PL.length ≤ T + 511) := by
        obtain ⟨τ, ps, ov, PL, h1, h2, h3, h4, h5⟩ := HI.out
        exact ⟨τ, ps, ov, PL, h1, h2, h3, h4, by omega, by omega⟩
      clear HI
      have hge' : ¬ (m : Int) * 512 < (en : Int) := by omega
      go_wp2_with fail

end Go.Proofs.Qxb6601127a
