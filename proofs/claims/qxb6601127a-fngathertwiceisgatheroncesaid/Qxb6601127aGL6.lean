import Derived.Test.Qxb6601127aGL7
import Derived.Test.Qxb6601127aGPass1b
namespace Go.Proofs.Qxb6601127a
open Go.RowKit
set_option linter.unusedVariables false
set_option linter.unusedSimpArgs false

set_option maxRecDepth 1000000 in
set_option maxHeartbeats 4000000 in
theorem loop6 (gb g shb rb lf spb N R sh B K : Nat) (v0 : Value) (Pg : List Part) (τ0 : Nat → Role) (ps0 : Nat → List (Option Part)) (ov0 : Nat → Value) (w : World) (Q : Exit → Act → World → Prop)
    (hN : N ≤ 65536) (hR : R ≤ 1024) (hsh : sh ≤ 6) (HNR : Hid (((N : Int) - 1) / 2 ^ sh + 1 = (R : Int))) (hE : (flat Pg).length ≤ 65536) (hK : K ≤ 65536) (HK : Hid (Pg.length = K)) (HT : Hid (Tails N (flat Pg)))
    (H : Hid (P1 w B τ0 ps0 ov0 rb lf spb R sh (flat Pg) [] [] 0)) (HG : Hid (ps0 gG = Pg.map some)) (HV : Hid (ov0 gG = v0)) (HSH : Hid (Blk w shb [.int .i64 (sh : Int)] 3)) (Hsh : Hid (τ0 shb = .fix 3)) (hB : B ≤ w.heap.size)
    (C1 : Hid (w.cell? ⟨gb, 0, none⟩ = some (.pointer (some ⟨g, 0, none⟩)))) (C2 : Hid (w.cell? ⟨g, 3, none⟩ = some v0)) (T1 : Hid (τ0 gb = .fix 1)) (T0 : Hid (τ0 g = .fix 0)) {c0 c2 c3 c4 c5 c6 c7 c10 c12 c14 c15 c16 c17 c18 c19 c20 c21 c22 c23 c24 c25 c26 c27 c28 c29 c30 c31 c32 c33 c34 c35 c36 c37 c38 c39 c40 c41 c42 c43 c44 c45 c46 c47 c48 c49 c50 c51 c52 c53 c54 c55 c56 c57 c58 c59 c60 c61 c62 c63 c64 c65 c66 c67 c68 c69 c70 c71 c72 c73 c74 c75 c76 c77 c78 c79 c80 c81 c82 c83 c84 c85 c86 c87 c88 c89 c90 c91 c92 c93 c94 c95 c96 c97 c98 c99 c100 c101 c102 c103 c104 c105 c106 c107 c108 c109 c110 c111 c112 c113 c114 c115 c116 c117 c118 c119 c120 c121 c122 c123 c124 c125 c126 c127 c128 c129 c130 c131 c132 c133 c134 c138 c139 c140 c141 c142 c143 c144 c145 c146 c147 c148 c149 c150 c151 c152 c153 c154 c155 c156 c157 c158 c159 c160 c161 c162 c163 c164 c165 c166 c167 c168 c169 c170 c171 c172 c173 c174 c175 c176 c177 c178 c179 c180 c181 c182 c183 c184 c185 c186 c187 c188 c189 c190 c191 c192 c193 c194 c195 c196 c197 c198 c199 c200 c201 c202 c203 c204 c205 c206 c207 c208 c209 c210 c211 c212 c213 c214 c215 c216 c217 c218 c219 c220 c221 c222 c223 c224 c225 c226 c227 c228 c229 c230 c231 c232 c233 c234 c235 c236 c237 c238 c239 c240 c241 c242 c243 c244 c245 c246 c247 c248 c249 c250 c251 c252 c253 c254 c255 c256 c257 c258 c259 c260 c261 c262 c263 c264 c265 c266 c267 c268 c269 c270 c271 c272 c273 c274 c275 c276 c277 c278 c279 c280 c281 c282 c283 c284 c285 c286 c287 c288 c289 c290 c291 c292 c293 c294 c295 c296 c297 c298 c299 c300 c301 c302 c303 c304 c305 c306 c307 c308 c309 c310 c311 c312 c313 c314 c315 c316 c317 c318 c319 : Value}
    (hexit : ∀ u14 u15 u17 u18 u19 u20 u137 u138 u139 u140 u141 u142 u143 u144 u145 u146 u147 u148 u149 u150 u151 u152 u153 u154 u155 u156 u157 u158 u159 u160 u161 u162 u163 u164 u165 u166 u167 u168 u169 u170 u171 u172 u173 u174 u175 u176 u177 u178 u179 u180 u181 u182 u183 u184 u185 u186 u187 u188 u189 u190 u191 u192 u193 u194 u195 u196 u197 u198 u199 u200 u201 u202 u203 u204 u205 u206 u207 u208 u209 u210 u211 u212 u213 u214 u215 u216 u217 u218 u219 u220 u221 u222 u223 u224 u225 u226 u227 u228 u229 u230 u231 w', Hid (∃ τ ps ov, P1 w' B τ ps ov rb lf spb R sh (flat Pg) (flat Pg) (flat Pg) K ∧ Step B [4, 5, 6] w τ0 w' τ) → Q (.exit 10) ⟨(List.toArray (c0 :: (Value.pointer (some ⟨gb, 0, none⟩)) :: c2 :: c3 :: c4 :: c5 :: c6 :: c7 :: (Value.pointer (some ⟨shb, 0, none⟩)) :: (Value.slice (some ⟨rb, 0, none⟩) R R) :: c10 :: (Value.slice (some ⟨lf, 0, none⟩) R R) :: c12 :: (Value.pointer (some ⟨spb, 0, none⟩)) :: u14 :: u15 :: c16 :: u17 :: u18 :: u19 :: u20 :: c21 :: c22 :: c23 :: c24 :: c25 :: c26 :: c27 :: c28 :: c29 :: c30 :: c31 :: c32 :: c33 :: c34 :: c35 :: c36 :: c37 :: c38 :: c39 :: c40 :: c41 :: c42 :: c43 :: c44 :: c45 :: c46 :: c47 :: c48 :: c49 :: c50 :: c51 :: c52 :: c53 :: c54 :: c55 :: c56 :: c57 :: c58 :: c59 :: c60 :: c61 :: c62 :: c63 :: c64 :: c65 :: c66 :: c67 :: c68 :: c69 :: c70 :: c71 :: c72 :: c73 :: c74 :: c75 :: c76 :: c77 :: c78 :: c79 :: c80 :: c81 :: c82 :: c83 :: c84 :: c85 :: c86 :: c87 :: c88 :: c89 :: c90 :: c91 :: c92 :: c93 :: c94 :: c95 :: c96 :: c97 :: c98 :: c99 :: c100 :: c101 :: c102 :: c103 :: c104 :: c105 :: c106 :: c107 :: c108 :: c109 :: c110 :: c111 :: c112 :: c113 :: c114 :: c115 :: c116 :: c117 :: c118 :: c119 :: c120 :: c121 :: c122 :: c123 :: c124 :: c125 :: c126 :: c127 :: c128 :: c129 :: c130 :: c131 :: c132 :: c133 :: c134 :: v0 :: (Value.int .i64 (K : Int)) :: u137 :: u138 :: u139 :: u140 :: u141 :: u142 :: u143 :: u144 :: u145 :: u146 :: u147 :: u148 :: u149 :: u150 :: u151 :: u152 :: u153 :: u154 :: u155 :: u156 :: u157 :: u158 :: u159 :: u160 :: u161 :: u162 :: u163 :: u164 :: u165 :: u166 :: u167 :: u168 :: u169 :: u170 :: u171 :: u172 :: u173 :: u174 :: u175 :: u176 :: u177 :: u178 :: u179 :: u180 :: u181 :: u182 :: u183 :: u184 :: u185 :: u186 :: u187 :: u188 :: u189 :: u190 :: u191 :: u192 :: u193 :: u194 :: u195 :: u196 :: u197 :: u198 :: u199 :: u200 :: u201 :: u202 :: u203 :: u204 :: u205 :: u206 :: u207 :: u208 :: u209 :: u210 :: u211 :: u212 :: u213 :: u214 :: u215 :: u216 :: u217 :: u218 :: u219 :: u220 :: u221 :: u222 :: u223 :: u224 :: u225 :: u226 :: u227 :: u228 :: u229 :: u230 :: u231 :: c232 :: c233 :: c234 :: c235 :: c236 :: c237 :: c238 :: c239 :: c240 :: c241 :: c242 :: c243 :: c244 :: c245 :: c246 :: c247 :: c248 :: c249 :: c250 :: c251 :: c252 :: c253 :: c254 :: c255 :: c256 :: c257 :: c258 :: c259 :: c260 :: c261 :: c262 :: c263 :: c264 :: c265 :: c266 :: c267 :: c268 :: c269 :: c270 :: c271 :: c272 :: c273 :: c274 :: c275 :: c276 :: c277 :: c278 :: c279 :: c280 :: c281 :: c282 :: c283 :: c284 :: c285 :: c286 :: c287 :: c288 :: c289 :: c290 :: c291 :: c292 :: c293 :: c294 :: c295 :: c296 :: c297 :: c298 :: c299 :: c300 :: c301 :: c302 :: c303 :: c304 :: c305 :: c306 :: c307 :: c308 :: c309 :: c310 :: c311 :: c312 :: c313 :: c314 :: c315 :: c316 :: c317 :: c318 :: c319 :: [])), []⟩ w') :
    (Code.loop (loopOf Try.f34 5)).wp Try.prog Q ⟨(List.toArray (c0 :: (Value.pointer (some ⟨gb, 0, none⟩)) :: c2 :: c3 :: c4 :: c5 :: c6 :: c7 :: (Value.pointer (some ⟨shb, 0, none⟩)) :: (Value.slice (some ⟨rb, 0, none⟩) R R) :: c10 :: (Value.slice (some ⟨lf, 0, none⟩) R R) :: c12 :: (Value.pointer (some ⟨spb, 0, none⟩)) :: c14 :: c15 :: c16 :: c17 :: c18 :: c19 :: c20 :: c21 :: c22 :: c23 :: c24 :: c25 :: c26 :: c27 :: c28 :: c29 :: c30 :: c31 :: c32 :: c33 :: c34 :: c35 :: c36 :: c37 :: c38 :: c39 :: c40 :: c41 :: c42 :: c43 :: c44 :: c45 :: c46 :: c47 :: c48 :: c49 :: c50 :: c51 :: c52 :: c53 :: c54 :: c55 :: c56 :: c57 :: c58 :: c59 :: c60 :: c61 :: c62 :: c63 :: c64 :: c65 :: c66 :: c67 :: c68 :: c69 :: c70 :: c71 :: c72 :: c73 :: c74 :: c75 :: c76 :: c77 :: c78 :: c79 :: c80 :: c81 :: c82 :: c83 :: c84 :: c85 :: c86 :: c87 :: c88 :: c89 :: c90 :: c91 :: c92 :: c93 :: c94 :: c95 :: c96 :: c97 :: c98 :: c99 :: c100 :: c101 :: c102 :: c103 :: c104 :: c105 :: c106 :: c107 :: c108 :: c109 :: c110 :: c111 :: c112 :: c113 :: c114 :: c115 :: c116 :: c117 :: c118 :: c119 :: c120 :: c121 :: c122 :: c123 :: c124 :: c125 :: c126 :: c127 :: c128 :: c129 :: c130 :: c131 :: c132 :: c133 :: c134 :: v0 :: (Value.int .i64 (K : Int)) :: (Value.int .i64 0) :: c138 :: c139 :: c140 :: c141 :: c142 :: c143 :: c144 :: c145 :: c146 :: c147 :: c148 :: c149 :: c150 :: c151 :: c152 :: c153 :: c154 :: c155 :: c156 :: c157 :: c158 :: c159 :: c160 :: c161 :: c162 :: c163 :: c164 :: c165 :: c166 :: c167 :: c168 :: c169 :: c170 :: c171 :: c172 :: c173 :: c174 :: c175 :: c176 :: c177 :: c178 :: c179 :: c180 :: c181 :: c182 :: c183 :: c184 :: c185 :: c186 :: c187 :: c188 :: c189 :: c190 :: c191 :: c192 :: c193 :: c194 :: c195 :: c196 :: c197 :: c198 :: c199 :: c200 :: c201 :: c202 :: c203 :: c204 :: c205 :: c206 :: c207 :: c208 :: c209 :: c210 :: c211 :: c212 :: c213 :: c214 :: c215 :: c216 :: c217 :: c218 :: c219 :: c220 :: c221 :: c222 :: c223 :: c224 :: c225 :: c226 :: c227 :: c228 :: c229 :: c230 :: c231 :: c232 :: c233 :: c234 :: c235 :: c236 :: c237 :: c238 :: c239 :: c240 :: c241 :: c242 :: c243 :: c244 :: c245 :: c246 :: c247 :: c248 :: c249 :: c250 :: c251 :: c252 :: c253 :: c254 :: c255 :: c256 :: c257 :: c258 :: c259 :: c260 :: c261 :: c262 :: c263 :: c264 :: c265 :: c266 :: c267 :: c268 :: c269 :: c270 :: c271 :: c272 :: c273 :: c274 :: c275 :: c276 :: c277 :: c278 :: c279 :: c280 :: c281 :: c282 :: c283 :: c284 :: c285 :: c286 :: c287 :: c288 :: c289 :: c290 :: c291 :: c292 :: c293 :: c294 :: c295 :: c296 :: c297 :: c298 :: c299 :: c300 :: c301 :: c302 :: c303 :: c304 :: c305 :: c306 :: c307 :: c308 :: c309 :: c310 :: c311 :: c312 :: c313 :: c314 :: c315 :: c316 :: c317 :: c318 :: c319 :: [])), []⟩ w := by
  conv => arg 2; arg 1; whnf
  go_loopg [137] K (fun gg i wr => ∃ k : Nat, k ≤ K ∧ gg = K - k ∧ i = .int .i64 k ∧ Hid (∃ τ ps ov, P1 wr B τ ps ov rb lf spb R sh (flat Pg) (flat (Pg.take k)) (flat (Pg.take k)) k ∧ Step B [4, 5, 6] w τ0 wr τ ∧ (∀ i, k ≤ i → (ps gG)[i]? = Pg[i]?.map some) ∧ (ps gG).length = K ∧ ov gG = v0))
  case atStart =>
    refine ⟨0, by omega, by omega, rfl, hidG ⟨τ0, ps0, ov0, by simpa [flat] using H.out, Step.refl _ _ _ _, fun i _ => ?_, ?_, HV.out⟩⟩
    · rw [HG.out, List.getElem?_map]
    · rw [HG.out, List.length_map, HK.out]
  case round =>
    obtain ⟨k, hk, rfl, rfl, HI⟩ := hrel
    by_cases hlt : k < K
    · have hlt' : (k : Int) < (K : Int) := by omega
      obtain ⟨τ, ps, ov, h1, hst, hg1, hg2, hg3⟩ := HI.out
      obtain ⟨p, hp⟩ : ∃ p, Pg[k]? = some p := ⟨_, List.getElem?_eq_getElem (by rw [HK.out]; exact hlt)⟩
      have hp' : (ps gG)[k]? = some (some p) := by rw [hg1 k (Nat.le_refl _), hp]; rfl
      obtain ⟨xs, hxr, hxl, hxp⟩ := h1.gi.row gG
      obtain ⟨ob, cp, hv, hcp, hcp', hcell, hfro, hobl⟩ := hxr.len (by omega)
      rw [hxl, hg2] at hv hcp
      rw [hg3] at hv
      have kob := hcell k _ (hxp k p hp')
      unfold Part.val at kob
      obtain ⟨hPp, tpp⟩ := h1.gi.part gG k p hp'
      have hple := hPp.le
      have hpl : p.es.length ≤ 65536 := by have := flat_le Pg k p hp; omega
      have hsame : ∀ w9 τ9, Step B [4, 5, 6] w τ0 w9 τ9 → w9.cell? ⟨gb, 0, none⟩ = some (.pointer (some ⟨g, 0, none⟩)) ∧ w9.cell? ⟨g, 3, none⟩ = some v0 ∧ gb < w9.heap.size ∧ g < w9.heap.size := by
        intro w9 τ9 hs
        have b1 := hs.same gb 1 T1.out (by simp)
        have b0 := hs.same g 0 T0.out (by simp)
        have k1 := (World.cell?_of_block (w := w) (a := ⟨gb, 0, none⟩) b1).trans C1.out
        have k0 := (World.cell?_of_block (w := w) (a := ⟨g, 3, none⟩) b0).trans C2.out
        exact ⟨k1, k0, World.block_lt_of_cell? w9 _ k1, World.block_lt_of_cell? w9 _ k0⟩
      have HSM := hidG hsame
      have HI1 := hidG h1
      have HSTr := hidG hst
      have HGr := hidG (And.intro hg1 (And.intro hg2 (And.intro hg3 hp')))
      have HFT := hidG (flat_take Pg k p hp)
      have HSPL : Hid (∃ rest, flat Pg = flat (Pg.take k) ++ p.es ++ rest) := by
        refine ⟨flat (Pg.drop (k + 1)), ?_⟩
        rw [← flat_take Pg k p hp]
        unfold flat; rw [← List.flatMap_append, List.take_append_drop]
      have HSHr : Hid (Blk wr shb [.int .i64 (sh : Int)] 3) := HSH.out.of_block (hst.same shb 3 Hsh.out (by simp))
      have Tsh : Hid (τ shb = .fix 3) := hst.fix _ _ Hsh.out
      have hBr : B ≤ wr.heap.size := Nat.le_trans hB hst.below.size
      clear HI h1 hst hg1 hg2 hg3 hp hp' hxr hxl hxp hcell hfro hPp tpp hsame
      subst hv
      have iob : (0 : Int) ≤ (k : Int) ∧ (k : Int) < (K : Int) := by omega
      go_wp2_with fail
      refine loop7 shb rb lf spb p.b N R sh p.es.length p.cap B k k (flat Pg) (flat (Pg.take k)) p.es τ ps ov wr _ hN hR hsh HNR (by omega) (by omega) (by omega) hple rfl HT HSPL HI1 (hidG HGr.out.2.2.2) HSHr Tsh hBr ?_
      intro v17 v18 v19 v20 v144 v145 v146 v147 v148 v149 v150 v151 v152 v153 v154 v155 v156 v157 v158 v159 v160 v161 v162 v163 v164 v165 v166 v167 v168 v169 v170 v171 v172 v173 v174 v175 v176 v177 v178 v179 v180 v181 v182 v183 v184 v185 v186 v187 v188 v189 v190 v191 v192 v193 v194 v195 v196 v197 v198 v199 v200 v201 v202 v203 v204 v205 v206 v207 v208 v209 v210 v211 v212 v213 v214 v215 v216 v217 v218 v219 v220 v221 v222 w7 H7
      obtain ⟨τ7, ps7, ov7, h7, s7, g71, g72⟩ := H7.out
      obtain ⟨k71, k72, k73, k74⟩ := HSM.out w7 τ7 (HSTr.out.trans s7)
      have hov7 : ov7 gG = .slice (some ⟨ob, 0, none⟩) K cp := g72.trans HGr.out.2.2.1
      obtain ⟨xs7, hx7, hxl7, hxp7⟩ := h7.gi.row gG
      have hK7 : xs7.length = K := by rw [hxl7, g71]; exact HGr.out.2.1
      obtain ⟨ob', cp', hv', _, _, hcell7, hfro7, hobl7⟩ := hx7.len (by omega)
      rw [hov7] at hv'
      injection hv' with hv1 hv2 hv3
      injection hv1 with hv1
      injection hv1 with hv1
      subst hv1
      have k75 := hcell7 k _ (hxp7 k p (by rw [g71]; exact HGr.out.2.2.2))
      have k76 := hfro7 k
      have hB7 : B ≤ w7.heap.size := Nat.le_trans hBr s7.below.size
      obtain ⟨d1, d2, d3, d4⟩ := h7.gi.drop hB7 (p := p) (by rw [g71]; exact HGr.out.2.2.2) hov7 (.slice none 0 0)
      have h8 := h7.step2 hR d1 d2 (fun g' hg' => upd_ne _ _ hg')
      have H8 := hidG h8
      have hB8 : B ≤ (w7.setCell ⟨ob, k, none⟩ (.slice none 0 0)).heap.size := Nat.le_trans hB7 d2.below.size
      have GV := hidG (give_GI spb p.b p.es.length p.cap p.es hB8 (hidG h8.gi) (hidG h8.spare) (Nat.le_trans h8.slen (by omega)) (hidG h8.box) h8.t6 (hidG d4) rfl d3)
      have HS8 : Hid (Step B [4, 5, 6] w τ0 (w7.setCell ⟨ob, k, none⟩ (.slice none 0 0)) (upd τ7 p.b .loose)) := (HSTr.out.trans s7).trans (d2.mono (by simp))
      have HG8 : Hid (ps7 gG = ps gG ∧ ov7 gG = .slice (some ⟨ob, 0, none⟩) K cp) := ⟨g71, hov7⟩
      clear H7 h7 s7 g71 g72 hov7 hx7 hxl7 hxp7 hK7 hcell7 hfro7 hv2 hv3 d1 d2 d3 d4 h8
      go_wp2_with fail
      refine GV.out.mono ?_
      rintro e9 w9 ⟨rfl, τ9, ps9, ov9, h9⟩
      have HN : Hid (∃ τ ps ov, P1 w9 B τ ps ov rb lf spb R sh (flat Pg) (flat (Pg.take (k + 1))) (flat (Pg.take (k + 1))) (k + 1) ∧ Step B [4, 5, 6] w τ0 w9 τ ∧ (∀ i, k + 1 ≤ i → (ps gG)[i]? = Pg[i]?.map some) ∧ (ps gG).length = K ∧ ov gG = .slice (some ⟨ob, 0, none⟩) K cp) := by
        have hGS : gG ≠ gS := by unfold gG gS; omega
        refine ⟨τ9, ps9, ov9, ?_, HS8.out.trans (h9.step.mono (by simp)), fun i hi => ?_, ?_, ?_⟩
        · rw [HFT.out]; exact H8.out.gave hR h9
        · rw [(h9.other gG hGS).1, upd_same, HG8.out.1, List.getElem?_set_ne (by omega)]
          exact HGr.out.1 i (by omega)
        · rw [(h9.other gG hGS).1, upd_same, HG8.out.1, List.length_set]; exact HGr.out.2.1
        · rw [(h9.other gG hGS).2]; exact HG8.out.2
      clear h9 GV
      go_wp2_with fail
      go_roundg (K - (k + 1))
      case measure => omega
      case rel => exact ⟨k + 1, by omega, rfl, by go_num, HN⟩
    · have hge : k = K := by omega
      subst hge
      have HQ : Hid (∃ τ ps ov, P1 wr B τ ps ov rb lf spb R sh (flat Pg) (flat Pg) (flat Pg) k ∧ Step B [4, 5, 6] w τ0 wr τ) := by
        obtain ⟨τ, ps, ov, h1, h2, _⟩ := HI.out
        rw [show Pg.take k = Pg from List.take_of_length_le (by rw [HK.out]; exact Nat.le_refl _)] at h1
        exact ⟨τ, ps, ov, h1, h2⟩
      clear HI
      go_wp2_with fail
      exact HQ

end Go.Proofs.Qxb6601127a
