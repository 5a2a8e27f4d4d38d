import Derived.Test.Qxb6601127aGL2
import Derived.Test.Qxb6601127aGMove
namespace Go.Proofs.Qxb6601127a
open Go.RowKit
set_option linter.unusedVariables false
set_option linter.unusedSimpArgs false

/-- the edges of parts -/
def flat (P : List Part) : List Edge := P.flatMap Part.es

theorem flat_take (P : List Part) (k : Nat) (p : Part) (h : P[k]? = some p) : flat (P.take (k + 1)) = flat (P.take k) ++ p.es := by
  unfold flat; rw [List.take_add_one, h]; simp

theorem flat_le (P : List Part) (k : Nat) (p : Part) (h : P[k]? = some p) : (flat (P.take k)).length + p.es.length ≤ (flat P).length := by
  have h1 := flat_take P k p h
  have h2 : flat P = flat (P.take (k + 1)) ++ flat (P.drop (k + 1)) := by unfold flat; rw [← List.flatMap_append, List.take_append_drop]
  rw [h2, h1]; simp

theorem Tails.part {N : Nat} {P : List Part} (h : Tails N (flat P)) {k : Nat} {p : Part} (hp : P[k]? = some p) : Tails N p.es :=
  fun e he => h e (List.mem_flatMap.2 ⟨p, List.mem_of_getElem? hp, he⟩)

set_option maxRecDepth 1000000 in
set_option maxHeartbeats 4000000 in
theorem loop1 (st N K B : Nat) (P : List Part) (τ : Nat → Role) (ps : Nat → List (Option Part)) (ov : Nat → Value) (w : World) (Q : Exit → Act → World → Prop)
    (hN : N ≤ 65536) (hK : K ≤ 1048576) (hB : B ≤ w.heap.size) (HK : Hid (P.length = K)) (HG : Hid (ps gG = P.map some)) (hL : (flat P).length ≤ 1048576) (HT : Hid (Tails N (flat P)))
    (H : Hid (GI w B τ ps ov)) (HS : Hid (IB w st (N + 1) (cntF []))) (Hst : Hid (τ st = .fix 2)) {c0 c1 c3 c4 c5 c6 c7 c8 c9 c10 c11 c12 c13 c14 c15 c16 c17 c18 c19 c20 c21 c22 c23 c24 c25 c26 c27 c28 c29 c30 c31 c32 c33 c34 c35 c36 c37 c38 c39 c40 c41 c42 c43 c44 c48 c49 c50 c51 c52 c53 c54 c55 c56 c57 c58 c59 c60 c61 c62 c63 c64 c65 c66 c67 c68 c69 c70 c71 c72 c73 c74 c75 c76 c77 c78 c79 c80 c81 c82 c83 c84 c85 c86 c87 c88 c89 c90 c91 c92 c93 c94 c95 c96 c97 c98 c99 c100 c101 c102 c103 c104 c105 c106 c107 c108 c109 c110 c111 c112 c113 c114 c115 c116 c117 c118 c119 c120 c121 c122 c123 c124 c125 c126 c127 c128 c129 c130 c131 c132 c133 c134 c135 c136 c137 c138 c139 c140 c141 c142 c143 c144 c145 c146 c147 c148 c149 c150 c151 c152 c153 c154 c155 c156 c157 c158 c159 c160 c161 c162 c163 c164 c165 c166 c167 c168 c169 c170 c171 c172 c173 c174 c175 c176 c177 c178 c179 c180 c181 c182 c183 c184 c185 c186 c187 c188 c189 c190 c191 c192 c193 c194 c195 c196 c197 c198 c199 c200 c201 c202 c203 c204 c205 c206 c207 c208 c209 c210 c211 c212 c213 c214 c215 c216 c217 c218 c219 c220 c221 c222 c223 c224 c225 c226 c227 c228 c229 c230 c231 c232 c233 c234 c235 c236 c237 c238 c239 c240 c241 c242 c243 c244 c245 c246 c247 c248 c249 c250 c251 c252 c253 c254 c255 c256 c257 c258 c259 c260 c261 c262 c263 c264 c265 c266 c267 c268 c269 c270 c271 c272 c273 c274 c275 c276 c277 c278 c279 c280 c281 c282 c283 c284 c285 c286 c287 c288 c289 c290 c291 c292 c293 c294 c295 c296 c297 c298 c299 c300 c301 c302 c303 c304 c305 c306 c307 c308 c309 c310 c311 c312 c313 c314 c315 c316 c317 c318 c319 : Value}
    (hexit : ∀ u4 u6 u47 u48 u49 u50 u51 u52 u53 u54 u55 u56 u57 u58 u59 u60 u61 u62 u63 u64 u65 u66 w', Hid (GI w' B τ ps ov ∧ Step B [2] w τ w' τ ∧ IB w' st (N + 1) (cntF (flat P))) → Q (.exit 0) ⟨(List.toArray (c0 :: c1 :: (Value.slice (some ⟨st, 0, none⟩) (N + 1) (N + 1)) :: c3 :: u4 :: c5 :: u6 :: c7 :: c8 :: c9 :: c10 :: c11 :: c12 :: c13 :: c14 :: c15 :: c16 :: c17 :: c18 :: c19 :: c20 :: c21 :: c22 :: c23 :: c24 :: c25 :: c26 :: c27 :: c28 :: c29 :: c30 :: c31 :: c32 :: c33 :: c34 :: c35 :: c36 :: c37 :: c38 :: c39 :: c40 :: c41 :: c42 :: c43 :: c44 :: (ov gG) :: (Value.int .i64 (K : Int)) :: u47 :: u48 :: u49 :: u50 :: u51 :: u52 :: u53 :: u54 :: u55 :: u56 :: u57 :: u58 :: u59 :: u60 :: u61 :: u62 :: u63 :: u64 :: u65 :: u66 :: c67 :: c68 :: c69 :: c70 :: c71 :: c72 :: c73 :: c74 :: c75 :: c76 :: c77 :: c78 :: c79 :: c80 :: c81 :: c82 :: c83 :: c84 :: c85 :: c86 :: c87 :: c88 :: c89 :: c90 :: c91 :: c92 :: c93 :: c94 :: c95 :: c96 :: c97 :: c98 :: c99 :: c100 :: c101 :: c102 :: c103 :: c104 :: c105 :: c106 :: c107 :: c108 :: c109 :: c110 :: c111 :: c112 :: c113 :: c114 :: c115 :: c116 :: c117 :: c118 :: c119 :: c120 :: c121 :: c122 :: c123 :: c124 :: c125 :: c126 :: c127 :: c128 :: c129 :: c130 :: c131 :: c132 :: c133 :: c134 :: c135 :: c136 :: c137 :: c138 :: c139 :: c140 :: c141 :: c142 :: c143 :: c144 :: c145 :: c146 :: c147 :: c148 :: c149 :: c150 :: c151 :: c152 :: c153 :: c154 :: c155 :: c156 :: c157 :: c158 :: c159 :: c160 :: c161 :: c162 :: c163 :: c164 :: c165 :: c166 :: c167 :: c168 :: c169 :: c170 :: c171 :: c172 :: c173 :: c174 :: c175 :: c176 :: c177 :: c178 :: c179 :: c180 :: c181 :: c182 :: c183 :: c184 :: c185 :: c186 :: c187 :: c188 :: c189 :: c190 :: c191 :: c192 :: c193 :: c194 :: c195 :: c196 :: c197 :: c198 :: c199 :: c200 :: c201 :: c202 :: c203 :: c204 :: c205 :: c206 :: c207 :: c208 :: c209 :: c210 :: c211 :: c212 :: c213 :: c214 :: c215 :: c216 :: c217 :: c218 :: c219 :: c220 :: c221 :: c222 :: c223 :: c224 :: c225 :: c226 :: c227 :: c228 :: c229 :: c230 :: c231 :: c232 :: c233 :: c234 :: c235 :: c236 :: c237 :: c238 :: c239 :: c240 :: c241 :: c242 :: c243 :: c244 :: c245 :: c246 :: c247 :: c248 :: c249 :: c250 :: c251 :: c252 :: c253 :: c254 :: c255 :: c256 :: c257 :: c258 :: c259 :: c260 :: c261 :: c262 :: c263 :: c264 :: c265 :: c266 :: c267 :: c268 :: c269 :: c270 :: c271 :: c272 :: c273 :: c274 :: c275 :: c276 :: c277 :: c278 :: c279 :: c280 :: c281 :: c282 :: c283 :: c284 :: c285 :: c286 :: c287 :: c288 :: c289 :: c290 :: c291 :: c292 :: c293 :: c294 :: c295 :: c296 :: c297 :: c298 :: c299 :: c300 :: c301 :: c302 :: c303 :: c304 :: c305 :: c306 :: c307 :: c308 :: c309 :: c310 :: c311 :: c312 :: c313 :: c314 :: c315 :: c316 :: c317 :: c318 :: c319 :: [])), []⟩ w') :
    (Code.loop (loopOf Try.f34 0)).wp Try.prog Q ⟨(List.toArray (c0 :: c1 :: (Value.slice (some ⟨st, 0, none⟩) (N + 1) (N + 1)) :: c3 :: c4 :: c5 :: c6 :: c7 :: c8 :: c9 :: c10 :: c11 :: c12 :: c13 :: c14 :: c15 :: c16 :: c17 :: c18 :: c19 :: c20 :: c21 :: c22 :: c23 :: c24 :: c25 :: c26 :: c27 :: c28 :: c29 :: c30 :: c31 :: c32 :: c33 :: c34 :: c35 :: c36 :: c37 :: c38 :: c39 :: c40 :: c41 :: c42 :: c43 :: c44 :: (ov gG) :: (Value.int .i64 (K : Int)) :: (Value.int .i64 0) :: c48 :: c49 :: c50 :: c51 :: c52 :: c53 :: c54 :: c55 :: c56 :: c57 :: c58 :: c59 :: c60 :: c61 :: c62 :: c63 :: c64 :: c65 :: c66 :: c67 :: c68 :: c69 :: c70 :: c71 :: c72 :: c73 :: c74 :: c75 :: c76 :: c77 :: c78 :: c79 :: c80 :: c81 :: c82 :: c83 :: c84 :: c85 :: c86 :: c87 :: c88 :: c89 :: c90 :: c91 :: c92 :: c93 :: c94 :: c95 :: c96 :: c97 :: c98 :: c99 :: c100 :: c101 :: c102 :: c103 :: c104 :: c105 :: c106 :: c107 :: c108 :: c109 :: c110 :: c111 :: c112 :: c113 :: c114 :: c115 :: c116 :: c117 :: c118 :: c119 :: c120 :: c121 :: c122 :: c123 :: c124 :: c125 :: c126 :: c127 :: c128 :: c129 :: c130 :: c131 :: c132 :: c133 :: c134 :: c135 :: c136 :: c137 :: c138 :: c139 :: c140 :: c141 :: c142 :: c143 :: c144 :: c145 :: c146 :: c147 :: c148 :: c149 :: c150 :: c151 :: c152 :: c153 :: c154 :: c155 :: c156 :: c157 :: c158 :: c159 :: c160 :: c161 :: c162 :: c163 :: c164 :: c165 :: c166 :: c167 :: c168 :: c169 :: c170 :: c171 :: c172 :: c173 :: c174 :: c175 :: c176 :: c177 :: c178 :: c179 :: c180 :: c181 :: c182 :: c183 :: c184 :: c185 :: c186 :: c187 :: c188 :: c189 :: c190 :: c191 :: c192 :: c193 :: c194 :: c195 :: c196 :: c197 :: c198 :: c199 :: c200 :: c201 :: c202 :: c203 :: c204 :: c205 :: c206 :: c207 :: c208 :: c209 :: c210 :: c211 :: c212 :: c213 :: c214 :: c215 :: c216 :: c217 :: c218 :: c219 :: c220 :: c221 :: c222 :: c223 :: c224 :: c225 :: c226 :: c227 :: c228 :: c229 :: c230 :: c231 :: c232 :: c233 :: c234 :: c235 :: c236 :: c237 :: c238 :: c239 :: c240 :: c241 :: c242 :: c243 :: c244 :: c245 :: c246 :: c247 :: c248 :: c249 :: c250 :: c251 :: c252 :: c253 :: c254 :: c255 :: c256 :: c257 :: c258 :: c259 :: c260 :: c261 :: c262 :: c263 :: c264 :: c265 :: c266 :: c267 :: c268 :: c269 :: c270 :: c271 :: c272 :: c273 :: c274 :: c275 :: c276 :: c277 :: c278 :: c279 :: c280 :: c281 :: c282 :: c283 :: c284 :: c285 :: c286 :: c287 :: c288 :: c289 :: c290 :: c291 :: c292 :: c293 :: c294 :: c295 :: c296 :: c297 :: c298 :: c299 :: c300 :: c301 :: c302 :: c303 :: c304 :: c305 :: c306 :: c307 :: c308 :: c309 :: c310 :: c311 :: c312 :: c313 :: c314 :: c315 :: c316 :: c317 :: c318 :: c319 :: [])), []⟩ w := by
  conv => arg 2; arg 1; whnf
  generalize hov : ov gG = ovg at *
  have HOV := hidG hov
  clear hov
  go_loopg [47] K (fun g i wr => ∃ k : Nat, k ≤ K ∧ g = K - k ∧ i = .int .i64 k ∧ Hid (GI wr B τ ps ov ∧ Step B [2] w τ wr τ ∧ IB wr st (N + 1) (cntF (flat (P.take k)))))
  case atStart => exact ⟨0, by omega, by omega, rfl, hidG ⟨H.out, Step.refl _ _ _ _, by simpa [flat] using HS.out⟩⟩
  case round =>
    obtain ⟨k, hk, rfl, rfl, HI⟩ := hrel
    by_cases hlt : k < K
    · have hlt' : (k : Int) < (K : Int) := by omega
      obtain ⟨p, hp⟩ : ∃ p, P[k]? = some p := ⟨_, List.getElem?_eq_getElem (by rw [HK.out]; exact hlt)⟩
      have hp' : (ps gG)[k]? = some (some p) := by rw [HG.out, List.getElem?_map, hp]; rfl
      obtain ⟨hI, hst, hS⟩ := HI.out
      obtain ⟨xs, hr, hxl, hxp⟩ := hI.row gG
      rw [HOV.out] at hr
      have hxK : xs.length = K := by rw [hxl, HG.out, List.length_map, HK.out]
      obtain ⟨ob, cp, hv, hcap, hcap', hcell, _, hobw⟩ := hr.len (by omega)
      rw [hxK] at hv hcap
      have c1 := hcell k _ (hxp k p hp')
      unfold Part.val at c1
      obtain ⟨hP, ht⟩ := hI.part gG k p hp'
      have hne : st ≠ p.b := by intro e; rw [← e, Hst.out] at ht; cases ht
      have HP := hidG hP
      have HS2 := hidG hS
      have HTp := hidG (HT.out.part hp)
      have hll := flat_le P k p hp
      have HFT := hidG (flat_take P k p hp)
      have hpl := hP.le
      have hBw : B ≤ wr.heap.size := Nat.le_trans hB hst.below.size
      have HI' := hidG hI
      have HST := hidG hst
      clear HI hI hst hS hxp hr hxl hxK hcell hp hp' ht hP
      generalize hb : p.b = b at *
      generalize hc : p.cap = cap at *
      generalize he : p.es = es at *
      clear hb hc he
      subst hv
      have HLe : Hid (es.length = es.length) := rfl
      generalize hL0 : es.length = L at *
      have hL2 : L ≤ 1048576 := by omega
      go_wp2_with fail
      refine loop2 st b N L cap (flat (P.take k)) es wr _ hN (by omega) hpl hL0 HTp HP HS2 hne ?_
      intro v6 v53 v54 v55 v56 v57 v58 v59 v60 v61 v62 v63 v64 v65 w2 H2
      have HN : Hid (GI w2 B τ ps ov ∧ Step B [2] w τ w2 τ ∧ IB w2 st (N + 1) (cntF (flat (P.take (k + 1))))) := by
        obtain ⟨h1, h2⟩ := H2.out
        obtain ⟨g1, g2⟩ := HI'.out.step hBw h1 (K := [2]) (by intro c hc; simp at hc; subst hc; exact ⟨2, by simp, Hst.out⟩)
        exact ⟨g1, HST.out.trans g2, by rw [HFT.out]; exact h2⟩
      clear H2 HI' HST HFT HP HS2
      go_wp2_with fail
      go_roundg (K - (k + 1))
      case measure => omega
      case rel => exact ⟨k + 1, by omega, rfl, by go_num, HN⟩
    · have hge : k = K := by omega
      subst hge
      have HQ := HI
      rw [show P.take k = P from List.take_of_length_le (by rw [HK.out]; exact Nat.le_refl _)] at HQ
      clear HI
      go_wp2_with fail
      exact HQ

end Go.Proofs.Qxb6601127a
