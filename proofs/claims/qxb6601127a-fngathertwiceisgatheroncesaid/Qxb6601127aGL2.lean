import Derived.Test.Qxb6601127aGCount
namespace Go.Proofs.Qxb6601127a
open Go.RowKit
set_option linter.unusedVariables false
set_option linter.unusedSimpArgs false

def loopsIn : Code → List Code
  | .loop c => c :: loopsIn c
  | .seq a b => loopsIn a ++ loopsIn b
  | .block _ c => loopsIn c
  | .scope c => loopsIn c
  | .cond _ a b => loopsIn a ++ loopsIn b
  | _ => []

/-- the k-th loop of a function -/
def loopOf (f : Func) (k : Nat) : Code := ((f.body.map loopsIn).getD []).getD k .skip

set_option maxRecDepth 1000000 in
set_option maxHeartbeats 4000000 in
theorem loop2 (st b N L cap : Nat) (ds es : List Edge) (w : World) (Q : Exit → Act → World → Prop)
    (hN : N ≤ 65536) (hL : ds.length + L ≤ 1048576) (hLc : L ≤ cap) (HL : Hid (es.length = L)) (HT : Hid (Tails N es)) (HP : Hid (PartAt w b cap es)) (HS : Hid (IB w st (N + 1) (cntF ds))) (hne : st ≠ b) {c0 c1 c3 c4 c5 c6 c7 c8 c9 c10 c11 c12 c13 c14 c15 c16 c17 c18 c19 c20 c21 c22 c23 c24 c25 c26 c27 c28 c29 c30 c31 c32 c33 c34 c35 c36 c37 c38 c39 c40 c41 c42 c43 c44 c45 c46 c47 c48 c49 c50 c54 c55 c56 c57 c58 c59 c60 c61 c62 c63 c64 c65 c66 c67 c68 c69 c70 c71 c72 c73 c74 c75 c76 c77 c78 c79 c80 c81 c82 c83 c84 c85 c86 c87 c88 c89 c90 c91 c92 c93 c94 c95 c96 c97 c98 c99 c100 c101 c102 c103 c104 c105 c106 c107 c108 c109 c110 c111 c112 c113 c114 c115 c116 c117 c118 c119 c120 c121 c122 c123 c124 c125 c126 c127 c128 c129 c130 c131 c132 c133 c134 c135 c136 c137 c138 c139 c140 c141 c142 c143 c144 c145 c146 c147 c148 c149 c150 c151 c152 c153 c154 c155 c156 c157 c158 c159 c160 c161 c162 c163 c164 c165 c166 c167 c168 c169 c170 c171 c172 c173 c174 c175 c176 c177 c178 c179 c180 c181 c182 c183 c184 c185 c186 c187 c188 c189 c190 c191 c192 c193 c194 c195 c196 c197 c198 c199 c200 c201 c202 c203 c204 c205 c206 c207 c208 c209 c210 c211 c212 c213 c214 c215 c216 c217 c218 c219 c220 c221 c222 c223 c224 c225 c226 c227 c228 c229 c230 c231 c232 c233 c234 c235 c236 c237 c238 c239 c240 c241 c242 c243 c244 c245 c246 c247 c248 c249 c250 c251 c252 c253 c254 c255 c256 c257 c258 c259 c260 c261 c262 c263 c264 c265 c266 c267 c268 c269 c270 c271 c272 c273 c274 c275 c276 c277 c278 c279 c280 c281 c282 c283 c284 c285 c286 c287 c288 c289 c290 c291 c292 c293 c294 c295 c296 c297 c298 c299 c300 c301 c302 c303 c304 c305 c306 c307 c308 c309 c310 c311 c312 c313 c314 c315 c316 c317 c318 c319 : Value}
    (hexit : ∀ u6 u53 u54 u55 u56 u57 u58 u59 u60 u61 u62 u63 u64 u65 w', Hid (Keeps [st] w w' ∧ IB w' st (N + 1) (cntF (ds ++ es))) → Q (.exit 2) ⟨(List.toArray (c0 :: c1 :: (Value.slice (some ⟨st, 0, none⟩) (N + 1) (N + 1)) :: c3 :: c4 :: c5 :: u6 :: c7 :: c8 :: c9 :: c10 :: c11 :: c12 :: c13 :: c14 :: c15 :: c16 :: c17 :: c18 :: c19 :: c20 :: c21 :: c22 :: c23 :: c24 :: c25 :: c26 :: c27 :: c28 :: c29 :: c30 :: c31 :: c32 :: c33 :: c34 :: c35 :: c36 :: c37 :: c38 :: c39 :: c40 :: c41 :: c42 :: c43 :: c44 :: c45 :: c46 :: c47 :: c48 :: c49 :: c50 :: (Value.slice (some ⟨b, 0, none⟩) L cap) :: (Value.int .i64 (L : Int)) :: u53 :: u54 :: u55 :: u56 :: u57 :: u58 :: u59 :: u60 :: u61 :: u62 :: u63 :: u64 :: u65 :: c66 :: c67 :: c68 :: c69 :: c70 :: c71 :: c72 :: c73 :: c74 :: c75 :: c76 :: c77 :: c78 :: c79 :: c80 :: c81 :: c82 :: c83 :: c84 :: c85 :: c86 :: c87 :: c88 :: c89 :: c90 :: c91 :: c92 :: c93 :: c94 :: c95 :: c96 :: c97 :: c98 :: c99 :: c100 :: c101 :: c102 :: c103 :: c104 :: c105 :: c106 :: c107 :: c108 :: c109 :: c110 :: c111 :: c112 :: c113 :: c114 :: c115 :: c116 :: c117 :: c118 :: c119 :: c120 :: c121 :: c122 :: c123 :: c124 :: c125 :: c126 :: c127 :: c128 :: c129 :: c130 :: c131 :: c132 :: c133 :: c134 :: c135 :: c136 :: c137 :: c138 :: c139 :: c140 :: c141 :: c142 :: c143 :: c144 :: c145 :: c146 :: c147 :: c148 :: c149 :: c150 :: c151 :: c152 :: c153 :: c154 :: c155 :: c156 :: c157 :: c158 :: c159 :: c160 :: c161 :: c162 :: c163 :: c164 :: c165 :: c166 :: c167 :: c168 :: c169 :: c170 :: c171 :: c172 :: c173 :: c174 :: c175 :: c176 :: c177 :: c178 :: c179 :: c180 :: c181 :: c182 :: c183 :: c184 :: c185 :: c186 :: c187 :: c188 :: c189 :: c190 :: c191 :: c192 :: c193 :: c194 :: c195 :: c196 :: c197 :: c198 :: c199 :: c200 :: c201 :: c202 :: c203 :: c204 :: c205 :: c206 :: c207 :: c208 :: c209 :: c210 :: c211 :: c212 :: c213 :: c214 :: c215 :: c216 :: c217 :: c218 :: c219 :: c220 :: c221 :: c222 :: c223 :: c224 :: c225 :: c226 :: c227 :: c228 :: c229 :: c230 :: c231 :: c232 :: c233 :: c234 :: c235 :: c236 :: c237 :: c238 :: c239 :: c240 :: c241 :: c242 :: c243 :: c244 :: c245 :: c246 :: c247 :: c248 :: c249 :: c250 :: c251 :: c252 :: c253 :: c254 :: c255 :: c256 :: c257 :: c258 :: c259 :: c260 :: c261 :: c262 :: c263 :: c264 :: c265 :: c266 :: c267 :: c268 :: c269 :: c270 :: c271 :: c272 :: c273 :: c274 :: c275 :: c276 :: c277 :: c278 :: c279 :: c280 :: c281 :: c282 :: c283 :: c284 :: c285 :: c286 :: c287 :: c288 :: c289 :: c290 :: c291 :: c292 :: c293 :: c294 :: c295 :: c296 :: c297 :: c298 :: c299 :: c300 :: c301 :: c302 :: c303 :: c304 :: c305 :: c306 :: c307 :: c308 :: c309 :: c310 :: c311 :: c312 :: c313 :: c314 :: c315 :: c316 :: c317 :: c318 :: c319 :: [])), []⟩ w') :
    (Code.loop (loopOf Try.f34 1)).wp Try.prog Q ⟨(List.toArray (c0 :: c1 :: (Value.slice (some ⟨st, 0, none⟩) (N + 1) (N + 1)) :: c3 :: c4 :: c5 :: c6 :: c7 :: c8 :: c9 :: c10 :: c11 :: c12 :: c13 :: c14 :: c15 :: c16 :: c17 :: c18 :: c19 :: c20 :: c21 :: c22 :: c23 :: c24 :: c25 :: c26 :: c27 :: c28 :: c29 :: c30 :: c31 :: c32 :: c33 :: c34 :: c35 :: c36 :: c37 :: c38 :: c39 :: c40 :: c41 :: c42 :: c43 :: c44 :: c45 :: c46 :: c47 :: c48 :: c49 :: c50 :: (Value.slice (some ⟨b, 0, none⟩) L cap) :: (Value.int .i64 (L : Int)) :: (Value.int .i64 0) :: c54 :: c55 :: c56 :: c57 :: c58 :: c59 :: c60 :: c61 :: c62 :: c63 :: c64 :: c65 :: c66 :: c67 :: c68 :: c69 :: c70 :: c71 :: c72 :: c73 :: c74 :: c75 :: c76 :: c77 :: c78 :: c79 :: c80 :: c81 :: c82 :: c83 :: c84 :: c85 :: c86 :: c87 :: c88 :: c89 :: c90 :: c91 :: c92 :: c93 :: c94 :: c95 :: c96 :: c97 :: c98 :: c99 :: c100 :: c101 :: c102 :: c103 :: c104 :: c105 :: c106 :: c107 :: c108 :: c109 :: c110 :: c111 :: c112 :: c113 :: c114 :: c115 :: c116 :: c117 :: c118 :: c119 :: c120 :: c121 :: c122 :: c123 :: c124 :: c125 :: c126 :: c127 :: c128 :: c129 :: c130 :: c131 :: c132 :: c133 :: c134 :: c135 :: c136 :: c137 :: c138 :: c139 :: c140 :: c141 :: c142 :: c143 :: c144 :: c145 :: c146 :: c147 :: c148 :: c149 :: c150 :: c151 :: c152 :: c153 :: c154 :: c155 :: c156 :: c157 :: c158 :: c159 :: c160 :: c161 :: c162 :: c163 :: c164 :: c165 :: c166 :: c167 :: c168 :: c169 :: c170 :: c171 :: c172 :: c173 :: c174 :: c175 :: c176 :: c177 :: c178 :: c179 :: c180 :: c181 :: c182 :: c183 :: c184 :: c185 :: c186 :: c187 :: c188 :: c189 :: c190 :: c191 :: c192 :: c193 :: c194 :: c195 :: c196 :: c197 :: c198 :: c199 :: c200 :: c201 :: c202 :: c203 :: c204 :: c205 :: c206 :: c207 :: c208 :: c209 :: c210 :: c211 :: c212 :: c213 :: c214 :: c215 :: c216 :: c217 :: c218 :: c219 :: c220 :: c221 :: c222 :: c223 :: c224 :: c225 :: c226 :: c227 :: c228 :: c229 :: c230 :: c231 :: c232 :: c233 :: c234 :: c235 :: c236 :: c237 :: c238 :: c239 :: c240 :: c241 :: c242 :: c243 :: c244 :: c245 :: c246 :: c247 :: c248 :: c249 :: c250 :: c251 :: c252 :: c253 :: c254 :: c255 :: c256 :: c257 :: c258 :: c259 :: c260 :: c261 :: c262 :: c263 :: c264 :: c265 :: c266 :: c267 :: c268 :: c269 :: c270 :: c271 :: c272 :: c273 :: c274 :: c275 :: c276 :: c277 :: c278 :: c279 :: c280 :: c281 :: c282 :: c283 :: c284 :: c285 :: c286 :: c287 :: c288 :: c289 :: c290 :: c291 :: c292 :: c293 :: c294 :: c295 :: c296 :: c297 :: c298 :: c299 :: c300 :: c301 :: c302 :: c303 :: c304 :: c305 :: c306 :: c307 :: c308 :: c309 :: c310 :: c311 :: c312 :: c313 :: c314 :: c315 :: c316 :: c317 :: c318 :: c319 :: [])), []⟩ w := by
  conv => arg 2; arg 1; whnf
  go_loopg [53] L (fun g i wr => ∃ k : Nat, k ≤ L ∧ g = L - k ∧ i = .int .i64 k ∧ Hid (Keeps [st] w wr ∧ IB wr st (N + 1) (cntF (ds ++ es.take k))))
  case atStart => exact ⟨0, by omega, by omega, rfl, hidG ⟨Keeps.refl _ _, by simpa using HS.out⟩⟩
  case round =>
    obtain ⟨k, hk, rfl, rfl, HI⟩ := hrel
    by_cases hlt : k < L
    · have hlt' : (k : Int) < (L : Int) := by omega
      obtain ⟨e, he⟩ : ∃ e, es[k]? = some e := ⟨_, List.getElem?_eq_getElem (by rw [HL.out]; exact hlt)⟩
      have ht := HT.out e (List.mem_of_getElem? he)
      obtain ⟨m, hm⟩ : ∃ m : Nat, e.1 = (m : Int) := ⟨e.1.toNat, by omega⟩
      have hmN : m < N := by omega
      obtain ⟨hk1, hS⟩ := HI.out
      have hP : PartAt wr b cap es := HP.out.keeps hk1 (by simp; exact fun h => hne h.symm)
      obtain ⟨g1, g2, g3⟩ := hP.get (i := k) (by rw [HL.out]; exact hlt)
      obtain ⟨q1, q2, q3⟩ := eF_get es k e he
      rw [q1, hm] at g1
      rw [q2] at g2
      rw [q3] at g3
      have hbw : b < wr.heap.size := hP.lt
      have hsw : st < wr.heap.size := hS.lt
      have c1 := hS.cell (i := m + 1) (by omega)
      have f1 := hS.frozen (m + 1)
      have hb1 : 0 ≤ cntF (ds ++ es.take k) (m + 1) ∧ cntF (ds ++ es.take k) (m + 1) ≤ 1048576 := by
        unfold cntF
        have := cntE_le (ds ++ es.take k) (m + 1 - 1)
        rw [if_neg (by omega)]
        simp at this ⊢; omega
      have HN : Hid (∀ w2, w2 = (wr.setCell ⟨st, m + 1, none⟩ (.int .i64 (cntF (ds ++ es.take k) (m + 1) + 1))).alloc (.cells #[.int .i32 (m : Int), .int .i32 e.2.1, .int .u32 e.2.2] 70) → Keeps [st] w w2 ∧ IB w2 st (N + 1) (cntF (ds ++ es.take (k + 1)))) := by
        rintro w2 rfl
        refine ⟨(hk1.setCell (.inl (by simp)) _).alloc _, ?_⟩
        refine ((hS.set (m + 1) _).alloc _).congr fun j hj => ?_
        have : ds ++ es.take (k + 1) = (ds ++ es.take k) ++ [e] := by rw [List.take_add_one, he]; simp
        rw [this, cntF_snoc _ _ m hm]
      have hm1 : (m : Int) + 1 < (N : Int) + 1 := by omega
      clear HI q1 q2 q3 he hS hP hk1 hm ht
      generalize e.2.1 = et at *
      generalize e.2.2 = ek at *
      generalize cntF (ds ++ es.take k) (m + 1) = x at *
      go_wp2_with fail
      go_roundg (L - (k + 1))
      case measure => omega
      case rel => exact ⟨k + 1, by omega, rfl, by go_num, hidG (HN.out _ rfl)⟩
    · have hge : k = L := by omega
      subst hge
      have HQ := HI
      rw [show es.take k = es from List.take_of_length_le (by rw [HL.out]; exact Nat.le_refl _)] at HQ
      clear HI
      go_wp2_with fail
      exact HQ

end Go.Proofs.Qxb6601127a
