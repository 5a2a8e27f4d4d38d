import Derived.Test.Qxb6601127aGR40
namespace Go.Proofs.Qxb6601127a
open Go.RowKit
set_option linter.unusedVariables false
set_option linter.unusedSimpArgs false

/-- one edge more where there is room -/
theorem PartAt.push {w : World} {b cap : Nat} {es : List Edge} (h : PartAt w b cap es) (hr : es.length < cap) (e : Edge) : PartAt (set3 w b es.length e) b cap (es ++ [e]) := by
  obtain ⟨r, hb, hl⟩ := h
  obtain ⟨d, r', rfl⟩ : ∃ d r', r = d :: r' := by
    rcases r with _ | ⟨d, r⟩
    · simp at hl; omega
    exact ⟨d, r, rfl⟩
  refine ⟨r', ?_, by simp at hl ⊢; omega⟩
  have h3 := ((hb.set (es.length * 3) (.int .i32 e.1)).set (es.length * 3 + 1) (.int .i32 e.2.1)).set (es.length * 3 + 2) (.int .u32 e.2.2)
  have e4 := ev_set (es ++ d :: r') [] es.length e (by simp)
  simp only [List.append_nil] at e4
  rw [e4] at h3
  have e5 : (es ++ d :: r').set es.length e = (es ++ [e]) ++ r' := by
    rw [List.set_append_right _ _ (Nat.le_refl _)]; simp
  rw [e5] at h3
  exact h3

theorem PartAt.spare {w : World} {b cap : Nat} {es : List Edge} (h : PartAt w b cap es) (hr : es.length < cap) : ∃ y0 y1 y2, w.cell? ⟨b, es.length * 3, none⟩ = some y0 ∧ w.cell? ⟨b, es.length * 3 + 1, none⟩ = some y1 ∧ w.cell? ⟨b, es.length * 3 + 2, none⟩ = some y2 := by
  obtain ⟨r, hb, hl⟩ := h
  have hl' := ev_length (es ++ r)
  have hget : ∀ j, j < 3 → ∃ y, w.cell? ⟨b, es.length * 3 + j, none⟩ = some y := by
    intro j hj
    rw [hb.cell]
    exact ⟨_, List.getElem?_eq_getElem (by rw [hl', List.length_append]; omega)⟩
  obtain ⟨y0, h0⟩ := hget 0 (by omega)
  obtain ⟨y1, h1⟩ := hget 1 (by omega)
  obtain ⟨y2, h2⟩ := hget 2 (by omega)
  exact ⟨y0, y1, y2, h0, h1, h2⟩

set_option maxRecDepth 1000000 in
set_option maxHeartbeats 1000000 in
theorem region40R (rb lf spb R sh B M r bx : Nat) (E ds : List Edge) (τ : Nat → Role) (ps : Nat → List (Option Part)) (ov : Nat → Value) (P : List Part) (p : Part) (e : Edge) (w : World) (Q : Exit → Act → World → Prop)
    (hr : r < R) (hR : R ≤ 1024) (hB : B ≤ w.heap.size) (H : Hid (P1R w B τ ps ov rb lf spb R sh E ds M r P p)) (hds : ds.length ≤ 1048576) (HBX : Hid (Blk w bx [.int .i32 e.1, .int .i32 e.2.1, .int .u32 e.2.2] 70)) (hbx : τ bx = .fix 9) (he : e.1.toNat / 2 ^ sh = r) {c0 c1 c2 c3 c4 c5 c6 c7 c8 c9 c10 c11 c12 c13 c14 c15 c16 c18 c20 c21 c22 c23 c24 c25 c26 c27 c28 c29 c30 c31 c32 c33 c34 c35 c36 c37 c38 c39 c40 c41 c42 c43 c44 c45 c46 c47 c48 c49 c50 c51 c52 c53 c54 c55 c56 c57 c58 c59 c60 c61 c62 c63 c64 c65 c66 c67 c68 c69 c70 c71 c72 c73 c74 c75 c76 c77 c78 c79 c80 c81 c82 c83 c84 c85 c86 c87 c88 c89 c90 c91 c92 c93 c94 c95 c96 c97 c98 c99 c100 c101 c102 c103 c104 c105 c106 c107 c108 c109 c110 c111 c112 c113 c114 c115 c116 c117 c118 c119 c120 c121 c122 c123 c124 c125 c126 c127 c128 c129 c130 c131 c132 c133 c134 c135 c136 c137 c138 c139 c140 c141 c142 c143 c144 c145 c146 c147 c148 c149 c150 c151 c152 c153 c154 c155 c156 c157 c158 c159 c160 c161 c162 c163 c164 c165 c166 c167 c168 c169 c170 c171 c172 c173 c174 c175 c176 c177 c178 c179 c180 c181 c182 c183 c184 c185 c186 c187 c188 c189 c190 c191 c192 c193 c194 c195 c196 c197 c198 c199 c200 c201 c202 c203 c204 c205 c206 c207 c208 c209 c210 c211 c212 c213 c214 c215 c216 c217 c218 c219 c220 c221 c222 c223 c224 c225 c226 c227 c228 c229 c230 c231 c232 c233 c234 c235 c236 c237 c238 c239 c240 c241 c242 c243 c244 c245 c246 c247 c248 c249 c250 c251 c252 c253 c254 c255 c256 c257 c258 c259 c260 c261 c262 c263 c264 c265 c266 c267 c268 c269 c270 c271 c272 c273 c274 c275 c276 c277 c278 c279 c280 c281 c282 c283 c284 c285 c286 c287 c288 c289 c290 c291 c292 c293 c294 c295 c296 c297 c298 c299 c300 c301 c302 c303 c304 c305 c306 c307 c308 c309 c310 c311 c312 c313 c314 c315 c316 c317 c318 c319 : Value}
    (hq : ∀ u194 u195 u196 u197 u198 u199 u200 u201 u202 u203 u204 u205 u206 u207 u208 u209 u210 u211 u212 u213 u214 u215 w', Hid (∃ ps', P1 w' B τ ps' ov rb lf spb R sh E (ds ++ [e]) ds M ∧ Step B [] w τ w' τ ∧ ps' gG = ps gG) → Q .normal ⟨(List.toArray (c0 :: c1 :: c2 :: c3 :: c4 :: c5 :: c6 :: c7 :: c8 :: c9 :: c10 :: c11 :: c12 :: c13 :: c14 :: c15 :: c16 :: (Value.pointer (some ⟨bx, 0, none⟩)) :: c18 :: (Value.pointer (some ⟨rb, r, none⟩)) :: c20 :: c21 :: c22 :: c23 :: c24 :: c25 :: c26 :: c27 :: c28 :: c29 :: c30 :: c31 :: c32 :: c33 :: c34 :: c35 :: c36 :: c37 :: c38 :: c39 :: c40 :: c41 :: c42 :: c43 :: c44 :: c45 :: c46 :: c47 :: c48 :: c49 :: c50 :: c51 :: c52 :: c53 :: c54 :: c55 :: c56 :: c57 :: c58 :: c59 :: c60 :: c61 :: c62 :: c63 :: c64 :: c65 :: c66 :: c67 :: c68 :: c69 :: c70 :: c71 :: c72 :: c73 :: c74 :: c75 :: c76 :: c77 :: c78 :: c79 :: c80 :: c81 :: c82 :: c83 :: c84 :: c85 :: c86 :: c87 :: c88 :: c89 :: c90 :: c91 :: c92 :: c93 :: c94 :: c95 :: c96 :: c97 :: c98 :: c99 :: c100 :: c101 :: c102 :: c103 :: c104 :: c105 :: c106 :: c107 :: c108 :: c109 :: c110 :: c111 :: c112 :: c113 :: c114 :: c115 :: c116 :: c117 :: c118 :: c119 :: c120 :: c121 :: c122 :: c123 :: c124 :: c125 :: c126 :: c127 :: c128 :: c129 :: c130 :: c131 :: c132 :: c133 :: c134 :: c135 :: c136 :: c137 :: c138 :: c139 :: c140 :: c141 :: c142 :: c143 :: c144 :: c145 :: c146 :: c147 :: c148 :: c149 :: c150 :: c151 :: c152 :: c153 :: c154 :: c155 :: c156 :: c157 :: c158 :: c159 :: c160 :: c161 :: c162 :: c163 :: c164 :: c165 :: c166 :: c167 :: c168 :: c169 :: c170 :: c171 :: c172 :: c173 :: c174 :: c175 :: c176 :: c177 :: c178 :: c179 :: c180 :: c181 :: c182 :: c183 :: c184 :: c185 :: c186 :: c187 :: c188 :: c189 :: c190 :: c191 :: c192 :: c193 :: u194 :: u195 :: u196 :: u197 :: u198 :: u199 :: u200 :: u201 :: u202 :: u203 :: u204 :: u205 :: u206 :: u207 :: u208 :: u209 :: u210 :: u211 :: u212 :: u213 :: u214 :: u215 :: c216 :: c217 :: c218 :: c219 :: c220 :: c221 :: c222 :: c223 :: c224 :: c225 :: c226 :: c227 :: c228 :: c229 :: c230 :: c231 :: c232 :: c233 :: c234 :: c235 :: c236 :: c237 :: c238 :: c239 :: c240 :: c241 :: c242 :: c243 :: c244 :: c245 :: c246 :: c247 :: c248 :: c249 :: c250 :: c251 :: c252 :: c253 :: c254 :: c255 :: c256 :: c257 :: c258 :: c259 :: c260 :: c261 :: c262 :: c263 :: c264 :: c265 :: c266 :: c267 :: c268 :: c269 :: c270 :: c271 :: c272 :: c273 :: c274 :: c275 :: c276 :: c277 :: c278 :: c279 :: c280 :: c281 :: c282 :: c283 :: c284 :: c285 :: c286 :: c287 :: c288 :: c289 :: c290 :: c291 :: c292 :: c293 :: c294 :: c295 :: c296 :: c297 :: c298 :: c299 :: c300 :: c301 :: c302 :: c303 :: c304 :: c305 :: c306 :: c307 :: c308 :: c309 :: c310 :: c311 :: c312 :: c313 :: c314 :: c315 :: c316 :: c317 :: c318 :: c319 :: [])), []⟩ w') :
    (regionOf Try.f34 40).wp Try.prog Q ⟨(List.toArray (c0 :: c1 :: c2 :: c3 :: c4 :: c5 :: c6 :: c7 :: c8 :: c9 :: c10 :: c11 :: c12 :: c13 :: c14 :: c15 :: c16 :: (Value.pointer (some ⟨bx, 0, none⟩)) :: c18 :: (Value.pointer (some ⟨rb, r, none⟩)) :: c20 :: c21 :: c22 :: c23 :: c24 :: c25 :: c26 :: c27 :: c28 :: c29 :: c30 :: c31 :: c32 :: c33 :: c34 :: c35 :: c36 :: c37 :: c38 :: c39 :: c40 :: c41 :: c42 :: c43 :: c44 :: c45 :: c46 :: c47 :: c48 :: c49 :: c50 :: c51 :: c52 :: c53 :: c54 :: c55 :: c56 :: c57 :: c58 :: c59 :: c60 :: c61 :: c62 :: c63 :: c64 :: c65 :: c66 :: c67 :: c68 :: c69 :: c70 :: c71 :: c72 :: c73 :: c74 :: c75 :: c76 :: c77 :: c78 :: c79 :: c80 :: c81 :: c82 :: c83 :: c84 :: c85 :: c86 :: c87 :: c88 :: c89 :: c90 :: c91 :: c92 :: c93 :: c94 :: c95 :: c96 :: c97 :: c98 :: c99 :: c100 :: c101 :: c102 :: c103 :: c104 :: c105 :: c106 :: c107 :: c108 :: c109 :: c110 :: c111 :: c112 :: c113 :: c114 :: c115 :: c116 :: c117 :: c118 :: c119 :: c120 :: c121 :: c122 :: c123 :: c124 :: c125 :: c126 :: c127 :: c128 :: c129 :: c130 :: c131 :: c132 :: c133 :: c134 :: c135 :: c136 :: c137 :: c138 :: c139 :: c140 :: c141 :: c142 :: c143 :: c144 :: c145 :: c146 :: c147 :: c148 :: c149 :: c150 :: c151 :: c152 :: c153 :: c154 :: c155 :: c156 :: c157 :: c158 :: c159 :: c160 :: c161 :: c162 :: c163 :: c164 :: c165 :: c166 :: c167 :: c168 :: c169 :: c170 :: c171 :: c172 :: c173 :: c174 :: c175 :: c176 :: c177 :: c178 :: c179 :: c180 :: c181 :: c182 :: c183 :: c184 :: c185 :: c186 :: c187 :: c188 :: c189 :: c190 :: c191 :: c192 :: c193 :: c194 :: c195 :: c196 :: c197 :: c198 :: c199 :: c200 :: c201 :: c202 :: c203 :: c204 :: c205 :: c206 :: c207 :: c208 :: c209 :: c210 :: c211 :: c212 :: c213 :: c214 :: c215 :: c216 :: c217 :: c218 :: c219 :: c220 :: c221 :: c222 :: c223 :: c224 :: c225 :: c226 :: c227 :: c228 :: c229 :: c230 :: c231 :: c232 :: c233 :: c234 :: c235 :: c236 :: c237 :: c238 :: c239 :: c240 :: c241 :: c242 :: c243 :: c244 :: c245 :: c246 :: c247 :: c248 :: c249 :: c250 :: c251 :: c252 :: c253 :: c254 :: c255 :: c256 :: c257 :: c258 :: c259 :: c260 :: c261 :: c262 :: c263 :: c264 :: c265 :: c266 :: c267 :: c268 :: c269 :: c270 :: c271 :: c272 :: c273 :: c274 :: c275 :: c276 :: c277 :: c278 :: c279 :: c280 :: c281 :: c282 :: c283 :: c284 :: c285 :: c286 :: c287 :: c288 :: c289 :: c290 :: c291 :: c292 :: c293 :: c294 :: c295 :: c296 :: c297 :: c298 :: c299 :: c300 :: c301 :: c302 :: c303 :: c304 :: c305 :: c306 :: c307 :: c308 :: c309 :: c310 :: c311 :: c312 :: c313 :: c314 :: c315 :: c316 :: c317 :: c318 :: c319 :: [])), []⟩ w := by
  have h := H.out
  obtain ⟨xs, hx⟩ := h.gi.rowOf r
  have hlast : (ps r)[P.length]? = some (some p) := by rw [h.last]; simp
  have hxl : xs.length = P.length + 1 := by rw [hx.2.1, h.last]; simp
  obtain ⟨ob, cp, hv, hcp, hcp', hcell, hfro, hobl⟩ := hx.1.len (by omega)
  rw [hxl] at hv hcp
  have hob : (ov r).ownBlock = some ob := by rw [hv]; rfl
  have tob := h.gi.out r ob hob
  obtain ⟨hP, tp⟩ := h.gi.part r P.length p hlast
  have k1 : w.cell? ⟨rb, r, none⟩ = some (.slice (some ⟨ob, 0, none⟩) (P.length + 1) cp) := by rw [← hv]; exact h.rg.cell hr
  have k2 := hcell P.length _ (hx.2.2 P.length p hlast)
  unfold Part.val at k2
  obtain ⟨y0, y1, y2, z0, z1, z2⟩ := hP.spare h.room
  have hPl : P.length ≤ 1048576 := by
    have a1 := flat_len h.full
    have a2 := rgE_le sh r ds
    rw [← h.holds] at a2
    simp at a2
    omega
  have hne : ∀ {a b : Nat} {x y : Role}, τ a = x → τ b = y → x ≠ y → a ≠ b := by
    intro a b x y ha hb hxy hab
    subst hab; exact hxy (ha.symm.trans hb)
  have x1 : w.cell? ⟨bx, 0, none⟩ = some (.int .i32 e.1) := by rw [HBX.out.cell]; rfl
  have x2 : w.cell? ⟨bx, 1, none⟩ = some (.int .i32 e.2.1) := by rw [HBX.out.cell]; rfl
  have x3 : w.cell? ⟨bx, 2, none⟩ = some (.int .u32 e.2.2) := by rw [HBX.out.cell]; rfl
  refine region40 rb r bx ob P.length cp p.b p.es.length p.cap e.1 e.2.1 e.2.2 y0 y1 y2 w Q hPl hcp hcp' h.room (Nat.le_trans h.pcap (by omega)) k1 k2 (hfro _) x1 x2 x3 z0 z1 z2 (fun i => hP.frozen i) (hne tp tob (by simp)) (hne tp h.t4 (by simp)) (hne tob h.t4 (by simp)) (hne hbx tp (by simp)) (hne hbx tob (by simp)) ?_
  intro u194 u195 u196 u197 u198 u199 u200 u201 u202 u203 u204 u205 u206 u207 u208 u209 u210 u211 u212 u213 u214 u215 w' hw
  refine hq _ _ _ _ _ _ _ _ _ _ _ _ _ _ _ _ _ _ _ _ _ _ _ ?_
  have hbo : p.b ≠ ob := hne tp tob (by simp)
  have hw' := hw.out
  have hk : Keeps [p.b, ob] w w' := by
    rw [hw']
    exact (((((Keeps.refl [p.b, ob] w).setCell (.inl (by simp)) _).setCell (.inl (by simp)) _).setCell (.inl (by simp)) _).setCell (.inl (by simp)) _ |>.alloc _).drew
  have hP' : PartAt w' p.b p.cap (p.es ++ [e]) := by
    have a1 := hP.push h.room e
    refine a1.of_block ?_
    rw [hw']
    show (World.alloc _ _).heap[p.b]? = _
    rw [Below.heap_alloc _ _ _ (by simpa [set3, World.setCell] using hP.lt), Below.heap_setCell _ _ _ _ hbo]
  have hR' : Row w' (ov r) (xs.set P.length (Part.val ⟨p.b, p.cap, p.es ++ [e]⟩)) := by
    have a1 : Row (set3 w p.b p.es.length e) (ov r) xs := hx.1.of_blocks fun g hg => set3_other _ _ _ _ _ (by rw [hob] at hg; cases hg; exact hbo.symm)
    rw [hv] at a1
    have a2 := a1.set (i := P.length) (by omega) (Part.val ⟨p.b, p.cap, p.es ++ [e]⟩)
    rw [hv]
    refine a2.of_blocks fun g hg => ?_
    cases hg
    rw [hw']
    show (World.alloc _ _).heap[ob]? = _
    rw [Below.heap_alloc _ _ _ (by simpa [set3, World.setCell] using hobl)]
    simp [Part.val]
  exact h.push hB hr hR he hx hob hk hP' hR'

end Go.Proofs.Qxb6601127a
