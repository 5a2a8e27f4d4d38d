import Derived.Test.Qxb6601127aGR38
namespace Go.Proofs.Qxb6601127a
open Go.RowKit
set_option linter.unusedVariables false
set_option linter.unusedSimpArgs false
attribute [local go_sem] Go.wp_at_zero Go.wp_at_succ

theorem P1.drew {w : World} {B : Nat} {τ : Nat → Role} {ps : Nat → List (Option Part)} {ov : Nat → Value} {rb lf spb R sh : Nat} {E ds dl : List Edge} {M : Nat} (h : P1 w B τ ps ov rb lf spb R sh E ds dl M) (hB : B ≤ w.heap.size) :
    P1 w.drew B τ ps ov rb lf spb R sh E ds dl M ∧ Step B [] w τ w.drew τ := by
  obtain ⟨g, s⟩ := h.gi.step hB ((Keeps.refl [] w).drew) (K := []) (by simp)
  exact ⟨h.step g s, s⟩

/-- the region comes to its end, and nothing else -/
def OnlyN (N : Act → World → Prop) : Exit → Act → World → Prop
  | .normal, a, w => N a w
  | _, _, _ => False

theorem wp_onlyN {P : Program} {c : Code} {Q : Exit → Act → World → Prop} {a : Act} {w : World} (h : c.wp P (OnlyN (fun a w => Q .normal a w)) a w) : c.wp P Q a w := by
  refine wp_mono h ?_
  intro e a' w' hq
  cases e <;> first | exact hq | exact hq.elim

/-- what a cell holds -/
def cellOf (w : World) (a : Addr) : Value := (w.cell? a).getD undef
theorem cellOf_spec {w : World} {a : Addr} {x : Value} (h : w.cell? a = some x) : w.cell? a = some (cellOf w a) := by unfold cellOf; rw [h]; rfl
theorem cellOf_eq {w : World} {a : Addr} {x : Value} (h : w.cell? a = some x) : cellOf w a = x := by unfold cellOf; rw [h]; rfl
theorem alloc_cell {w : World} {a : Addr} {x : Value} (h : w.cell? a = some x) (o : Obj) : (w.alloc o).cell? a = some x :=
  (World.cell?_of_block (w := w) (Below.heap_alloc _ _ _ (World.block_lt_of_cell? w a h))).trans h
theorem set_cell_some {w : World} {a b : Addr} {x v : Value} (h : w.cell? a = some x) : ∃ y, (w.setCell b v).cell? a = some y := by
  obtain ⟨v', h'⟩ := cell?_setCell_some (w := w) (p := b) (x := v) (q := a) (v := x) h
  exact ⟨v', h'⟩

/-- what stands behind the append of region 39 -/
theorem after39 {w w1 w2 : World} {B : Nat} {τ τ1 : Nat → Role} {ps ps1 : Nat → List (Option Part)} {ov ov1 : Nat → Value} {rb lf spb R sh : Nat} {E ds : List Edge} {M : Nat} (h : P1 w B τ ps ov rb lf spb R sh E ds ds M) (hB : B ≤ w.heap.size) {r : Nat} (hr : r < R) (hR : R ≤ 1024)
    {P : List Part} (hP : ps r = P.map some) (hh : flat P = rgE sh r ds) (hf : ∀ q ∈ P, q.es ≠ [] ∧ q.cap ≤ 512)
    {n b : Nat} (hn : 0 < n) (hn5 : n ≤ 512) (hT : Took w B τ ps ov spb n b w1 τ1 ps1 ov1) {v2 sv : Value} (hsv : ov r = sv) {xs : List Value} (hx : RowOf w1 (ps1 r) (ov1 r) xs) {o : Obj}
    (hown : w2.ownsRow 0 68 1 v2 (xs.length + 1) (xs ++ [.slice (some ⟨b, 0, none⟩) 0 n])) (hgrow : (w1.alloc o).grownBy w2 sv.ownBlock) (hat : v2.ownBlock = sv.ownBlock ∨ v2.ownBlock = some (w1.alloc o).heap.size) :
    Hid (∃ τ3 ps3 ov3, P1R (w2.setCell ⟨rb, r, none⟩ v2) B τ3 ps3 ov3 rb lf spb R sh E ds M r P ⟨b, n, []⟩ ∧ Step B [4, 6] w τ (w2.setCell ⟨rb, r, none⟩ v2) τ3 ∧ ps3 gG = ps gG ∧ ov3 gG = ov gG) ∧ w2.cell? ⟨rb, r, none⟩ = some sv ∧ w2.frozen? ⟨rb, r, none⟩ = false ∧ (∀ x : Nat, (x : Int) = ((rgE sh r E).length : Int) - ((rgE sh r ds).length : Int) → w2.cell? ⟨lf, r, none⟩ = some (.int .i64 (x : Int))) ∧ rb ≠ lf := by
  subst hsv
  have hrS : r ≠ gS := by unfold gS; omega
  obtain ⟨hpr, hor⟩ := hT.other r hrS
  rw [← hor] at hgrow hat
  have hk1 : Keeps [] w1 (w1.alloc o) := (Keeps.refl [] w1).alloc o
  refine ⟨h.take hB hr hR hP hh hf hn hn5 hT hk1 hx hown hgrow hat rfl, ?_⟩
  have t4 : τ1 rb = .fix 4 := hT.step.fix _ _ h.t4
  have e1 : w2.heap[rb]? = w.heap[rb]? := by
    have hlt := (live_lt hT.gi t4 (by simp)).2
    rw [hgrow.block rb (by simp; omega) (fun e => by have := hT.gi.out r rb e.symm; rw [t4] at this; cases this), Below.heap_alloc _ _ _ hlt, hT.step.same rb 4 h.t4 (by simp)]
  have hrow := World.rowIs.of_block h.rg e1
  have t5 : τ1 lf = .fix 5 := hT.step.fix _ _ h.t5
  have e2 : w2.heap[lf]? = w.heap[lf]? := by
    have hlt := (live_lt hT.gi t5 (by simp)).2
    rw [hgrow.block lf (by simp; omega) (fun e => by have := hT.gi.out r lf e.symm; rw [t5] at this; cases this), Below.heap_alloc _ _ _ hlt, hT.step.same lf 5 h.t5 (by simp)]
  refine ⟨hrow.cell hr, hrow.frozen r, fun x hx => ?_, fun e => ?_⟩
  · rw [hx]; exact (h.left.of_block e2).cell hr
  · rw [e, t5] at t4; cases t4

theorem took_cells {w w1 : World} {B : Nat} {τ τ1 : Nat → Role} {ps ps1 : Nat → List (Option Part)} {ov ov1 : Nat → Value} {rb lf spb R sh : Nat} {E ds : List Edge} {M : Nat} (h : P1 w B τ ps ov rb lf spb R sh E ds ds M) {n b : Nat} (hT : Took w B τ ps ov spb n b w1 τ1 ps1 ov1)
    {r : Nat} (hr : r < R) {sv : Value} (hsv : ov r = sv) {x : Nat} (hx : (x : Int) = ((rgE sh r E).length : Int) - ((rgE sh r ds).length : Int)) : w1.cell? ⟨rb, r, none⟩ = some sv ∧ w1.cell? ⟨lf, r, none⟩ = some (.int .i64 (x : Int)) := by
  subst hsv
  rw [hx]
  exact ⟨(World.rowIs.of_block h.rg (hT.step.same rb 4 h.t4 (by simp))).cell hr, (h.left.of_block (hT.step.same lf 5 h.t5 (by simp))).cell hr⟩

set_option maxRecDepth 1000000 in
set_option maxHeartbeats 4000000 in
theorem region39 (rb lf spb R sh B M r x : Nat) (E ds : List Edge) (τ : Nat → Role) (ps : Nat → List (Option Part)) (ov : Nat → Value) (P : List Part) (w : World) (Q : Exit → Act → World → Prop)
    (hr : r < R) (hR : R ≤ 1024) (hM : M ≤ 1048576) (hx0 : 0 < x) (hx1 : x ≤ 1048576) (hB : B ≤ w.heap.size) (H : Hid (P1 w B τ ps ov rb lf spb R sh E ds ds M)) (hds : ds.length ≤ 1048576)
    (HX : Hid ((x : Int) = ((rgE sh r E).length : Int) - ((rgE sh r ds).length : Int))) (HP : Hid (ps r = P.map some ∧ flat P = rgE sh r ds ∧ ∀ q ∈ P, q.es ≠ [] ∧ q.cap ≤ 512)) {c0 c1 c2 c3 c4 c5 c6 c7 c8 c9 c10 c12 c14 c15 c16 c17 c20 c21 c22 c23 c24 c25 c26 c27 c28 c29 c30 c31 c32 c33 c34 c35 c36 c37 c38 c39 c40 c41 c42 c43 c44 c45 c46 c47 c48 c49 c50 c51 c52 c53 c54 c55 c56 c57 c58 c59 c60 c61 c62 c63 c64 c65 c66 c67 c68 c69 c70 c71 c72 c73 c74 c75 c76 c77 c78 c79 c80 c81 c82 c83 c84 c85 c86 c87 c88 c89 c90 c91 c92 c93 c94 c95 c96 c97 c98 c99 c100 c101 c102 c103 c104 c105 c106 c107 c108 c109 c110 c111 c112 c113 c114 c115 c116 c117 c118 c119 c120 c121 c122 c123 c124 c125 c126 c127 c128 c129 c130 c131 c132 c133 c134 c135 c136 c137 c138 c139 c140 c141 c142 c143 c144 c145 c146 c147 c148 c149 c150 c151 c152 c153 c154 c155 c156 c157 c158 c159 c160 c161 c162 c163 c164 c165 c166 c167 c168 c169 c170 c171 c172 c173 c174 c175 c176 c177 c178 c179 c180 c181 c182 c183 c184 c185 c186 c187 c188 c189 c190 c191 c192 c193 c194 c195 c196 c197 c198 c199 c200 c201 c202 c203 c204 c205 c206 c207 c208 c209 c210 c211 c212 c213 c214 c215 c216 c217 c218 c219 c220 c221 c222 c223 c224 c225 c226 c227 c228 c229 c230 c231 c232 c233 c234 c235 c236 c237 c238 c239 c240 c241 c242 c243 c244 c245 c246 c247 c248 c249 c250 c251 c252 c253 c254 c255 c256 c257 c258 c259 c260 c261 c262 c263 c264 c265 c266 c267 c268 c269 c270 c271 c272 c273 c274 c275 c276 c277 c278 c279 c280 c281 c282 c283 c284 c285 c286 c287 c288 c289 c290 c291 c292 c293 c294 c295 c296 c297 c298 c299 c300 c301 c302 c303 c304 c305 c306 c307 c308 c309 c310 c311 c312 c313 c314 c315 c316 c317 c318 c319 : Value}
    (hq : ∀ u181 u182 u183 u184 u185 u186 u187 u188 u189 u190 u191 u192 u193 w', Hid (∃ b τ3 ps3 ov3, P1R w' B τ3 ps3 ov3 rb lf spb R sh E ds M r P ⟨b, min 512 x, []⟩ ∧ Step B [4, 6] w τ w' τ3 ∧ ps3 gG = ps gG ∧ ov3 gG = ov gG) → Q .normal ⟨(List.toArray (c0 :: c1 :: c2 :: c3 :: c4 :: c5 :: c6 :: c7 :: c8 :: c9 :: c10 :: (Value.slice (some ⟨lf, 0, none⟩) R R) :: c12 :: (Value.pointer (some ⟨spb, 0, none⟩)) :: c14 :: c15 :: c16 :: c17 :: (Value.int .i64 (r : Int)) :: (Value.pointer (some ⟨rb, r, none⟩)) :: c20 :: c21 :: c22 :: c23 :: c24 :: c25 :: c26 :: c27 :: c28 :: c29 :: c30 :: c31 :: c32 :: c33 :: c34 :: c35 :: c36 :: c37 :: c38 :: c39 :: c40 :: c41 :: c42 :: c43 :: c44 :: c45 :: c46 :: c47 :: c48 :: c49 :: c50 :: c51 :: c52 :: c53 :: c54 :: c55 :: c56 :: c57 :: c58 :: c59 :: c60 :: c61 :: c62 :: c63 :: c64 :: c65 :: c66 :: c67 :: c68 :: c69 :: c70 :: c71 :: c72 :: c73 :: c74 :: c75 :: c76 :: c77 :: c78 :: c79 :: c80 :: c81 :: c82 :: c83 :: c84 :: c85 :: c86 :: c87 :: c88 :: c89 :: c90 :: c91 :: c92 :: c93 :: c94 :: c95 :: c96 :: c97 :: c98 :: c99 :: c100 :: c101 :: c102 :: c103 :: c104 :: c105 :: c106 :: c107 :: c108 :: c109 :: c110 :: c111 :: c112 :: c113 :: c114 :: c115 :: c116 :: c117 :: c118 :: c119 :: c120 :: c121 :: c122 :: c123 :: c124 :: c125 :: c126 :: c127 :: c128 :: c129 :: c130 :: c131 :: c132 :: c133 :: c134 :: c135 :: c136 :: c137 :: c138 :: c139 :: c140 :: c141 :: c142 :: c143 :: c144 :: c145 :: c146 :: c147 :: c148 :: c149 :: c150 :: c151 :: c152 :: c153 :: c154 :: c155 :: c156 :: c157 :: c158 :: c159 :: c160 :: c161 :: c162 :: c163 :: c164 :: c165 :: c166 :: c167 :: c168 :: c169 :: c170 :: c171 :: c172 :: c173 :: c174 :: c175 :: c176 :: c177 :: c178 :: c179 :: c180 :: u181 :: u182 :: u183 :: u184 :: u185 :: u186 :: u187 :: u188 :: u189 :: u190 :: u191 :: u192 :: u193 :: c194 :: c195 :: c196 :: c197 :: c198 :: c199 :: c200 :: c201 :: c202 :: c203 :: c204 :: c205 :: c206 :: c207 :: c208 :: c209 :: c210 :: c211 :: c212 :: c213 :: c214 :: c215 :: c216 :: c217 :: c218 :: c219 :: c220 :: c221 :: c222 :: c223 :: c224 :: c225 :: c226 :: c227 :: c228 :: c229 :: c230 :: c231 :: c232 :: c233 :: c234 :: c235 :: c236 :: c237 :: c238 :: c239 :: c240 :: c241 :: c242 :: c243 :: c244 :: c245 :: c246 :: c247 :: c248 :: c249 :: c250 :: c251 :: c252 :: c253 :: c254 :: c255 :: c256 :: c257 :: c258 :: c259 :: c260 :: c261 :: c262 :: c263 :: c264 :: c265 :: c266 :: c267 :: c268 :: c269 :: c270 :: c271 :: c272 :: c273 :: c274 :: c275 :: c276 :: c277 :: c278 :: c279 :: c280 :: c281 :: c282 :: c283 :: c284 :: c285 :: c286 :: c287 :: c288 :: c289 :: c290 :: c291 :: c292 :: c293 :: c294 :: c295 :: c296 :: c297 :: c298 :: c299 :: c300 :: c301 :: c302 :: c303 :: c304 :: c305 :: c306 :: c307 :: c308 :: c309 :: c310 :: c311 :: c312 :: c313 :: c314 :: c315 :: c316 :: c317 :: c318 :: c319 :: [])), []⟩ w') :
    (regionOf Try.f34 39).wp Try.prog Q ⟨(List.toArray (c0 :: c1 :: c2 :: c3 :: c4 :: c5 :: c6 :: c7 :: c8 :: c9 :: c10 :: (Value.slice (some ⟨lf, 0, none⟩) R R) :: c12 :: (Value.pointer (some ⟨spb, 0, none⟩)) :: c14 :: c15 :: c16 :: c17 :: (Value.int .i64 (r : Int)) :: (Value.pointer (some ⟨rb, r, none⟩)) :: c20 :: c21 :: c22 :: c23 :: c24 :: c25 :: c26 :: c27 :: c28 :: c29 :: c30 :: c31 :: c32 :: c33 :: c34 :: c35 :: c36 :: c37 :: c38 :: c39 :: c40 :: c41 :: c42 :: c43 :: c44 :: c45 :: c46 :: c47 :: c48 :: c49 :: c50 :: c51 :: c52 :: c53 :: c54 :: c55 :: c56 :: c57 :: c58 :: c59 :: c60 :: c61 :: c62 :: c63 :: c64 :: c65 :: c66 :: c67 :: c68 :: c69 :: c70 :: c71 :: c72 :: c73 :: c74 :: c75 :: c76 :: c77 :: c78 :: c79 :: c80 :: c81 :: c82 :: c83 :: c84 :: c85 :: c86 :: c87 :: c88 :: c89 :: c90 :: c91 :: c92 :: c93 :: c94 :: c95 :: c96 :: c97 :: c98 :: c99 :: c100 :: c101 :: c102 :: c103 :: c104 :: c105 :: c106 :: c107 :: c108 :: c109 :: c110 :: c111 :: c112 :: c113 :: c114 :: c115 :: c116 :: c117 :: c118 :: c119 :: c120 :: c121 :: c122 :: c123 :: c124 :: c125 :: c126 :: c127 :: c128 :: c129 :: c130 :: c131 :: c132 :: c133 :: c134 :: c135 :: c136 :: c137 :: c138 :: c139 :: c140 :: c141 :: c142 :: c143 :: c144 :: c145 :: c146 :: c147 :: c148 :: c149 :: c150 :: c151 :: c152 :: c153 :: c154 :: c155 :: c156 :: c157 :: c158 :: c159 :: c160 :: c161 :: c162 :: c163 :: c164 :: c165 :: c166 :: c167 :: c168 :: c169 :: c170 :: c171 :: c172 :: c173 :: c174 :: c175 :: c176 :: c177 :: c178 :: c179 :: c180 :: c181 :: c182 :: c183 :: c184 :: c185 :: c186 :: c187 :: c188 :: c189 :: c190 :: c191 :: c192 :: c193 :: c194 :: c195 :: c196 :: c197 :: c198 :: c199 :: c200 :: c201 :: c202 :: c203 :: c204 :: c205 :: c206 :: c207 :: c208 :: c209 :: c210 :: c211 :: c212 :: c213 :: c214 :: c215 :: c216 :: c217 :: c218 :: c219 :: c220 :: c221 :: c222 :: c223 :: c224 :: c225 :: c226 :: c227 :: c228 :: c229 :: c230 :: c231 :: c232 :: c233 :: c234 :: c235 :: c236 :: c237 :: c238 :: c239 :: c240 :: c241 :: c242 :: c243 :: c244 :: c245 :: c246 :: c247 :: c248 :: c249 :: c250 :: c251 :: c252 :: c253 :: c254 :: c255 :: c256 :: c257 :: c258 :: c259 :: c260 :: c261 :: c262 :: c263 :: c264 :: c265 :: c266 :: c267 :: c268 :: c269 :: c270 :: c271 :: c272 :: c273 :: c274 :: c275 :: c276 :: c277 :: c278 :: c279 :: c280 :: c281 :: c282 :: c283 :: c284 :: c285 :: c286 :: c287 :: c288 :: c289 :: c290 :: c291 :: c292 :: c293 :: c294 :: c295 :: c296 :: c297 :: c298 :: c299 :: c300 :: c301 :: c302 :: c303 :: c304 :: c305 :: c306 :: c307 :: c308 :: c309 :: c310 :: c311 :: c312 :: c313 :: c314 :: c315 :: c316 :: c317 :: c318 :: c319 :: [])), []⟩ w := by
  refine wp_onlyN ?_
  conv => arg 2; whnf
  generalize hQ : (fun a w => Q .normal a w) = N
  replace hq : ∀ u181 u182 u183 u184 u185 u186 u187 u188 u189 u190 u191 u192 u193 w', Hid (∃ b τ3 ps3 ov3, P1R w' B τ3 ps3 ov3 rb lf spb R sh E ds M r P ⟨b, min 512 x, []⟩ ∧ Step B [4, 6] w τ w' τ3 ∧ ps3 gG = ps gG ∧ ov3 gG = ov gG) → N ⟨(List.toArray (c0 :: c1 :: c2 :: c3 :: c4 :: c5 :: c6 :: c7 :: c8 :: c9 :: c10 :: (Value.slice (some ⟨lf, 0, none⟩) R R) :: c12 :: (Value.pointer (some ⟨spb, 0, none⟩)) :: c14 :: c15 :: c16 :: c17 :: (Value.int .i64 (r : Int)) :: (Value.pointer (some ⟨rb, r, none⟩)) :: c20 :: c21 :: c22 :: c23 :: c24 :: c25 :: c26 :: c27 :: c28 :: c29 :: c30 :: c31 :: c32 :: c33 :: c34 :: c35 :: c36 :: c37 :: c38 :: c39 :: c40 :: c41 :: c42 :: c43 :: c44 :: c45 :: c46 :: c47 :: c48 :: c49 :: c50 :: c51 :: c52 :: c53 :: c54 :: c55 :: c56 :: c57 :: c58 :: c59 :: c60 :: c61 :: c62 :: c63 :: c64 :: c65 :: c66 :: c67 :: c68 :: c69 :: c70 :: c71 :: c72 :: c73 :: c74 :: c75 :: c76 :: c77 :: c78 :: c79 :: c80 :: c81 :: c82 :: c83 :: c84 :: c85 :: c86 :: c87 :: c88 :: c89 :: c90 :: c91 :: c92 :: c93 :: c94 :: c95 :: c96 :: c97 :: c98 :: c99 :: c100 :: c101 :: c102 :: c103 :: c104 :: c105 :: c106 :: c107 :: c108 :: c109 :: c110 :: c111 :: c112 :: c113 :: c114 :: c115 :: c116 :: c117 :: c118 :: c119 :: c120 :: c121 :: c122 :: c123 :: c124 :: c125 :: c126 :: c127 :: c128 :: c129 :: c130 :: c131 :: c132 :: c133 :: c134 :: c135 :: c136 :: c137 :: c138 :: c139 :: c140 :: c141 :: c142 :: c143 :: c144 :: c145 :: c146 :: c147 :: c148 :: c149 :: c150 :: c151 :: c152 :: c153 :: c154 :: c155 :: c156 :: c157 :: c158 :: c159 :: c160 :: c161 :: c162 :: c163 :: c164 :: c165 :: c166 :: c167 :: c168 :: c169 :: c170 :: c171 :: c172 :: c173 :: c174 :: c175 :: c176 :: c177 :: c178 :: c179 :: c180 :: u181 :: u182 :: u183 :: u184 :: u185 :: u186 :: u187 :: u188 :: u189 :: u190 :: u191 :: u192 :: u193 :: c194 :: c195 :: c196 :: c197 :: c198 :: c199 :: c200 :: c201 :: c202 :: c203 :: c204 :: c205 :: c206 :: c207 :: c208 :: c209 :: c210 :: c211 :: c212 :: c213 :: c214 :: c215 :: c216 :: c217 :: c218 :: c219 :: c220 :: c221 :: c222 :: c223 :: c224 :: c225 :: c226 :: c227 :: c228 :: c229 :: c230 :: c231 :: c232 :: c233 :: c234 :: c235 :: c236 :: c237 :: c238 :: c239 :: c240 :: c241 :: c242 :: c243 :: c244 :: c245 :: c246 :: c247 :: c248 :: c249 :: c250 :: c251 :: c252 :: c253 :: c254 :: c255 :: c256 :: c257 :: c258 :: c259 :: c260 :: c261 :: c262 :: c263 :: c264 :: c265 :: c266 :: c267 :: c268 :: c269 :: c270 :: c271 :: c272 :: c273 :: c274 :: c275 :: c276 :: c277 :: c278 :: c279 :: c280 :: c281 :: c282 :: c283 :: c284 :: c285 :: c286 :: c287 :: c288 :: c289 :: c290 :: c291 :: c292 :: c293 :: c294 :: c295 :: c296 :: c297 :: c298 :: c299 :: c300 :: c301 :: c302 :: c303 :: c304 :: c305 :: c306 :: c307 :: c308 :: c309 :: c310 :: c311 :: c312 :: c313 :: c314 :: c315 :: c316 :: c317 :: c318 :: c319 :: [])), []⟩ w' := by subst hQ; exact hq
  clear hQ
  have HQ := hidG hq
  clear hq
  obtain ⟨i0, hi0, hzz⟩ := Option.map_eq_some_iff.1 Try.info68
  simp only [Prod.mk.injEq] at hzz
  obtain ⟨hz0, hs0, hb0⟩ := hzz
  obtain ⟨Hd, hsd⟩ := H.out.drew hB
  have HD := hidG Hd
  have HSD := hidG hsd
  have hBd : B ≤ w.drew.heap.size := hB
  have TK := hidG (take_GI (w := w.drew) spb (min 512 x) (by omega) hBd (hidG Hd.gi) (hidG Hd.spare) (Nat.le_trans Hd.slen hM) (hidG Hd.box) Hd.t6)
  have k1 : w.cell? ⟨rb, r, none⟩ = some (ov r) := H.out.rg.cell hr
  have f1 : w.frozen? ⟨rb, r, none⟩ = false := H.out.rg.frozen r
  have k2 : w.cell? ⟨lf, r, none⟩ = some (.int .i64 (x : Int)) := by rw [HX.out]; exact H.out.left.cell hr
  have HLN : Hid ((ps r).length ≤ 1048576) := by
    obtain ⟨a1, a2, a3⟩ := HP.out
    have e1 := flat_len a3
    have e2 := rgE_le sh r ds
    rw [a2] at e1
    unfold Hid; rw [a1, List.length_map]; omega
  have HrS : Hid (r ≠ gS) := by unfold Hid gS; omega
  clear Hd hsd
  generalize hsv : ov r = sv at k1
  have HSV := hidG hsv
  clear hsv
  generalize hmn : min 512 x = mn at *
  have hmn0 : 0 < mn := by omega
  have hmn5 : mn ≤ 512 := by omega
  have i1 : (0 : Int) ≤ (r : Int) ∧ (r : Int) < (R : Int) := by omega
  go_region_law
    (first
      | (refine step_min (by rfl) _ _ _ (by rfl) 512 x ?hx ?hy ?_; (case hx => rfl); (case hy => rfl); rw [hmn])
      | (refine step_calls2 (by rfl) _ _ _ _ (by rfl) 37 enters37 (.pointer (some ⟨spb, 0, none⟩)) (.int .i64 (mn : Int)) ?hs ?hx ?hy _ TK.out ?_; (case hs => rfl); (case hx => rfl); (case hy => rfl); rintro e w1 ⟨b, rfl, τ1, ps1, ov1, hT⟩; refine ⟨_, rfl, ?_⟩; have HT := hidG hT; obtain ⟨kc1, kc2⟩ := took_cells HD.out hT hr HSV.out HX.out; have hlr := World.block_lt_of_cell? w1 _ kc1; have hll := World.block_lt_of_cell? w1 _ kc2; obtain ⟨xs1, hxs⟩ := hT.gi.rowOf r; have HXS := hidG hxs; have hxl := hxs.2.1; rw [(hT.other r HrS.out).1] at hxl; have hxl' := HLN.out; rw [← hxl] at hxl'; clear hxl hxs hT)
      | (refine step_append_own_at (by rfl) _ _ 64 (by rfl) 0 68 i0 (.slice none 0 0) 1 24 Try.underlying64 hi0 hz0 hs0 hb0 rfl (by decide) sv xs1.length xs1 ?q1 ?o1 ⟨w1.heap.size, 0, none⟩ 1 1 [.slice (some ⟨b, 0, none⟩) 0 mn] ?q2 rfl ?c2 ?c3 ?c4 ?c5 ?c6 ?_; (case q1 => rfl); (case q2 => rfl); (case o1 => have := HXS.out.1; rw [(HT.out.other r HrS.out).2, HSV.out] at this; exact World.ownsRow.alloc this _); (case c2 => exact cell_one_new _ _ _); (case c3 => intro u hu; simp at hu; subst hu; rfl); (case c4 => unfold maxLen; omega); (case c5 => omega); (case c6 => simp); (intro v2 w2 hown hgrow hat; obtain ⟨HG, c2, f2, c3, hne3⟩ := after39 HD.out hBd hr hR HP.out.1 HP.out.2.1 HP.out.2.2 hmn0 hmn5 HT.out HSV.out HXS.out hown hgrow hat; have c3 := c3 x HX.out; obtain ⟨a2, l2, k2, rfl⟩ := owns_slice hown; clear hown hgrow hat)))
  all_goals
    have HG' : Hid (∃ b τ3 ps3 ov3, P1R (w2.setCell ⟨rb, r, none⟩ (.slice a2 l2 k2)) B τ3 ps3 ov3 rb lf spb R sh E ds M r P ⟨b, mn, []⟩ ∧ Step B [4, 6] w τ (w2.setCell ⟨rb, r, none⟩ (.slice a2 l2 k2)) τ3 ∧ ps3 gG = ps gG ∧ ov3 gG = ov gG) := by
      obtain ⟨τ3, ps3, ov3, z1, z2, z3⟩ := HG.out
      exact ⟨b, τ3, ps3, ov3, z1, (HSD.out.mono (by simp)).trans z2, z3⟩
    exact HQ.out _ _ _ _ _ _ _ _ _ _ _ _ _ _ HG'

end Go.Proofs.Qxb6601127a
