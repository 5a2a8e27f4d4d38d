import Derived.Test.Qxb6601127aGR40b
namespace Go.Proofs.Qxb6601127a
open Go.RowKit
set_option linter.unusedVariables false
set_option linter.unusedSimpArgs false
attribute [local go_sem] Go.wp_at_zero Go.wp_at_succ

theorem range_lt {N R sh m : Nat} (hm : m < N) (hNR : ((N : Int) - 1) / 2 ^ sh + 1 = (R : Int)) : m / 2 ^ sh < R := by
  have hp : (0 : Int) < 2 ^ sh := by
    have := Nat.two_pow_pos sh
    have e : ((2 ^ sh : Nat) : Int) = (2 : Int) ^ sh := by push_cast; rfl
    rw [← e]; omega
  have h1 : (m : Int) / 2 ^ sh ≤ ((N : Int) - 1) / 2 ^ sh := Int.ediv_le_ediv hp (by omega)
  have h2 : ((m / 2 ^ sh : Nat) : Int) = (m : Int) / 2 ^ sh := by push_cast; rfl
  omega

/-- a new block beside the state -/
theorem P1.boxed {w : World} {B : Nat} {τ : Nat → Role} {ps : Nat → List (Option Part)} {ov : Nat → Value} {rb lf spb R sh : Nat} {E ds dl : List Edge} {M : Nat} (h : P1 w B τ ps ov rb lf spb R sh E ds dl M) (hB : B ≤ w.heap.size) (o : Obj) (m : Nat) :
    ∃ τ', P1 ((w.alloc o).drewN m) B τ' ps ov rb lf spb R sh E ds dl M ∧ Step B [] w τ ((w.alloc o).drewN m) τ' ∧ τ' w.heap.size = .fix 9 := by
  have hk : Keeps [] w ((w.alloc o).drewN m) := ((Keeps.refl [] w).alloc o).drewN m
  obtain ⟨g, s⟩ := h.gi.fresh hB hk (b := w.heap.size) (Nat.le_refl _) (by show _ < (w.alloc o).heap.size; simp) (.fix 9) (.inr ⟨9, rfl⟩)
  exact ⟨_, h.step g s, s, upd_same _ _ _⟩

set_option maxRecDepth 1000000 in
set_option maxHeartbeats 4000000 in
theorem loop7 (shb rb lf spb b N R sh L cap B M ki : Nat) (E ds es : List Edge) (τ0 : Nat → Role) (ps0 : Nat → List (Option Part)) (ov0 : Nat → Value) (w : World) (Q : Exit → Act → World → Prop)
    (hN : N ≤ 65536) (hR : R ≤ 1024) (hsh : sh ≤ 6) (HNR : Hid (((N : Int) - 1) / 2 ^ sh + 1 = (R : Int))) (hM : M ≤ 1048576) (hE : E.length ≤ 1048576) (hL : L ≤ 1048576) (hLc : L ≤ cap) (HL : Hid (es.length = L)) (HT : Hid (Tails N E)) (HE : Hid (∃ rest, E = ds ++ es ++ rest))
    (H : Hid (P1 w B τ0 ps0 ov0 rb lf spb R sh E ds ds M)) (HG : Hid ((ps0 gG)[ki]? = some (some ⟨b, cap, es⟩))) (HSH : Hid (Blk w shb [.int .i64 (sh : Int)] 3)) (Hsh : Hid (τ0 shb = .fix 3)) (hB : B ≤ w.heap.size) {c0 c1 c2 c3 c4 c5 c6 c7 c10 c12 c14 c15 c16 c17 c18 c19 c20 c21 c22 c23 c24 c25 c26 c27 c28 c29 c30 c31 c32 c33 c34 c35 c36 c37 c38 c39 c40 c41 c42 c43 c44 c45 c46 c47 c48 c49 c50 c51 c52 c53 c54 c55 c56 c57 c58 c59 c60 c61 c62 c63 c64 c65 c66 c67 c68 c69 c70 c71 c72 c73 c74 c75 c76 c77 c78 c79 c80 c81 c82 c83 c84 c85 c86 c87 c88 c89 c90 c91 c92 c93 c94 c95 c96 c97 c98 c99 c100 c101 c102 c103 c104 c105 c106 c107 c108 c109 c110 c111 c112 c113 c114 c115 c116 c117 c118 c119 c120 c121 c122 c123 c124 c125 c126 c127 c128 c129 c130 c131 c132 c133 c134 c135 c136 c137 c138 c139 c140 c141 c145 c146 c147 c148 c149 c150 c151 c152 c153 c154 c155 c156 c157 c158 c159 c160 c161 c162 c163 c164 c165 c166 c167 c168 c169 c170 c171 c172 c173 c174 c175 c176 c177 c178 c179 c180 c181 c182 c183 c184 c185 c186 c187 c188 c189 c190 c191 c192 c193 c194 c195 c196 c197 c198 c199 c200 c201 c202 c203 c204 c205 c206 c207 c208 c209 c210 c211 c212 c213 c214 c215 c216 c217 c218 c219 c220 c221 c222 c223 c224 c225 c226 c227 c228 c229 c230 c231 c232 c233 c234 c235 c236 c237 c238 c239 c240 c241 c242 c243 c244 c245 c246 c247 c248 c249 c250 c251 c252 c253 c254 c255 c256 c257 c258 c259 c260 c261 c262 c263 c264 c265 c266 c267 c268 c269 c270 c271 c272 c273 c274 c275 c276 c277 c278 c279 c280 c281 c282 c283 c284 c285 c286 c287 c288 c289 c290 c291 c292 c293 c294 c295 c296 c297 c298 c299 c300 c301 c302 c303 c304 c305 c306 c307 c308 c309 c310 c311 c312 c313 c314 c315 c316 c317 c318 c319 : Value}
    (hexit : ∀ u17 u18 u19 u20 u144 u145 u146 u147 u148 u149 u150 u151 u152 u153 u154 u155 u156 u157 u158 u159 u160 u161 u162 u163 u164 u165 u166 u167 u168 u169 u170 u171 u172 u173 u174 u175 u176 u177 u178 u179 u180 u181 u182 u183 u184 u185 u186 u187 u188 u189 u190 u191 u192 u193 u194 u195 u196 u197 u198 u199 u200 u201 u202 u203 u204 u205 u206 u207 u208 u209 u210 u211 u212 u213 u214 u215 u216 u217 u218 u219 u220 u221 u222 w', Hid (∃ τ ps ov, P1 w' B τ ps ov rb lf spb R sh E (ds ++ es) (ds ++ es) M ∧ Step B [4, 5, 6] w τ0 w' τ ∧ ps gG = ps0 gG ∧ ov gG = ov0 gG) → Q (.exit 12) ⟨(List.toArray (c0 :: c1 :: c2 :: c3 :: c4 :: c5 :: c6 :: c7 :: (Value.pointer (some ⟨shb, 0, none⟩)) :: (Value.slice (some ⟨rb, 0, none⟩) R R) :: c10 :: (Value.slice (some ⟨lf, 0, none⟩) R R) :: c12 :: (Value.pointer (some ⟨spb, 0, none⟩)) :: c14 :: c15 :: c16 :: u17 :: u18 :: u19 :: u20 :: c21 :: c22 :: c23 :: c24 :: c25 :: c26 :: c27 :: c28 :: c29 :: c30 :: c31 :: c32 :: c33 :: c34 :: c35 :: c36 :: c37 :: c38 :: c39 :: c40 :: c41 :: c42 :: c43 :: c44 :: c45 :: c46 :: c47 :: c48 :: c49 :: c50 :: c51 :: c52 :: c53 :: c54 :: c55 :: c56 :: c57 :: c58 :: c59 :: c60 :: c61 :: c62 :: c63 :: c64 :: c65 :: c66 :: c67 :: c68 :: c69 :: c70 :: c71 :: c72 :: c73 :: c74 :: c75 :: c76 :: c77 :: c78 :: c79 :: c80 :: c81 :: c82 :: c83 :: c84 :: c85 :: c86 :: c87 :: c88 :: c89 :: c90 :: c91 :: c92 :: c93 :: c94 :: c95 :: c96 :: c97 :: c98 :: c99 :: c100 :: c101 :: c102 :: c103 :: c104 :: c105 :: c106 :: c107 :: c108 :: c109 :: c110 :: c111 :: c112 :: c113 :: c114 :: c115 :: c116 :: c117 :: c118 :: c119 :: c120 :: c121 :: c122 :: c123 :: c124 :: c125 :: c126 :: c127 :: c128 :: c129 :: c130 :: c131 :: c132 :: c133 :: c134 :: c135 :: c136 :: c137 :: c138 :: c139 :: c140 :: c141 :: (Value.slice (some ⟨b, 0, none⟩) L cap) :: (Value.int .i64 (L : Int)) :: u144 :: u145 :: u146 :: u147 :: u148 :: u149 :: u150 :: u151 :: u152 :: u153 :: u154 :: u155 :: u156 :: u157 :: u158 :: u159 :: u160 :: u161 :: u162 :: u163 :: u164 :: u165 :: u166 :: u167 :: u168 :: u169 :: u170 :: u171 :: u172 :: u173 :: u174 :: u175 :: u176 :: u177 :: u178 :: u179 :: u180 :: u181 :: u182 :: u183 :: u184 :: u185 :: u186 :: u187 :: u188 :: u189 :: u190 :: u191 :: u192 :: u193 :: u194 :: u195 :: u196 :: u197 :: u198 :: u199 :: u200 :: u201 :: u202 :: u203 :: u204 :: u205 :: u206 :: u207 :: u208 :: u209 :: u210 :: u211 :: u212 :: u213 :: u214 :: u215 :: u216 :: u217 :: u218 :: u219 :: u220 :: u221 :: u222 :: c223 :: c224 :: c225 :: c226 :: c227 :: c228 :: c229 :: c230 :: c231 :: c232 :: c233 :: c234 :: c235 :: c236 :: c237 :: c238 :: c239 :: c240 :: c241 :: c242 :: c243 :: c244 :: c245 :: c246 :: c247 :: c248 :: c249 :: c250 :: c251 :: c252 :: c253 :: c254 :: c255 :: c256 :: c257 :: c258 :: c259 :: c260 :: c261 :: c262 :: c263 :: c264 :: c265 :: c266 :: c267 :: c268 :: c269 :: c270 :: c271 :: c272 :: c273 :: c274 :: c275 :: c276 :: c277 :: c278 :: c279 :: c280 :: c281 :: c282 :: c283 :: c284 :: c285 :: c286 :: c287 :: c288 :: c289 :: c290 :: c291 :: c292 :: c293 :: c294 :: c295 :: c296 :: c297 :: c298 :: c299 :: c300 :: c301 :: c302 :: c303 :: c304 :: c305 :: c306 :: c307 :: c308 :: c309 :: c310 :: c311 :: c312 :: c313 :: c314 :: c315 :: c316 :: c317 :: c318 :: c319 :: [])), []⟩ w') :
    (Code.loop (loopOf Try.f34 6)).wp Try.prog Q ⟨(List.toArray (c0 :: c1 :: c2 :: c3 :: c4 :: c5 :: c6 :: c7 :: (Value.pointer (some ⟨shb, 0, none⟩)) :: (Value.slice (some ⟨rb, 0, none⟩) R R) :: c10 :: (Value.slice (some ⟨lf, 0, none⟩) R R) :: c12 :: (Value.pointer (some ⟨spb, 0, none⟩)) :: c14 :: c15 :: c16 :: c17 :: c18 :: c19 :: c20 :: c21 :: c22 :: c23 :: c24 :: c25 :: c26 :: c27 :: c28 :: c29 :: c30 :: c31 :: c32 :: c33 :: c34 :: c35 :: c36 :: c37 :: c38 :: c39 :: c40 :: c41 :: c42 :: c43 :: c44 :: c45 :: c46 :: c47 :: c48 :: c49 :: c50 :: c51 :: c52 :: c53 :: c54 :: c55 :: c56 :: c57 :: c58 :: c59 :: c60 :: c61 :: c62 :: c63 :: c64 :: c65 :: c66 :: c67 :: c68 :: c69 :: c70 :: c71 :: c72 :: c73 :: c74 :: c75 :: c76 :: c77 :: c78 :: c79 :: c80 :: c81 :: c82 :: c83 :: c84 :: c85 :: c86 :: c87 :: c88 :: c89 :: c90 :: c91 :: c92 :: c93 :: c94 :: c95 :: c96 :: c97 :: c98 :: c99 :: c100 :: c101 :: c102 :: c103 :: c104 :: c105 :: c106 :: c107 :: c108 :: c109 :: c110 :: c111 :: c112 :: c113 :: c114 :: c115 :: c116 :: c117 :: c118 :: c119 :: c120 :: c121 :: c122 :: c123 :: c124 :: c125 :: c126 :: c127 :: c128 :: c129 :: c130 :: c131 :: c132 :: c133 :: c134 :: c135 :: c136 :: c137 :: c138 :: c139 :: c140 :: c141 :: (Value.slice (some ⟨b, 0, none⟩) L cap) :: (Value.int .i64 (L : Int)) :: (Value.int .i64 0) :: c145 :: c146 :: c147 :: c148 :: c149 :: c150 :: c151 :: c152 :: c153 :: c154 :: c155 :: c156 :: c157 :: c158 :: c159 :: c160 :: c161 :: c162 :: c163 :: c164 :: c165 :: c166 :: c167 :: c168 :: c169 :: c170 :: c171 :: c172 :: c173 :: c174 :: c175 :: c176 :: c177 :: c178 :: c179 :: c180 :: c181 :: c182 :: c183 :: c184 :: c185 :: c186 :: c187 :: c188 :: c189 :: c190 :: c191 :: c192 :: c193 :: c194 :: c195 :: c196 :: c197 :: c198 :: c199 :: c200 :: c201 :: c202 :: c203 :: c204 :: c205 :: c206 :: c207 :: c208 :: c209 :: c210 :: c211 :: c212 :: c213 :: c214 :: c215 :: c216 :: c217 :: c218 :: c219 :: c220 :: c221 :: c222 :: c223 :: c224 :: c225 :: c226 :: c227 :: c228 :: c229 :: c230 :: c231 :: c232 :: c233 :: c234 :: c235 :: c236 :: c237 :: c238 :: c239 :: c240 :: c241 :: c242 :: c243 :: c244 :: c245 :: c246 :: c247 :: c248 :: c249 :: c250 :: c251 :: c252 :: c253 :: c254 :: c255 :: c256 :: c257 :: c258 :: c259 :: c260 :: c261 :: c262 :: c263 :: c264 :: c265 :: c266 :: c267 :: c268 :: c269 :: c270 :: c271 :: c272 :: c273 :: c274 :: c275 :: c276 :: c277 :: c278 :: c279 :: c280 :: c281 :: c282 :: c283 :: c284 :: c285 :: c286 :: c287 :: c288 :: c289 :: c290 :: c291 :: c292 :: c293 :: c294 :: c295 :: c296 :: c297 :: c298 :: c299 :: c300 :: c301 :: c302 :: c303 :: c304 :: c305 :: c306 :: c307 :: c308 :: c309 :: c310 :: c311 :: c312 :: c313 :: c314 :: c315 :: c316 :: c317 :: c318 :: c319 :: [])), []⟩ w := by
  conv => arg 2; arg 1; whnf
  go_loopg [144] L (fun g i wr => ∃ k : Nat, k ≤ L ∧ g = L - k ∧ i = .int .i64 k ∧ Hid (∃ τ ps ov, P1 wr B τ ps ov rb lf spb R sh E (ds ++ es.take k) (ds ++ es.take k) M ∧ Step B [4, 5, 6] w τ0 wr τ ∧ ps gG = ps0 gG ∧ ov gG = ov0 gG))
  case atStart => exact ⟨0, by omega, by omega, rfl, hidG ⟨τ0, ps0, ov0, by simpa using H.out, Step.refl _ _ _ _, rfl, rfl⟩⟩
  case round =>
    obtain ⟨k, hk, rfl, rfl, HI⟩ := hrel
    by_cases hlt : k < L
    · have hlt' : (k : Int) < (L : Int) := by omega
      obtain ⟨τ, ps, ov, h1, hst, hg1, hg2⟩ := HI.out
      obtain ⟨⟨ef, et, ek⟩, he⟩ : ∃ e, es[k]? = some e := ⟨_, List.getElem?_eq_getElem (by rw [HL.out]; exact hlt)⟩
      have htk : ds ++ es.take (k + 1) = (ds ++ es.take k) ++ [(ef, et, ek)] := by rw [List.take_add_one, he]; simp
      obtain ⟨rest, hEE⟩ := HE.out
      have hEsplit : E = (ds ++ es.take (k + 1)) ++ (es.drop (k + 1) ++ rest) := by
        rw [hEE, ← List.append_assoc, List.append_assoc ds (es.take (k + 1)), List.take_append_drop]
      have hmem : (ef, et, ek) ∈ E := by rw [hEsplit, htk]; simp
      have ht := HT.out _ hmem
      obtain ⟨m, rfl⟩ : ∃ m : Nat, ef = (m : Int) := ⟨ef.toNat, by simp at ht; omega⟩
      have hmN : m < N := by simp at ht; omega
      have hr0 := range_lt hmN HNR.out
      obtain ⟨r, hrd⟩ : ∃ r, m / 2 ^ sh = r := ⟨_, rfl⟩
      have hr : r < R := by rw [← hrd]; exact hr0
      have hrng : ((m : Int), et, ek).1.toNat / 2 ^ sh = r := by simpa using hrd
      have hre : (m : Int) / 2 ^ sh = (r : Int) := by rw [← hrd]; push_cast; rfl
      have hds' : (ds ++ es.take k).length ≤ 1048576 := by
        have := congrArg List.length hEsplit
        rw [htk] at this
        simp at this ⊢; omega
      obtain ⟨x, HX, hx0, hx1⟩ : ∃ x : Nat, Hid ((x : Int) = ((rgE sh r E).length : Int) - ((rgE sh r (ds ++ es.take k)).length : Int)) ∧ 0 < x ∧ x ≤ 1048576 := by
        have e1 := congrArg (fun l => (rgE sh r l).length) hEsplit
        simp only [rgE_append sh r _ (es.drop (k + 1) ++ rest), htk] at e1
        rw [rgE_snoc, if_pos hrng] at e1
        simp at e1
        have e2 := rgE_le sh r E
        refine ⟨(rgE sh r E).length - (rgE sh r (ds ++ es.take k)).length, ?_, ?_, by omega⟩
        · unfold Hid; omega
        · omega
      have HTK : Hid (es.take k ++ [((m : Int), et, ek)] = es.take (k + 1)) := by rw [List.take_add_one, he]; rfl
      obtain ⟨hP, tp⟩ := h1.gi.part gG ki ⟨b, cap, es⟩ (by rw [hg1]; exact HG.out)
      obtain ⟨g1, g2, g3⟩ := hP.get (i := k) (by rw [HL.out]; exact hlt)
      obtain ⟨q1, q2, q3⟩ := eF_get es k _ he
      simp only at g1 g2 g3 q1 q2 q3
      rw [q1] at g1
      rw [q2] at g2
      rw [q3] at g3
      have hbw : b < wr.heap.size := hP.lt
      have hshb : Blk wr shb [.int .i64 (sh : Int)] 3 := HSH.out.of_block (hst.same shb 3 Hsh.out (by simp))
      have ksh : wr.cell? ⟨shb, 0, none⟩ = some (.int .i64 (sh : Int)) := by rw [hshb.cell]; rfl
      have hshl : shb < wr.heap.size := hshb.lt
      have krb := h1.rg.cell hr
      have hrbl : rb < wr.heap.size := h1.rg.lt
      have ir : (0 : Int) ≤ (r : Int) ∧ (r : Int) < (R : Int) := by omega
      have HI1 := hidG h1
      have HSTr := hidG hst
      have HGr := hidG (And.intro hg1 hg2)
      have HBr : Hid (B ≤ wr.heap.size) := Nat.le_trans hB hst.below.size
      have HBw : Hid (∀ (w9 : World) {τ9 : Nat → Role}, Step B [4, 5, 6] w τ0 w9 τ9 → B ≤ w9.heap.size) := fun w9 τ9 h => Nat.le_trans hB h.below.size
      obtain ⟨P, hPm, hPf, hPn⟩ := h1.cont r hr
      obtain ⟨xs, hxr, hxl, hxp⟩ := h1.gi.row r
      have hPlen : P.length ≤ 1048576 := by
        have a1 := flat_len hPn
        have a2 := rgE_le sh r (ds ++ es.take k)
        rw [hPf] at a1; omega
      rcases List.eq_nil_or_concat P with hP0 | ⟨P', p, hP1⟩
      · subst hP0
        have hov : ∃ oa cp, ov r = .slice oa 0 cp := by
          have e0 : xs.length = 0 := by rw [hxl, hPm]; rfl
          rcases hxr.2 with ⟨e1, e2⟩ | ⟨g, cp, cur, e1, _⟩
          · exact ⟨_, _, e1⟩
          · rw [e0] at e1; exact ⟨_, _, e1⟩
        obtain ⟨oa, cp, hov⟩ := hov
        rw [hov] at krb
        have HPP : Hid (ps r = ([] : List Part).map some ∧ flat [] = rgE sh r (ds ++ es.take k) ∧ ∀ q ∈ ([] : List Part), q.es ≠ [] ∧ q.cap ≤ 512) := ⟨hPm, hPf, hPn⟩
        clear HI h1 hst hg1 hg2 he htk hEE hEsplit hmem ht q1 q2 q3 hP tp hPm hPf hPn hxr hxl hxp hov hr0
        clear hrd
        go_wp2_with fail
        refine region38a rb r _ _ ?_
        intro t160 t161 t162 t163 t164 t165 t166 t167 t168 t169 t170 t171 t172 t173 t174 t175 t176 t177 t178 t179 m0
        obtain ⟨τ1, hB1, s1, tb1⟩ := HI1.out.boxed HBr.out (.cells #[.int .i32 (m : Int), .int .i32 et, .int .u32 ek] 70) m0
        have HB1 := hidG hB1
        have HS1 := hidG s1
        clear hB1 s1
        have hB1' : B ≤ ((wr.alloc (.cells #[.int .i32 (m : Int), .int .i32 et, .int .u32 ek] 70)).drewN m0).heap.size := Nat.le_trans hB (HSTr.out.below.trans HS1.out.below).size
        go_wp2_with fail
        refine region39 rb lf spb R sh B M r x E (ds ++ es.take k) τ1 ps ov [] ((wr.alloc (.cells #[.int .i32 (m : Int), .int .i32 et, .int .u32 ek] 70)).drewN m0) _ hr hR hM hx0 hx1 hB1' HB1 hds' HX (HPP) ?_
        intro v181 v182 v183 v184 v185 v186 v187 v188 v189 v190 v191 v192 v193 w4 H39
        obtain ⟨b4, τ3, ps3, ov3, h4, s4, g41, g42⟩ := H39.out
        obtain ⟨PP, hPP⟩ : ∃ PP, PP = [] := ⟨_, rfl⟩
        obtain ⟨pp, hpp⟩ : ∃ pp : Part, pp = ⟨b4, min 512 x, []⟩ := ⟨_, rfl⟩
        rw [← hPP, ← hpp] at h4
        have H4 := hidG h4
        have HST4 : Hid (Step B [4, 5, 6] w τ0 w4 τ3) := (HSTr.out.trans (HS1.out.mono (by simp))).trans (s4.mono (by simp))
        have HG4 : Hid (ps3 gG = ps0 gG ∧ ov3 gG = ov0 gG) := ⟨g41.trans HGr.out.1, g42.trans HGr.out.2⟩
        have HBX : Hid (Blk w4 wr.heap.size [.int .i32 (m : Int), .int .i32 et, .int .u32 ek] 70) := ((Blk.new wr #[.int .i32 (m : Int), .int .i32 et, .int .u32 ek] 70).drewN m0).of_block (s4.same _ 9 tb1 (by simp))
        have tbx : τ3 wr.heap.size = .fix 9 := s4.fix _ _ tb1
        clear H39 h4 s4 g41 g42 hPP hpp
        go_wp2_with fail
        refine region40R rb lf spb R sh B M r wr.heap.size E (ds ++ es.take k) τ3 ps3 ov3 PP pp ((m : Int), et, ek) w4 _ hr hR (HBw.out _ HST4.out) H4 hds' HBX tbx hrng ?_
        intro y194 y195 y196 y197 y198 y199 y200 y201 y202 y203 y204 y205 y206 y207 y208 y209 y210 y211 y212 y213 y214 y215 w5 H5
        have HF : Hid (∃ ps5, P1 w5 B τ3 ps5 ov3 rb lf spb R sh E (ds ++ es.take k ++ [((m : Int), et, ek)]) (ds ++ es.take k) M ∧ Step B [4, 5, 6] w τ0 w5 τ3 ∧ ps5 gG = ps0 gG ∧ ov3 gG = ov0 gG) := by
          obtain ⟨ps5, q1, q2, q3⟩ := H5.out
          exact ⟨ps5, q1, HST4.out.trans (q2.mono (by simp)), q3.trans HG4.out.1, HG4.out.2⟩
        clear H5
        have kl : w5.cell? ⟨lf, r, none⟩ = some (.int .i64 (x : Int)) := by
          obtain ⟨ps5, q1, q2⟩ := HF.out
          rw [HX.out]; exact q1.left.cell hr
        have fl : w5.frozen? ⟨lf, r, none⟩ = false := by
          obtain ⟨ps5, q1, q2⟩ := HF.out
          exact q1.left.frozen r
        go_wp2_with fail
        go_roundg (L - (k + 1))
        case measure => omega
        case rel =>
          refine ⟨k + 1, by omega, rfl, by go_num, ?_⟩
          obtain ⟨ps5, q1, q2, q3, q4⟩ := HF.out
          have hB5 : B ≤ w5.heap.size := Nat.le_trans hB q2.below.size
          obtain ⟨z1, z2⟩ := q1.count hB5 hr hrng (x := (x : Int) - 1) (by rw [HX.out])
          rw [List.append_assoc, HTK.out] at z1
          exact ⟨τ3, ps5, ov3, z1, q2.trans (z2.mono (by simp)), q3, q4⟩
      · rw [List.concat_eq_append] at hP1
        subst hP1
        have hxn : xs.length = P'.length + 1 := by rw [hxl, hPm]; simp
        obtain ⟨ob, cp, hv, hcp, hcp', hcell, hfro, hobl⟩ := hxr.len (by omega)
        rw [hxn] at hv hcp
        have hlast : (ps r)[P'.length]? = some (some p) := by rw [hPm]; simp
        have kob := hcell P'.length _ (hxp P'.length p hlast)
        unfold Part.val at kob
        obtain ⟨hPp, tpp⟩ := h1.gi.part r P'.length p hlast
        have hple := hPp.le
        have hpc := (hPn p (by simp)).2
        rw [hv] at krb
        have hPl' : P'.length ≤ 1048576 := by simp at hPlen; omega
        have HPP : Hid (ps r = (P' ++ [p]).map some ∧ flat (P' ++ [p]) = rgE sh r (ds ++ es.take k) ∧ ∀ q ∈ P' ++ [p], q.es ≠ [] ∧ q.cap ≤ 512) := ⟨hPm, hPf, hPn⟩
        clear HI h1 hst hg1 hg2 he htk hEE hEsplit hmem ht q1 q2 q3 hP tp hPm hPf hPn hxr hxl hxp hr0 hlast hPp tpp hcell hfro hxn hPlen
        clear hrd
        by_cases hfull : p.es.length = p.cap
        · go_wp2_with fail
          refine region38b rb r P'.length ob cp p.b p.es.length p.cap true (wr.alloc (.cells #[.int .i32 (m : Int), .int .i32 et, .int .u32 ek] 70)) _ hPl' hcp hple (by omega) (alloc_cell krb _) (alloc_cell kob _) (by rw [hfull]; simp) ?_
          intro t160 t161 t162 t163 t164 t165 t166 t167 t168 t169 t170 t171 t172 t173 t174 t175 t176 t177 t178 t179 m0
          obtain ⟨τ1, hB1, s1, tb1⟩ := HI1.out.boxed HBr.out (.cells #[.int .i32 (m : Int), .int .i32 et, .int .u32 ek] 70) m0
          have HB1 := hidG hB1
          have HS1 := hidG s1
          clear hB1 s1
          have hB1' : B ≤ ((wr.alloc (.cells #[.int .i32 (m : Int), .int .i32 et, .int .u32 ek] 70)).drewN m0).heap.size := Nat.le_trans hB (HSTr.out.below.trans HS1.out.below).size
          go_wp2_with fail
          refine region39 rb lf spb R sh B M r x E (ds ++ es.take k) τ1 ps ov (P' ++ [p]) ((wr.alloc (.cells #[.int .i32 (m : Int), .int .i32 et, .int .u32 ek] 70)).drewN m0) _ hr hR hM hx0 hx1 hB1' HB1 hds' HX (HPP) ?_
          intro v181 v182 v183 v184 v185 v186 v187 v188 v189 v190 v191 v192 v193 w4 H39
          obtain ⟨b4, τ3, ps3, ov3, h4, s4, g41, g42⟩ := H39.out
          obtain ⟨PP, hPP⟩ : ∃ PP, PP = (P' ++ [p]) := ⟨_, rfl⟩
          obtain ⟨pp, hpp⟩ : ∃ pp : Part, pp = ⟨b4, min 512 x, []⟩ := ⟨_, rfl⟩
          rw [← hPP, ← hpp] at h4
          have H4 := hidG h4
          have HST4 : Hid (Step B [4, 5, 6] w τ0 w4 τ3) := (HSTr.out.trans (HS1.out.mono (by simp))).trans (s4.mono (by simp))
          have HG4 : Hid (ps3 gG = ps0 gG ∧ ov3 gG = ov0 gG) := ⟨g41.trans HGr.out.1, g42.trans HGr.out.2⟩
          have HBX : Hid (Blk w4 wr.heap.size [.int .i32 (m : Int), .int .i32 et, .int .u32 ek] 70) := ((Blk.new wr #[.int .i32 (m : Int), .int .i32 et, .int .u32 ek] 70).drewN m0).of_block (s4.same _ 9 tb1 (by simp))
          have tbx : τ3 wr.heap.size = .fix 9 := s4.fix _ _ tb1
          clear H39 h4 s4 g41 g42 hPP hpp
          go_wp2_with fail
          refine region40R rb lf spb R sh B M r wr.heap.size E (ds ++ es.take k) τ3 ps3 ov3 PP pp ((m : Int), et, ek) w4 _ hr hR (HBw.out _ HST4.out) H4 hds' HBX tbx hrng ?_
          intro y194 y195 y196 y197 y198 y199 y200 y201 y202 y203 y204 y205 y206 y207 y208 y209 y210 y211 y212 y213 y214 y215 w5 H5
          have HF : Hid (∃ ps5, P1 w5 B τ3 ps5 ov3 rb lf spb R sh E (ds ++ es.take k ++ [((m : Int), et, ek)]) (ds ++ es.take k) M ∧ Step B [4, 5, 6] w τ0 w5 τ3 ∧ ps5 gG = ps0 gG ∧ ov3 gG = ov0 gG) := by
            obtain ⟨ps5, q1, q2, q3⟩ := H5.out
            exact ⟨ps5, q1, HST4.out.trans (q2.mono (by simp)), q3.trans HG4.out.1, HG4.out.2⟩
          clear H5
          have kl : w5.cell? ⟨lf, r, none⟩ = some (.int .i64 (x : Int)) := by
            obtain ⟨ps5, q1, q2⟩ := HF.out
            rw [HX.out]; exact q1.left.cell hr
          have fl : w5.frozen? ⟨lf, r, none⟩ = false := by
            obtain ⟨ps5, q1, q2⟩ := HF.out
            exact q1.left.frozen r
          go_wp2_with fail
          go_roundg (L - (k + 1))
          case measure => omega
          case rel =>
            refine ⟨k + 1, by omega, rfl, by go_num, ?_⟩
            obtain ⟨ps5, q1, q2, q3, q4⟩ := HF.out
            have hB5 : B ≤ w5.heap.size := Nat.le_trans hB q2.below.size
            obtain ⟨z1, z2⟩ := q1.count hB5 hr hrng (x := (x : Int) - 1) (by rw [HX.out])
            rw [List.append_assoc, HTK.out] at z1
            exact ⟨τ3, ps5, ov3, z1, q2.trans (z2.mono (by simp)), q3, q4⟩
        · go_wp2_with fail
          refine region38b rb r P'.length ob cp p.b p.es.length p.cap false (wr.alloc (.cells #[.int .i32 (m : Int), .int .i32 et, .int .u32 ek] 70)) _ hPl' hcp hple (by omega) (alloc_cell krb _) (alloc_cell kob _) (by simp; omega) ?_
          intro t160 t161 t162 t163 t164 t165 t166 t167 t168 t169 t170 t171 t172 t173 t174 t175 t176 t177 t178 t179 m0
          obtain ⟨τ1, hB1, s1, tb1⟩ := HI1.out.boxed HBr.out (.cells #[.int .i32 (m : Int), .int .i32 et, .int .u32 ek] 70) m0
          have HB1 := hidG hB1
          have HS1 := hidG s1
          clear hB1 s1
          obtain ⟨τ3, hτ3⟩ : ∃ τ3, τ3 = τ1 := ⟨_, rfl⟩
          obtain ⟨ps3, hps3⟩ : ∃ ps3, ps3 = ps := ⟨_, rfl⟩
          obtain ⟨ov3, hov3⟩ : ∃ ov3, ov3 = ov := ⟨_, rfl⟩
          obtain ⟨PP, hPP⟩ : ∃ PP, PP = P' := ⟨_, rfl⟩
          obtain ⟨pp, hpp⟩ : ∃ pp, pp = p := ⟨_, rfl⟩
          have H4 : Hid (P1R ((wr.alloc (.cells #[.int .i32 (m : Int), .int .i32 et, .int .u32 ek] 70)).drewN m0) B τ3 ps3 ov3 rb lf spb R sh E (ds ++ es.take k) M r PP pp) := by
            rw [hτ3, hps3, hov3, hPP, hpp]
            exact HB1.out.toR HPP.out.1 HPP.out.2.1 HPP.out.2.2 (by omega)
          have HST4 : Hid (Step B [4, 5, 6] w τ0 ((wr.alloc (.cells #[.int .i32 (m : Int), .int .i32 et, .int .u32 ek] 70)).drewN m0) τ3) := by rw [hτ3]; exact HSTr.out.trans (HS1.out.mono (by simp))
          have HG4 : Hid (ps3 gG = ps0 gG ∧ ov3 gG = ov0 gG) := by rw [hps3, hov3]; exact HGr.out
          have HBX : Hid (Blk ((wr.alloc (.cells #[.int .i32 (m : Int), .int .i32 et, .int .u32 ek] 70)).drewN m0) wr.heap.size [.int .i32 (m : Int), .int .i32 et, .int .u32 ek] 70) := (Blk.new wr #[.int .i32 (m : Int), .int .i32 et, .int .u32 ek] 70).drewN m0
          have tbx : τ3 wr.heap.size = .fix 9 := by rw [hτ3]; exact tb1
          clear hτ3 hps3 hov3 hPP hpp
          go_wp2_with fail
          refine region40R rb lf spb R sh B M r wr.heap.size E (ds ++ es.take k) τ3 ps3 ov3 PP pp ((m : Int), et, ek) ((wr.alloc (.cells #[.int .i32 (m : Int), .int .i32 et, .int .u32 ek] 70)).drewN m0) _ hr hR (HBw.out _ HST4.out) H4 hds' HBX tbx hrng ?_
          intro y194 y195 y196 y197 y198 y199 y200 y201 y202 y203 y204 y205 y206 y207 y208 y209 y210 y211 y212 y213 y214 y215 w5 H5
          have HF : Hid (∃ ps5, P1 w5 B τ3 ps5 ov3 rb lf spb R sh E (ds ++ es.take k ++ [((m : Int), et, ek)]) (ds ++ es.take k) M ∧ Step B [4, 5, 6] w τ0 w5 τ3 ∧ ps5 gG = ps0 gG ∧ ov3 gG = ov0 gG) := by
            obtain ⟨ps5, q1, q2, q3⟩ := H5.out
            exact ⟨ps5, q1, HST4.out.trans (q2.mono (by simp)), q3.trans HG4.out.1, HG4.out.2⟩
          clear H5
          have kl : w5.cell? ⟨lf, r, none⟩ = some (.int .i64 (x : Int)) := by
            obtain ⟨ps5, q1, q2⟩ := HF.out
            rw [HX.out]; exact q1.left.cell hr
          have fl : w5.frozen? ⟨lf, r, none⟩ = false := by
            obtain ⟨ps5, q1, q2⟩ := HF.out
            exact q1.left.frozen r
          go_wp2_with fail
          go_roundg (L - (k + 1))
          case measure => omega
          case rel =>
            refine ⟨k + 1, by omega, rfl, by go_num, ?_⟩
            obtain ⟨ps5, q1, q2, q3, q4⟩ := HF.out
            have hB5 : B ≤ w5.heap.size := Nat.le_trans hB q2.below.size
            obtain ⟨z1, z2⟩ := q1.count hB5 hr hrng (x := (x : Int) - 1) (by rw [HX.out])
            rw [List.append_assoc, HTK.out] at z1
            exact ⟨τ3, ps5, ov3, z1, q2.trans (z2.mono (by simp)), q3, q4⟩
    · have hge : k = L := by omega
      subst hge
      have HQ := HI
      rw [show es.take k = es from List.take_of_length_le (by rw [HL.out]; exact Nat.le_refl _)] at HQ
      clear HI
      go_wp2_with fail
      exact HQ

end Go.Proofs.Qxb6601127a
