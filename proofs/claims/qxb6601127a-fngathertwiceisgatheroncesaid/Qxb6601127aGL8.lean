import Derived.Test.Qxb6601127aGL10
import Derived.Test.Qxb6601127aGL9
import Derived.Test.Qxb6601127aGL7
import Derived.Test.Qxb6601127aGL5
namespace Go.Proofs.Qxb6601127a
open Go.RowKit
set_option linter.unusedVariables false
set_option linter.unusedSimpArgs false

theorem P2.drew {w : World} {B : Nat} {τ : Nat → Role} {ps : Nat → List (Option Part)} {ov : Nat → Value} {rb fb spb R N : Nat} {E pr dl : List Edge} {PL : List Part} {M : Nat} (h : P2 w B τ ps ov rb fb spb R N E pr dl PL M) (hB : B ≤ w.heap.size) :
    P2 w.drew B τ ps ov rb fb spb R N E pr dl PL M ∧ Step B [] w τ w.drew τ := by
  obtain ⟨g, s⟩ := h.gi.step hB ((Keeps.refl [] w).drew) (K := []) (by simp)
  exact ⟨h.step g s rfl rfl, s⟩

theorem rgAll_length {N : Nat} {E : List Edge} (h : Tails N E) (sh r : Nat) : (rgAll sh r E).length = befE E (fr sh N r) := by
  induction r with
  | zero => have : fr sh N 0 = 0 := by unfold fr; simp
            rw [this, befE_zero h]; rfl
  | succ r ih => rw [rgAll_succ, List.length_append, ih, ← rgE_count h sh r]; omega

theorem rgAll_tails {N : Nat} {E : List Edge} (h : Tails N E) (sh r : Nat) : Tails N (rgAll sh r E) := by
  intro e he
  unfold rgAll at he
  obtain ⟨n, hn, h2⟩ := List.mem_flatMap.1 he
  exact h e (List.mem_filter.1 h2).1

theorem range_nat {N R sh m : Nat} (h : ((N : Int) - 1) / 2 ^ sh + 1 = (R : Int)) (hm : m < N) : m / 2 ^ sh < R := by
  have h2 : ((m : Int)) / 2 ^ sh ≤ ((N : Int) - 1) / 2 ^ sh := Int.ediv_le_ediv (Int.pow_pos (by omega)) (by omega)
  have h3 : ((m / 2 ^ sh : Nat) : Int) = (m : Int) / 2 ^ sh := by push_cast; rfl
  omega

theorem fr_last {N R sh : Nat} (h : ((N : Int) - 1) / 2 ^ sh + 1 = (R : Int)) (hN : 0 < N) : fr sh N R = N := by
  have h1 := range_nat h (m := N - 1) (by omega)
  have h2 : N - 1 < R * 2 ^ sh := by rwa [Nat.div_lt_iff_lt_mul (Nat.two_pow_pos sh)] at h1
  unfold fr
  generalize R * 2 ^ sh = x at *
  omega

/-- what lies placed at the end of the second pass -/
theorem P2.done {w : World} {B : Nat} {τ : Nat → Role} {ps : Nat → List (Option Part)} {ov : Nat → Value} {rb fb spb R N sh : Nat} {E : List Edge} {PL : List Part} {M : Nat} (h : P2 w B τ ps ov rb fb spb R N E (rgAll sh R E) (rgAll sh R E) PL M) (hT : Tails N E)
    (hR : ((N : Int) - 1) / 2 ^ sh + 1 = (R : Int)) (hN : 0 < N) (hc : befE E (fr sh N R) ≤ 512 * PL.length) : flat PL = grouped N E := by
  rw [fr_last hR hN, befE_all hT] at hc
  have hp : Placed N E E (flat PL) := h.placed.congr fun n hn => by rw [nodeE_rgAll, if_pos (range_nat hR hn)]
  exact hp.all hT (fun _ _ => rfl) (by rw [h.ch.len]; omega)

set_option maxRecDepth 1000000 in
set_option maxHeartbeats 4000000 in
theorem loop8 (gb g shb st rb fb spb N R B K T sh fc : Nat) (vP0 : Value) (E : List Edge) (τ0 : Nat → Role) (ps0 : Nat → List (Option Part)) (ov0 : Nat → Value) (w : World) (Q : Exit → Act → World → Prop)
    (hN : N ≤ 65536) (hN0 : 0 < N) (hR : R ≤ 1024) (hsh : sh ≤ 6) (HNR : Hid (((N : Int) - 1) / 2 ^ sh + 1 = (R : Int))) (HE : Hid (E.length = T)) (hT : T ≤ 65536) (hK : K ≤ 65536) (HT : Hid (Tails N E))
    (H : Hid (P2 w B τ0 ps0 ov0 rb fb spb R N E [] [] [] K)) (HC : Hid (∀ r', r' < R → Cont ps0 sh r' E)) (HV : Hid (ov0 gP = vP0)) (HST : Hid (IB w st (N + 1) (fun n => (befE E n : Int)))) (T2 : Hid (τ0 st = .fix 2)) (HSH : Hid (w.cell? ⟨shb, 0, none⟩ = some (.int .i64 (sh : Int)))) (T3 : Hid (τ0 shb = .fix 3))
    (C1 : Hid (w.cell? ⟨gb, 0, none⟩ = some (.pointer (some ⟨g, 0, none⟩)))) (C2 : Hid (w.cell? ⟨g, 1, none⟩ = some (.int .i64 (N : Int)))) (T1 : Hid (τ0 gb = .fix 1)) (T0 : Hid (τ0 g = .fix 0)) (hB : B ≤ w.heap.size) {c0 c3 c4 c5 c6 c7 c8 c11 c12 c14 c15 c16 c17 c18 c19 c20 c23 c24 c25 c26 c27 c28 c29 c30 c31 c32 c33 c34 c35 c36 c37 c38 c39 c40 c41 c42 c43 c44 c45 c46 c47 c48 c49 c50 c51 c52 c53 c54 c55 c56 c57 c58 c59 c60 c61 c62 c63 c64 c65 c66 c67 c68 c69 c70 c71 c72 c73 c74 c75 c76 c77 c78 c79 c80 c81 c82 c83 c84 c85 c86 c87 c88 c89 c90 c91 c92 c93 c94 c95 c96 c97 c98 c99 c100 c101 c102 c103 c104 c105 c106 c107 c108 c109 c110 c111 c112 c113 c114 c115 c116 c117 c118 c119 c120 c121 c122 c123 c124 c125 c126 c127 c128 c129 c130 c131 c132 c133 c134 c135 c136 c137 c138 c139 c140 c141 c142 c143 c144 c145 c146 c147 c148 c149 c150 c151 c152 c153 c154 c155 c156 c157 c158 c159 c160 c161 c162 c163 c164 c165 c166 c167 c168 c169 c170 c171 c172 c173 c174 c175 c176 c177 c178 c179 c180 c181 c182 c183 c184 c185 c186 c187 c188 c189 c190 c191 c192 c193 c194 c195 c196 c197 c198 c199 c200 c201 c202 c203 c204 c205 c206 c207 c208 c209 c210 c211 c212 c213 c214 c215 c216 c217 c218 c219 c220 c221 c222 c223 c224 c225 c226 c227 c228 c229 c230 c231 c232 c233 c234 c235 c236 c237 c238 c242 c243 c244 c245 c246 c247 c248 c249 c250 c251 c252 c253 c254 c255 c256 c257 c258 c259 c260 c261 c262 c263 c264 c265 c266 c267 c268 c269 c270 c271 c272 c273 c274 c275 c276 c277 c278 c279 c280 c281 c282 c283 c284 c285 c286 c287 c288 c289 c290 c291 c292 c293 c294 c295 c296 c297 c298 c299 c300 c301 c302 c303 c304 c305 c306 c307 c308 c309 c310 c311 c312 c313 c314 c315 c316 c317 c318 c319 : Value}
    (hexit : ∀ u21 u23 u24 u25 u26 u28 u30 u241 u242 u243 u244 u245 u246 u247 u248 u249 u250 u251 u252 u253 u254 u255 u256 u257 u258 u259 u260 u261 u262 u263 u264 u265 u266 u267 u268 u269 u270 u271 u272 u273 u274 u275 u276 u277 u278 u279 u280 u281 u282 u283 u284 u285 u286 u287 u288 u289 u290 u291 u292 u293 u294 u295 u296 u297 u298 u299 u300 u301 u302 u303 u304 u305 u306 u307 u308 u309 u310 u311 w', Hid (∃ τ ps ov PL, GI w' B τ ps ov ∧ Step B [4, 6, 7] w τ0 w' τ ∧ ov gP = u21 ∧ ps gP = PL.map some ∧ Chunked T PL ∧ flat PL = grouped N E ∧ PL.length = (T + 511) / 512) → Q (.exit 14) ⟨(List.toArray (c0 :: (Value.pointer (some ⟨gb, 0, none⟩)) :: (Value.slice (some ⟨st, 0, none⟩) (N + 1) (N + 1)) :: c3 :: c4 :: c5 :: c6 :: c7 :: c8 :: (Value.slice (some ⟨rb, 0, none⟩) R R) :: (Value.func (.func 36) #[] #[.pointer (some ⟨shb, 0, none⟩), .pointer (some ⟨gb, 0, none⟩)]) :: c11 :: c12 :: (Value.pointer (some ⟨spb, 0, none⟩)) :: c14 :: c15 :: c16 :: c17 :: c18 :: c19 :: c20 :: u21 :: (Value.slice (some ⟨fb, 0, none⟩) N fc) :: u23 :: u24 :: u25 :: u26 :: c27 :: u28 :: c29 :: u30 :: c31 :: c32 :: c33 :: c34 :: c35 :: c36 :: c37 :: c38 :: c39 :: c40 :: c41 :: c42 :: c43 :: c44 :: c45 :: c46 :: c47 :: c48 :: c49 :: c50 :: c51 :: c52 :: c53 :: c54 :: c55 :: c56 :: c57 :: c58 :: c59 :: c60 :: c61 :: c62 :: c63 :: c64 :: c65 :: c66 :: c67 :: c68 :: c69 :: c70 :: c71 :: c72 :: c73 :: c74 :: c75 :: c76 :: c77 :: c78 :: c79 :: c80 :: c81 :: c82 :: c83 :: c84 :: c85 :: c86 :: c87 :: c88 :: c89 :: c90 :: c91 :: c92 :: c93 :: c94 :: c95 :: c96 :: c97 :: c98 :: c99 :: c100 :: c101 :: c102 :: c103 :: c104 :: c105 :: c106 :: c107 :: c108 :: c109 :: c110 :: c111 :: c112 :: c113 :: c114 :: c115 :: c116 :: c117 :: c118 :: c119 :: c120 :: c121 :: c122 :: c123 :: c124 :: c125 :: c126 :: c127 :: c128 :: c129 :: c130 :: c131 :: c132 :: c133 :: c134 :: c135 :: c136 :: c137 :: c138 :: c139 :: c140 :: c141 :: c142 :: c143 :: c144 :: c145 :: c146 :: c147 :: c148 :: c149 :: c150 :: c151 :: c152 :: c153 :: c154 :: c155 :: c156 :: c157 :: c158 :: c159 :: c160 :: c161 :: c162 :: c163 :: c164 :: c165 :: c166 :: c167 :: c168 :: c169 :: c170 :: c171 :: c172 :: c173 :: c174 :: c175 :: c176 :: c177 :: c178 :: c179 :: c180 :: c181 :: c182 :: c183 :: c184 :: c185 :: c186 :: c187 :: c188 :: c189 :: c190 :: c191 :: c192 :: c193 :: c194 :: c195 :: c196 :: c197 :: c198 :: c199 :: c200 :: c201 :: c202 :: c203 :: c204 :: c205 :: c206 :: c207 :: c208 :: c209 :: c210 :: c211 :: c212 :: c213 :: c214 :: c215 :: c216 :: c217 :: c218 :: c219 :: c220 :: c221 :: c222 :: c223 :: c224 :: c225 :: c226 :: c227 :: c228 :: c229 :: c230 :: c231 :: c232 :: c233 :: c234 :: c235 :: c236 :: c237 :: c238 :: (Value.slice (some ⟨rb, 0, none⟩) R R) :: (Value.int .i64 (R : Int)) :: u241 :: u242 :: u243 :: u244 :: u245 :: u246 :: u247 :: u248 :: u249 :: u250 :: u251 :: u252 :: u253 :: u254 :: u255 :: u256 :: u257 :: u258 :: u259 :: u260 :: u261 :: u262 :: u263 :: u264 :: u265 :: u266 :: u267 :: u268 :: u269 :: u270 :: u271 :: u272 :: u273 :: u274 :: u275 :: u276 :: u277 :: u278 :: u279 :: u280 :: u281 :: u282 :: u283 :: u284 :: u285 :: u286 :: u287 :: u288 :: u289 :: u290 :: u291 :: u292 :: u293 :: u294 :: u295 :: u296 :: u297 :: u298 :: u299 :: u300 :: u301 :: u302 :: u303 :: u304 :: u305 :: u306 :: u307 :: u308 :: u309 :: u310 :: u311 :: c312 :: c313 :: c314 :: c315 :: c316 :: c317 :: c318 :: c319 :: [])), []⟩ w') :
    (Code.loop (loopOf Try.f34 7)).wp Try.prog Q ⟨(List.toArray (c0 :: (Value.pointer (some ⟨gb, 0, none⟩)) :: (Value.slice (some ⟨st, 0, none⟩) (N + 1) (N + 1)) :: c3 :: c4 :: c5 :: c6 :: c7 :: c8 :: (Value.slice (some ⟨rb, 0, none⟩) R R) :: (Value.func (.func 36) #[] #[.pointer (some ⟨shb, 0, none⟩), .pointer (some ⟨gb, 0, none⟩)]) :: c11 :: c12 :: (Value.pointer (some ⟨spb, 0, none⟩)) :: c14 :: c15 :: c16 :: c17 :: c18 :: c19 :: c20 :: vP0 :: (Value.slice (some ⟨fb, 0, none⟩) N fc) :: c23 :: c24 :: c25 :: c26 :: c27 :: c28 :: c29 :: c30 :: c31 :: c32 :: c33 :: c34 :: c35 :: c36 :: c37 :: c38 :: c39 :: c40 :: c41 :: c42 :: c43 :: c44 :: c45 :: c46 :: c47 :: c48 :: c49 :: c50 :: c51 :: c52 :: c53 :: c54 :: c55 :: c56 :: c57 :: c58 :: c59 :: c60 :: c61 :: c62 :: c63 :: c64 :: c65 :: c66 :: c67 :: c68 :: c69 :: c70 :: c71 :: c72 :: c73 :: c74 :: c75 :: c76 :: c77 :: c78 :: c79 :: c80 :: c81 :: c82 :: c83 :: c84 :: c85 :: c86 :: c87 :: c88 :: c89 :: c90 :: c91 :: c92 :: c93 :: c94 :: c95 :: c96 :: c97 :: c98 :: c99 :: c100 :: c101 :: c102 :: c103 :: c104 :: c105 :: c106 :: c107 :: c108 :: c109 :: c110 :: c111 :: c112 :: c113 :: c114 :: c115 :: c116 :: c117 :: c118 :: c119 :: c120 :: c121 :: c122 :: c123 :: c124 :: c125 :: c126 :: c127 :: c128 :: c129 :: c130 :: c131 :: c132 :: c133 :: c134 :: c135 :: c136 :: c137 :: c138 :: c139 :: c140 :: c141 :: c142 :: c143 :: c144 :: c145 :: c146 :: c147 :: c148 :: c149 :: c150 :: c151 :: c152 :: c153 :: c154 :: c155 :: c156 :: c157 :: c158 :: c159 :: c160 :: c161 :: c162 :: c163 :: c164 :: c165 :: c166 :: c167 :: c168 :: c169 :: c170 :: c171 :: c172 :: c173 :: c174 :: c175 :: c176 :: c177 :: c178 :: c179 :: c180 :: c181 :: c182 :: c183 :: c184 :: c185 :: c186 :: c187 :: c188 :: c189 :: c190 :: c191 :: c192 :: c193 :: c194 :: c195 :: c196 :: c197 :: c198 :: c199 :: c200 :: c201 :: c202 :: c203 :: c204 :: c205 :: c206 :: c207 :: c208 :: c209 :: c210 :: c211 :: c212 :: c213 :: c214 :: c215 :: c216 :: c217 :: c218 :: c219 :: c220 :: c221 :: c222 :: c223 :: c224 :: c225 :: c226 :: c227 :: c228 :: c229 :: c230 :: c231 :: c232 :: c233 :: c234 :: c235 :: c236 :: c237 :: c238 :: (Value.slice (some ⟨rb, 0, none⟩) R R) :: (Value.int .i64 (R : Int)) :: (Value.int .i64 0) :: c242 :: c243 :: c244 :: c245 :: c246 :: c247 :: c248 :: c249 :: c250 :: c251 :: c252 :: c253 :: c254 :: c255 :: c256 :: c257 :: c258 :: c259 :: c260 :: c261 :: c262 :: c263 :: c264 :: c265 :: c266 :: c267 :: c268 :: c269 :: c270 :: c271 :: c272 :: c273 :: c274 :: c275 :: c276 :: c277 :: c278 :: c279 :: c280 :: c281 :: c282 :: c283 :: c284 :: c285 :: c286 :: c287 :: c288 :: c289 :: c290 :: c291 :: c292 :: c293 :: c294 :: c295 :: c296 :: c297 :: c298 :: c299 :: c300 :: c301 :: c302 :: c303 :: c304 :: c305 :: c306 :: c307 :: c308 :: c309 :: c310 :: c311 :: c312 :: c313 :: c314 :: c315 :: c316 :: c317 :: c318 :: c319 :: [])), []⟩ w := by
  conv => arg 2; arg 1; whnf
  go_loopg [21, 241] R (fun gg v i wr => ∃ k : Nat, k ≤ R ∧ gg = R - k ∧ i = .int .i64 k ∧ Hid (∃ τ ps ov PL, P2 wr B τ ps ov rb fb spb R N E (rgAll sh k E) (rgAll sh k E) PL (K + (rgAll sh k E).length) ∧ Step B [4, 6, 7] w τ0 wr τ ∧ (∀ r', k ≤ r' → r' < R → Cont ps sh r' E) ∧ ov gP = v ∧ befE E (fr sh N k) ≤ 512 * PL.length ∧ 512 * PL.length ≤ T + 511))
  case atStart =>
    have e0 : befE E (fr sh N 0) = 0 := by
      have : fr sh N 0 = 0 := by unfold fr; simp
      rw [this, befE_zero HT.out]
    exact ⟨0, by omega, by omega, rfl, hidG ⟨τ0, ps0, ov0, [], H.out, Step.refl _ _ _ _, fun r' _ h => HC.out r' h, HV.out, by rw [e0]; omega, by simp⟩⟩
  case round =>
    obtain ⟨k, hk, rfl, rfl, HI⟩ := hrel
    by_cases hlt : k < R
    · have hlt' : (k : Int) < (R : Int) := by omega
      obtain ⟨τ, ps, ov, PL, h1, hst, hg1, hg2, hg3, hg4⟩ := HI.out
      obtain ⟨Pr, hPr, hfl, hne⟩ := hg1 k (Nat.le_refl _) hlt
      have hBr : B ≤ wr.heap.size := Nat.le_trans hB hst.below.size
      obtain ⟨xs, hxr, hxl, hxp⟩ := h1.gi.row k
      obtain ⟨oa, cp, hv⟩ := hxr.slice
      rw [hxl, hPr, List.length_map] at hv
      have hfL : (flat Pr).length ≤ T := by rw [hfl, ← HE.out]; exact rgE_le _ _ _
      have hPl := flat_len hne
      have hrl := rgAll_length HT.out sh k
      have hrl1 := rgAll_length HT.out sh (k + 1)
      have hbl := befE_le E (fr sh N (k + 1))
      have hbl0 := befE_le E (fr sh N k)
      rw [HE.out] at hbl hbl0
      have hsucc : (rgAll sh (k + 1) E).length = (rgAll sh k E).length + (flat Pr).length := by rw [rgAll_succ, List.length_append, hfl]
      have krb : wr.cell? ⟨rb, k, none⟩ = some (.slice oa Pr.length cp) := by rw [h1.rg.cell hlt, hv]
      obtain ⟨en, hen⟩ : ∃ en, befE E (fr sh N (k + 1)) = en := ⟨_, rfl⟩
      obtain ⟨x1, hx1⟩ : ∃ x1, fr sh N (k + 1) = x1 := ⟨_, rfl⟩
      have hx1N : x1 ≤ N := by rw [← hx1]; exact fr_le _ _ _
      have kcell : ∀ w9 τ9, Step B [4, 6, 7] w τ0 w9 τ9 → IB w9 st (N + 1) (fun n => (befE E n : Int)) ∧ τ9 st = .fix 2 ∧ w9.cell? ⟨shb, 0, none⟩ = some (.int .i64 (sh : Int)) ∧ w9.cell? ⟨gb, 0, none⟩ = some (.pointer (some ⟨g, 0, none⟩)) ∧ w9.cell? ⟨g, 1, none⟩ = some (.int .i64 (N : Int)) ∧ τ9 gb = .fix 1 ∧ τ9 g = .fix 0 := by
        intro w9 τ9 hs
        exact ⟨HST.out.of_block (hs.same st 2 T2.out (by simp)), hs.fix _ _ T2.out, (World.cell?_of_block (w := w) (a := ⟨shb, 0, none⟩) (hs.same shb 3 T3.out (by simp))).trans HSH.out, (World.cell?_of_block (w := w) (a := ⟨gb, 0, none⟩) (hs.same gb 1 T1.out (by simp))).trans C1.out, (World.cell?_of_block (w := w) (a := ⟨g, 1, none⟩) (hs.same g 0 T0.out (by simp))).trans C2.out, hs.fix _ _ T1.out, hs.fix _ _ T0.out⟩
      obtain ⟨Hd, hsd⟩ := h1.drew hBr
      have hstd := hst.trans (hsd.mono (by simp))
      obtain ⟨n1, n2, n3, n4, n5, n6, n7⟩ := kcell _ _ hst
      obtain ⟨d1, d2, d3, d4, d5, d6, d7⟩ := kcell _ _ hstd
      have FC := hidG (first_fr1 shb gb g k sh N wr (by omega) hsh hN n3 n4 n5)
      have kst : wr.drew.cell? ⟨st, x1, none⟩ = some (.int .i64 (en : Int)) := by rw [d1.cell (by omega), ← hen, ← hx1]
      have kstN : wr.drew.cell? ⟨st, N, none⟩ = some (.int .i64 (T : Int)) := by rw [d1.cell (by omega), befE_all HT.out, HE.out]
      have HD := hidG Hd
      have HSD := hidG hstd
      have HKC := hidG kcell
      have HH := hidG (And.intro hg1 (And.intro hPr (And.intro hfl (And.intro hv (And.intro hg2 hen)))))
      have hPl1 : Pr.length ≤ 65536 := by omega
      have hen1 : en ≤ T := by omega
      have hM9 : K + (rgAll sh k E).length ≤ 1048570 := by omega
      have hM10 : K + (rgAll sh k E).length + Pr.length ≤ 1048570 := by omega
      have HM11 : Hid (K + (rgAll sh k E).length + Pr.length ≤ K + (rgAll sh (k + 1) E).length) := by unfold Hid; omega
      have hfL2 : (flat Pr).length ≤ 65536 := by omega
      have D := hidG (And.intro d2 (And.intro d4 (And.intro d5 (And.intro d6 d7))))
      have HNE := hidG hne
      rw [hx1] at FC
      have ix1 : (0 : Int) ≤ (x1 : Int) ∧ (x1 : Int) < (N : Int) + 1 := by omega
      have ik : (0 : Int) ≤ (k : Int) ∧ (k : Int) < (R : Int) := by omega
      clear HI h1 hst hg1 hg2 hg3 hPr hfl hne hxr hxl hxp hv hPl hrl hrl1 hbl hbl0 hsucc n1 n2 n3 n4 n5 n6 n7 d1 d2 d3 d4 d5 d6 d7 hstd hsd Hd kcell
      go_wp2_with fail
      refine FC.out.mono ?_
      rintro e9 w9 ⟨rfl, rfl⟩
      go_wp2_with fail
      refine loop9 gb g st rb fb spb N R B (K + (rgAll sh k E).length) T en u21 E (rgAll sh k E) PL τ ps ov wr.drew _ hN hR HE hT hen1 hM9 hg4 HD (hidG HH.out.2.2.2.2.1) kstN (hidG D.out.1) (hidG D.out.2.1) (hidG D.out.2.2.1) (hidG D.out.2.2.2.1) (hidG D.out.2.2.2.2) hBr ?_
      intro v21 v26 v253 v254 v255 v256 v257 v258 v259 v260 v261 v262 v263 v264 v265 v266 v267 v268 v269 v270 v271 v272 v273 v274 v275 v276 w7 H7
      obtain ⟨τ7, ps7, ov7, PL7, h7, s7, g71, g72, g73, g74⟩ := H7.out
      have hkS : k ≠ gS := by unfold gS; omega
      have hkP : k ≠ gP := by unfold gP; omega
      have hB7 : B ≤ w7.heap.size := Nat.le_trans (show B ≤ wr.drew.heap.size from hBr) s7.below.size
      have HCv : Hid (∀ e ∈ flat Pr, befE E (e.1.toNat + 1) ≤ 512 * PL7.length) := by
        intro e he
        rw [HH.out.2.2.1] at he
        unfold rgE at he
        obtain ⟨he1, he2⟩ := List.mem_filter.1 he
        have ht := HT.out e he1
        have hm := (fr_mem sh N k e.1.toNat (by omega)).1 (by simpa using he2)
        have hmo := befE_mono E (e.1.toNat + 1) (fr sh N (k + 1)) (by omega)
        rw [HH.out.2.2.2.2.2] at hmo
        omega
      have HTG : Hid (Tails N (rgAll sh R E)) := rgAll_tails HT.out sh R
      have HGG : Hid (∃ rest, rgAll sh R E = rgAll sh k E ++ flat Pr ++ rest) := by
        obtain ⟨rest, hr⟩ := rgAll_mono sh R (k + 1) E (by omega)
        exact ⟨rest, by rw [hr, rgAll_succ, HH.out.2.2.1]⟩
      have HCC : Hid (∀ n, n < N → cntE (rgAll sh R E) n = cntE E n) := by
        intro n hn
        rw [← nodeE_length, ← nodeE_length, nodeE_rgAll, if_pos (range_nat HNR.out hn)]
      have HVR : Hid (ov7 k = .slice oa Pr.length cp) := by rw [Hid, (g71 k hkP hkS).2]; exact HH.out.2.2.2.1
      have HPR : Hid (ps7 k = Pr.map some) := by rw [Hid, (g71 k hkP hkS).1]; exact HH.out.2.1
      have hPL7 : PL7.length ≤ 1048576 := by omega
      have H7P := hidG h7
      have hv21 := hidG g72
      have HS7 := hidG (HSD.out.trans (s7.mono (by simp)))
      have HG7 := hidG g71
      have hE65 : E.length ≤ 65536 := by rw [HE.out]; exact hT
      clear H7 h7 s7 g71 g72
      go_wp2_with fail
      refine loop10 rb fb spb N R B (K + (rgAll sh k E).length) k fc Pr.length v21 (.slice oa Pr.length cp) (rgAll sh R E) E (rgAll sh k E) Pr PL7 τ7 ps7 ov7 w7 _ hN hR hlt hE65 hPl1 rfl hM10 hfL2 HTG HGG HCC HCv hPL7 H7P hv21 HVR HPR hB7 ?_
      intro x28 x30 x279 x280 x281 x282 x283 x284 x285 x286 x287 x288 x289 x290 x291 x292 x293 x294 x295 x296 x297 x298 x299 x300 x301 x302 x303 x304 x305 x306 x307 w8 H8
      obtain ⟨τ8, ps8, ov8, PL8, h8, s8, g81, g82, g83⟩ := H8.out
      have k8 := h8.rg.cell hlt
      have f8 := h8.rg.frozen k
      have hB8 : B ≤ w8.heap.size := Nat.le_trans hB7 s8.below.size
      have HN : Hid (∃ τ ps ov PL, P2 (w8.setCell ⟨rb, k, none⟩ (.slice none 0 0)) B τ ps ov rb fb spb R N E (rgAll sh (k + 1) E) (rgAll sh (k + 1) E) PL (K + (rgAll sh (k + 1) E).length) ∧ Step B [4, 6, 7] w τ0 (w8.setCell ⟨rb, k, none⟩ (.slice none 0 0)) τ ∧ (∀ r', (k + 1) ≤ r' → r' < R → Cont ps sh r' E) ∧ ov gP = v21 ∧ befE E (fr sh N (k + 1)) ≤ 512 * PL.length ∧ 512 * PL.length ≤ T + 511) := by
        rw [HH.out.2.2.1, ← rgAll_succ] at h8
        obtain ⟨z1, z2⟩ := (h8.more (M' := K + (rgAll sh (k + 1) E).length) HM11.out).clear hB8 hR hlt
        have hPS : gP ≠ gS := by unfold gP gS; omega
        refine ⟨τ8, _, _, PL8, z1, (HS7.out.trans (s8.mono (by simp))).trans (z2.mono (by simp)), fun r' e1 e2 => ?_, ?_, ?_, ?_⟩
        · obtain ⟨P', a1, a2⟩ := HH.out.1 r' (by omega) e2
          have r1 : r' ≠ gP := by unfold gP; omega
          have r2 : r' ≠ gS := by unfold gS; omega
          refine ⟨P', ?_, a2⟩
          rw [upd_ne _ _ (by omega), g81 r' r1 r2 (by omega), (HG7.out r' r1 r2).1]; exact a1
        · rw [upd_ne _ _ hkP.symm, g82 gP hPS]; exact hv21.out
        · rw [g83, HH.out.2.2.2.2.2]; exact g73
        · rw [g83]; exact g74
      clear H8 h8 s8 g81 g82 
      generalize ov8 k = v8 at k8
      go_wp2_with fail
      go_roundg (R - (k + 1))
      case measure => omega
      case rel => exact ⟨k + 1, by omega, rfl, by go_num, HN⟩
    · have hge : k = R := by omega
      subst hge
      have HQ : Hid (∃ τ ps ov PL, GI wr B τ ps ov ∧ Step B [4, 6, 7] w τ0 wr τ ∧ ov gP = u21 ∧ ps gP = PL.map some ∧ Chunked T PL ∧ flat PL = grouped N E ∧ PL.length = (T + 511) / 512) := by
        obtain ⟨τ, ps, ov, PL, h1, h2, _, h4, h5, h6⟩ := HI.out
        have hd := h1.done HT.out HNR.out hN0 h5
        rw [fr_last HNR.out hN0, befE_all HT.out, HE.out] at h5
        refine ⟨τ, ps, ov, PL, h1.gi, h2, h4, h1.pl, by rw [← HE.out]; exact h1.ch, hd, by omega⟩
      clear HI
      go_wp2_with fail
      exact HQ

end Go.Proofs.Qxb6601127a
