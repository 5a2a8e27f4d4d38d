import Derived.Test.Qxb6601127aGL2
import Derived.Test.Qxb6601127aGRange
import Derived.Deep.RegionHeld3
import Derived.Deep.DrawnRows
namespace Go.Proofs.Qxb6601127a
open Go.RowKit
set_option linter.unusedVariables false
set_option linter.unusedSimpArgs false
attribute [local go_sem] Go.wp_at_zero Go.wp_at_succ

/-- left as it is filled, up to k -/
def leftF (ds : List Edge) (sh N k r : Nat) : Int := if r < k then (befE ds (fr sh N (r + 1)) : Int) - (befE ds (fr sh N r) : Int) else 0

theorem leftF_succ (ds : List Edge) (sh N k j : Nat) : (if j = k then (befE ds (fr sh N (k + 1)) : Int) - (befE ds (fr sh N k) : Int) else leftF ds sh N k j) = leftF ds sh N (k + 1) j := by
  unfold leftF
  by_cases h : j = k
  · subst h; rw [if_pos rfl, if_pos (by omega)]
  · rw [if_neg h]
    by_cases h2 : j < k
    · rw [if_pos h2, if_pos (by omega)]
    · rw [if_neg h2, if_neg (by omega)]

theorem keep_cell {w w' : World} {a b : Addr} {v x : Value} (h : w.cell? a = some x) (hh : w'.heap = (w.setCell b v).heap) (hne : a.block ≠ b.block) : w'.cell? a = some x := by
  rw [World.cell?_of_block (w := w) (w' := w')]
  · exact h
  · rw [hh]; exact Below.heap_setCell _ _ _ _ hne

theorem first_fr (sb gb g : Nat) (r sh N : Nat) (w : World) (hr : r ≤ 65536) (hsh : sh ≤ 6) (hn : N ≤ 65536)
    (c1 : w.cell? ⟨sb, 0, none⟩ = some (.int .i64 (sh : Int))) (c2 : w.cell? ⟨gb, 0, none⟩ = some (.pointer (some ⟨g, 0, none⟩)))
    (c3 : w.cell? ⟨g, 1, none⟩ = some (.int .i64 (N : Int))) :
    Calls Try.prog 36 #[.int .i64 (r : Int), .pointer (some ⟨sb, 0, none⟩), .pointer (some ⟨gb, 0, none⟩)] w fun e w' => e = .returned (.int .i64 ((fr sh N r : Nat) : Int)) ∧ w.drew = w' :=
  first_call sb gb g r sh N w hr hsh hn c1 c2 c3

theorem first_fr1 (sb gb g : Nat) (r sh N : Nat) (w : World) (hr : r ≤ 65535) (hsh : sh ≤ 6) (hn : N ≤ 65536)
    (c1 : w.cell? ⟨sb, 0, none⟩ = some (.int .i64 (sh : Int))) (c2 : w.cell? ⟨gb, 0, none⟩ = some (.pointer (some ⟨g, 0, none⟩)))
    (c3 : w.cell? ⟨g, 1, none⟩ = some (.int .i64 (N : Int))) :
    Calls Try.prog 36 #[.int .i64 ((r : Int) + 1), .pointer (some ⟨sb, 0, none⟩), .pointer (some ⟨gb, 0, none⟩)] w fun e w' => e = .returned (.int .i64 ((fr sh N (r + 1) : Nat) : Int)) ∧ w.drew = w' :=
  first_call sb gb g (r + 1) sh N w (by omega) hsh hn c1 c2 c3

set_option maxRecDepth 1000000 in
set_option maxHeartbeats 400000 in
theorem loop5 (gb g shb st lf N R sh : Nat) (ds : List Edge) (w : World) (Q : Exit → Act → World → Prop)
    (hN : N ≤ 65536) (hR : R ≤ 1024) (hsh : sh ≤ 6) (C1 : Hid (w.cell? ⟨gb, 0, none⟩ = some (.pointer (some ⟨g, 0, none⟩)))) (C2 : Hid (w.cell? ⟨g, 1, none⟩ = some (.int .i64 (N : Int)))) (C3 : Hid (w.cell? ⟨shb, 0, none⟩ = some (.int .i64 (sh : Int))))
    (h1 : gb ≠ lf) (h2 : g ≠ lf) (h3 : shb ≠ lf) (h4 : st ≠ lf) (hL : ds.length ≤ 1048576)
    (HS : Hid (IB w st (N + 1) (fun n => (befE ds n : Int)))) (HF : Hid (IB w lf R (fun _ => 0))) {c0 c1 c3 c4 c5 c6 c7 c8 c9 c12 c13 c14 c15 c16 c17 c18 c19 c20 c21 c22 c23 c24 c25 c26 c27 c28 c29 c30 c31 c32 c33 c34 c35 c36 c37 c38 c39 c40 c41 c42 c43 c44 c45 c46 c47 c48 c49 c50 c51 c52 c53 c54 c55 c56 c57 c58 c59 c60 c61 c62 c63 c64 c65 c66 c67 c68 c69 c70 c71 c72 c73 c74 c75 c76 c77 c78 c79 c80 c81 c82 c83 c84 c85 c86 c87 c88 c89 c90 c91 c92 c93 c94 c95 c96 c97 c98 c99 c100 c101 c102 c103 c104 c105 c106 c107 c108 c109 c112 c113 c114 c115 c116 c117 c118 c119 c120 c121 c122 c123 c124 c125 c126 c127 c128 c129 c130 c131 c132 c133 c134 c135 c136 c137 c138 c139 c140 c141 c142 c143 c144 c145 c146 c147 c148 c149 c150 c151 c152 c153 c154 c155 c156 c157 c158 c159 c160 c161 c162 c163 c164 c165 c166 c167 c168 c169 c170 c171 c172 c173 c174 c175 c176 c177 c178 c179 c180 c181 c182 c183 c184 c185 c186 c187 c188 c189 c190 c191 c192 c193 c194 c195 c196 c197 c198 c199 c200 c201 c202 c203 c204 c205 c206 c207 c208 c209 c210 c211 c212 c213 c214 c215 c216 c217 c218 c219 c220 c221 c222 c223 c224 c225 c226 c227 c228 c229 c230 c231 c232 c233 c234 c235 c236 c237 c238 c239 c240 c241 c242 c243 c244 c245 c246 c247 c248 c249 c250 c251 c252 c253 c254 c255 c256 c257 c258 c259 c260 c261 c262 c263 c264 c265 c266 c267 c268 c269 c270 c271 c272 c273 c274 c275 c276 c277 c278 c279 c280 c281 c282 c283 c284 c285 c286 c287 c288 c289 c290 c291 c292 c293 c294 c295 c296 c297 c298 c299 c300 c301 c302 c303 c304 c305 c306 c307 c308 c309 c310 c311 c312 c313 c314 c315 c316 c317 c318 c319 : Value}
    (hexit : ∀ u12 u111 u112 u113 u114 u115 u116 u117 u118 u119 u120 u121 u122 u123 u124 u125 u126 u127 u128 u129 u130 u131 w', Hid (Keeps [lf] w w' ∧ IB w' lf R (leftF ds sh N R)) → Q (.exit 8) ⟨(List.toArray (c0 :: c1 :: (Value.slice (some ⟨st, 0, none⟩) (N + 1) (N + 1)) :: c3 :: c4 :: c5 :: c6 :: c7 :: c8 :: c9 :: (Value.func (.func 36) #[] #[.pointer (some ⟨shb, 0, none⟩), .pointer (some ⟨gb, 0, none⟩)]) :: (Value.slice (some ⟨lf, 0, none⟩) R R) :: u12 :: c13 :: c14 :: c15 :: c16 :: c17 :: c18 :: c19 :: c20 :: c21 :: c22 :: c23 :: c24 :: c25 :: c26 :: c27 :: c28 :: c29 :: c30 :: c31 :: c32 :: c33 :: c34 :: c35 :: c36 :: c37 :: c38 :: c39 :: c40 :: c41 :: c42 :: c43 :: c44 :: c45 :: c46 :: c47 :: c48 :: c49 :: c50 :: c51 :: c52 :: c53 :: c54 :: c55 :: c56 :: c57 :: c58 :: c59 :: c60 :: c61 :: c62 :: c63 :: c64 :: c65 :: c66 :: c67 :: c68 :: c69 :: c70 :: c71 :: c72 :: c73 :: c74 :: c75 :: c76 :: c77 :: c78 :: c79 :: c80 :: c81 :: c82 :: c83 :: c84 :: c85 :: c86 :: c87 :: c88 :: c89 :: c90 :: c91 :: c92 :: c93 :: c94 :: c95 :: c96 :: c97 :: c98 :: c99 :: c100 :: c101 :: c102 :: c103 :: c104 :: c105 :: c106 :: c107 :: c108 :: c109 :: (Value.int .i64 (R : Int)) :: u111 :: u112 :: u113 :: u114 :: u115 :: u116 :: u117 :: u118 :: u119 :: u120 :: u121 :: u122 :: u123 :: u124 :: u125 :: u126 :: u127 :: u128 :: u129 :: u130 :: u131 :: c132 :: c133 :: c134 :: c135 :: c136 :: c137 :: c138 :: c139 :: c140 :: c141 :: c142 :: c143 :: c144 :: c145 :: c146 :: c147 :: c148 :: c149 :: c150 :: c151 :: c152 :: c153 :: c154 :: c155 :: c156 :: c157 :: c158 :: c159 :: c160 :: c161 :: c162 :: c163 :: c164 :: c165 :: c166 :: c167 :: c168 :: c169 :: c170 :: c171 :: c172 :: c173 :: c174 :: c175 :: c176 :: c177 :: c178 :: c179 :: c180 :: c181 :: c182 :: c183 :: c184 :: c185 :: c186 :: c187 :: c188 :: c189 :: c190 :: c191 :: c192 :: c193 :: c194 :: c195 :: c196 :: c197 :: c198 :: c199 :: c200 :: c201 :: c202 :: c203 :: c204 :: c205 :: c206 :: c207 :: c208 :: c209 :: c210 :: c211 :: c212 :: c213 :: c214 :: c215 :: c216 :: c217 :: c218 :: c219 :: c220 :: c221 :: c222 :: c223 :: c224 :: c225 :: c226 :: c227 :: c228 :: c229 :: c230 :: c231 :: c232 :: c233 :: c234 :: c235 :: c236 :: c237 :: c238 :: c239 :: c240 :: c241 :: c242 :: c243 :: c244 :: c245 :: c246 :: c247 :: c248 :: c249 :: c250 :: c251 :: c252 :: c253 :: c254 :: c255 :: c256 :: c257 :: c258 :: c259 :: c260 :: c261 :: c262 :: c263 :: c264 :: c265 :: c266 :: c267 :: c268 :: c269 :: c270 :: c271 :: c272 :: c273 :: c274 :: c275 :: c276 :: c277 :: c278 :: c279 :: c280 :: c281 :: c282 :: c283 :: c284 :: c285 :: c286 :: c287 :: c288 :: c289 :: c290 :: c291 :: c292 :: c293 :: c294 :: c295 :: c296 :: c297 :: c298 :: c299 :: c300 :: c301 :: c302 :: c303 :: c304 :: c305 :: c306 :: c307 :: c308 :: c309 :: c310 :: c311 :: c312 :: c313 :: c314 :: c315 :: c316 :: c317 :: c318 :: c319 :: [])), []⟩ w') :
    (Code.loop (loopOf Try.f34 4)).wp Try.prog Q ⟨(List.toArray (c0 :: c1 :: (Value.slice (some ⟨st, 0, none⟩) (N + 1) (N + 1)) :: c3 :: c4 :: c5 :: c6 :: c7 :: c8 :: c9 :: (Value.func (.func 36) #[] #[.pointer (some ⟨shb, 0, none⟩), .pointer (some ⟨gb, 0, none⟩)]) :: (Value.slice (some ⟨lf, 0, none⟩) R R) :: c12 :: c13 :: c14 :: c15 :: c16 :: c17 :: c18 :: c19 :: c20 :: c21 :: c22 :: c23 :: c24 :: c25 :: c26 :: c27 :: c28 :: c29 :: c30 :: c31 :: c32 :: c33 :: c34 :: c35 :: c36 :: c37 :: c38 :: c39 :: c40 :: c41 :: c42 :: c43 :: c44 :: c45 :: c46 :: c47 :: c48 :: c49 :: c50 :: c51 :: c52 :: c53 :: c54 :: c55 :: c56 :: c57 :: c58 :: c59 :: c60 :: c61 :: c62 :: c63 :: c64 :: c65 :: c66 :: c67 :: c68 :: c69 :: c70 :: c71 :: c72 :: c73 :: c74 :: c75 :: c76 :: c77 :: c78 :: c79 :: c80 :: c81 :: c82 :: c83 :: c84 :: c85 :: c86 :: c87 :: c88 :: c89 :: c90 :: c91 :: c92 :: c93 :: c94 :: c95 :: c96 :: c97 :: c98 :: c99 :: c100 :: c101 :: c102 :: c103 :: c104 :: c105 :: c106 :: c107 :: c108 :: c109 :: (Value.int .i64 (R : Int)) :: (Value.int .i64 0) :: c112 :: c113 :: c114 :: c115 :: c116 :: c117 :: c118 :: c119 :: c120 :: c121 :: c122 :: c123 :: c124 :: c125 :: c126 :: c127 :: c128 :: c129 :: c130 :: c131 :: c132 :: c133 :: c134 :: c135 :: c136 :: c137 :: c138 :: c139 :: c140 :: c141 :: c142 :: c143 :: c144 :: c145 :: c146 :: c147 :: c148 :: c149 :: c150 :: c151 :: c152 :: c153 :: c154 :: c155 :: c156 :: c157 :: c158 :: c159 :: c160 :: c161 :: c162 :: c163 :: c164 :: c165 :: c166 :: c167 :: c168 :: c169 :: c170 :: c171 :: c172 :: c173 :: c174 :: c175 :: c176 :: c177 :: c178 :: c179 :: c180 :: c181 :: c182 :: c183 :: c184 :: c185 :: c186 :: c187 :: c188 :: c189 :: c190 :: c191 :: c192 :: c193 :: c194 :: c195 :: c196 :: c197 :: c198 :: c199 :: c200 :: c201 :: c202 :: c203 :: c204 :: c205 :: c206 :: c207 :: c208 :: c209 :: c210 :: c211 :: c212 :: c213 :: c214 :: c215 :: c216 :: c217 :: c218 :: c219 :: c220 :: c221 :: c222 :: c223 :: c224 :: c225 :: c226 :: c227 :: c228 :: c229 :: c230 :: c231 :: c232 :: c233 :: c234 :: c235 :: c236 :: c237 :: c238 :: c239 :: c240 :: c241 :: c242 :: c243 :: c244 :: c245 :: c246 :: c247 :: c248 :: c249 :: c250 :: c251 :: c252 :: c253 :: c254 :: c255 :: c256 :: c257 :: c258 :: c259 :: c260 :: c261 :: c262 :: c263 :: c264 :: c265 :: c266 :: c267 :: c268 :: c269 :: c270 :: c271 :: c272 :: c273 :: c274 :: c275 :: c276 :: c277 :: c278 :: c279 :: c280 :: c281 :: c282 :: c283 :: c284 :: c285 :: c286 :: c287 :: c288 :: c289 :: c290 :: c291 :: c292 :: c293 :: c294 :: c295 :: c296 :: c297 :: c298 :: c299 :: c300 :: c301 :: c302 :: c303 :: c304 :: c305 :: c306 :: c307 :: c308 :: c309 :: c310 :: c311 :: c312 :: c313 :: c314 :: c315 :: c316 :: c317 :: c318 :: c319 :: [])), []⟩ w := by
  conv => arg 2; arg 1; whnf
  go_loopg [111] R (fun gg i wr => ∃ k : Nat, k ≤ R ∧ gg = R - k ∧ i = .int .i64 k ∧ Hid (Keeps [lf] w wr ∧ IB wr lf R (leftF ds sh N k)))
  case atStart => exact ⟨0, by omega, by omega, rfl, hidG ⟨Keeps.refl _ _, HF.out.congr fun r _ => by unfold leftF; rw [if_neg (by omega)]⟩⟩
  case round =>
    obtain ⟨k, hk, rfl, rfl, HI⟩ := hrel
    by_cases hlt : k < R
    · have hlt' : (k : Int) < (R : Int) := by omega
      obtain ⟨hk1, hS⟩ := HI.out
      have k1 := hk1.cell C1.out (by simpa using h1)
      have k2 := hk1.cell C2.out (by simpa using h2)
      have k3 := hk1.cell C3.out (by simpa using h3)
      have hst := HS.out.keeps hk1 (by simpa using h4)
      have p1 := fr_le sh N (k + 1)
      have p0 := fr_le sh N k
      have s1 : wr.cell? ⟨st, fr sh N (k + 1), none⟩ = some (.int .i64 (befE ds (fr sh N (k + 1)) : Int)) := hst.cell (i := fr sh N (k + 1)) (by omega)
      have s0 : wr.cell? ⟨st, fr sh N k, none⟩ = some (.int .i64 (befE ds (fr sh N k) : Int)) := hst.cell (i := fr sh N k) (by omega)
      have b1 := befE_le ds (fr sh N (k + 1))
      have b0 := befE_le ds (fr sh N k)
      have l1 := hS.cell (i := k) hlt
      have l2 := hS.frozen k
      have HN : Hid (∀ w2, w2 = (wr.setCell ⟨lf, k, none⟩ (.int .i64 ((befE ds (fr sh N (k + 1)) : Int) - (befE ds (fr sh N k) : Int)))).drew.drew.drew → Keeps [lf] w w2 ∧ IB w2 lf R (leftF ds sh N (k + 1))) := by
        rintro w2 rfl
        refine ⟨(hk1.setCell (.inl (by simp)) _).drew.drew.drew, ?_⟩
        exact (hS.set k _).drew.drew.drew.congr fun j hj => leftF_succ ds sh N k j
      have FC := hidG (first_fr shb gb g k sh N)
      have FD := hidG (first_fr1 shb gb g k sh N)
      clear HI hk1 hS hst
      generalize fr sh N k = x0 at *
      generalize fr sh N (k + 1) = x1 at *
      generalize befE ds x0 = y0 at *
      generalize befE ds x1 = y1 at *
      have hw1 : IntKind.i64.wrap ((k : Int) + 1) = (k : Int) + 1 := by rw [IntKind.wrap_i64]; omega
      have hw2 : IntKind.i64.wrap ((y1 : Int) - (y0 : Int)) = (y1 : Int) - (y0 : Int) := by rw [IntKind.wrap_i64]; omega
      have i1 : (0 : Int) ≤ (x1 : Int) ∧ (x1 : Int) < (N : Int) + 1 := by omega
      have i0 : (0 : Int) ≤ (x0 : Int) ∧ (x0 : Int) < (N : Int) + 1 := by omega
      go_wp2_with fail
      go_region_held3 (fun w' => w'.cell? ⟨st, x1, none⟩ = some (.int .i64 (y1 : Int)) ∧ w'.cell? ⟨st, x0, none⟩ = some (.int .i64 (y0 : Int))) (first | exact ⟨keep_cell (b := ⟨lf, k, none⟩) (v := .int .i64 ((y1 : Int) - (y0 : Int))) s1 rfl h4, keep_cell (b := ⟨lf, k, none⟩) (v := .int .i64 ((y1 : Int) - (y0 : Int))) s0 rfl h4⟩ | go_keep) (first | (refine step_first (by rfl) _ _ _ (by rfl) _ _ _ _ ?hs ?hx (FD.out _ (by omega) hsh hN k3 k1 k2) ?_; (case hs => rfl); (case hx => rfl)) | (refine step_first (by rfl) _ _ _ (by rfl) _ _ _ _ ?hs ?hx (FC.out _ (by omega) hsh hN k3 k1 k2) ?_; (case hs => rfl); (case hx => rfl)))
      go_wp2_with fail
      go_roundg (R - (k + 1))
      case measure => omega
      case rel => exact ⟨k + 1, by omega, rfl, by go_num, hidG (HN.out _ rfl)⟩
    · have hge : k = R := by omega
      subst hge
      have HQ := HI
      clear HI
      go_wp2_with fail
      exact HQ

end Go.Proofs.Qxb6601127a
