import Derived.Test.Qxb6601127aGG0
import Derived.Lib.LazyBuf
namespace Go.Proofs.Qxb6601127a
open Go.RowKit
set_option linter.unusedVariables false
set_option linter.unusedSimpArgs false

theorem shift_ranges {N sh : Nat} (h : ((N : Int) - 1) / 2 ^ sh < 1024) : ∃ R : Nat, R ≤ 1024 ∧ ((N : Int) - 1) / 2 ^ sh + 1 = (R : Int) := by
  have h1 : (-1 : Int) ≤ ((N : Int) - 1) / 2 ^ sh := by
    have hp : (0 : Int) < 2 ^ sh := Int.pow_pos (by omega)
    rw [Int.le_ediv_iff_mul_le hp]
    have : (-1 : Int) * 2 ^ sh ≤ -1 := by omega
    omega
  exact ⟨(((N : Int) - 1) / 2 ^ sh + 1).toNat, by omega, by omega⟩

theorem no_ranges {sh R : Nat} (h : (((0 : Nat) : Int) - 1) / 2 ^ sh + 1 = (R : Int)) : R = 0 := by
  have hp : (0 : Int) < 2 ^ sh := Int.pow_pos (by omega)
  have : (((0 : Nat) : Int) - 1) / 2 ^ sh < 0 := Int.ediv_neg_of_neg_of_pos (by omega) hp
  omega

set_option maxRecDepth 1000000 in
set_option maxHeartbeats 4000000 in
theorem loop8z (w : World) (Q : Exit → Act → World → Prop) {c0 c1 c2 c3 c4 c5 c6 c7 c8 c9 c10 c11 c12 c13 c14 c15 c16 c17 c18 c19 c20 c21 c22 c23 c24 c25 c26 c27 c28 c29 c30 c31 c32 c33 c34 c35 c36 c37 c38 c39 c40 c41 c42 c43 c44 c45 c46 c47 c48 c49 c50 c51 c52 c53 c54 c55 c56 c57 c58 c59 c60 c61 c62 c63 c64 c65 c66 c67 c68 c69 c70 c71 c72 c73 c74 c75 c76 c77 c78 c79 c80 c81 c82 c83 c84 c85 c86 c87 c88 c89 c90 c91 c92 c93 c94 c95 c96 c97 c98 c99 c100 c101 c102 c103 c104 c105 c106 c107 c108 c109 c110 c111 c112 c113 c114 c115 c116 c117 c118 c119 c120 c121 c122 c123 c124 c125 c126 c127 c128 c129 c130 c131 c132 c133 c134 c135 c136 c137 c138 c139 c140 c141 c142 c143 c144 c145 c146 c147 c148 c149 c150 c151 c152 c153 c154 c155 c156 c157 c158 c159 c160 c161 c162 c163 c164 c165 c166 c167 c168 c169 c170 c171 c172 c173 c174 c175 c176 c177 c178 c179 c180 c181 c182 c183 c184 c185 c186 c187 c188 c189 c190 c191 c192 c193 c194 c195 c196 c197 c198 c199 c200 c201 c202 c203 c204 c205 c206 c207 c208 c209 c210 c211 c212 c213 c214 c215 c216 c217 c218 c219 c220 c221 c222 c223 c224 c225 c226 c227 c228 c229 c230 c231 c232 c233 c234 c235 c236 c237 c238 c239 c242 c243 c244 c245 c246 c247 c248 c249 c250 c251 c252 c253 c254 c255 c256 c257 c258 c259 c260 c261 c262 c263 c264 c265 c266 c267 c268 c269 c270 c271 c272 c273 c274 c275 c276 c277 c278 c279 c280 c281 c282 c283 c284 c285 c286 c287 c288 c289 c290 c291 c292 c293 c294 c295 c296 c297 c298 c299 c300 c301 c302 c303 c304 c305 c306 c307 c308 c309 c310 c311 c312 c313 c314 c315 c316 c317 c318 c319 : Value}
    (hexit : ∀ u23 u24 u25 u26 u28 u30 u242 u243 u244 u245 u246 u247 u248 u249 u250 u251 u252 u253 u254 u255 u256 u257 u258 u259 u260 u261 u262 u263 u264 u265 u266 u267 u268 u269 u270 u271 u272 u273 u274 u275 u276 u277 u278 u279 u280 u281 u282 u283 u284 u285 u286 u287 u288 u289 u290 u291 u292 u293 u294 u295 u296 u297 u298 u299 u300 u301 u302 u303 u304 u305 u306 u307 u308 u309 u310 u311, Q (.exit 14) ⟨(List.toArray (c0 :: c1 :: c2 :: c3 :: c4 :: c5 :: c6 :: c7 :: c8 :: c9 :: c10 :: c11 :: c12 :: c13 :: c14 :: c15 :: c16 :: c17 :: c18 :: c19 :: c20 :: c21 :: c22 :: u23 :: u24 :: u25 :: u26 :: c27 :: u28 :: c29 :: u30 :: c31 :: c32 :: c33 :: c34 :: c35 :: c36 :: c37 :: c38 :: c39 :: c40 :: c41 :: c42 :: c43 :: c44 :: c45 :: c46 :: c47 :: c48 :: c49 :: c50 :: c51 :: c52 :: c53 :: c54 :: c55 :: c56 :: c57 :: c58 :: c59 :: c60 :: c61 :: c62 :: c63 :: c64 :: c65 :: c66 :: c67 :: c68 :: c69 :: c70 :: c71 :: c72 :: c73 :: c74 :: c75 :: c76 :: c77 :: c78 :: c79 :: c80 :: c81 :: c82 :: c83 :: c84 :: c85 :: c86 :: c87 :: c88 :: c89 :: c90 :: c91 :: c92 :: c93 :: c94 :: c95 :: c96 :: c97 :: c98 :: c99 :: c100 :: c101 :: c102 :: c103 :: c104 :: c105 :: c106 :: c107 :: c108 :: c109 :: c110 :: c111 :: c112 :: c113 :: c114 :: c115 :: c116 :: c117 :: c118 :: c119 :: c120 :: c121 :: c122 :: c123 :: c124 :: c125 :: c126 :: c127 :: c128 :: c129 :: c130 :: c131 :: c132 :: c133 :: c134 :: c135 :: c136 :: c137 :: c138 :: c139 :: c140 :: c141 :: c142 :: c143 :: c144 :: c145 :: c146 :: c147 :: c148 :: c149 :: c150 :: c151 :: c152 :: c153 :: c154 :: c155 :: c156 :: c157 :: c158 :: c159 :: c160 :: c161 :: c162 :: c163 :: c164 :: c165 :: c166 :: c167 :: c168 :: c169 :: c170 :: c171 :: c172 :: c173 :: c174 :: c175 :: c176 :: c177 :: c178 :: c179 :: c180 :: c181 :: c182 :: c183 :: c184 :: c185 :: c186 :: c187 :: c188 :: c189 :: c190 :: c191 :: c192 :: c193 :: c194 :: c195 :: c196 :: c197 :: c198 :: c199 :: c200 :: c201 :: c202 :: c203 :: c204 :: c205 :: c206 :: c207 :: c208 :: c209 :: c210 :: c211 :: c212 :: c213 :: c214 :: c215 :: c216 :: c217 :: c218 :: c219 :: c220 :: c221 :: c222 :: c223 :: c224 :: c225 :: c226 :: c227 :: c228 :: c229 :: c230 :: c231 :: c232 :: c233 :: c234 :: c235 :: c236 :: c237 :: c238 :: c239 :: (Value.int .i64 0) :: (Value.int .i64 0) :: u242 :: u243 :: u244 :: u245 :: u246 :: u247 :: u248 :: u249 :: u250 :: u251 :: u252 :: u253 :: u254 :: u255 :: u256 :: u257 :: u258 :: u259 :: u260 :: u261 :: u262 :: u263 :: u264 :: u265 :: u266 :: u267 :: u268 :: u269 :: u270 :: u271 :: u272 :: u273 :: u274 :: u275 :: u276 :: u277 :: u278 :: u279 :: u280 :: u281 :: u282 :: u283 :: u284 :: u285 :: u286 :: u287 :: u288 :: u289 :: u290 :: u291 :: u292 :: u293 :: u294 :: u295 :: u296 :: u297 :: u298 :: u299 :: u300 :: u301 :: u302 :: u303 :: u304 :: u305 :: u306 :: u307 :: u308 :: u309 :: u310 :: u311 :: c312 :: c313 :: c314 :: c315 :: c316 :: c317 :: c318 :: c319 :: [])), []⟩ w) :
    (Code.loop (loopOf Try.f34 7)).wp Try.prog Q ⟨(List.toArray (c0 :: c1 :: c2 :: c3 :: c4 :: c5 :: c6 :: c7 :: c8 :: c9 :: c10 :: c11 :: c12 :: c13 :: c14 :: c15 :: c16 :: c17 :: c18 :: c19 :: c20 :: c21 :: c22 :: c23 :: c24 :: c25 :: c26 :: c27 :: c28 :: c29 :: c30 :: c31 :: c32 :: c33 :: c34 :: c35 :: c36 :: c37 :: c38 :: c39 :: c40 :: c41 :: c42 :: c43 :: c44 :: c45 :: c46 :: c47 :: c48 :: c49 :: c50 :: c51 :: c52 :: c53 :: c54 :: c55 :: c56 :: c57 :: c58 :: c59 :: c60 :: c61 :: c62 :: c63 :: c64 :: c65 :: c66 :: c67 :: c68 :: c69 :: c70 :: c71 :: c72 :: c73 :: c74 :: c75 :: c76 :: c77 :: c78 :: c79 :: c80 :: c81 :: c82 :: c83 :: c84 :: c85 :: c86 :: c87 :: c88 :: c89 :: c90 :: c91 :: c92 :: c93 :: c94 :: c95 :: c96 :: c97 :: c98 :: c99 :: c100 :: c101 :: c102 :: c103 :: c104 :: c105 :: c106 :: c107 :: c108 :: c109 :: c110 :: c111 :: c112 :: c113 :: c114 :: c115 :: c116 :: c117 :: c118 :: c119 :: c120 :: c121 :: c122 :: c123 :: c124 :: c125 :: c126 :: c127 :: c128 :: c129 :: c130 :: c131 :: c132 :: c133 :: c134 :: c135 :: c136 :: c137 :: c138 :: c139 :: c140 :: c141 :: c142 :: c143 :: c144 :: c145 :: c146 :: c147 :: c148 :: c149 :: c150 :: c151 :: c152 :: c153 :: c154 :: c155 :: c156 :: c157 :: c158 :: c159 :: c160 :: c161 :: c162 :: c163 :: c164 :: c165 :: c166 :: c167 :: c168 :: c169 :: c170 :: c171 :: c172 :: c173 :: c174 :: c175 :: c176 :: c177 :: c178 :: c179 :: c180 :: c181 :: c182 :: c183 :: c184 :: c185 :: c186 :: c187 :: c188 :: c189 :: c190 :: c191 :: c192 :: c193 :: c194 :: c195 :: c196 :: c197 :: c198 :: c199 :: c200 :: c201 :: c202 :: c203 :: c204 :: c205 :: c206 :: c207 :: c208 :: c209 :: c210 :: c211 :: c212 :: c213 :: c214 :: c215 :: c216 :: c217 :: c218 :: c219 :: c220 :: c221 :: c222 :: c223 :: c224 :: c225 :: c226 :: c227 :: c228 :: c229 :: c230 :: c231 :: c232 :: c233 :: c234 :: c235 :: c236 :: c237 :: c238 :: c239 :: (Value.int .i64 0) :: (Value.int .i64 0) :: c242 :: c243 :: c244 :: c245 :: c246 :: c247 :: c248 :: c249 :: c250 :: c251 :: c252 :: c253 :: c254 :: c255 :: c256 :: c257 :: c258 :: c259 :: c260 :: c261 :: c262 :: c263 :: c264 :: c265 :: c266 :: c267 :: c268 :: c269 :: c270 :: c271 :: c272 :: c273 :: c274 :: c275 :: c276 :: c277 :: c278 :: c279 :: c280 :: c281 :: c282 :: c283 :: c284 :: c285 :: c286 :: c287 :: c288 :: c289 :: c290 :: c291 :: c292 :: c293 :: c294 :: c295 :: c296 :: c297 :: c298 :: c299 :: c300 :: c301 :: c302 :: c303 :: c304 :: c305 :: c306 :: c307 :: c308 :: c309 :: c310 :: c311 :: c312 :: c313 :: c314 :: c315 :: c316 :: c317 :: c318 :: c319 :: [])), []⟩ w := by
  conv => arg 2; arg 1; whnf
  go_loopg [21, 241] 0 (fun g v i wr => g = 0 ∧ v = c21 ∧ i = .int .i64 0 ∧ w = wr)
  case atStart => exact ⟨rfl, rfl, rfl, rfl⟩
  case round =>
    obtain ⟨rfl, rfl, rfl, rfl⟩ := hrel
    go_wp2_with fail
    first | done | exact hexit _ _ _ _ _ _ _ _ _ _ _ _ _ _ _ _ _ _ _ _ _ _ _ _ _ _ _ _ _ _ _ _ _ _ _ _ _ _ _ _ _ _ _ _ _ _ _ _ _ _ _ _ _ _ _ _ _ _ _ _ _ _ _ _ _ _ _ _ _ _ _ _ _ _ _ _

set_option maxRecDepth 1000000 in
set_option maxHeartbeats 8000000 in
theorem gather_call (g N B K T : Nat) (P : List Part) (τ : Nat → Role) (ps : Nat → List (Option Part)) (ov : Nat → Value) (w : World) (hN : N ≤ 65536) (hK : K ≤ 65536) (HK : Hid (P.length = K)) (hT : T ≤ 65536) (HT : Hid ((flat P).length = T)) (H : Hid (GStart w B g N P τ ps ov)) :
    Calls Try.prog 34 #[.pointer (some ⟨g, 0, none⟩)] w fun e w' => e = .returned (.tuple #[]) ∧ ∃ st PL v τ' ps' ov', GEnd w B g N (flat P) w' st PL v τ' ps' ov' := by
  have q22 : ∀ (w : World) (a : Option Addr) (n c : Nat), (binOp .neq 22 (.slice a n c) (.slice none 0 0)).run Try.prog w = .ok (.bool (!a.isNone)) w := fun w a n c => run_neq_slice_nil w 22 3 a n c Try.underlying22
  have hmk0 := run_make_row' (P := Try.prog) 22 3 (.int .i64 0) 8 Try.underlying22 Try.info3 rfl .i64 .i64 (N + 1) (by omega) (by omega)
  have hmk : ∀ w, (Instr.makeSlice 22 (.int .i64 ((N : Int) + 1)) (.int .i64 ((N : Int) + 1))).run Try.prog w = .ok (.slice (some ⟨w.heap.size, 0, none⟩) (N + 1) (N + 1)) (w.alloc (.cells (madeCells #[.int .i64 0] (N + 1)) 3)) := hmk0
  clear hmk0
  have k1 := H.out.cg1
  have k3 := H.out.cg3
  have k4 := H.out.cg4
  have hgw : g < w.heap.size := World.block_lt_of_cell? w _ k1
  obtain ⟨xs, hxr, hxl, _⟩ := H.out.gi.row gG
  obtain ⟨oa, cp, hv⟩ := hxr.slice
  rw [hxl, H.out.hG, List.length_map, HK.out] at hv
  have HV := hidG hv
  clear hxr hxl
  rw [hv] at k3
  have hTl : (flat P).length ≤ 1048576 := by rw [HT.out]; omega
  go_enter Try.func34, Try.ntmps34
  go_wp2_with fail
  rw [← HV.out]
  obtain ⟨τ1, HB1, ts1, HI1⟩ := H.out.begin rfl
  refine loop1 (w.heap.size + 1) N K B P τ1 ps ov _ _ hN (by omega) HB1.hB HK (hidG H.out.hG) hTl (hidG H.out.tl) (hidG HB1.gi) (hidG HI1) (hidG ts1) ?_
  intro a4 a6 a47 a48 a49 a50 a51 a52 a53 a54 a55 a56 a57 a58 a59 a60 a61 a62 a63 a64 a65 a66 w2 H2
  have HB2 : Hid (GB w B g w.heap.size N (ov gG) w2 τ1 ps ov) := HB1.step H2.out.1 H2.out.2.1 (by simp) (by simp)
  have HI2 := hidG H2.out.2.2
  clear HB1 HI1 H2
  have b1 := HB2.out.cgb
  have b2 := HB2.out.cg1
  go_wp2_with fail
  refine loop3 (w.heap.size + 1) N (flat P) w2 _ hN hTl (hidG H.out.tl) HI2 ?_
  intro b7 b71 b72 b73 b74 b75 b76 b77 b78 b79 b80 b81 b82 b83 b84 b85 w3 H3
  obtain ⟨HB3', _⟩ := HB2.out.keeps H3.out.1 ts1 (by omega)
  have HB3 := hidG HB3'
  have HI3 := hidG H3.out.2
  clear HB3' H3 HI2 HB2 b1 b2
  go_wp2_with fail
  obtain ⟨τ4, g4, HI4, ts4, th4⟩ : ∃ τ4, GB w B g w.heap.size N (ov gG) (w3.alloc (.cells #[.int .i64 0] 3)) τ4 ps ov ∧ IB (w3.alloc (.cells #[.int .i64 0] 3)) (w.heap.size + 1) (N + 1) (fun n => (befE (flat P) n : Int)) ∧ τ4 (w.heap.size + 1) = .fix 2 ∧ τ4 w3.heap.size = .fix 3 := by
    obtain ⟨g4, s4⟩ := HB3.out.fresh (b := w3.heap.size) 3 ((Keeps.refl [] w3).alloc (.cells #[.int .i64 0] 3)) rfl (by simp)
    exact ⟨_, g4, HI3.out.of_block (s4.same _ _ ts1 (by simp)), s4.fix _ _ ts1, upd_same _ _ _⟩
  have ne1 : w.heap.size ≠ w3.heap.size := by intro e; have := g4.t1; rw [e, th4] at this; cases this
  have ne2 : g ≠ w3.heap.size := by intro e; have := g4.t0; rw [e, th4] at this; cases this
  refine loop4 w.heap.size g w3.heap.size N _ _ hN (hidG g4.cgb) (hidG g4.cg1) ne1 ne2 (hidG (Blk.new w3 _ 3)) ?_
  intro d86 d87 d88 d89 d90 d91 d92 d93 d94 d95 w4 H4
  obtain ⟨sh, HJ⟩ := H4.out.2
  have hsh : sh ≤ 6 := HJ.1
  obtain ⟨R, hRR⟩ := shift_ranges HJ.2.1
  have hR := hRR.1
  have HNR := hidG hRR.2
  obtain ⟨g5, HI5⟩ : GB w B g w.heap.size N (ov gG) w4 τ4 ps ov ∧ IB w4 (w.heap.size + 1) (N + 1) (fun n => (befE (flat P) n : Int)) := by
    obtain ⟨g5, s5⟩ := g4.keeps H4.out.1 th4 (by omega)
    exact ⟨g5, HI4.of_block (s5.same _ _ ts4 (by simp))⟩
  have HS5 := hidG HJ.2.2
  have b1 := g5.cgb
  have b2 := g5.cg1
  have b3 : w4.cell? ⟨w3.heap.size, 0, none⟩ = some (.int .i64 (sh : Int)) := by rw [HS5.out.cell]; rfl
  have HB5 := hidG g5
  have HI5' := hidG HI5
  have TS4 := hidG (And.intro ts4 th4)
  clear H4 HJ hRR g5 HI5 g4 HI4 ts4 th4 HB3 HI3 ts1
  go_wp2_with fail
  refine region20 w.heap.size g w3.heap.size N R sh w4 _ hN hR hsh HNR b1 b2 b3 ?_
  intro e96 e97 e98 e99 e100 e101 e102 e103 e104 w5 H5
  have hw5 := H5.out
  obtain ⟨τ6, g6, HI6, HS6, ts6, th6, tr6, HR6⟩ : ∃ τ6, GB w B g w.heap.size N (ov gG) w5 τ6 ps ov ∧ IB w5 (w.heap.size + 1) (N + 1) (fun n => (befE (flat P) n : Int)) ∧ Blk w5 w3.heap.size [.int .i64 (sh : Int)] 3 ∧ τ6 (w.heap.size + 1) = .fix 2 ∧ τ6 w3.heap.size = .fix 3 ∧ τ6 w4.heap.size = .fix 4 ∧ w5.rowIs w4.heap.size 64 R (fun _ => .slice none 0 0) := by
    subst hw5
    obtain ⟨g6, s6⟩ := HB5.out.fresh (b := w4.heap.size) 4 (((Keeps.refl [] w4).alloc (.cells (madeCells #[.slice none 0 0] R) 64)).drew) rfl (by simp)
    exact ⟨_, g6, HI5'.out.of_block (s6.same _ _ TS4.out.1 (by simp)), HS5.out.of_block (s6.same _ _ TS4.out.2 (by simp)), s6.fix _ _ TS4.out.1, s6.fix _ _ TS4.out.2, upd_same _ _ _, World.rowIs_made w4 _ R 64⟩
  clear H5 hw5 HB5 HI5' HS5 TS4 b1 b2 b3
  have hmk2 := run_make_row' (P := Try.prog) 22 3 (.int .i64 0) 8 Try.underlying22 Try.info3 rfl .i64 .i64 R (by omega) (by omega)
  go_wp2_with fail
  obtain ⟨τ7, g7, HI7, HS7, HR7, ts7, th7, tr7, tl7⟩ : ∃ τ7, GB w B g w.heap.size N (ov gG) (w5.alloc (.cells (madeCells #[.int .i64 0] R) 3)) τ7 ps ov ∧ IB (w5.alloc (.cells (madeCells #[.int .i64 0] R) 3)) (w.heap.size + 1) (N + 1) (fun n => (befE (flat P) n : Int)) ∧ Blk (w5.alloc (.cells (madeCells #[.int .i64 0] R) 3)) w3.heap.size [.int .i64 (sh : Int)] 3 ∧ (w5.alloc (.cells (madeCells #[.int .i64 0] R) 3)).rowIs w4.heap.size 64 R (fun _ => .slice none 0 0) ∧ τ7 (w.heap.size + 1) = .fix 2 ∧ τ7 w3.heap.size = .fix 3 ∧ τ7 w4.heap.size = .fix 4 ∧ τ7 w5.heap.size = .fix 5 := by
    obtain ⟨g7, s7⟩ := g6.fresh (b := w5.heap.size) 5 ((Keeps.refl [] w5).alloc (.cells (madeCells #[.int .i64 0] R) 3)) rfl (by simp)
    exact ⟨_, g7, HI6.of_block (s7.same _ _ ts6 (by simp)), HS6.of_block (s7.same _ _ th6 (by simp)), HR6.of_block (s7.same _ _ tr6 (by simp)), s7.fix _ _ ts6, s7.fix _ _ th6, s7.fix _ _ tr6, upd_same _ _ _⟩
  have n1 : w.heap.size ≠ w5.heap.size := by intro e; have := g7.t1; rw [e, tl7] at this; cases this
  have n2 : g ≠ w5.heap.size := by intro e; have := g7.t0; rw [e, tl7] at this; cases this
  have n3 : w3.heap.size ≠ w5.heap.size := by intro e; rw [e, tl7] at th7; cases th7
  have n4 : w.heap.size + 1 ≠ w5.heap.size := by intro e; rw [e, tl7] at ts7; cases ts7
  refine loop5 w.heap.size g w3.heap.size (w.heap.size + 1) w5.heap.size N R sh (flat P) _ _ hN hR hsh (hidG g7.cgb) (hidG g7.cg1) (hidG (by rw [HS7.cell]; rfl)) n1 n2 n3 n4 hTl (hidG HI7) (hidG (IB.made w5 R)) ?_
  intro f12 f111 f112 f113 f114 f115 f116 f117 f118 f119 f120 f121 f122 f123 f124 f125 f126 f127 f128 f129 f130 f131 w7 H7
  have HX8 : Hid (GB w B g w.heap.size N (ov gG) w7 τ7 ps ov ∧ IB w7 (w.heap.size + 1) (N + 1) (fun n => (befE (flat P) n : Int)) ∧ Blk w7 w3.heap.size [.int .i64 (sh : Int)] 3 ∧ w7.rowIs w4.heap.size 64 R (fun _ => .slice none 0 0) ∧ IB w7 w5.heap.size R (leftF (flat P) sh N R)) := by
    obtain ⟨g8, s8⟩ := g7.keeps H7.out.1 tl7 (by omega)
    exact ⟨g8, HI7.of_block (s8.same _ _ ts7 (by simp)), HS7.of_block (s8.same _ _ th7 (by simp)), HR7.of_block (s8.same _ _ tr7 (by simp)), H7.out.2⟩
  have TS7 := hidG (And.intro ts7 (And.intro th7 (And.intro tr7 tl7)))
  have b1 := HX8.out.1.cgb
  have b2 := HX8.out.1.cg3
  rw [HV.out] at b2
  have b3 : g < w7.heap.size := World.block_lt_of_cell? w7 _ b2
  have b4 : w.heap.size < w7.heap.size := World.block_lt_of_cell? w7 _ b1
  clear H7 g7 HI7 HS7 HR7 ts7 th7 tr7 tl7 g6 HI6 HS6 ts6 th6 tr6 HR6 n1 n2 n3 n4 ne1 ne2
  go_wp2_with fail
  obtain ⟨τ8, HX, TS8⟩ : ∃ τ8, Hid (GB w B g w.heap.size N (ov gG) (w7.alloc (.cells #[.slice none 0 0] 85)) τ8 ps ov ∧ IB (w7.alloc (.cells #[.slice none 0 0] 85)) (w.heap.size + 1) (N + 1) (fun n => (befE (flat P) n : Int)) ∧ Blk (w7.alloc (.cells #[.slice none 0 0] 85)) w3.heap.size [.int .i64 (sh : Int)] 3 ∧ P1 (w7.alloc (.cells #[.slice none 0 0] 85)) B τ8 ps ov w4.heap.size w5.heap.size w7.heap.size R sh (flat P) [] [] 0) ∧ Hid (τ8 (w.heap.size + 1) = .fix 2 ∧ τ8 w3.heap.size = .fix 3) := by
    obtain ⟨g8, i8, s8, r8, l8⟩ := HX8.out
    obtain ⟨ts7, th7, tr7, tl7⟩ := TS7.out
    obtain ⟨g9, s9⟩ := g8.fresh (b := w7.heap.size) 6 ((Keeps.refl [] w7).alloc (.cells #[.slice none 0 0] 85)) rfl (by simp)
    exact ⟨_, ⟨g9, i8.of_block (s9.same _ _ ts7 (by simp)), s8.of_block (s9.same _ _ th7 (by simp)), P1.init g9.gi H.out.oth hR H.out.tl (r8.of_block (s9.same _ _ tr7 (by simp))) (l8.of_block (s9.same _ _ tl7 (by simp))) (Blk.new w7 _ 85) (s9.fix _ _ tr7) (s9.fix _ _ tl7) (upd_same _ _ _)⟩, s9.fix _ _ ts7, s9.fix _ _ th7⟩
  obtain ⟨g8, i8, s8, p8⟩ := HX.out
  refine loop6 w.heap.size g w3.heap.size w4.heap.size w5.heap.size w7.heap.size N R sh B K (.slice oa K cp) P τ8 ps ov _ _ hN hR hsh HNR (by rw [HT.out]; exact hT) hK HK (hidG H.out.tl) (hidG p8) (hidG H.out.hG) HV (hidG s8) (hidG TS8.out.2) g8.hB (hidG g8.cgb) (hidG (by rw [← HV.out]; exact g8.cg3)) (hidG g8.t1) (hidG g8.t0) ?_
  intro h14 h15 h17 h18 h19 h20 h137 h138 h139 h140 h141 h142 h143 h144 h145 h146 h147 h148 h149 h150 h151 h152 h153 h154 h155 h156 h157 h158 h159 h160 h161 h162 h163 h164 h165 h166 h167 h168 h169 h170 h171 h172 h173 h174 h175 h176 h177 h178 h179 h180 h181 h182 h183 h184 h185 h186 h187 h188 h189 h190 h191 h192 h193 h194 h195 h196 h197 h198 h199 h200 h201 h202 h203 h204 h205 h206 h207 h208 h209 h210 h211 h212 h213 h214 h215 h216 h217 h218 h219 h220 h221 h222 h223 h224 h225 h226 h227 h228 h229 h230 h231 w9 H9
  obtain ⟨τ9, ps9, ov9, p9, s9⟩ := H9.out
  have g9 : GB w B g w.heap.size N (ov gG) w9 τ9 ps9 ov9 := g8.step p9.gi s9 (by simp) (by simp)
  have i9 := i8.of_block (s9.same _ _ TS8.out.1 (by simp))
  have sb9 := s8.of_block (s9.same _ _ TS8.out.2 (by simp))
  have HX9 := hidG (And.intro g9 (And.intro i9 (And.intro sb9 p9)))
  have TS9 : Hid (τ9 (w.heap.size + 1) = .fix 2 ∧ τ9 w3.heap.size = .fix 3) := ⟨s9.fix _ _ TS8.out.1, s9.fix _ _ TS8.out.2⟩
  have c1 := g9.cgb
  have c2 := g9.cg1
  have hE9 : IB w9 (w.heap.size + 1) (N + 1) (fun n => (befE (flat P) n : Int)) := i9
  have HNW : Hid (∀ j u, ((List.range N).map fun n => Value.int .i64 (befE (flat P) n : Int))[j]? = some u → w9.cell? (Addr.add ⟨w.heap.size + 1, 0, none⟩ j) = some u) := by
    intro j u hu
    rw [List.getElem?_map] at hu
    by_cases hj : j < N
    · rw [List.getElem?_range hj] at hu
      simp only [Option.map_some, Option.some.injEq] at hu
      subst hu
      have := hE9.cell (i := j) (by omega)
      unfold Addr.add
      by_cases h0 : j = 0
      · subst h0; simpa using this
      · simpa [h0] using this
    · rw [List.getElem?_eq_none (by simpa using hj)] at hu; cases hu
  obtain ⟨i3, hi3, hzz⟩ := Option.map_eq_some_iff.1 Try.info3
  simp only [Prod.mk.injEq] at hzz
  obtain ⟨hz3, hs3, hb3⟩ := hzz
  clear H9 g9 i9 sb9 p9 s9 HX g8 i8 s8 p8 TS8 HX8 TS7 b1 b2 b3 b4 hE9
  have iN : (0 : Int) ≤ (N : Int) ∧ (N : Int) ≤ (N : Int) + 1 := by omega
  go_wp2_with (first | (at_builtin; refine wpList_append_own_at _ rfl _ _ 22 rfl 0 3 i3 (.int .i64 0) 1 8 Try.underlying22 hi3 hz3 hs3 hb3 rfl (by decide) (.slice none 0 0) 0 [] rfl ?o1 ⟨w.heap.size + 1, 0, none⟩ N (N + 1) ((List.range N).map fun n => Value.int .i64 (befE (flat P) n : Int)) rfl ?hl ?c2 ?c3 ?c4 ?c5 ?c6 ?_; (case o1 => exact World.ownsRow_nil _ _ _ _); (case hl => simp); (case c2 => exact HNW.out); (case c3 => intro u hu; obtain ⟨n, _, rfl⟩ := List.mem_map.1 hu; rfl); (case c4 => unfold maxLen; omega); (case c5 => omega); (case c6 => simp); (intro v2 w10 hown hgrow hnil hat)))
  have hk10 : Keeps [] w9 w10 := Keeps.of_grown hgrow
  by_cases hN0 : N = 0
  · obtain ⟨g9, i9, sb9, p9⟩ := HX9.out
    have hR0 : R = 0 := by
      have := HNR.out; rw [hN0] at this; exact no_ranges this
    have hP0 : flat P = [] := by
      rcases hE : flat P with _ | ⟨e, r⟩
      · rfl
      · have := H.out.tl e (by rw [hE]; simp); omega
    obtain ⟨g10, s10⟩ := (g9.gi.clear gP).step g9.hB hk10 (K := []) (by simp)
    have G10 := hidG (g9.step g10 s10 (by simp) (by simp))
    have I10 := hidG (i9.of_block (s10.same _ _ TS9.out.1 (by simp)))
    have hne : w.heap.size ≠ g := by omega
    clear HX9 g9 i9 sb9 p9 g10 hown hgrow hnil hat hk10 s10
    subst hR0
    refine loop8z w10 _ ?_
    intro x23 x24 x25 x26 x28 x30 x242 x243 x244 x245 x246 x247 x248 x249 x250 x251 x252 x253 x254 x255 x256 x257 x258 x259 x260 x261 x262 x263 x264 x265 x266 x267 x268 x269 x270 x271 x272 x273 x274 x275 x276 x277 x278 x279 x280 x281 x282 x283 x284 x285 x286 x287 x288 x289 x290 x291 x292 x293 x294 x295 x296 x297 x298 x299 x300 x301 x302 x303 x304 x305 x306 x307 x308 x309 x310 x311
    go_wp2_with fail
    refine region68 w.heap.size g _ _ _ _ _ _ (ov gG) (.slice none 0 0) w10 _ hne G10.out.cgb G10.out.cg3 G10.out.cg4 (G10.out.fg 3) (G10.out.fg 4) ?_
    intro y312 y313 y314 y315 y316 y317 y318 y319 w12 H12
    go_wp2_with fail
    go_end0
    refine ⟨rfl, w.heap.size + 1, [], _, τ9, _, _, GEnd.made (x := .slice none 0 0) G10.out (upd_same _ _ _) (upd_same _ _ _) (fun i p hp => by simp at hp) ?_ ?_ I10.out TS9.out.1 H12.out⟩
    · rw [hP0, hN0]; rfl
    · rw [hP0]; rfl
  · have hN1 : 0 < N := by omega
    obtain ⟨fb, fc, hv2, hfc, hfm, hIP⟩ := IP.of_owns (F := fun n => (befE (flat P) n : Int)) hN1 (by simpa using hown)
    obtain ⟨g9, i9, sb9, p9⟩ := HX9.out
    have hfb : fb = w9.heap.size := by
      rcases hat with e | e
      · rw [hv2] at e; cases e
      · rw [hv2] at e; simpa [Value.ownBlock] using e
    obtain ⟨p10, s10, co10⟩ := P2.init p9 g9.hB hR hk10 (by omega) hIP.lt hIP
    have g10 := (GB.step ⟨g9.gi.clear gP, g9.below, g9.hB, g9.t0, g9.t1, g9.cgb, g9.cg1, g9.cg3, g9.cg4, g9.fg⟩ p10.gi s10 (by simp) (by simp) : GB w B g w.heap.size N (ov gG) w10 _ _ _)
    have i10 := i9.of_block (s10.same _ _ TS9.out.1 (by simp))
    have sb10 := sb9.of_block (s10.same _ _ TS9.out.2 (by simp))
    have T10 := hidG (And.intro (s10.fix _ _ TS9.out.1) (s10.fix _ _ TS9.out.2))
    have hB10 := g10.hB
    subst hv2
    clear HX9 g9 i9 p9 sb9 hown hgrow hnil hat hk10 s10 hIP
    refine loop8 w.heap.size g w3.heap.size (w.heap.size + 1) w4.heap.size fb w7.heap.size N R B K T sh fc (.slice none 0 0) (flat P) _ _ _ w10 _ hN hN1 hR hsh HNR HT hT hK (hidG H.out.tl) (hidG p10) (hidG co10) (hidG (upd_same _ _ _)) (hidG i10) (hidG T10.out.1) (hidG (by rw [sb10.cell]; rfl)) (hidG T10.out.2) (hidG g10.cgb) (hidG g10.cg1) (hidG g10.t1) (hidG g10.t0) hB10 ?_
    intro x21 x23 x24 x25 x26 x28 x30 x241 x242 x243 x244 x245 x246 x247 x248 x249 x250 x251 x252 x253 x254 x255 x256 x257 x258 x259 x260 x261 x262 x263 x264 x265 x266 x267 x268 x269 x270 x271 x272 x273 x274 x275 x276 x277 x278 x279 x280 x281 x282 x283 x284 x285 x286 x287 x288 x289 x290 x291 x292 x293 x294 x295 x296 x297 x298 x299 x300 x301 x302 x303 x304 x305 x306 x307 x308 x309 x310 x311 w11 H11
    obtain ⟨τ11, ps11, ov11, PL, g11, s11, hov, hpl, hch, hfl, hln⟩ := H11.out
    have G11 := g10.step g11 s11 (by simp) (by simp)
    have i11 := i10.of_block (s11.same _ _ T10.out.1 (by simp))
    have t11 := s11.fix _ _ T10.out.1
    obtain ⟨xs2, hxr2, hxl2, _⟩ := g11.row gP
    obtain ⟨pa, pc, hvp⟩ := hxr2.slice
    rw [hov] at hvp
    subst hvp
    have hne : w.heap.size ≠ g := by omega
    have HZ := hidG (And.intro G11 (And.intro i11 (And.intro t11 (And.intro hov (And.intro hpl (And.intro hch (And.intro hfl hln)))))))
    have k1 := G11.cgb
    have k3 := G11.cg3
    have k4 := G11.cg4
    have f3 := G11.fg 3
    have f4 := G11.fg 4
    clear H11 G11 i11 t11 hov hpl hch hfl hln g11 s11 hxr2 hxl2 p10 co10 g10 i10 sb10 T10
    go_wp2_with fail
    refine region68 w.heap.size g _ _ _ _ _ _ (ov gG) (.slice none 0 0) w11 _ hne k1 k3 k4 f3 f4 ?_
    intro y312 y313 y314 y315 y316 y317 y318 y319 w12 H12
    go_wp2_with fail
    go_end0
    obtain ⟨G11, i11, t11, hov, hpl, hch, hfl, hln⟩ := HZ.out
    rw [← HT.out] at hch hln
    exact ⟨rfl, w.heap.size + 1, PL, _, τ11, ps11, ov11, GEnd.made (x := .slice none 0 0) G11 hpl hov hch hfl hln i11 t11 H12.out⟩

end Go.Proofs.Qxb6601127a
