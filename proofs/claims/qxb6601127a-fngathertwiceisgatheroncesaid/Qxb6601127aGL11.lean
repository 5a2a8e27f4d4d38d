import Derived.Test.Qxb6601127aGR61
namespace Go.Proofs.Qxb6601127a
open Go.RowKit
set_option linter.unusedVariables false
set_option linter.unusedSimpArgs false

/-- a new block beside the state -/
theorem P2.boxed {w : World} {B : Nat} {τ : Nat → Role} {ps : Nat → List (Option Part)} {ov : Nat → Value} {rb fb spb R N : Nat} {E pr dl : List Edge} {PL : List Part} {M : Nat} (h : P2 w B τ ps ov rb fb spb R N E pr dl PL M) (hB : B ≤ w.heap.size) (o : Obj) :
    ∃ τ', P2 (w.alloc o) B τ' ps ov rb fb spb R N E pr dl PL M ∧ Step B [] w τ (w.alloc o) τ' ∧ τ' w.heap.size = .fix 9 := by
  have hk : Keeps [] w (w.alloc o) := (Keeps.refl [] w).alloc o
  obtain ⟨g, s⟩ := h.gi.fresh hB hk (b := w.heap.size) (Nat.le_refl _) (by simp) (.fix 9) (.inr ⟨9, rfl⟩)
  exact ⟨_, h.step g s rfl rfl, s, upd_same _ _ _⟩

set_option maxRecDepth 1000000 in
set_option maxHeartbeats 4000000 in
theorem loop11 (rb fb spb b N R L cap B M ri pi fc : Nat) (vP : Value) (G E pr es : List Edge) (PL0 : List Part) (τ0 : Nat → Role) (ps0 : Nat → List (Option Part)) (ov : Nat → Value) (w : World) (Q : Exit → Act → World → Prop)
    (hN : N ≤ 65536) (hR : R ≤ 1024) (hri : ri < R) (hE : E.length ≤ 65536) (hL : L ≤ 1048576) (hLc : L ≤ cap) (HL : Hid (es.length = L)) (HTG : Hid (Tails N G)) (HG : Hid (∃ rest, G = pr ++ es ++ rest)) (HC : Hid (∀ n, n < N → cntE G n = cntE E n))
    (HCov : Hid (∀ e ∈ es, befE E (e.1.toNat + 1) ≤ 512 * PL0.length)) (hPL : PL0.length ≤ 1048576)
    (H : Hid (P2 w B τ0 ps0 ov rb fb spb R N E pr pr PL0 M)) (HV : Hid (ov gP = vP)) (HPI : Hid ((ps0 ri)[pi]? = some (some ⟨b, cap, es⟩))) (hB : B ≤ w.heap.size) {c0 c1 c2 c3 c4 c5 c6 c7 c8 c9 c10 c11 c12 c13 c14 c15 c16 c17 c18 c19 c20 c23 c24 c25 c26 c27 c28 c29 c30 c31 c32 c33 c34 c35 c36 c37 c38 c39 c40 c41 c42 c43 c44 c45 c46 c47 c48 c49 c50 c51 c52 c53 c54 c55 c56 c57 c58 c59 c60 c61 c62 c63 c64 c65 c66 c67 c68 c69 c70 c71 c72 c73 c74 c75 c76 c77 c78 c79 c80 c81 c82 c83 c84 c85 c86 c87 c88 c89 c90 c91 c92 c93 c94 c95 c96 c97 c98 c99 c100 c101 c102 c103 c104 c105 c106 c107 c108 c109 c110 c111 c112 c113 c114 c115 c116 c117 c118 c119 c120 c121 c122 c123 c124 c125 c126 c127 c128 c129 c130 c131 c132 c133 c134 c135 c136 c137 c138 c139 c140 c141 c142 c143 c144 c145 c146 c147 c148 c149 c150 c151 c152 c153 c154 c155 c156 c157 c158 c159 c160 c161 c162 c163 c164 c165 c166 c167 c168 c169 c170 c171 c172 c173 c174 c175 c176 c177 c178 c179 c180 c181 c182 c183 c184 c185 c186 c187 c188 c189 c190 c191 c192 c193 c194 c195 c196 c197 c198 c199 c200 c201 c202 c203 c204 c205 c206 c207 c208 c209 c210 c211 c212 c213 c214 c215 c216 c217 c218 c219 c220 c221 c222 c223 c224 c225 c226 c227 c228 c229 c230 c231 c232 c233 c234 c235 c236 c237 c238 c239 c240 c241 c242 c243 c244 c245 c246 c247 c248 c249 c250 c251 c252 c253 c254 c255 c256 c257 c258 c259 c260 c261 c262 c263 c264 c265 c266 c267 c268 c269 c270 c271 c272 c273 c274 c275 c276 c277 c278 c279 c280 c281 c282 c286 c287 c288 c289 c290 c291 c292 c293 c294 c295 c296 c297 c298 c299 c300 c301 c302 c303 c304 c305 c306 c307 c308 c309 c310 c311 c312 c313 c314 c315 c316 c317 c318 c319 : Value}
    (hexit : ∀ u30 u285 u286 u287 u288 u289 u290 u291 u292 u293 u294 u295 u296 u297 u298 u299 u300 u301 u302 u303 u304 w', Hid (∃ τ ps PL, P2 w' B τ ps ov rb fb spb R N E (pr ++ es) (pr ++ es) PL M ∧ Step B [7] w τ0 w' τ ∧ (∀ g, g ≠ gP → ps g = ps0 g) ∧ PL.length = PL0.length) → Q (.exit 20) ⟨(List.toArray (c0 :: c1 :: c2 :: c3 :: c4 :: c5 :: c6 :: c7 :: c8 :: c9 :: c10 :: c11 :: c12 :: c13 :: c14 :: c15 :: c16 :: c17 :: c18 :: c19 :: c20 :: vP :: (Value.slice (some ⟨fb, 0, none⟩) N fc) :: c23 :: c24 :: c25 :: c26 :: c27 :: c28 :: c29 :: u30 :: c31 :: c32 :: c33 :: c34 :: c35 :: c36 :: c37 :: c38 :: c39 :: c40 :: c41 :: c42 :: c43 :: c44 :: c45 :: c46 :: c47 :: c48 :: c49 :: c50 :: c51 :: c52 :: c53 :: c54 :: c55 :: c56 :: c57 :: c58 :: c59 :: c60 :: c61 :: c62 :: c63 :: c64 :: c65 :: c66 :: c67 :: c68 :: c69 :: c70 :: c71 :: c72 :: c73 :: c74 :: c75 :: c76 :: c77 :: c78 :: c79 :: c80 :: c81 :: c82 :: c83 :: c84 :: c85 :: c86 :: c87 :: c88 :: c89 :: c90 :: c91 :: c92 :: c93 :: c94 :: c95 :: c96 :: c97 :: c98 :: c99 :: c100 :: c101 :: c102 :: c103 :: c104 :: c105 :: c106 :: c107 :: c108 :: c109 :: c110 :: c111 :: c112 :: c113 :: c114 :: c115 :: c116 :: c117 :: c118 :: c119 :: c120 :: c121 :: c122 :: c123 :: c124 :: c125 :: c126 :: c127 :: c128 :: c129 :: c130 :: c131 :: c132 :: c133 :: c134 :: c135 :: c136 :: c137 :: c138 :: c139 :: c140 :: c141 :: c142 :: c143 :: c144 :: c145 :: c146 :: c147 :: c148 :: c149 :: c150 :: c151 :: c152 :: c153 :: c154 :: c155 :: c156 :: c157 :: c158 :: c159 :: c160 :: c161 :: c162 :: c163 :: c164 :: c165 :: c166 :: c167 :: c168 :: c169 :: c170 :: c171 :: c172 :: c173 :: c174 :: c175 :: c176 :: c177 :: c178 :: c179 :: c180 :: c181 :: c182 :: c183 :: c184 :: c185 :: c186 :: c187 :: c188 :: c189 :: c190 :: c191 :: c192 :: c193 :: c194 :: c195 :: c196 :: c197 :: c198 :: c199 :: c200 :: c201 :: c202 :: c203 :: c204 :: c205 :: c206 :: c207 :: c208 :: c209 :: c210 :: c211 :: c212 :: c213 :: c214 :: c215 :: c216 :: c217 :: c218 :: c219 :: c220 :: c221 :: c222 :: c223 :: c224 :: c225 :: c226 :: c227 :: c228 :: c229 :: c230 :: c231 :: c232 :: c233 :: c234 :: c235 :: c236 :: c237 :: c238 :: c239 :: c240 :: c241 :: c242 :: c243 :: c244 :: c245 :: c246 :: c247 :: c248 :: c249 :: c250 :: c251 :: c252 :: c253 :: c254 :: c255 :: c256 :: c257 :: c258 :: c259 :: c260 :: c261 :: c262 :: c263 :: c264 :: c265 :: c266 :: c267 :: c268 :: c269 :: c270 :: c271 :: c272 :: c273 :: c274 :: c275 :: c276 :: c277 :: c278 :: c279 :: c280 :: c281 :: c282 :: (Value.slice (some ⟨b, 0, none⟩) L cap) :: (Value.int .i64 (L : Int)) :: u285 :: u286 :: u287 :: u288 :: u289 :: u290 :: u291 :: u292 :: u293 :: u294 :: u295 :: u296 :: u297 :: u298 :: u299 :: u300 :: u301 :: u302 :: u303 :: u304 :: c305 :: c306 :: c307 :: c308 :: c309 :: c310 :: c311 :: c312 :: c313 :: c314 :: c315 :: c316 :: c317 :: c318 :: c319 :: [])), []⟩ w') :
    (Code.loop (loopOf Try.f34 10)).wp Try.prog Q ⟨(List.toArray (c0 :: c1 :: c2 :: c3 :: c4 :: c5 :: c6 :: c7 :: c8 :: c9 :: c10 :: c11 :: c12 :: c13 :: c14 :: c15 :: c16 :: c17 :: c18 :: c19 :: c20 :: vP :: (Value.slice (some ⟨fb, 0, none⟩) N fc) :: c23 :: c24 :: c25 :: c26 :: c27 :: c28 :: c29 :: c30 :: c31 :: c32 :: c33 :: c34 :: c35 :: c36 :: c37 :: c38 :: c39 :: c40 :: c41 :: c42 :: c43 :: c44 :: c45 :: c46 :: c47 :: c48 :: c49 :: c50 :: c51 :: c52 :: c53 :: c54 :: c55 :: c56 :: c57 :: c58 :: c59 :: c60 :: c61 :: c62 :: c63 :: c64 :: c65 :: c66 :: c67 :: c68 :: c69 :: c70 :: c71 :: c72 :: c73 :: c74 :: c75 :: c76 :: c77 :: c78 :: c79 :: c80 :: c81 :: c82 :: c83 :: c84 :: c85 :: c86 :: c87 :: c88 :: c89 :: c90 :: c91 :: c92 :: c93 :: c94 :: c95 :: c96 :: c97 :: c98 :: c99 :: c100 :: c101 :: c102 :: c103 :: c104 :: c105 :: c106 :: c107 :: c108 :: c109 :: c110 :: c111 :: c112 :: c113 :: c114 :: c115 :: c116 :: c117 :: c118 :: c119 :: c120 :: c121 :: c122 :: c123 :: c124 :: c125 :: c126 :: c127 :: c128 :: c129 :: c130 :: c131 :: c132 :: c133 :: c134 :: c135 :: c136 :: c137 :: c138 :: c139 :: c140 :: c141 :: c142 :: c143 :: c144 :: c145 :: c146 :: c147 :: c148 :: c149 :: c150 :: c151 :: c152 :: c153 :: c154 :: c155 :: c156 :: c157 :: c158 :: c159 :: c160 :: c161 :: c162 :: c163 :: c164 :: c165 :: c166 :: c167 :: c168 :: c169 :: c170 :: c171 :: c172 :: c173 :: c174 :: c175 :: c176 :: c177 :: c178 :: c179 :: c180 :: c181 :: c182 :: c183 :: c184 :: c185 :: c186 :: c187 :: c188 :: c189 :: c190 :: c191 :: c192 :: c193 :: c194 :: c195 :: c196 :: c197 :: c198 :: c199 :: c200 :: c201 :: c202 :: c203 :: c204 :: c205 :: c206 :: c207 :: c208 :: c209 :: c210 :: c211 :: c212 :: c213 :: c214 :: c215 :: c216 :: c217 :: c218 :: c219 :: c220 :: c221 :: c222 :: c223 :: c224 :: c225 :: c226 :: c227 :: c228 :: c229 :: c230 :: c231 :: c232 :: c233 :: c234 :: c235 :: c236 :: c237 :: c238 :: c239 :: c240 :: c241 :: c242 :: c243 :: c244 :: c245 :: c246 :: c247 :: c248 :: c249 :: c250 :: c251 :: c252 :: c253 :: c254 :: c255 :: c256 :: c257 :: c258 :: c259 :: c260 :: c261 :: c262 :: c263 :: c264 :: c265 :: c266 :: c267 :: c268 :: c269 :: c270 :: c271 :: c272 :: c273 :: c274 :: c275 :: c276 :: c277 :: c278 :: c279 :: c280 :: c281 :: c282 :: (Value.slice (some ⟨b, 0, none⟩) L cap) :: (Value.int .i64 (L : Int)) :: (Value.int .i64 0) :: c286 :: c287 :: c288 :: c289 :: c290 :: c291 :: c292 :: c293 :: c294 :: c295 :: c296 :: c297 :: c298 :: c299 :: c300 :: c301 :: c302 :: c303 :: c304 :: c305 :: c306 :: c307 :: c308 :: c309 :: c310 :: c311 :: c312 :: c313 :: c314 :: c315 :: c316 :: c317 :: c318 :: c319 :: [])), []⟩ w := by
  conv => arg 2; arg 1; whnf
  go_loopg [285] L (fun g i wr => ∃ k : Nat, k ≤ L ∧ g = L - k ∧ i = .int .i64 k ∧ Hid (∃ τ ps PL, P2 wr B τ ps ov rb fb spb R N E (pr ++ es.take k) (pr ++ es.take k) PL M ∧ Step B [7] w τ0 wr τ ∧ (∀ g, g ≠ gP → ps g = ps0 g) ∧ PL.length = PL0.length))
  case atStart => exact ⟨0, by omega, by omega, rfl, hidG ⟨τ0, ps0, PL0, by simpa using H.out, Step.refl _ _ _ _, fun _ _ => rfl, rfl⟩⟩
  case round =>
    obtain ⟨k, hk, rfl, rfl, HI⟩ := hrel
    by_cases hlt : k < L
    · have hlt' : (k : Int) < (L : Int) := by omega
      obtain ⟨τ, ps, PL, h1, hst, hg1, hg2⟩ := HI.out
      obtain ⟨⟨ef, et, ek⟩, he⟩ : ∃ e, es[k]? = some e := ⟨_, List.getElem?_eq_getElem (by rw [HL.out]; exact hlt)⟩
      have htk : pr ++ es.take (k + 1) = (pr ++ es.take k) ++ [(ef, et, ek)] := by rw [List.take_add_one, he]; simp
      obtain ⟨rest, hGG⟩ := HG.out
      have hGsplit : G = (pr ++ es.take (k + 1)) ++ (es.drop (k + 1) ++ rest) := by
        rw [hGG, ← List.append_assoc, List.append_assoc pr (es.take (k + 1)), List.take_append_drop]
      have hmem : (ef, et, ek) ∈ G := by rw [hGsplit, htk]; simp
      have ht := HTG.out _ hmem
      obtain ⟨m, rfl⟩ : ∃ m : Nat, ef = (m : Int) := ⟨ef.toNat, by simp at ht; omega⟩
      have hmN : m < N := by simp at ht; omega
      have hle : ∀ n, n < N → cntE ((pr ++ es.take k) ++ [((m : Int), et, ek)]) n ≤ cntE E n := by
        intro n hn
        rw [← HC.out n hn, ← htk]
        rw [show cntE G n = cntE ((pr ++ es.take (k + 1)) ++ (es.drop (k + 1) ++ rest)) n by rw [← hGsplit], cntE_append (pr ++ es.take (k + 1))]
        omega
      obtain ⟨q, hq⟩ : ∃ q, befE E m + cntE (pr ++ es.take k) m = q := ⟨_, rfl⟩
      have hq1 : q < befE E (m + 1) := by
        have h2 := hle m hmN
        rw [cntE_append] at h2
        have : cntE [((m : Int), et, ek)] m = 1 := by unfold cntE; simp
        rw [befE_succ]; omega
      have hcov := HCov.out _ (List.mem_of_getElem? he)
      simp only [Int.toNat_natCast] at hcov
      have hbl := befE_le E (m + 1)
      have hfl : q < (flat PL).length := by rw [h1.ch.len, hg2]; omega
      obtain ⟨p, hp, hpj⟩ := h1.ch.at hfl
      have hpi : (ps gP)[q / 512]? = some (some p) := by rw [h1.pl, List.getElem?_map, hp]; rfl
      obtain ⟨xs, hxr, hxl, hxp⟩ := h1.gi.row gP
      have hxn : xs.length = PL.length := by rw [hxl, h1.pl, List.length_map]
      have hqn : q / 512 < PL.length := by
        rcases Nat.lt_or_ge (q / 512) PL.length with a | a
        · exact a
        · rw [List.getElem?_eq_none a] at hp; cases hp
      obtain ⟨ob, cp, hv, hcp, hcp', hcell, _, hobl⟩ := hxr.len (by omega)
      rw [hxn] at hv hcp
      rw [HV.out] at hv
      have kob := hcell _ _ (hxp _ p hpi)
      unfold Part.val at kob
      obtain ⟨hPp, tpp⟩ := h1.gi.part gP _ p hpi
      have hple := hPp.le
      obtain ⟨hP, tp⟩ := h1.gi.part ri pi ⟨b, cap, es⟩ (by rw [hg1 ri (by unfold gP; omega)]; exact HPI.out)
      obtain ⟨g1, g2, g3⟩ := hP.get (i := k) (by rw [HL.out]; exact hlt)
      obtain ⟨q1, q2, q3⟩ := eF_get es k _ he
      simp only at g1 g2 g3 q1 q2 q3
      rw [q1] at g1
      rw [q2] at g2
      rw [q3] at g3
      have hbw : b < wr.heap.size := hP.lt
      have kfb : wr.cell? ⟨fb, m, none⟩ = some (.int .i64 (q : Int)) := by
        rw [h1.free.cell hmN, ← hq]; simp
      have hfbl : fb < wr.heap.size := h1.free.lt
      have hBr : B ≤ wr.heap.size := Nat.le_trans hB hst.below.size
      obtain ⟨τ1, h2, s2, tb⟩ := h1.boxed hBr (.cells #[.int .i32 (m : Int), .int .i32 et, .int .u32 ek] 70)
      have hPL' : PL.length ≤ 1048576 := by omega
      have tob := h1.gi.out gP ob (by rw [HV.out, hv]; rfl)
      have HP1 : Hid (PartAt (wr.alloc (.cells #[.int .i32 (m : Int), .int .i32 et, .int .u32 ek] 70)) p.b p.cap p.es) := hPp.keeps ((Keeps.refl [] wr).alloc _) (by simp)
      have HN : Hid (∀ w5, w5 = ((set3 (wr.alloc (.cells #[.int .i32 (m : Int), .int .i32 et, .int .u32 ek] 70)) p.b (q % 512) ((m : Int), et, ek)).alloc (.cells #[.int .i32 (m : Int), .int .i32 et, .int .u32 ek] 70)).drew.drew → (∃ ps5 PL5, P2 w5 B τ1 ps5 ov rb fb spb R N E (pr ++ es.take k ++ [((m : Int), et, ek)]) (pr ++ es.take k) PL5 M ∧ Step B [7] w τ0 w5 τ1 ∧ (∀ g, g ≠ gP → ps5 g = ps0 g) ∧ PL5.length = PL0.length) ∧ w5.cell? ⟨wr.heap.size, 0, none⟩ = some (.int .i32 (m : Int)) ∧ w5.cell? ⟨fb, m, none⟩ = some (.int .i64 (q : Int)) ∧ w5.frozen? ⟨fb, m, none⟩ = false) := by
        rintro w5 rfl
        have hk5 : Keeps [p.b] (wr.alloc (.cells #[.int .i32 (m : Int), .int .i32 et, .int .u32 ek] 70)) ((set3 (wr.alloc (.cells #[.int .i32 (m : Int), .int .i32 et, .int .u32 ek] 70)) p.b (q % 512) ((m : Int), et, ek)).alloc (.cells #[.int .i32 (m : Int), .int .i32 et, .int .u32 ek] 70)).drew.drew :=
          (((((Keeps.refl [p.b] _).setCell (.inl (by simp)) _).setCell (.inl (by simp)) _).setCell (.inl (by simp)) _).alloc _).drew.drew
        have hP5 : PartAt ((set3 (wr.alloc (.cells #[.int .i32 (m : Int), .int .i32 et, .int .u32 ek] 70)) p.b (q % 512) ((m : Int), et, ek)).alloc (.cells #[.int .i32 (m : Int), .int .i32 et, .int .u32 ek] 70)).drew.drew p.b p.cap (p.es.set (q % 512) ((m : Int), et, ek)) := by
          have a1 := HP1.out.set hpj ((m : Int), et, ek)
          refine a1.of_block ?_
          show (World.alloc _ _).heap[p.b]? = _
          rw [Below.heap_alloc _ _ _ a1.lt]
        have hB2 : B ≤ (wr.alloc (.cells #[.int .i32 (m : Int), .int .i32 et, .int .u32 ek] 70)).heap.size := by simp; omega
        obtain ⟨ps5, PL5, z1, z2, z3, z4⟩ := h2.put hR hB2 (e := ((m : Int), et, ek)) rfl hmN hle (by rw [hq]; exact hfl) (p := p) (by rw [hq]; exact hp) hk5 (by rw [hq]; exact hP5)
        have tpb : τ1 p.b = .pt gP (q / 512) := (h2.gi.part gP _ p hpi).2
        have hnb : wr.heap.size ≠ p.b := by intro e; rw [← e, tb] at tpb; cases tpb
        have hnf : fb ≠ p.b := by intro e; rw [← e, h2.t7] at tpb; cases tpb
        refine ⟨⟨ps5, PL5, z1, (hst.trans (s2.mono (by simp))).trans (z2.mono (by simp)), fun g hg => (z3 g hg).trans (hg1 g hg), by rw [z4]; exact hg2⟩, ?_, ?_, ?_⟩
        · exact hk5.cell (a := ⟨wr.heap.size, 0, none⟩) (by rw [(Blk.new wr _ 70).cell]; rfl) (by simpa using hnb)
        · exact hk5.cell (a := ⟨fb, m, none⟩) (alloc_cell kfb _) (by simpa using hnf)
        · exact z1.free.frozen m
      have HTK : Hid (es.take k ++ [((m : Int), et, ek)] = es.take (k + 1)) := by rw [List.take_add_one, he]; rfl
      have HQE : Hid ((q : Int) + 1 = (befE E m : Int) + (cntE (pr ++ es.take k) m : Int) + 1) := by unfold Hid; omega
      have hq64 : q ≤ 65536 := by omega
      subst hv
      clear HI h1 hst hg1 hg2 he htk hGG hGsplit hmem ht q1 q2 q3 hP tp hxr hxl hxp hxn hcell hpi hPp tpp tob h2 s2 tb hle hq hq1 hcov hbl hfl hp
      have im : (0 : Int) ≤ (m : Int) ∧ (m : Int) < (N : Int) := by omega
      go_wp2_with fail
      refine region61 ob PL.length cp fb N fc wr.heap.size q m p.b p.es.length p.cap et ek (wr.alloc (.cells #[.int .i32 (m : Int), .int .i32 et, .int .u32 ek] 70)) _ hmN hN hqn hpj hple hPL' hcp (by omega) (alloc_cell kob _) p.es rfl HP1 (alloc_cell kfb _) (by rw [(Blk.new wr _ 70).cell]; rfl) (by rw [(Blk.new wr _ 70).cell]; rfl) (by rw [(Blk.new wr _ 70).cell]; rfl) ?_
      intro v289 v290 v291 v292 v293 v294 v295 v296 w5 HW5
      obtain ⟨HF', y1, y2, y3⟩ := HN.out w5 HW5.out
      have HF := hidG HF'
      have y4 : wr.heap.size < w5.heap.size := World.block_lt_of_cell? w5 _ y1
      clear HF' HW5 HN
      go_wp2_with fail
      go_roundg (L - (k + 1))
      case measure => omega
      case rel =>
        refine ⟨k + 1, by omega, rfl, by go_num, ?_⟩
        obtain ⟨ps5, PL5, z1, z2, z3, z4⟩ := HF.out
        have hB5 : B ≤ w5.heap.size := Nat.le_trans hB z2.below.size
        obtain ⟨c1, c2⟩ := z1.count hB5 (m := m) rfl (x := (q : Int) + 1) HQE.out
        rw [List.append_assoc, HTK.out] at c1
        exact ⟨τ1, ps5, PL5, c1, z2.trans c2, z3, z4⟩
    · have hge : k = L := by omega
      subst hge
      have HQ := HI
      rw [show es.take k = es from List.take_of_length_le (by rw [HL.out]; exact Nat.le_refl _)] at HQ
      clear HI
      go_wp2_with fail
      exact HQ

end Go.Proofs.Qxb6601127a
