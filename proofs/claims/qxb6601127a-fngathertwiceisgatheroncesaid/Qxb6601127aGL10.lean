import Derived.Test.Qxb6601127aGL11
namespace Go.Proofs.Qxb6601127a
open Go.RowKit
set_option linter.unusedVariables false
set_option linter.unusedSimpArgs false

set_option maxRecDepth 1000000 in
set_option maxHeartbeats 4000000 in
theorem loop10 (rb fb spb N R B M ri fc K : Nat) (vP vR : Value) (G E pr : List Edge) (Pr PL0 : List Part) (τ0 : Nat → Role) (ps0 : Nat → List (Option Part)) (ov0 : Nat → Value) (w : World) (Q : Exit → Act → World → Prop)
    (hN : N ≤ 65536) (hR : R ≤ 1024) (hri : ri < R) (hE : E.length ≤ 65536) (hK : K ≤ 65536) (HK : Hid (Pr.length = K)) (hM : M + K ≤ 1048570) (hfl : (flat Pr).length ≤ 65536) (HTG : Hid (Tails N G)) (HG : Hid (∃ rest, G = pr ++ flat Pr ++ rest)) (HC : Hid (∀ n, n < N → cntE G n = cntE E n))
    (HCov : Hid (∀ e ∈ flat Pr, befE E (e.1.toNat + 1) ≤ 512 * PL0.length)) (hPL : PL0.length ≤ 1048576)
    (H : Hid (P2 w B τ0 ps0 ov0 rb fb spb R N E pr pr PL0 M)) (HV : Hid (ov0 gP = vP)) (HVR : Hid (ov0 ri = vR)) (HPR : Hid (ps0 ri = Pr.map some)) (hB : B ≤ w.heap.size) {c0 c1 c2 c3 c4 c5 c6 c7 c8 c9 c10 c11 c12 c14 c15 c16 c17 c18 c19 c20 c23 c24 c25 c26 c27 c28 c29 c30 c31 c32 c33 c34 c35 c36 c37 c38 c39 c40 c41 c42 c43 c44 c45 c46 c47 c48 c49 c50 c51 c52 c53 c54 c55 c56 c57 c58 c59 c60 c61 c62 c63 c64 c65 c66 c67 c68 c69 c70 c71 c72 c73 c74 c75 c76 c77 c78 c79 c80 c81 c82 c83 c84 c85 c86 c87 c88 c89 c90 c91 c92 c93 c94 c95 c96 c97 c98 c99 c100 c101 c102 c103 c104 c105 c106 c107 c108 c109 c110 c111 c112 c113 c114 c115 c116 c117 c118 c119 c120 c121 c122 c123 c124 c125 c126 c127 c128 c129 c130 c131 c132 c133 c134 c135 c136 c137 c138 c139 c140 c141 c142 c143 c144 c145 c146 c147 c148 c149 c150 c151 c152 c153 c154 c155 c156 c157 c158 c159 c160 c161 c162 c163 c164 c165 c166 c167 c168 c169 c170 c171 c172 c173 c174 c175 c176 c177 c178 c179 c180 c181 c182 c183 c184 c185 c186 c187 c188 c189 c190 c191 c192 c193 c194 c195 c196 c197 c198 c199 c200 c201 c202 c203 c204 c205 c206 c207 c208 c209 c210 c211 c212 c213 c214 c215 c216 c217 c218 c219 c220 c221 c222 c223 c224 c225 c226 c227 c228 c229 c230 c231 c232 c233 c234 c235 c236 c237 c238 c239 c240 c241 c242 c243 c244 c245 c246 c247 c248 c249 c250 c251 c252 c253 c254 c255 c256 c257 c258 c259 c260 c261 c262 c263 c264 c265 c266 c267 c268 c269 c270 c271 c272 c273 c274 c275 c276 c280 c281 c282 c283 c284 c285 c286 c287 c288 c289 c290 c291 c292 c293 c294 c295 c296 c297 c298 c299 c300 c301 c302 c303 c304 c305 c306 c307 c308 c309 c310 c311 c312 c313 c314 c315 c316 c317 c318 c319 : Value}
    (hexit : ∀ u28 u30 u279 u280 u281 u282 u283 u284 u285 u286 u287 u288 u289 u290 u291 u292 u293 u294 u295 u296 u297 u298 u299 u300 u301 u302 u303 u304 u305 u306 u307 w', Hid (∃ τ ps ov PL, P2 w' B τ ps ov rb fb spb R N E (pr ++ flat Pr) (pr ++ flat Pr) PL (M + K) ∧ Step B [6, 7] w τ0 w' τ ∧ (∀ g, g ≠ gP → g ≠ gS → g ≠ ri → ps g = ps0 g) ∧ (∀ g, g ≠ gS → ov g = ov0 g) ∧ PL.length = PL0.length) → Q (.exit 18) ⟨(List.toArray (c0 :: c1 :: c2 :: c3 :: c4 :: c5 :: c6 :: c7 :: c8 :: c9 :: c10 :: c11 :: c12 :: (Value.pointer (some ⟨spb, 0, none⟩)) :: c14 :: c15 :: c16 :: c17 :: c18 :: c19 :: c20 :: vP :: (Value.slice (some ⟨fb, 0, none⟩) N fc) :: c23 :: c24 :: c25 :: c26 :: c27 :: u28 :: c29 :: u30 :: c31 :: c32 :: c33 :: c34 :: c35 :: c36 :: c37 :: c38 :: c39 :: c40 :: c41 :: c42 :: c43 :: c44 :: c45 :: c46 :: c47 :: c48 :: c49 :: c50 :: c51 :: c52 :: c53 :: c54 :: c55 :: c56 :: c57 :: c58 :: c59 :: c60 :: c61 :: c62 :: c63 :: c64 :: c65 :: c66 :: c67 :: c68 :: c69 :: c70 :: c71 :: c72 :: c73 :: c74 :: c75 :: c76 :: c77 :: c78 :: c79 :: c80 :: c81 :: c82 :: c83 :: c84 :: c85 :: c86 :: c87 :: c88 :: c89 :: c90 :: c91 :: c92 :: c93 :: c94 :: c95 :: c96 :: c97 :: c98 :: c99 :: c100 :: c101 :: c102 :: c103 :: c104 :: c105 :: c106 :: c107 :: c108 :: c109 :: c110 :: c111 :: c112 :: c113 :: c114 :: c115 :: c116 :: c117 :: c118 :: c119 :: c120 :: c121 :: c122 :: c123 :: c124 :: c125 :: c126 :: c127 :: c128 :: c129 :: c130 :: c131 :: c132 :: c133 :: c134 :: c135 :: c136 :: c137 :: c138 :: c139 :: c140 :: c141 :: c142 :: c143 :: c144 :: c145 :: c146 :: c147 :: c148 :: c149 :: c150 :: c151 :: c152 :: c153 :: c154 :: c155 :: c156 :: c157 :: c158 :: c159 :: c160 :: c161 :: c162 :: c163 :: c164 :: c165 :: c166 :: c167 :: c168 :: c169 :: c170 :: c171 :: c172 :: c173 :: c174 :: c175 :: c176 :: c177 :: c178 :: c179 :: c180 :: c181 :: c182 :: c183 :: c184 :: c185 :: c186 :: c187 :: c188 :: c189 :: c190 :: c191 :: c192 :: c193 :: c194 :: c195 :: c196 :: c197 :: c198 :: c199 :: c200 :: c201 :: c202 :: c203 :: c204 :: c205 :: c206 :: c207 :: c208 :: c209 :: c210 :: c211 :: c212 :: c213 :: c214 :: c215 :: c216 :: c217 :: c218 :: c219 :: c220 :: c221 :: c222 :: c223 :: c224 :: c225 :: c226 :: c227 :: c228 :: c229 :: c230 :: c231 :: c232 :: c233 :: c234 :: c235 :: c236 :: c237 :: c238 :: c239 :: c240 :: c241 :: c242 :: c243 :: c244 :: c245 :: c246 :: c247 :: c248 :: c249 :: c250 :: c251 :: c252 :: c253 :: c254 :: c255 :: c256 :: c257 :: c258 :: c259 :: c260 :: c261 :: c262 :: c263 :: c264 :: c265 :: c266 :: c267 :: c268 :: c269 :: c270 :: c271 :: c272 :: c273 :: c274 :: c275 :: c276 :: vR :: (Value.int .i64 (K : Int)) :: u279 :: u280 :: u281 :: u282 :: u283 :: u284 :: u285 :: u286 :: u287 :: u288 :: u289 :: u290 :: u291 :: u292 :: u293 :: u294 :: u295 :: u296 :: u297 :: u298 :: u299 :: u300 :: u301 :: u302 :: u303 :: u304 :: u305 :: u306 :: u307 :: c308 :: c309 :: c310 :: c311 :: c312 :: c313 :: c314 :: c315 :: c316 :: c317 :: c318 :: c319 :: [])), []⟩ w') :
    (Code.loop (loopOf Try.f34 9)).wp Try.prog Q ⟨(List.toArray (c0 :: c1 :: c2 :: c3 :: c4 :: c5 :: c6 :: c7 :: c8 :: c9 :: c10 :: c11 :: c12 :: (Value.pointer (some ⟨spb, 0, none⟩)) :: c14 :: c15 :: c16 :: c17 :: c18 :: c19 :: c20 :: vP :: (Value.slice (some ⟨fb, 0, none⟩) N fc) :: c23 :: c24 :: c25 :: c26 :: c27 :: c28 :: c29 :: c30 :: c31 :: c32 :: c33 :: c34 :: c35 :: c36 :: c37 :: c38 :: c39 :: c40 :: c41 :: c42 :: c43 :: c44 :: c45 :: c46 :: c47 :: c48 :: c49 :: c50 :: c51 :: c52 :: c53 :: c54 :: c55 :: c56 :: c57 :: c58 :: c59 :: c60 :: c61 :: c62 :: c63 :: c64 :: c65 :: c66 :: c67 :: c68 :: c69 :: c70 :: c71 :: c72 :: c73 :: c74 :: c75 :: c76 :: c77 :: c78 :: c79 :: c80 :: c81 :: c82 :: c83 :: c84 :: c85 :: c86 :: c87 :: c88 :: c89 :: c90 :: c91 :: c92 :: c93 :: c94 :: c95 :: c96 :: c97 :: c98 :: c99 :: c100 :: c101 :: c102 :: c103 :: c104 :: c105 :: c106 :: c107 :: c108 :: c109 :: c110 :: c111 :: c112 :: c113 :: c114 :: c115 :: c116 :: c117 :: c118 :: c119 :: c120 :: c121 :: c122 :: c123 :: c124 :: c125 :: c126 :: c127 :: c128 :: c129 :: c130 :: c131 :: c132 :: c133 :: c134 :: c135 :: c136 :: c137 :: c138 :: c139 :: c140 :: c141 :: c142 :: c143 :: c144 :: c145 :: c146 :: c147 :: c148 :: c149 :: c150 :: c151 :: c152 :: c153 :: c154 :: c155 :: c156 :: c157 :: c158 :: c159 :: c160 :: c161 :: c162 :: c163 :: c164 :: c165 :: c166 :: c167 :: c168 :: c169 :: c170 :: c171 :: c172 :: c173 :: c174 :: c175 :: c176 :: c177 :: c178 :: c179 :: c180 :: c181 :: c182 :: c183 :: c184 :: c185 :: c186 :: c187 :: c188 :: c189 :: c190 :: c191 :: c192 :: c193 :: c194 :: c195 :: c196 :: c197 :: c198 :: c199 :: c200 :: c201 :: c202 :: c203 :: c204 :: c205 :: c206 :: c207 :: c208 :: c209 :: c210 :: c211 :: c212 :: c213 :: c214 :: c215 :: c216 :: c217 :: c218 :: c219 :: c220 :: c221 :: c222 :: c223 :: c224 :: c225 :: c226 :: c227 :: c228 :: c229 :: c230 :: c231 :: c232 :: c233 :: c234 :: c235 :: c236 :: c237 :: c238 :: c239 :: c240 :: c241 :: c242 :: c243 :: c244 :: c245 :: c246 :: c247 :: c248 :: c249 :: c250 :: c251 :: c252 :: c253 :: c254 :: c255 :: c256 :: c257 :: c258 :: c259 :: c260 :: c261 :: c262 :: c263 :: c264 :: c265 :: c266 :: c267 :: c268 :: c269 :: c270 :: c271 :: c272 :: c273 :: c274 :: c275 :: c276 :: vR :: (Value.int .i64 (K : Int)) :: (Value.int .i64 0) :: c280 :: c281 :: c282 :: c283 :: c284 :: c285 :: c286 :: c287 :: c288 :: c289 :: c290 :: c291 :: c292 :: c293 :: c294 :: c295 :: c296 :: c297 :: c298 :: c299 :: c300 :: c301 :: c302 :: c303 :: c304 :: c305 :: c306 :: c307 :: c308 :: c309 :: c310 :: c311 :: c312 :: c313 :: c314 :: c315 :: c316 :: c317 :: c318 :: c319 :: [])), []⟩ w := by
  conv => arg 2; arg 1; whnf
  go_loopg [279] K (fun gg i wr => ∃ k : Nat, k ≤ K ∧ gg = K - k ∧ i = .int .i64 k ∧ Hid (∃ τ ps ov PL, P2 wr B τ ps ov rb fb spb R N E (pr ++ flat (Pr.take k)) (pr ++ flat (Pr.take k)) PL (M + k) ∧ Step B [6, 7] w τ0 wr τ ∧ (∀ g, g ≠ gP → g ≠ gS → g ≠ ri → ps g = ps0 g) ∧ (∀ g, g ≠ gS → ov g = ov0 g) ∧ PL.length = PL0.length ∧ (∀ i, k ≤ i → (ps ri)[i]? = Pr[i]?.map some) ∧ (ps ri).length = K))
  case atStart =>
    refine ⟨0, by omega, by omega, rfl, hidG ⟨τ0, ps0, ov0, PL0, by simpa [flat] using H.out, Step.refl _ _ _ _, fun _ _ _ _ => rfl, fun _ _ => rfl, rfl, fun i _ => ?_, ?_⟩⟩
    · rw [HPR.out, List.getElem?_map]
    · rw [HPR.out, List.length_map, HK.out]
  case round =>
    obtain ⟨k, hk, rfl, rfl, HI⟩ := hrel
    by_cases hlt : k < K
    · have hlt' : (k : Int) < (K : Int) := by omega
      have hrS : ri ≠ gS := by unfold gS; omega
      have hrP : ri ≠ gP := by unfold gP; omega
      have hPS : gP ≠ gS := by unfold gP gS; omega
      obtain ⟨τ, ps, ov, PL, h1, hst, hg0, hgv, hgl, hg1, hg2⟩ := HI.out
      obtain ⟨p, hp⟩ : ∃ p, Pr[k]? = some p := ⟨_, List.getElem?_eq_getElem (by rw [HK.out]; exact hlt)⟩
      have hp' : (ps ri)[k]? = some (some p) := by rw [hg1 k (Nat.le_refl _), hp]; rfl
      obtain ⟨xs, hxr, hxl, hxp⟩ := h1.gi.row ri
      obtain ⟨ob, cp, hv, hcp, hcp', hcell, hfro, hobl⟩ := hxr.len (by omega)
      rw [hxl, hg2] at hv hcp
      rw [hgv ri hrS, HVR.out] at hv
      have kob := hcell k _ (hxp k p hp')
      unfold Part.val at kob
      obtain ⟨hPp, tpp⟩ := h1.gi.part ri k p hp'
      have hple := hPp.le
      have hpl : p.es.length ≤ 65536 := by have := flat_le Pr k p hp; omega
      have HI1 := hidG h1
      have HSTr := hidG hst
      have HGr := hidG (And.intro hg1 (And.intro hg2 (And.intro hp' (And.intro hg0 (And.intro hgv hgl)))))
      have HFT := hidG (flat_take Pr k p hp)
      have HSPL : Hid (∃ rest, G = pr ++ flat (Pr.take k) ++ p.es ++ rest) := by
        obtain ⟨rest, hr⟩ := HG.out
        refine ⟨flat (Pr.drop (k + 1)) ++ rest, ?_⟩
        rw [hr, flat_split hp]; simp
      have HCv : Hid (∀ e ∈ p.es, befE E (e.1.toNat + 1) ≤ 512 * PL.length) := by
        intro e he
        rw [hgl]
        exact HCov.out e (by rw [flat_split hp]; simp [he])
      have hPL' : PL.length ≤ 1048576 := by omega
      have HVP : Hid (ov gP = vP) := (hgv gP hPS).trans HV.out
      have HPI : Hid ((ps ri)[k]? = some (some ⟨p.b, p.cap, p.es⟩)) := hp'
      have hBr : B ≤ wr.heap.size := Nat.le_trans hB hst.below.size
      clear HI h1 hst hg0 hgv hgl hg1 hg2 hp hp' hxr hxl hxp hcell hfro hPp tpp
      subst hv
      have iob : (0 : Int) ≤ (k : Int) ∧ (k : Int) < (K : Int) := by omega
      go_wp2_with fail
      refine loop11 rb fb spb p.b N R p.es.length p.cap B (M + k) ri k fc vP G E (pr ++ flat (Pr.take k)) p.es PL τ ps ov wr _ hN hR hri hE (by omega) hple rfl HTG HSPL HC HCv hPL' HI1 HVP HPI hBr ?_
      intro v30 v285 v286 v287 v288 v289 v290 v291 v292 v293 v294 v295 v296 v297 v298 v299 v300 v301 v302 v303 v304 w7 H7
      obtain ⟨τ7, ps7, PL7, h7, s7, g71, g72⟩ := H7.out
      have hB7 : B ≤ w7.heap.size := Nat.le_trans hBr s7.below.size
      obtain ⟨d1, d2, d3, d4⟩ := h7.gi.disown (g := ri) (i := k) (p := p) (by rw [g71 ri hrP]; exact HGr.out.2.2.1)
      have h8 := h7.step d1 d2 (upd_ne _ _ hrS.symm) (upd_ne _ _ hrP.symm)
      have H8 := hidG h8
      have GV := hidG (give_GI spb p.b p.es.length p.cap p.es hB7 (hidG h8.gi) (hidG h8.spare) (Nat.le_trans h8.slen (by omega)) (hidG h8.box) h8.t6 (hidG d4) rfl d3)
      have HS8 : Hid (Step B [6, 7] w τ0 w7 (upd τ7 p.b .loose)) := (HSTr.out.trans (s7.mono (by simp))).trans (d2.mono (by simp))
      have HG8 : Hid ((∀ g, g ≠ gP → ps7 g = ps g) ∧ PL7.length = PL.length) := ⟨g71, g72⟩
      clear H7 h7 s7 g71 g72 d1 d2 d3 d4 h8
      go_wp2_with fail
      refine GV.out.mono ?_
      rintro e9 w9 ⟨rfl, τ9, ps9, ov9, h9⟩
      have HN : Hid (∃ τ ps ov PL, P2 w9 B τ ps ov rb fb spb R N E (pr ++ flat (Pr.take (k + 1))) (pr ++ flat (Pr.take (k + 1))) PL (M + (k + 1)) ∧ Step B [6, 7] w τ0 w9 τ ∧ (∀ g, g ≠ gP → g ≠ gS → g ≠ ri → ps g = ps0 g) ∧ (∀ g, g ≠ gS → ov g = ov0 g) ∧ PL.length = PL0.length ∧ (∀ i, (k + 1) ≤ i → (ps ri)[i]? = Pr[i]?.map some) ∧ (ps ri).length = K) := by
        obtain ⟨hg1, hg2, hp', hg0, hgv, hgl⟩ := HGr.out
        refine ⟨τ9, ps9, ov9, PL7, ?_, HS8.out.trans (h9.step.mono (by simp)), fun g e1 e2 e3 => ?_, fun g e2 => ?_, ?_, fun i hi => ?_, ?_⟩
        · have := H8.out.gave hR h9 (M' := M + (k + 1)) (by omega)
          rw [List.append_assoc, ← HFT.out] at this
          exact this
        · rw [(h9.other g e2).1, upd_ne _ _ e3, HG8.out.1 g e1]; exact hg0 g e1 e2 e3
        · rw [(h9.other g e2).2]; exact hgv g e2
        · rw [HG8.out.2]; exact hgl
        · rw [(h9.other ri hrS).1, upd_same, HG8.out.1 ri hrP, List.getElem?_set_ne (by omega)]
          exact hg1 i (by omega)
        · rw [(h9.other ri hrS).1, upd_same, HG8.out.1 ri hrP, List.length_set]; exact hg2
      clear h9 GV
      go_wp2_with fail
      go_roundg (K - (k + 1))
      case measure => omega
      case rel => exact ⟨k + 1, by omega, rfl, by go_num, HN⟩
    · have hge : k = K := by omega
      subst hge
      have HQ : Hid (∃ τ ps ov PL, P2 wr B τ ps ov rb fb spb R N E (pr ++ flat Pr) (pr ++ flat Pr) PL (M + k) ∧ Step B [6, 7] w τ0 wr τ ∧ (∀ g, g ≠ gP → g ≠ gS → g ≠ ri → ps g = ps0 g) ∧ (∀ g, g ≠ gS → ov g = ov0 g) ∧ PL.length = PL0.length) := by
        obtain ⟨τ, ps, ov, PL, h1, h2, h3, h4, h5, _⟩ := HI.out
        rw [show Pr.take k = Pr from List.take_of_length_le (by rw [HK.out]; exact Nat.le_refl _)] at h1
        exact ⟨τ, ps, ov, PL, h1, h2, h3, h4, h5⟩
      clear HI
      go_wp2_with fail
      exact HQ

end Go.Proofs.Qxb6601127a
