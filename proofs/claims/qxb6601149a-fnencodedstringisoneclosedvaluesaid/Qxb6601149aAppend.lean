import Derived.Test.Qxb6601149aStop
import Derived.Test.Qxb6601149aEnc
import Derived.Test.Qxb6601149aHex
import Derived.Lib.AppendStr
import Derived.Deep.RegionLaw
namespace Go.Proofs.Qxb6601149a
open Go.RowKit
set_option linter.unusedVariables false
set_option linter.unusedSimpArgs false

/-- append onto a row of the call's own, as one step of a region that draws -/
theorem step_append_own {P : Program} {ops : Array Oper} {o : Oper} {a : Act} {w : World} {K : Act → World → Prop} {Q : Exit → Act → World → Prop} {E : Prop} (hgd : o.guard = none) (s x : Operand) (t : TypeId)
    (ho : o.op = .call { callee := .builtin .append, args := #[s, x], argTypes := #[t, t] })
    (base : Nat) (e : TypeId) (i : TypeInfo) (z : Value) (size bytes : Nat) (ht : P.underlying t = some (.slice e)) (hi : P.info? e = some i) (hz : i.zero = some z)
    (hsize : i.size = size) (hby : i.bytes = bytes) (hzs : z.cells.size = size) (hsz : 0 < size)
    (v : Value) (n : Nat) (xs : List Value) (hs : a.eval s = v) (hown : w.ownsRow base e size v n xs)
    (ad : Addr) (m c : Nat) (news : List Value) (hx : a.eval x = .slice (some ad) m c) (hl : news.length = m * size) (hnews : ∀ j u, news[j]? = some u → w.cell? (ad.add j) = some u) (h1 : ∀ u ∈ news, u.oneCell' = true)
    (h63 : n + m ≤ maxLen) (hbytes : (n + m) * bytes ≤ 140737488355328) (hbase : base ≤ w.heap.size)
    (h : ∀ v' w', w'.ownsRow base e size v' (n + m) (xs ++ news) → w.grownBy w' v.ownBlock → K (a.put o.dst v') w') :
    if Region.wanted o (yielded ops a.tmps) = true then Oper.wp P o a w K Q else E := by
  have hw : Region.wanted o (yielded ops a.tmps) = true := by simp [Region.wanted, hgd]
  rw [if_pos hw]
  exact wp_append_own w s x t ho base e i z size bytes ht hi hz hsize hby hzs hsz v n xs hs hown ad m c news hx hl hnews h1 h63 hbytes hbase fun v' w' h2 h3 _ => h v' w' h2 h3

/-- the bytes of a string, as integers -/
def sb (s : ByteArray) : List Int := s.data.toList.map fun c => (c.toNat : Int)

theorem sb_length (s : ByteArray) : (sb s).length = s.size := by unfold sb; rw [List.length_map, Array.length_toList]; rfl


theorem sb_get (s : ByteArray) (i : Nat) (h : i < s.size) : (sb s)[i]? = some (s[i].toNat : Int) := by
  have h' : i < s.data.size := h
  unfold sb
  rw [List.getElem?_map, Array.getElem?_toList, Array.getElem?_eq_getElem h']
  rfl

theorem sb_take (s : ByteArray) (i : Nat) (h : i < s.size) : (sb s).take (i + 1) = (sb s).take i ++ [(s[i].toNat : Int)] := by
  have h' : i < (sb s).length := by rw [sb_length]; exact h
  rw [List.take_succ_eq_append_getElem h']
  have := sb_get s i h
  rw [List.getElem?_eq_getElem h'] at this
  simp only [Option.some.injEq] at this
  rw [this]

theorem six_new (w : World) (a b c d e f : Int) : ∀ j u, ([.int .u8 a, .int .u8 b, .int .u8 c, .int .u8 d, .int .u8 e, .int .u8 f] : List Value)[j]? = some u →
    ((w.alloc (.cells #[.int .u8 a, .int .u8 b, .int .u8 c, .int .u8 d, .int .u8 e, .int .u8 f] 5)).drew).cell? ((⟨w.heap.size, 0, none⟩ : Addr).add j) = some u := by
  intro j u hj
  rw [addr_add, Nat.zero_add, World.cell?_drew, World.cell?_alloc_new]
  simpa using hj

theorem six_one (a b c d e f : Int) : ∀ u ∈ ([.int .u8 a, .int .u8 b, .int .u8 c, .int .u8 d, .int .u8 e, .int .u8 f] : List Value), u.oneCell' = true := by
  intro u hu
  simp at hu
  rcases hu with rfl | rfl | rfl | rfl | rfl | rfl <;> rfl

/-- what one round leaves -/
theorem own_next (ds : List Int) (n : Nat) (s : ByteArray) (i : Nat) (hlt : i < s.size) {base : Nat} {v : Value} {w : World} (c : Nat) (hc : s[i].toNat = c) (news : List Value) (m : Nat) (hnews : news = bv (enc1 (c : Int))) (hm : m = (enc1 (c : Int)).length)
    (h : w.ownsRow base 5 1 v (n + 1 + (body ((sb s).take i)).length + m) (bv (ds ++ 34 :: body ((sb s).take i)) ++ news)) :
    w.ownsRow base 5 1 v (n + 1 + (body ((sb s).take (i + 1))).length) (bv (ds ++ 34 :: body ((sb s).take (i + 1)))) := by
  have e1 : body ((sb s).take (i + 1)) = body ((sb s).take i) ++ enc1 (c : Int) := by
    rw [sb_take s i hlt, body_append, hc]; simp [body]
  subst hnews hm
  have e2 : bv (ds ++ 34 :: body ((sb s).take i)) ++ bv (enc1 (c : Int)) = bv (ds ++ 34 :: body ((sb s).take (i + 1))) := by
    rw [e1]; simp [bv]
  rw [e2] at h
  have e3 : n + 1 + (body ((sb s).take i)).length + (enc1 (c : Int)).length = n + 1 + (body ((sb s).take (i + 1))).length := by
    rw [e1, List.length_append]; omega
  rw [e3] at h
  exact h

set_option maxHeartbeats 2000000 in
set_option maxRecDepth 100000 in
theorem append_any (s : ByteArray) (base n : Nat) (ds : List Int) (v : Value) (w : World) (hs : s.size ≤ 65536) (hn : n ≤ 1048576) (hbase : base ≤ w.heap.size) (HO : Hid (w.ownsRow base 5 1 v n (bv ds))) :
    Calls Try.prog 11 #[v, .string s] w fun e w' => ∃ v', e = .returned v' ∧ w'.ownsRow base 5 1 v' (n + (enc (sb s)).length) (bv (ds ++ enc (sb s))) ∧ Below base w w' := by
  obtain ⟨i0, hi0, hzz⟩ := Option.map_eq_some_iff.1 Try.info5
  simp only [Prod.mk.injEq] at hzz
  obtain ⟨hz0, hs0, hb0⟩ := hzz
  go_enter Try.func11, Try.ntmps11
  go_wp2_with (at_builtin; refine wpList_append_own _ rfl _ _ 22 rfl base 5 i0 (.int .u8 0) 1 1 Try.underlying22 hi0 hz0 hs0 hb0 rfl (by decide) v n (bv ds) rfl (HO.out.alloc _) ⟨w.heap.size, 0, none⟩ 1 1 [.int .u8 34] rfl rfl ?c2 ?c3 ?c4 ?c5 ?c6 ?_)
  case c2 => exact cell_one_new _ _ _
  case c3 => intro u hu; simp at hu; subst hu; rfl
  case c4 => unfold maxLen; omega
  case c5 => omega
  case c6 => simp; omega
  intro v1 w1 hown hgrow _
  have hb1 : Below base w w1 := ((Below.refl _ _).alloc hbase _).grown hgrow (by simp; omega) (fun k hk => (HO.out.lt k hk).1)
  have e1 : bv ds ++ [.int .u8 34] = bv (ds ++ [34]) := by simp [bv]
  rw [e1] at hown
  have HO1 := hid hown
  have HB1 := hid hb1
  clear hown hgrow hb1 e1 HO
  go_wp2_with fail
  go_loopg [0, 5] s.size (fun g vv vi wr => ∃ i : Nat, i ≤ s.size ∧ g = s.size - i ∧ vi = .int .i64 i ∧ Hid (wr.ownsRow base 5 1 vv (n + 1 + (body ((sb s).take i)).length) (bv (ds ++ 34 :: body ((sb s).take i)))) ∧ Hid (Below base w wr))
  case atStart => exact ⟨0, Nat.zero_le _, rfl, rfl, by simpa [body, Hid] using HO1, HB1⟩
  case round =>
    clear HO1 HB1
    obtain ⟨i, hi, rfl, rfl, HO, HB⟩ := hrel
    have hbl : (body ((sb s).take i)).length ≤ 6 * s.size := by
      have := (body_length ((sb s).take i)).2
      have h2 : ((sb s).take i).length ≤ s.size := by rw [List.length_take, sb_length]; omega
      omega
    by_cases hlt : i < s.size
    · go_upto_region 7 with fail
      have hcb : s[i].toNat < 256 := UInt8.toNat_lt _
      generalize hc : s[i].toNat = c at *
      have HC := hid hc
      clear hc
      by_cases h34 : c = 34
      · subst h34
        go_wp2_with (at_builtin; refine wpList_append_own _ rfl _ _ 22 rfl base 5 i0 (.int .u8 0) 1 1 Try.underlying22 hi0 hz0 hs0 hb0 rfl (by decide) u0 (n + 1 + (body ((sb s).take i)).length) (bv (ds ++ 34 :: body ((sb s).take i))) rfl (HO.out.alloc _) ⟨wr.heap.size, 0, none⟩ 2 2 [.int .u8 92, .int .u8 34] rfl rfl ?c2 ?c3 ?c4 ?c5 ?c6 ?_)
        case c2 =>
          intro j u hj
          match j, hj with
          | 0, hj => simp at hj; subst hj; simp [Addr.add]
          | 1, hj => simp at hj; subst hj; simp [Addr.add]
        case c3 => intro u hu; simp at hu; rcases hu with rfl | rfl <;> rfl
        case c4 => unfold maxLen; omega
        case c5 => omega
        case c6 => have := HB.out.size; simp; omega
        intro v2 w2 hown hgrow _
        have hb2 : Below base w w2 := (HB.out.alloc (Nat.le_trans hbase HB.out.size) _).grown hgrow (by have := HB.out.size; simp; omega) (fun k hk => (HO.out.lt k hk).1)
        have hN := own_next ds n s i hlt _ HC.out _ 2 rfl rfl hown
        have HO2 := hid hN
        have HB2 := hid hb2
        clear hown hgrow hb2 hN HO HB
        go_wp2_with fail
        go_roundg (s.size - (i + 1))
        case measure => omega
        case rel => exact ⟨i + 1, by omega, rfl, by go_num, HO2, HB2⟩
      · by_cases h92 : c = 92
        · subst h92
          go_wp2_with (at_builtin; refine wpList_append_own _ rfl _ _ 22 rfl base 5 i0 (.int .u8 0) 1 1 Try.underlying22 hi0 hz0 hs0 hb0 rfl (by decide) u0 (n + 1 + (body ((sb s).take i)).length) (bv (ds ++ 34 :: body ((sb s).take i))) rfl (HO.out.alloc _) ⟨wr.heap.size, 0, none⟩ 2 2 [.int .u8 92, .int .u8 92] rfl rfl ?c2 ?c3 ?c4 ?c5 ?c6 ?_)
          case c2 =>
            intro j u hj
            match j, hj with
            | 0, hj => simp at hj; subst hj; simp [Addr.add]
            | 1, hj => simp at hj; subst hj; simp [Addr.add]
          case c3 => intro u hu; simp at hu; rcases hu with rfl | rfl <;> rfl
          case c4 => unfold maxLen; omega
          case c5 => omega
          case c6 => have := HB.out.size; simp; omega
          intro v2 w2 hown hgrow _
          have hb2 : Below base w w2 := (HB.out.alloc (Nat.le_trans hbase HB.out.size) _).grown hgrow (by have := HB.out.size; simp; omega) (fun k hk => (HO.out.lt k hk).1)
          have hN := own_next ds n s i hlt _ HC.out _ 2 rfl rfl hown
          have HO2 := hid hN
          have HB2 := hid hb2
          clear hown hgrow hb2 hN HO HB
          go_wp2_with fail
          go_roundg (s.size - (i + 1))
          case measure => omega
          case rel => exact ⟨i + 1, by omega, rfl, by go_num, HO2, HB2⟩
        · by_cases h10 : c = 10
          · subst h10
            go_wp2_with (at_builtin; refine Lib.wpList_append_own_string _ rfl _ _ 22 9 rfl base 5 i0 Try.underlying22 Try.underlying9 hi0 hz0 hs0 hb0 u0 (n + 1 + (body ((sb s).take i)).length) (bv (ds ++ 34 :: body ((sb s).take i))) rfl HO.out ⟨#[92, 110]⟩ rfl ?c4 ?c5 ?c6 ?_)
            case c4 => unfold maxLen; show _ + 2 ≤ _; omega
            case c5 => show _ + 2 ≤ _; omega
            case c6 => have := HB.out.size; omega
            intro v2 w2 hown hgrow _
            have hb2 : Below base w w2 := HB.out.grown hgrow (by have := HB.out.size; omega) (fun k hk => (HO.out.lt k hk).1)
            have hN := own_next ds n s i hlt _ HC.out _ 2 rfl rfl hown
            have HO2 := hid hN
            have HB2 := hid hb2
            clear hown hgrow hb2 hN HO HB
            go_wp2_with fail
            go_roundg (s.size - (i + 1))
            case measure => omega
            case rel => exact ⟨i + 1, by omega, rfl, by go_num, HO2, HB2⟩
          · by_cases h13 : c = 13
            · subst h13
              go_wp2_with (at_builtin; refine Lib.wpList_append_own_string _ rfl _ _ 22 9 rfl base 5 i0 Try.underlying22 Try.underlying9 hi0 hz0 hs0 hb0 u0 (n + 1 + (body ((sb s).take i)).length) (bv (ds ++ 34 :: body ((sb s).take i))) rfl HO.out ⟨#[92, 114]⟩ rfl ?c4 ?c5 ?c6 ?_)
              case c4 => unfold maxLen; show _ + 2 ≤ _; omega
              case c5 => show _ + 2 ≤ _; omega
              case c6 => have := HB.out.size; omega
              intro v2 w2 hown hgrow _
              have hb2 : Below base w w2 := HB.out.grown hgrow (by have := HB.out.size; omega) (fun k hk => (HO.out.lt k hk).1)
              have hN := own_next ds n s i hlt _ HC.out _ 2 rfl rfl hown
              have HO2 := hid hN
              have HB2 := hid hb2
              clear hown hgrow hb2 hN HO HB
              go_wp2_with fail
              go_roundg (s.size - (i + 1))
              case measure => omega
              case rel => exact ⟨i + 1, by omega, rfl, by go_num, HO2, HB2⟩
            · by_cases h9 : c = 9
              · subst h9
                go_wp2_with (at_builtin; refine Lib.wpList_append_own_string _ rfl _ _ 22 9 rfl base 5 i0 Try.underlying22 Try.underlying9 hi0 hz0 hs0 hb0 u0 (n + 1 + (body ((sb s).take i)).length) (bv (ds ++ 34 :: body ((sb s).take i))) rfl HO.out ⟨#[92, 116]⟩ rfl ?c4 ?c5 ?c6 ?_)
                case c4 => unfold maxLen; show _ + 2 ≤ _; omega
                case c5 => show _ + 2 ≤ _; omega
                case c6 => have := HB.out.size; omega
                intro v2 w2 hown hgrow _
                have hb2 : Below base w w2 := HB.out.grown hgrow (by have := HB.out.size; omega) (fun k hk => (HO.out.lt k hk).1)
                have hN := own_next ds n s i hlt _ HC.out _ 2 rfl rfl hown
                have HO2 := hid hN
                have HB2 := hid hb2
                clear hown hgrow hb2 hN HO HB
                go_wp2_with fail
                go_roundg (s.size - (i + 1))
                case measure => omega
                case rel => exact ⟨i + 1, by omega, rfl, by go_num, HO2, HB2⟩
              · have t34 : ((c : Int) == 34) = false := by simp; omega
                have t92 : ((c : Int) == 92) = false := by simp; omega
                have t10 : ((c : Int) == 10) = false := by simp; omega
                have t13 : ((c : Int) == 13) = false := by simp; omega
                have t9 : ((c : Int) == 9) = false := by simp; omega
                have N34 := hid h34
                have N92 := hid h92
                have N10 := hid h10
                have N13 := hid h13
                have N9 := hid h9
                clear h34 h92 h10 h13 h9
                by_cases h32 : c < 32
                · have h32' : (c : Int) < 32 := by omega
                  obtain ⟨x1, hx1⟩ : ∃ x, x = hexd ((c : Int) / 16) := ⟨_, rfl⟩
                  have q1 : ∀ W, (Instr.index 9 (.string ⟨#[48, 49, 50, 51, 52, 53, 54, 55, 56, 57, 97, 98, 99, 100, 101, 102]⟩) (.int .u8 ((c : Int) / 16))).run Try.prog W = .ok (.int .u8 x1) W := by
                    intro W
                    have := hex_index (c / 16) (by omega) W
                    rw [show ((c / 16 : Nat) : Int) = (c : Int) / 16 by omega] at this
                    rw [this, hx1]
                  have X1 := hid hx1
                  obtain ⟨x2, hx2⟩ : ∃ x, x = hexd ((c : Int) % 16) := ⟨_, rfl⟩
                  have hbits := and15 c h32
                  have q2 : ∀ W, (Instr.index 9 (.string ⟨#[48, 49, 50, 51, 52, 53, 54, 55, 56, 57, 97, 98, 99, 100, 101, 102]⟩) (.int .u8 ((c : Int) % 16))).run Try.prog W = .ok (.int .u8 x2) W := by
                    intro W
                    have := hex_index (c % 16) (by omega) W
                    rw [show ((c % 16 : Nat) : Int) = (c : Int) % 16 by omega] at this
                    rw [this, hx2]
                  have X2 := hid hx2
                  clear hx1 hx2
                  go_wp2_with fail
                  have HEN : Hid (enc1 (c : Int) = [92, 117, 48, 48, x1, x2]) := by
                    unfold enc1
                    have := N34.out; have := N92.out; have := N10.out; have := N13.out; have := N9.out
                    rw [if_neg (by omega), if_neg (by omega), if_neg (by omega), if_neg (by omega), if_pos (by omega), X1.out, X2.out]
                    exact hid rfl
                  have HB64 : Hid ((n + 1 + (body ((sb s).take i)).length + 6) * 1 ≤ 140737488355328) := by show _ ≤ _; omega
                  go_region_law (refine step_append_own rfl _ _ 22 rfl base 5 i0 (.int .u8 0) 1 1 Try.underlying22 hi0 hz0 hs0 hb0 rfl (by decide) u0 (n + 1 + (body ((sb s).take i)).length) (bv (ds ++ 34 :: body ((sb s).take i))) rfl ?o1 ⟨wr.heap.size, 0, none⟩ 6 6 [.int .u8 92, .int .u8 117, .int .u8 48, .int .u8 48, .int .u8 x1, .int .u8 x2] rfl rfl ?c2 ?c3 ?c4 HB64.out ?c6 ?_; (case o1 => exact (HO.out.alloc _)); (case c2 => exact six_new _ _ _ _ _ _ _); (case c3 => exact six_one _ _ _ _ _ _); (case c4 => unfold maxLen; omega); (case c6 => have := HB.out.size; simp; omega); (intro v2 w2 hown hgrow; have HOW := hid hown; have HGR := hid hgrow; clear hown hgrow))
                  all_goals
                    have hb2 : Below base w w2 := ((HB.out.alloc (Nat.le_trans hbase HB.out.size) _).drew).grown HGR.out (by have := HB.out.size; simp; omega) (fun k hk => (HO.out.lt k hk).1)
                    have hN := own_next ds n s i hlt _ HC.out _ 6 (by rw [HEN.out]; rfl) (by rw [HEN.out]; rfl) HOW.out
                    have HO2 := hid hN
                    have HB2 := hid hb2
                    clear HOW HGR hb2 hN HO HB
                    go_wp2_with fail
                    go_roundg (s.size - (i + 1))
                    case measure => omega
                    case rel => exact ⟨i + 1, by omega, rfl, by go_num, HO2, HB2⟩
                · have HE : Hid (enc1 (c : Int) = [(c : Int)]) := by
                    unfold enc1
                    have := N34.out; have := N92.out; have := N10.out; have := N13.out; have := N9.out
                    rw [if_neg (by omega), if_neg (by omega), if_neg (by omega), if_neg (by omega), if_neg (by omega)]
                    exact hid rfl
                  go_wp2_with (at_builtin; refine wpList_append_own _ rfl _ _ 22 rfl base 5 i0 (.int .u8 0) 1 1 Try.underlying22 hi0 hz0 hs0 hb0 rfl (by decide) u0 (n + 1 + (body ((sb s).take i)).length) (bv (ds ++ 34 :: body ((sb s).take i))) rfl (HO.out.alloc _) ⟨wr.heap.size, 0, none⟩ 1 1 [.int .u8 (c : Int)] rfl rfl ?c2 ?c3 ?c4 ?c5 ?c6 ?_)
                  case c2 =>
                    intro j u hj
                    match j, hj with
                    | 0, hj => simp at hj; subst hj; simp [Addr.add]
                  case c3 => intro u hu; simp at hu; subst hu; rfl
                  case c4 => unfold maxLen; omega
                  case c5 => omega
                  case c6 => have := HB.out.size; simp; omega
                  intro v2 w2 hown hgrow _
                  have hb2 : Below base w w2 := (HB.out.alloc (Nat.le_trans hbase HB.out.size) _).grown hgrow (by have := HB.out.size; simp; omega) (fun k hk => (HO.out.lt k hk).1)
                  have hN := own_next ds n s i hlt _ HC.out _ 1 (by rw [HE.out]; rfl) (by rw [HE.out]; rfl) hown
                  have HO2 := hid hN
                  have HB2 := hid hb2
                  clear hown hgrow hb2 hN HO HB
                  go_wp2_with fail
                  go_roundg (s.size - (i + 1))
                  case measure => omega
                  case rel => exact ⟨i + 1, by omega, rfl, by go_num, HO2, HB2⟩
    · have e : i = s.size := by omega
      subst e
      have hO := HO.out
      rw [List.take_of_length_le (by rw [sb_length]; omega)] at hO
      have HOO := hid hO
      have hbl2 : (body (sb s)).length ≤ 6 * s.size := by have := (body_length (sb s)).2; rw [sb_length] at this; exact this
      clear hO HO
      go_wp2_with (at_builtin; refine wpList_append_own _ rfl _ _ 22 rfl base 5 i0 (.int .u8 0) 1 1 Try.underlying22 hi0 hz0 hs0 hb0 rfl (by decide) u0 (n + 1 + (body (sb s)).length) (bv (ds ++ 34 :: body (sb s))) rfl (HOO.out.alloc _) ⟨wr.heap.size, 0, none⟩ 1 1 [.int .u8 34] rfl rfl ?c2 ?c3 ?c4 ?c5 ?c6 ?_)
      case c2 => exact cell_one_new _ _ _
      case c3 => intro u hu; simp at hu; subst hu; rfl
      case c4 => unfold maxLen; omega
      case c5 => omega
      case c6 => have := HB.out.size; simp; omega
      intro v2 w2 hown hgrow _
      have hb2 : Below base w w2 := (HB.out.alloc (Nat.le_trans hbase HB.out.size) _).grown hgrow (by have := HB.out.size; simp; omega) (fun k hk => (HOO.out.lt k hk).1)
      have e2 : bv (ds ++ 34 :: body (sb s)) ++ [.int .u8 34] = bv (ds ++ enc (sb s)) := by simp [bv, enc]
      have e3 : n + 1 + (body (sb s)).length + 1 = n + (enc (sb s)).length := by rw [enc_length]; omega
      rw [e2, e3] at hown
      have HOF := hid hown
      have HBF := hid hb2
      clear hown hgrow hb2 e2 e3 HOO HB
      go_wp2_with fail
      go_ret
      exact ⟨_, rfl, HOF, HBF⟩

end Go.Proofs.Qxb6601149a
