import Derived.Test.Qxb6601127aHeapBase
import Derived.Deep.CutRange
namespace Go.Proofs.Qxb6601127a
open Go.RowKit
set_option linter.unusedVariables false
set_option linter.unusedSimpArgs false

/-- the world while pop works -/
structure PW (w : World) (hb b n cap : Nat) (hs : List (Int × Int)) (kl cl : Int) (wr : World) : Prop where
  box : Blk wr hb [.slice (some ⟨b, 0, none⟩) n cap] 32
  ents : Ents wr b hs
  last : Blk wr w.heap.size [.int .i64 kl, .int .i32 cl] 57
  keeps : Keeps [hb, b] w wr

theorem PW.set {w : World} {hb b n cap : Nat} {hs : List (Int × Int)} {kl cl : Int} {wr : World} (h : PW w hb b n cap hs kl cl wr) (hne : hb ≠ b) (hb' : b < w.heap.size) {i : Nat} (hi : i < hs.length) (k c : Int) :
    PW w hb b n cap (hs.set i (k, c)) kl cl ((wr.setCell ⟨b, i * 2, none⟩ (.int .i64 k)).setCell ⟨b, i * 2 + 1, none⟩ (.int .i32 c)) :=
  ⟨(h.box.set_ne _ _ hne).set_ne _ _ hne, h.ents.set hi k c, (h.last.set_ne _ _ (by simp; omega)).set_ne _ _ (by simp; omega), (h.keeps.setCell (.inl (by simp)) _).setCell (.inl (by simp)) _⟩

theorem PW.drewN {w : World} {hb b n cap : Nat} {hs : List (Int × Int)} {kl cl : Int} {wr : World} (h : PW w hb b n cap hs kl cl wr) (m : Nat) : PW w hb b n cap hs kl cl (wr.drewN m) :=
  ⟨h.box, h.ents, h.last, h.keeps.drewN m⟩

set_option maxRecDepth 100000 in
set_option maxHeartbeats 2000000 in
theorem pop_many (hb b n cap : Nat) (es : List (Int × Int)) (w : World) (HL : Hid (es.length = n + 1)) (hn0 : 0 < n) (hn : n + 1 ≤ 1048576) (hcap : n + 1 ≤ cap) (hcap' : cap ≤ 9223372036854775807)
    (HB : Hid (Blk w hb [.slice (some ⟨b, 0, none⟩) (n + 1) cap] 32)) (HE : Hid (Ents w b es)) (hne : hb ≠ b) :
    Calls Try.prog 31 #[.pointer (some ⟨hb, 0, none⟩)] w fun e w' => ∃ es', e = .returned (.int .i32 (cc es 0)) ∧ Popped es es' ∧ Blk w' hb [.slice (some ⟨b, 0, none⟩) n cap] 32 ∧ Ents w' b es' ∧ Keeps [hb, b] w w' := by
  have hix : (0 : Int) < (n : Int) + 1 := by omega
  have hix1 : (n : Int) < (n : Int) + 1 := by omega
  have hz : ((n : Int) == 0) = false := by simp; omega
  have hsl : w.cell? ⟨hb, 0, none⟩ = some (.slice (some ⟨b, 0, none⟩) (n + 1) cap) := by rw [HB.out.cell]; rfl
  have hsf := HB.out.frozen 0
  have c1 : w.cell? ⟨b, 1, none⟩ = some (.int .i32 (cc es 0)) := by have := HE.out.comp (i := 0) (by rw [HL.out]; omega); simpa using this
  have c2 : w.cell? ⟨b, n * 2, none⟩ = some (.int .i64 (kk es n)) := HE.out.key (by rw [HL.out]; omega)
  have c3 : w.cell? ⟨b, n * 2 + 1, none⟩ = some (.int .i32 (cc es n)) := HE.out.comp (by rw [HL.out]; omega)
  have hbb := HB.out.lt
  have hbb' := HE.out.lt
  have HS : Hid (Sink es n (kk es n, cc es n) (es.take n) 0) := sink_start es n HL.out hn0
  generalize cc es 0 = c0 at *
  generalize kk es n = kl at *
  generalize cc es n = cl at *
  go_enter Try.func31, Try.ntmps31
  go_wp2
  go_region
  go_wp2
  go_region
  go_wp2
  have HP : Hid (PW w hb b n cap (es.take n) kl cl ((w.setCell ⟨hb, 0, none⟩ (.slice (some ⟨b, 0, none⟩) n cap)).alloc (.cells #[.int .i64 kl, .int .i32 cl] 57))) := by
    refine ⟨(HB.out.set 0 _).alloc _, ((HE.out.take n).set_ne _ _ hne.symm).alloc _, ?_, ((Keeps.refl _ _).setCell (.inl (by simp)) _).alloc _⟩
    have := Blk.new (w.setCell ⟨hb, 0, none⟩ (.slice (some ⟨b, 0, none⟩) n cap)) #[.int .i64 kl, .int .i32 cl] 57
    simpa using this
  clear hsl hsf c1 c2 c3 HB HE
  go_loopg [5] n (fun g vi wr => ∃ i : Nat, g = n - i ∧ i < n ∧ vi = .int .i64 i ∧ Hid (∃ hs, PW w hb b n cap hs kl cl wr ∧ Sink es n (kl, cl) hs i))
  case atStart => exact ⟨0, by simp, hn0, rfl, es.take n, ⟨HP.out.box, HP.out.ents, HP.out.last, HP.out.keeps.drewN 2⟩, HS⟩
  case round =>
    clear HP HS
    obtain ⟨i, rfl, hin, rfl, HI⟩ := hrel
    obtain ⟨hs, hP, hS⟩ := HI.out
    have hsl : wr.cell? ⟨hb, 0, none⟩ = some (.slice (some ⟨b, 0, none⟩) n cap) := by rw [hP.box.cell]; rfl
    have hl1 : wr.cell? ⟨w.heap.size, 0, none⟩ = some (.int .i64 kl) := by rw [hP.last.cell]; rfl
    have hl2 : wr.cell? ⟨w.heap.size, 1, none⟩ = some (.int .i32 cl) := by rw [hP.last.cell]; rfl
    have ci1 := hP.ents.key (i := i) (by rw [hS.len]; omega)
    have ci2 := hP.ents.comp (i := i) (by rw [hS.len]; omega)
    have fi1 := hP.ents.frozen (i * 2)
    have fi2 := hP.ents.frozen (i * 2 + 1)
    have HP : Hid _ := hP
    have HS : Hid _ := hS
    clear hP hS HI
    by_cases hch : 2 * i + 1 < n
    · obtain ⟨ch, hch'⟩ : ∃ ch, ch = 2 * i + 1 := ⟨_, rfl⟩
      have Hch : Hid _ := hch'
      have hcn : ch < n := by omega
      go_upto_region 6 with fail
      go_cut [6] from 40 to 97 (fun v wc => Hid (wc = wr) ∧ v = .int .i64 (ch : Int))
      case first =>
        clear hch'
        go_wp2
        go_meet
        case rel =>
          refine ⟨rfl, ?_⟩
          have := Hch.out
          congr 1; omega
      case rest =>
        obtain ⟨HW, rfl⟩ := hcut
        have hwc := HW.out
        subst hwc
        clear HW hch hch'
        have cl1 := HP.out.ents.key (i := ch) (by rw [HS.out.len]; omega)
        have cl2 := HP.out.ents.comp (i := ch) (by rw [HS.out.len]; omega)
        obtain ⟨d, hd⟩ : ∃ d : Bool, d = true ↔ (ch + 1 < n ∧ kk hs (ch + 1) < kk hs ch) := ⟨decide (ch + 1 < n ∧ kk hs (ch + 1) < kk hs ch), by simp⟩
        have Hd : Hid _ := hd
        clear hd
        go_upto_region 8 with fail
        go_cut [73] from 40 to 97 (fun v wd => Hid (∃ m, wd = wc.drewN m) ∧ v = .bool d)
        case first =>
          by_cases hc2 : ch + 1 < n
          · have cr1 := HP.out.ents.key (i := ch + 1) (by rw [HS.out.len]; omega)
            have hg : (ch : Int) + 1 < (n : Int) := by omega
            generalize kk hs (ch + 1) = k2 at *
            generalize kk hs ch = k1 at *
            go_wp2
            go_quiet (fail)
            go_wp2
            go_meet
            case rel =>
              refine ⟨⟨_, rfl⟩, ?_⟩
              have hd := Hd.out
              congr 1
              rw [Bool.eq_iff_iff, hd]; simp [hc2]
          · have hg : decide ((ch : Int) + 1 < (n : Int)) = false := by simp; omega
            go_wp2
            go_quiet (fail)
            go_wp2
            go_meet
            case rel =>
              refine ⟨⟨_, rfl⟩, ?_⟩
              have hd := Hd.out
              congr 1
              rw [Bool.eq_iff_iff, hd]; simp [hc2]
        case rest =>
          obtain ⟨HW, rfl⟩ := hcut
          obtain ⟨m, hm⟩ := HW.out
          subst hm
          clear HW cl1 cl2
          go_upto_if 73 with fail
          go_cut [6] from 40 to 97 (fun v we => Hid (we = wc.drewN m) ∧ ∃ c : Nat, v = .int .i64 (c : Int) ∧ c < n ∧ Hid ((c = 2 * i + 1 ∨ c = 2 * i + 2) ∧ ∀ d, d = 2 * i + 1 ∨ d = 2 * i + 2 → d < n → kk hs c ≤ kk hs d))
          case first =>
            go_wp2
            · have hd : d = true := by assumption
              go_meet
              case rel =>
                have h1 := Hd.out.1 hd
                have h2 := Hch.out
                refine ⟨rfl, ch + 1, by go_num, h1.1, .inr (by omega), fun d h3 h4 => ?_⟩
                by_cases e : d = ch + 1
                · subst e; omega
                · have : d = ch := by omega
                  subst this; omega
            · have hd : d = false := by assumption
              go_meet
              case rel =>
                have h1 : ¬ (ch + 1 < n ∧ kk hs (ch + 1) < kk hs ch) := fun h => by have := Hd.out.2 h; rw [hd] at this; cases this
                have h2 := Hch.out
                refine ⟨rfl, ch, by go_num, hcn, .inl (by omega), fun d h3 h4 => ?_⟩
                by_cases e : d = ch + 1
                · subst e; omega
                · have : d = ch := by omega
                  subst this; omega
          case rest =>
            obtain ⟨HW, c, rfl, hc, HC⟩ := hcut
            have hwc := HW.out
            subst hwc
            clear HW Hd Hch
            have ck1 := HP.out.ents.key (i := c) (by rw [HS.out.len]; omega)
            have ck2 := HP.out.ents.comp (i := c) (by rw [HS.out.len]; omega)
            by_cases hle : kl ≤ kk hs c
            · have HQ : Hid (Popped es (hs.set i (kl, cl))) := sink_end HS.out (fun d h1 h2 => by have := HC.out.2 d h1 h2; show kl ≤ _; omega)
              have hX := HP.out.set hne hbb' (by rw [HS.out.len]; exact hin) kl cl
              have HX : Hid _ := hX
              clear hX
              generalize kk hs c = kc at *
              generalize cc hs c = cc' at *
              clear HC
              go_wp2
              go_quiet (fail)
              go_wp2
              go_region
              go_wp2
              go_ret
              exact ⟨_, rfl, HQ, HX.out.box, HX.out.ents, HX.out.keeps.drewN _⟩
            · have HQ : Hid (Sink es n (kl, cl) (hs.set i (kk hs c, cc hs c)) c) := sink_step HS.out c HC.out.1 hc HC.out.2 (by show _ < kl; omega)
              have hX := HP.out.set hne hbb' (by rw [HS.out.len]; exact hin) (kk hs c) (cc hs c)
              have HX : Hid _ := hX
              clear hX
              have hci : i < c := by have := HC.out.1; omega
              generalize kk hs c = kc at *
              generalize cc hs c = cc' at *
              clear HC
              go_wp2
              go_quiet (fail)
              go_wp2
              go_region
              go_wp2
              go_roundg (n - c)
              case measure => omega
              case rel => exact ⟨c, rfl, hc, rfl, _, HX.out.drewN _, HQ⟩
    · go_wp2
      go_region
      go_wp2
      go_ret
      have hX := HP.out.set hne hbb' (by rw [HS.out.len]; exact hin) kl cl
      have hQ := sink_end HS.out (fun d h1 h2 => by omega)
      exact ⟨_, rfl, hQ, hX.box, hX.ents, hX.keeps.drewN 1⟩

end Go.Proofs.Qxb6601127a
