import Derived.Test.Qxb6601127aGBase
namespace Go.Proofs.Qxb6601127a
open Go.RowKit
set_option linter.unusedVariables false
set_option linter.unusedSimpArgs false

/-- the cells that make lays for n edges -/
def zs3 (n : Nat) : List Value := ev (List.replicate n (0, 0, 0))

theorem made3 (n : Nat) : madeCells (Value.agg #[.int .i32 0, .int .i32 0, .int .u32 0]).cells (n * 3) = (zs3 n).toArray := by
  apply Array.ext'
  rw [List.toList_toArray]
  apply List.ext_getElem?
  intro j
  unfold zs3
  by_cases hj : j < n * 3
  · have h0 : (ev (List.replicate n (0, 0, 0)))[j]? = if j % 3 = 0 then some (.int .i32 0) else if j % 3 = 1 then some (.int .i32 0) else some (.int .u32 0) := by
      have hg := ev_get (List.replicate n (0, 0, 0)) [] (j / 3) (by simp; omega)
      rw [List.append_nil] at hg
      have e0 : eF (List.replicate n (0, 0, 0)) (j / 3) = 0 := by unfold eF; rw [List.getElem?_replicate]; split <;> rfl
      have e1 : eT (List.replicate n (0, 0, 0)) (j / 3) = 0 := by unfold eT; rw [List.getElem?_replicate]; split <;> rfl
      have e2 : eK (List.replicate n (0, 0, 0)) (j / 3) = 0 := by unfold eK; rw [List.getElem?_replicate]; split <;> rfl
      rw [e0, e1, e2] at hg
      by_cases h2 : j % 3 = 0
      · rw [if_pos h2, ← hg.1]; congr 1; omega
      · rw [if_neg h2]
        by_cases h3 : j % 3 = 1
        · rw [if_pos h3, ← hg.2.1]; congr 1; omega
        · rw [if_neg h3, ← hg.2.2]; congr 1; omega
    rw [h0]
    simp [madeCells, hj, Value.cells]
    by_cases h2 : j % 3 = 0
    · simp [h2]
    · by_cases h3 : j % 3 = 1
      · simp [h3]
      · have : j % 3 = 2 := by omega
        simp [this]
  · rw [List.getElem?_eq_none (by simp [size_madeCells]; omega), List.getElem?_eq_none (by rw [ev_length]; simp; omega)]

/-- 'make([]edge, l, n)' -/
theorem make_edges (l n : Nat) (hl : l ≤ n) (hn : n ≤ 1048576) (w : World) : (Instr.makeSlice 68 (.int .i64 (l : Int)) (.int .i64 (n : Int))).run Try.prog w =
    .ok (.slice (some ⟨w.heap.size, 0, none⟩) l n) (w.alloc (.cells (zs3 n).toArray 70)) := by
  obtain ⟨i, hi, hzz⟩ := Option.map_eq_some_iff.1 Try.info70
  simp only [Prod.mk.injEq] at hzz
  obtain ⟨hz, hs, hb⟩ := hzz
  have hr := run_make (P := Try.prog) w 68 70 i _ Try.underlying68 hi hz .i64 .i64 l n (by omega) (by omega) (by rw [hb]; omega) (by omega)
  simp only [Int.toNat_natCast, hs] at hr
  rw [hr, made3]

theorem PartAt.made (w : World) (n : Nat) : PartAt (w.alloc (.cells (zs3 n).toArray 70)) w.heap.size n [] := by
  refine ⟨List.replicate n (0, 0, 0), ?_, by simp⟩
  have := Blk.new w (zs3 n).toArray 70
  simpa [zs3] using this

set_option maxHeartbeats 400000 in
theorem take_spare (pb ob k cap b l : Nat) (w : World) (hk : k ≤ 1048576) (hcap : k + 1 ≤ cap) (hcap' : cap ≤ 9223372036854775807) (HP : Hid (Blk w pb [.slice (some ⟨ob, 0, none⟩) (k + 1) cap] 85)) (hl : l ≤ 512)
    (hc : w.cell? ⟨ob, k, none⟩ = some (.slice (some ⟨b, 0, none⟩) l 512)) :
    Calls Try.prog 37 #[.pointer (some ⟨pb, 0, none⟩), .int .i64 512] w fun e w' => e = .returned (.slice (some ⟨b, 0, none⟩) 0 512) ∧ w.setCell ⟨pb, 0, none⟩ (.slice (some ⟨ob, 0, none⟩) k cap) = w' := by
  have c1 : w.cell? ⟨pb, 0, none⟩ = some (.slice (some ⟨ob, 0, none⟩) (k + 1) cap) := by rw [HP.out.cell]; rfl
  have f1 := HP.out.frozen 0
  have h1 : (k : Int) < (k : Int) + 1 := by omega
  have h2 : (0 : Int) < (k : Int) + 1 := by omega
  go_enter Try.func37, Try.ntmps37
  go_wp2
  go_ret
  exact ⟨rfl, rfl⟩

set_option maxRecDepth 100000 in
set_option maxHeartbeats 400000 in
theorem take_new (pb : Nat) (oa : Option Addr) (k cap n : Nat) (w : World) (hn : n ≤ 512) (HP : Hid (Blk w pb [.slice oa k cap] 85)) (hk : k ≤ 1048576) (hno : n < 512 ∨ k = 0) :
    Calls Try.prog 37 #[.pointer (some ⟨pb, 0, none⟩), .int .i64 (n : Int)] w fun e w' => e = .returned (.slice (some ⟨w.heap.size, 0, none⟩) 0 n) ∧ w.alloc (.cells (zs3 n).toArray 70) = w' := by
  have c1 : w.cell? ⟨pb, 0, none⟩ = some (.slice oa k cap) := by rw [HP.out.cell]; rfl
  have hmk : ∀ w, (Instr.makeSlice 68 (.int .i64 0) (.int .i64 (n : Int))).run Try.prog w = .ok (.slice (some ⟨w.heap.size, 0, none⟩) 0 n) (w.alloc (.cells (zs3 n).toArray 70)) := fun w => make_edges 0 n (Nat.zero_le _) (by omega) w
  by_cases h5 : n = 512
  · have h : k = 0 := by omega
    subst h h5
    have hmk : ∀ w, (Instr.makeSlice 68 (.int .i64 0) (.int .i64 512)).run Try.prog w = .ok (.slice (some ⟨w.heap.size, 0, none⟩) 0 512) (w.alloc (.cells (zs3 512).toArray 70)) := fun w => make_edges 0 512 (Nat.zero_le _) (by omega) w
    go_enter Try.func37, Try.ntmps37
    go_wp2
    go_ret
    exact ⟨rfl, rfl⟩
  · have hne : ((n : Int) == 512) = false := by simp; omega
    go_enter Try.func37, Try.ntmps37
    go_wp2
    go_ret
    exact ⟨rfl, rfl⟩

set_option maxHeartbeats 400000 in
theorem give_not (pb : Nat) (a : Option Addr) (l cap : Nat) (w : World) (hne : ((cap : Int) == 512) = false) :
    Calls Try.prog 38 #[.pointer (some ⟨pb, 0, none⟩), .slice a l cap] w fun e w' => e = .returned (.tuple #[]) ∧ w = w' := by
  go_enter Try.func38, Try.ntmps38
  go_wp2
  go_end0
  exact ⟨rfl, rfl⟩

/-- an outer row: the slice v holds xs, all its room in one block -/
def Row (w : World) (v : Value) (xs : List Value) : Prop := w.ownsRow 0 68 1 v xs.length xs

theorem Row.of_blocks {w w' : World} {v : Value} {xs : List Value} (h : Row w v xs) (hb : ∀ g, v.ownBlock = some g → w'.heap[g]? = w.heap[g]?) : Row w' v xs := by
  refine ⟨h.1, ?_⟩
  rcases h.2 with hn | ⟨g, cap, cur, rfl, hb', hgg, rest⟩
  · exact .inl hn
  · refine .inr ⟨g, cap, cur, rfl, hb', ?_, rest⟩
    rw [hb g rfl]; exact hgg

theorem Row.lt {w : World} {v : Value} {xs : List Value} (h : Row w v xs) {k : Nat} (hk : v.ownBlock = some k) : k < w.heap.size := (World.ownsRow.lt h k hk).2

theorem Row.nil (w : World) : Row w (.slice none 0 0) [] := World.ownsRow_nil w 0 68 1

theorem Keeps.of_grown {w w' : World} {row : Option Nat} (h : w.grownBy w' row) : Keeps row.toList w w' :=
  ⟨h.os, h.tape, h.output, h.size, fun k hk hn => h.block k hk (fun e => hn (by rw [← e]; simp))⟩

theorem Keeps.cell {S : List Nat} {w w' : World} (h : Keeps S w w') {a : Addr} {v : Value} (hc : w.cell? a = some v) (hn : a.block ∉ S) : w'.cell? a = some v :=
  (World.cell?_of_block (h.block a.block (World.block_lt_of_cell? w a hc) hn)).trans hc

theorem Row.keeps {S : List Nat} {w w' : World} {v : Value} {xs : List Value} (h : Row w v xs) (hk : Keeps S w w') (hn : ∀ g, v.ownBlock = some g → g ∉ S) : Row w' v xs :=
  h.of_blocks fun g hg => hk.block g (h.lt hg) (hn g hg)

theorem PartAt.keeps {S : List Nat} {w w' : World} {b cap : Nat} {es : List (Int × Int × Int)} (h : PartAt w b cap es) (hk : Keeps S w w') (hn : b ∉ S) : PartAt w' b cap es :=
  h.of_block (hk.block b h.lt hn)

/-- what give leaves where it keeps the part -/
def GivePost (w : World) (pb : Nat) (sv : Value) (xs : List Value) (b : Nat) (w' : World) : Prop :=
  ∃ sv', Blk w' pb [sv'] 85 ∧ Row w' sv' (xs ++ [.slice (some ⟨b, 0, none⟩) 0 512]) ∧ Keeps (pb :: sv.ownBlock.toList) w w' ∧ (sv'.ownBlock = sv.ownBlock ∨ ∃ g, sv'.ownBlock = some g ∧ w.heap.size ≤ g)

theorem Keeps.of_push {w w1 : World} {o : Obj} (h1 : w1.os = w.os) (h2 : w1.tape = w.tape) (h3 : w1.output = w.output) (h4 : w1.heap = w.heap.push o) (S : List Nat) : Keeps S w w1 :=
  ⟨h1, h2, h3, by rw [h4]; simp, fun k hk _ => by rw [h4, Array.getElem?_push, if_neg (by omega)]⟩

theorem GivePost.mk {w w1 w2 : World} {pb : Nat} {sv v2 : Value} {xs : List Value} {b : Nat} (hp : Blk w pb [sv] 85) (hne : sv.ownBlock ≠ some pb)
    (hk1 : Keeps (pb :: sv.ownBlock.toList) w w1) (hp1 : Blk w1 pb [sv] 85) (hown : w2.ownsRow 0 68 1 v2 (xs.length + 1) (xs ++ [.slice (some ⟨b, 0, none⟩) 0 512])) (hgrow : w1.grownBy w2 sv.ownBlock)
    (hat : v2.ownBlock = sv.ownBlock ∨ v2.ownBlock = some w1.heap.size) : GivePost w pb sv xs b (w2.setCell ⟨pb, 0, none⟩ v2) := by
  have hpl := hp1.lt
  have hk2 : Keeps (pb :: sv.ownBlock.toList) w1 w2 := (Keeps.of_grown hgrow).mono (fun k hk => List.mem_cons_of_mem _ hk)
  have hk := hk1.trans hk2
  have hB2 : Blk w2 pb [sv] 85 := (hp1.keeps (Keeps.of_grown hgrow) (by
    cases hs : sv.ownBlock with
    | none => simp
    | some g => simp; rintro rfl; exact hne hs))
  have hv2 : v2.ownBlock ≠ some pb := by
    intro h
    rcases hat with h' | h'
    · exact hne (h'.symm.trans h)
    · rw [h'] at h; simp at h; omega
  refine ⟨v2, by simpa using hB2.set 0 v2, ?_, hk.setCell (.inl (by simp)) _, ?_⟩
  · have hr : Row w2 v2 (xs ++ [.slice (some ⟨b, 0, none⟩) 0 512]) := by unfold Row; rw [List.length_append]; exact hown
    refine hr.of_blocks fun g hg => Below.heap_setCell _ _ _ _ ?_
    rintro rfl
    exact hv2 hg
  · rcases hat with h' | h'
    · exact .inl h'
    · exact .inr ⟨_, h', hk1.size⟩

theorem owns_slice {w : World} {v : Value} {n : Nat} {xs : List Value} (h : w.ownsRow 0 68 1 v n xs) : ∃ a l c, v = .slice a l c := by
  rcases h.2 with ⟨h, _⟩ | ⟨g, cap, cur, h, _⟩
  · exact ⟨_, _, _, h⟩
  · exact ⟨_, _, _, h⟩

theorem give_after {w w2 : World} {pb : Nat} {sv v2 : Value} {xs : List Value} {b : Nat} {o : Obj} (hp : Blk w pb [sv] 85) (hne : sv.ownBlock ≠ some pb)
    (hown : w2.ownsRow 0 68 1 v2 (xs.length + 1) (xs ++ [.slice (some ⟨b, 0, none⟩) 0 512])) (hgrow : (w.alloc o).drew.grownBy w2 sv.ownBlock)
    (hat : v2.ownBlock = sv.ownBlock ∨ v2.ownBlock = some (w.alloc o).drew.heap.size) : Hid (GivePost w pb sv xs b (w2.setCell ⟨pb, 0, none⟩ v2)) ∧ w2.cell? ⟨pb, 0, none⟩ = some sv ∧ w2.frozen? ⟨pb, 0, none⟩ = false := by
  have hb : Blk (w.alloc o).drew pb [sv] 85 := (hp.alloc o).drew
  have hk2 : Blk w2 pb [sv] 85 := hb.keeps (Keeps.of_grown hgrow) (by
    cases hs : sv.ownBlock with
    | none => simp
    | some g => simp; rintro rfl; exact hne hs)
  have hkk : Keeps (pb :: sv.ownBlock.toList) w (w.alloc o).drew := Keeps.of_push (w := w) (w1 := (w.alloc o).drew) (o := o) rfl rfl rfl rfl _
  refine ⟨GivePost.mk hp hne hkk hb hown hgrow hat, ?_, hk2.frozen 0⟩
  rw [hk2.cell]; rfl

set_option maxRecDepth 100000 in
set_option maxHeartbeats 1000000 in
theorem give_yes (pb b l : Nat) (sv : Value) (xs : List Value) (w : World) (hk : xs.length ≤ 1048576) (hl : l ≤ 512) (hne : sv.ownBlock ≠ some pb) (HP : Hid (Blk w pb [sv] 85)) (HO : Hid (Row w sv xs)) :
    Calls Try.prog 38 #[.pointer (some ⟨pb, 0, none⟩), .slice (some ⟨b, 0, none⟩) l 512] w fun e w' => e = .returned (.tuple #[]) ∧ GivePost w pb sv xs b w' := by
  obtain ⟨i0, hi0, hzz⟩ := Option.map_eq_some_iff.1 Try.info68
  simp only [Prod.mk.injEq] at hzz
  obtain ⟨hz0, hs0, hb0⟩ := hzz
  have c1 : w.cell? ⟨pb, 0, none⟩ = some sv := by rw [HP.out.cell]; rfl
  have f1 := HP.out.frozen 0
  have hpw : pb < w.heap.size := HP.out.lt
  go_enter Try.func38, Try.ntmps38
  go_wp2_with fail
  go_region_law (refine step_append_own_at rfl _ _ 85 rfl 0 68 i0 (.slice none 0 0) 1 24 Try.underlying85 hi0 hz0 hs0 hb0 rfl (by decide) sv xs.length xs rfl ?o1 ⟨w.heap.size, 0, none⟩ 1 1 [.slice (some ⟨b, 0, none⟩) 0 512] rfl rfl ?c2 ?c3 ?c4 ?c5 ?c6 ?_; (case o1 => exact (World.ownsRow.alloc HO.out _)); (case c2 => exact cell_one_new _ _ _); (case c3 => intro u hu; simp at hu; subst hu; rfl); (case c4 => unfold maxLen; omega); (case c5 => omega); (case c6 => simp); (intro v2 w2 hown hgrow hat; obtain ⟨HG, c2, f2⟩ := give_after HP.out hne hown hgrow hat; obtain ⟨a2, l2, k2, rfl⟩ := owns_slice hown; clear hown hgrow hat))
  all_goals
    go_wp2_with fail
    go_end0
    exact ⟨rfl, HG.out⟩

end Go.Proofs.Qxb6601127a
