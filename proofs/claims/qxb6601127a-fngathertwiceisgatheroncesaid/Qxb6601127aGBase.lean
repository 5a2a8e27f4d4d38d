import Derived.Test.Qxb6601127aHeapBase
import Derived.Deep.CutRange
import Derived.Deep.RegionWith
import Derived.Deep.RegionLaw
import Derived.Maps.AppendAt
namespace Go.Proofs.Qxb6601127a
open Go.RowKit
set_option linter.unusedVariables false
set_option linter.unusedSimpArgs false

theorem hidG {p : Prop} (h : p) : Hid p := h

theorem Try.info70 : (Try.prog.info? 70).map (fun i => (i.zero, i.size, i.bytes)) = some (some (.agg #[.int .i32 0, .int .i32 0, .int .u32 0]), 3, 12) := by kernel_rfl
theorem Try.info68 : (Try.prog.info? 68).map (fun i => (i.zero, i.size, i.bytes)) = some (some (.slice none 0 0), 1, 24) := by kernel_rfl

/-- the cells of edges -/
def ev (es : List (Int × Int × Int)) : List Value := es.flatMap fun e => [.int .i32 e.1, .int .i32 e.2.1, .int .u32 e.2.2]

def eF (es : List (Int × Int × Int)) (i : Nat) : Int := (es[i]?.getD (0, 0, 0)).1
def eT (es : List (Int × Int × Int)) (i : Nat) : Int := (es[i]?.getD (0, 0, 0)).2.1
def eK (es : List (Int × Int × Int)) (i : Nat) : Int := (es[i]?.getD (0, 0, 0)).2.2

theorem ev_length (es : List (Int × Int × Int)) : (ev es).length = es.length * 3 := by
  induction es with
  | nil => rfl
  | cons e es ih => simp [ev] at *; omega

theorem ev_append (es fs : List (Int × Int × Int)) : ev (es ++ fs) = ev es ++ ev fs := by simp [ev]

theorem ev_get (es : List (Int × Int × Int)) (r : List Value) (i : Nat) (h : i < es.length) :
    (ev es ++ r)[i * 3]? = some (.int .i32 (eF es i)) ∧ (ev es ++ r)[i * 3 + 1]? = some (.int .i32 (eT es i)) ∧ (ev es ++ r)[i * 3 + 2]? = some (.int .u32 (eK es i)) := by
  induction es generalizing i with
  | nil => simp at h
  | cons e es ih =>
    cases i with
    | zero => simp [ev, eF, eT, eK]
    | succ i =>
      have := ih i (by simpa using h)
      rw [show (i + 1) * 3 = i * 3 + 1 + 1 + 1 by omega]
      simp only [ev, List.flatMap_cons, List.cons_append, List.nil_append, List.getElem?_cons_succ, eF, eT, eK] at *
      exact this

theorem ev_set (es : List (Int × Int × Int)) (r : List Value) (i : Nat) (e : Int × Int × Int) (h : i < es.length) :
    (((ev es ++ r).set (i * 3) (.int .i32 e.1)).set (i * 3 + 1) (.int .i32 e.2.1)).set (i * 3 + 2) (.int .u32 e.2.2) = ev (es.set i e) ++ r := by
  induction es generalizing i with
  | nil => simp at h
  | cons d es ih =>
    cases i with
    | zero => simp [ev]
    | succ i =>
      have := ih i (by simpa using h)
      rw [show (i + 1) * 3 = i * 3 + 1 + 1 + 1 by omega]
      simp only [ev, List.flatMap_cons, List.cons_append, List.nil_append, List.set_cons_succ] at *
      rw [this]

/-- block b has room for cap edges; the first of them are es; behind them lie edges too -/
def PartAt (w : World) (b cap : Nat) (es : List (Int × Int × Int)) : Prop := ∃ rs : List (Int × Int × Int), Blk w b (ev (es ++ rs)) 70 ∧ es.length + rs.length = cap

theorem PartAt.lt {w : World} {b cap : Nat} {es : List (Int × Int × Int)} (h : PartAt w b cap es) : b < w.heap.size := by
  obtain ⟨r, h, _⟩ := h; exact h.lt
theorem PartAt.le {w : World} {b cap : Nat} {es : List (Int × Int × Int)} (h : PartAt w b cap es) : es.length ≤ cap := by
  obtain ⟨r, _, h⟩ := h; omega
theorem PartAt.get {w : World} {b cap : Nat} {es : List (Int × Int × Int)} (h : PartAt w b cap es) {i : Nat} (hi : i < es.length) :
    w.cell? ⟨b, i * 3, none⟩ = some (.int .i32 (eF es i)) ∧ w.cell? ⟨b, i * 3 + 1, none⟩ = some (.int .i32 (eT es i)) ∧ w.cell? ⟨b, i * 3 + 2, none⟩ = some (.int .u32 (eK es i)) := by
  obtain ⟨r, h, _⟩ := h
  have := ev_get es (ev r) i hi
  rw [h.cell, h.cell, h.cell, ev_append]
  exact this
theorem PartAt.frozen {w : World} {b cap : Nat} {es : List (Int × Int × Int)} (h : PartAt w b cap es) (i : Nat) : w.frozen? ⟨b, i, none⟩ = false := by
  obtain ⟨r, h, _⟩ := h; exact h.frozen i
theorem PartAt.cut {w : World} {b cap : Nat} {es : List (Int × Int × Int)} (h : PartAt w b cap es) (n : Nat) : PartAt w b cap (es.take n) := by
  obtain ⟨r, h, hl⟩ := h
  refine ⟨es.drop n ++ r, ?_, ?_⟩
  · rw [← List.append_assoc, List.take_append_drop]; exact h
  · rw [List.length_append, List.length_take, List.length_drop]; omega
/-- a longer slice of the same room -/
theorem PartAt.grow {w : World} {b cap : Nat} {es : List (Int × Int × Int)} (h : PartAt w b cap es) {n : Nat} (hn : es.length + n ≤ cap) : ∃ fs : List (Int × Int × Int), fs.length = es.length + n ∧ PartAt w b cap fs := by
  obtain ⟨r, h, hl⟩ := h
  refine ⟨es ++ r.take n, by rw [List.length_append, List.length_take]; omega, r.drop n, ?_, ?_⟩
  · rw [List.append_assoc, List.take_append_drop]; exact h
  · rw [List.length_append, List.length_take, List.length_drop]; omega
theorem PartAt.of_block {w w' : World} {b cap : Nat} {es : List (Int × Int × Int)} (h : PartAt w b cap es) (hb : w'.heap[b]? = w.heap[b]?) : PartAt w' b cap es := by
  obtain ⟨r, h, hl⟩ := h
  refine ⟨r, ?_, hl⟩
  unfold Blk; rw [hb]; exact h
theorem Blk.of_block {w w' : World} {b : Nat} {vs : List Value} {e : TypeId} (h : Blk w b vs e) (hb : w'.heap[b]? = w.heap[b]?) : Blk w' b vs e := by
  unfold Blk; rw [hb]; exact h

/-- three cells, one edge, at place i of what is there -/
def set3 (w : World) (b i : Nat) (e : Int × Int × Int) : World := ((w.setCell ⟨b, i * 3, none⟩ (.int .i32 e.1)).setCell ⟨b, i * 3 + 1, none⟩ (.int .i32 e.2.1)).setCell ⟨b, i * 3 + 2, none⟩ (.int .u32 e.2.2)

theorem set3_other (w : World) (b i : Nat) (e : Int × Int × Int) (k : Nat) (h : k ≠ b) : (set3 w b i e).heap[k]? = w.heap[k]? := by
  unfold set3
  rw [Below.heap_setCell _ _ _ _ h, Below.heap_setCell _ _ _ _ h, Below.heap_setCell _ _ _ _ h]

theorem PartAt.set {w : World} {b cap : Nat} {es : List (Int × Int × Int)} (h : PartAt w b cap es) {i : Nat} (hi : i < es.length) (e : Int × Int × Int) : PartAt (set3 w b i e) b cap (es.set i e) := by
  obtain ⟨r, h, hl⟩ := h
  refine ⟨r, ?_, by rw [List.length_set]; exact hl⟩
  rw [ev_append, ← ev_set _ _ _ _ hi, ← ev_append]
  exact ((h.set _ _).set _ _).set _ _

/-- append onto a row of the call's own, as one step of a region that draws; where the new slice lies -/
theorem step_append_own_at {P : Program} {ops : Array Oper} {o : Oper} {a : Act} {w : World} {K : Act → World → Prop} {Q : Exit → Act → World → Prop} {E : Prop} (hgd : o.guard = none) (s x : Operand) (t : TypeId)
    (ho : o.op = .call { callee := .builtin .append, args := #[s, x], argTypes := #[t, t] })
    (base : Nat) (e : TypeId) (i : TypeInfo) (z : Value) (size bytes : Nat) (ht : P.underlying t = some (.slice e)) (hi : P.info? e = some i) (hz : i.zero = some z)
    (hsize : i.size = size) (hby : i.bytes = bytes) (hzs : z.cells.size = size) (hsz : 0 < size)
    (v : Value) (n : Nat) (xs : List Value) (hs : a.eval s = v) (hown : w.ownsRow base e size v n xs)
    (ad : Addr) (m c : Nat) (news : List Value) (hx : a.eval x = .slice (some ad) m c) (hl : news.length = m * size) (hnews : ∀ j u, news[j]? = some u → w.cell? (ad.add j) = some u) (h1 : ∀ u ∈ news, u.oneCell' = true)
    (h63 : n + m ≤ maxLen) (hbytes : (n + m) * bytes ≤ 140737488355328) (hbase : base ≤ w.heap.size)
    (h : ∀ v' w', w'.ownsRow base e size v' (n + m) (xs ++ news) → w.grownBy w' v.ownBlock → (v'.ownBlock = v.ownBlock ∨ v'.ownBlock = some w.heap.size) → K (a.put o.dst v') w') :
    if Region.wanted o (yielded ops a.tmps) = true then Oper.wp P o a w K Q else E := by
  have hw : Region.wanted o (yielded ops a.tmps) = true := by simp [Region.wanted, hgd]
  rw [if_pos hw]
  obtain ⟨v', w', hr, h2, h3, _, h5⟩ := run_append_own_at (P := P) w base t o.type e i z size bytes ht hi hz hsize hby hzs hsz v n xs hown ad m c news hl hnews h1 h63 hbytes hbase
  unfold Oper.wp execOp
  simp only [ho, resolve, invoke, builtin, Sem.run_bind, Sem.run_pure, Result.andThen_ok, List.map_toArray, List.map_cons, List.map_nil, hs, hx, hr]
  exact h v' w' h2 h3 h5

end Go.Proofs.Qxb6601127a
