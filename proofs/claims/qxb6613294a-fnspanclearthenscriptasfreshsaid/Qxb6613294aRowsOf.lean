/- rows of int64 that the law makes beside the span -/
import Derived.Test.Qxb6613294aClear
namespace Go.Proofs.Qxb6613294a
open Go.RowKit
set_option linter.unusedVariables false

theorem SpanAt.drew {w : World} {S : Nat} {a b : Int} {v : Value} {ps : List (Int × Int)} (h : SpanAt w S a b v ps) : SpanAt w.drew S a b v ps := ⟨h.blk, h.own⟩

/-- a slice of int64 that came in, as the walks read it -/
def Ints (w : World) (ao : Option Addr) (len : Nat) (zs : List Int) : Prop :=
  0 < len → ∃ b off, ao = some ⟨b, off, none⟩ ∧ b < w.heap.size ∧ ∀ i, i < len → w.cell? ⟨b, off + i, none⟩ = some (.int .i64 (zs.getD i 0))

/-- block J is a row of m int64, f i at place i -/
def Row (w : World) (J m : Nat) (f : Nat → Int) : Prop :=
  ∃ c : Array Value, w.heap[J]? = some (Obj.cells c 2 (0, 0)) ∧ c.size = m ∧ ∀ i, i < m → c[i]? = some (.int .i64 (f i))

theorem Row.cell {w : World} {J m : Nat} {f : Nat → Int} (h : Row w J m f) (i : Nat) (hi : i < m) : w.cell? ⟨J, i, none⟩ = some (.int .i64 (f i)) := by
  obtain ⟨c, h1, h2, h3⟩ := h
  rw [cell_of_row w J i c 2 (0, 0) h1]; exact h3 i hi
theorem Row.frozen {w : World} {J m : Nat} {f : Nat → Int} (h : Row w J m f) (i : Nat) : w.frozen? ⟨J, i, none⟩ = false := by
  obtain ⟨c, h1, h2, h3⟩ := h
  exact frozen_of_row w J i c 2 h1
theorem Row.lt {w : World} {J m : Nat} {f : Nat → Int} (h : Row w J m f) : J < w.heap.size := by
  obtain ⟨c, h1, _⟩ := h
  exact (Array.getElem?_eq_some_iff.1 h1).1
theorem Row.set {w : World} {J m : Nat} {f : Nat → Int} (h : Row w J m f) (k : Nat) (x : Int) : Row (w.setCell ⟨J, k, none⟩ (.int .i64 x)) J m (fun i => if i = k then x else f i) := by
  obtain ⟨c, h1, h2, h3⟩ := h
  refine ⟨c.setIfInBounds k (.int .i64 x), heap_setCell_same w J k c 2 _ h1, by simpa using h2, fun i hi => ?_⟩
  by_cases e : i = k
  · subst e
    have : i < c.size := by omega
    simp [this]
  · rw [Array.getElem?_setIfInBounds, if_neg (fun h => e h.symm)]
    show _ = some (Value.int .i64 (if i = k then x else f i))
    rw [if_neg e]; exact h3 i hi
theorem Row.other {w : World} {J m : Nat} {f : Nat → Int} (h : Row w J m f) (p : Addr) (u : Value) (hp : J ≠ p.block) : Row (w.setCell p u) J m f := by
  obtain ⟨c, h1, h2⟩ := h
  exact ⟨c, by rw [Below.heap_setCell _ _ _ _ hp]; exact h1, h2⟩
theorem Row.kp {S : Nat} {w w' : World} {J m : Nat} {f : Nat → Int} (h : Row w J m f) (k : Kp S w w') : Row w' J m f := by
  obtain ⟨c, h1, h2⟩ := h
  exact ⟨c, k.keep J c 2 (0, 0) h1 (by decide) (by decide), h2⟩
theorem Row.grown {w w' : World} {J m : Nat} {f : Nat → Int} (h : Row w J m f) (g : w.grownBy w' none) : Row w' J m f := by
  have := h.lt
  obtain ⟨c, h1, h2⟩ := h
  exact ⟨c, by rw [g.block J this (by simp)]; exact h1, h2⟩
theorem Row.made {w' : World} {base J m : Nat} (h : w'.ownsRow base 2 1 (.slice (some ⟨J, 0, none⟩) m m) m (madeCells (Value.int .i64 0).cells (m * 1)).toList) : Row w' J m (fun _ => 0) := by
  rcases h.2 with ⟨h1, _⟩ | ⟨g', cap', cur, h1, h2, h3, h4, h5, h6, h7⟩
  · simp at h1
  · simp only [Value.slice.injEq, Option.some.injEq, Addr.mk.injEq, and_true, true_and] at h1
    obtain ⟨rfl, rfl⟩ := h1
    refine ⟨cur, h3, by omega, fun i hi => ?_⟩
    have e : (madeCells (Value.int .i64 0).cells (m * 1)).toList = List.replicate m (.int .i64 0) := by
      rw [Nat.mul_one]; exact toList_madeCells_one _ _
    rw [e, Nat.mul_one, List.take_of_length_le (by simp; omega)] at h7
    rw [← Array.getElem?_toList, h7]
    simp [hi]

theorem SpanAt.rowNe {w : World} {S : Nat} {a b : Int} {v : Value} {ps : List (Int × Int)} (h : SpanAt w S a b v ps) {J : Nat} {c : Array Value} {r : Nat × Nat} (hJ : w.heap[J]? = some (Obj.cells c 2 r)) : S ≠ J ∧ v.ownBlock ≠ some J := by
  constructor
  · intro e
    rw [← e, h.blk] at hJ
    simp at hJ
  · intro e
    rcases h.own.2 with ⟨h1, _⟩ | ⟨g', cap', cur, h1, h3, h2, _⟩
    · subst h1; simp [Value.ownBlock] at e
    · subst h1
      simp [Value.ownBlock] at e
      rw [← e, h2] at hJ
      simp at hJ

theorem SpanAt.row {w : World} {S : Nat} {a b : Int} {v : Value} {ps : List (Int × Int)} (h : SpanAt w S a b v ps) {J m : Nat} {f : Nat → Int} (hr : Row w J m f) (k : Nat) (u : Value) : SpanAt (w.setCell ⟨J, k, none⟩ u) S a b v ps := by
  obtain ⟨c, h1, _⟩ := hr
  obtain ⟨n1, n2⟩ := h.rowNe h1
  refine ⟨by rw [Below.heap_setCell _ _ _ _ n1]; exact h.blk, ?_⟩
  refine h.own.kept (row := some J) ⟨rfl, rfl, rfl, by simp, fun i _ hi => Below.heap_setCell _ _ _ _ (fun e => hi (by rw [e]))⟩ (.inr n2)

theorem SpanAt.grown {w w' : World} {S : Nat} {a b : Int} {v : Value} {ps : List (Int × Int)} (h : SpanAt w S a b v ps) (g : w.grownBy w' none) : SpanAt w' S a b v ps := by
  refine ⟨by rw [g.block S h.lt (by simp)]; exact h.blk, h.own.kept g ?_⟩
  cases v.ownBlock <;> simp

/-- the span, and the two rows beside it -/
structure St (w : World) (S J N m : Nat) (a b : Int) (v : Value) (ps : List (Int × Int)) (f f' : Nat → Int) (wr : World) : Prop where
  sp : SpanAt wr S a b v ps
  rj : Row wr J m f
  rn : Row wr N m f'
  bel : Below S w wr
  jn : J ≠ N
  sj : S ≤ J
  sn : S ≤ N

theorem St.drew {w wr : World} {S J N m : Nat} {a b : Int} {v : Value} {ps : List (Int × Int)} {f f' : Nat → Int} (h : St w S J N m a b v ps f f' wr) : St w S J N m a b v ps f f' wr.drew :=
  ⟨h.sp.drew, h.rj, h.rn, h.bel.drew, h.jn, h.sj, h.sn⟩
theorem St.drewN {w wr : World} {S J N m q : Nat} {a b : Int} {v : Value} {ps : List (Int × Int)} {f f' : Nat → Int} (h : St w S J N m a b v ps f f' wr) : St w S J N m a b v ps f f' (wr.drewN q) :=
  ⟨h.sp.drewN, h.rj, h.rn, ⟨h.bel.os, h.bel.tape, h.bel.output, h.bel.size, h.bel.block⟩, h.jn, h.sj, h.sn⟩
theorem St.setJN {w wr : World} {S J N m : Nat} {a b : Int} {v : Value} {ps : List (Int × Int)} {f f' : Nat → Int} (h : St w S J N m a b v ps f f' wr) (k : Nat) (x y : Int) :
    St w S J N m a b v ps (fun i => if i = k then x else f i) (fun i => if i = k then y else f' i) ((wr.setCell ⟨J, k, none⟩ (.int .i64 x)).setCell ⟨N, k, none⟩ (.int .i64 y)) := by
  have s1 := h.sp.row h.rj k (.int .i64 x)
  have r1 := h.rn.other ⟨J, k, none⟩ (.int .i64 x) (fun e => h.jn e.symm)
  exact ⟨s1.row r1 k _, (h.rj.set k x).other _ _ h.jn, r1.set k y, (h.bel.setCell h.sj _).setCell h.sn _, h.jn, h.sj, h.sn⟩
theorem St.has {w wr w2 : World} {S J N m : Nat} {a b a' b' : Int} {v : Value} {ps ps' : List (Int × Int)} {f f' : Nat → Int} (h : St w S J N m a b v ps f f' wr) (k : Has S a' b' ps' wr w2) :
    ∃ v', St w S J N m a' b' v' ps' f f' w2 := by
  obtain ⟨v', k1, k2⟩ := k
  exact ⟨v', k1, h.rj.kp k2, h.rn.kp k2, h.bel.trans k2.below, h.jn, h.sj, h.sn⟩

/-- what the rows hold behind k rounds of the copy -/
def cpJ (ps : List (Int × Int)) (k i : Nat) : Int := if i < k then (ps.getD i (0, 0)).1 else 0
def cpN (ps : List (Int × Int)) (k i : Nat) : Int := if i < k then (ps.getD i (0, 0)).2 else 0
theorem cpJ_succ (ps : List (Int × Int)) (k : Nat) : cpJ ps (k + 1) = fun i => if i = k then (ps.getD k (0, 0)).1 else cpJ ps k i := by
  funext i; unfold cpJ
  by_cases e : i = k
  · subst e; rw [if_pos (by omega), if_pos rfl]
  · rw [if_neg e]
    by_cases l : i < k
    · rw [if_pos l, if_pos (by omega)]
    · rw [if_neg l, if_neg (by omega)]
theorem cpN_succ (ps : List (Int × Int)) (k : Nat) : cpN ps (k + 1) = fun i => if i = k then (ps.getD k (0, 0)).2 else cpN ps k i := by
  funext i; unfold cpN
  by_cases e : i = k
  · subst e; rw [if_pos (by omega), if_pos rfl]
  · rw [if_neg e]
    by_cases l : i < k
    · rw [if_pos l, if_pos (by omega)]
    · rw [if_neg l, if_neg (by omega)]
theorem cpJ_zero (ps : List (Int × Int)) : cpJ ps 0 = fun _ => 0 := by funext i; simp [cpJ]
theorem cpN_zero (ps : List (Int × Int)) : cpN ps 0 = fun _ => 0 := by funext i; simp [cpN]
theorem cpJ_at (ps : List (Int × Int)) (k i : Nat) (h : i < k) : cpJ ps k i = (ps.getD i (0, 0)).1 := by unfold cpJ; rw [if_pos h]
theorem cpN_at (ps : List (Int × Int)) (k i : Nat) (h : i < k) : cpN ps k i = (ps.getD i (0, 0)).2 := by unfold cpN; rw [if_pos h]

/-- the parts' value shows its length -/
theorem SpanAt.shape {w : World} {S : Nat} {a b : Int} {v : Value} {ps : List (Int × Int)} (h : SpanAt w S a b v ps) : ∃ ao cap, v = .slice ao ps.length cap := by
  rcases h.form with ⟨rfl, rfl⟩ | ⟨g, cap, rfl, _⟩
  · exact ⟨none, 0, rfl⟩
  · exact ⟨_, _, rfl⟩

/-- part k, read: its two cells -/
theorem SpanAt.part {w : World} {S : Nat} {a b : Int} {v : Value} {ps : List (Int × Int)} (h : SpanAt w S a b v ps) (k : Nat) (hk : k < ps.length) :
    ∃ g cap, w.cell? ⟨S, 2, none⟩ = some (.slice (some ⟨g, 0, none⟩) ps.length cap) ∧ w.cell? ⟨g, k * 2, none⟩ = some (.int .i64 (ps.getD k (0, 0)).1) ∧ w.cell? ⟨g, k * 2 + 1, none⟩ = some (.int .i64 (ps.getD k (0, 0)).2) := by
  have c := (cell3 h.blk).2.2
  rcases h.form with ⟨rfl, rfl⟩ | ⟨g, cap, rfl, _⟩
  · simp at hk
  · exact ⟨g, cap, c, h.cells k hk⟩

end Go.Proofs.Qxb6613294a
