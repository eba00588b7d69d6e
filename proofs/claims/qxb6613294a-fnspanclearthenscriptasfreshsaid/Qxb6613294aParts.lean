/- WHAT A SPAN IS IN MEMORY, and what each step does to it: no walk here. -/
import Derived.Test.Qxb6613294aRows
import Derived.Test.Qxb6613294aPlain
import Derived.WalkKit
import Derived.Deep.QuietTactic
import Derived.BigQuiet
namespace Go.Proofs.Qxb6613294a
open Go.RowKit

/-- the parts as cells -/
def flat : List (Int × Int) → List Value
  | [] => []
  | p :: r => .int .i64 p.1 :: .int .i64 p.2 :: flat r

theorem flat_len : ∀ ps : List (Int × Int), (flat ps).length = ps.length * 2
  | [] => rfl
  | p :: r => by simp [flat, flat_len r]; omega

theorem flat_app : ∀ (ps qs : List (Int × Int)), flat (ps ++ qs) = flat ps ++ flat qs
  | [], _ => rfl
  | p :: r, qs => by simp [flat, flat_app r qs]

theorem flat_fst : ∀ (ps : List (Int × Int)) (k : Nat), k < ps.length → (flat ps)[k * 2]? = some (.int .i64 (ps.getD k (0, 0)).1)
  | [], k, h => by simp at h
  | p :: r, 0, _ => by simp [flat]
  | p :: r, k + 1, h => by
    have := flat_fst r k (by simpa using h)
    rw [show (k + 1) * 2 = k * 2 + 1 + 1 by omega]
    simpa [flat] using this

theorem flat_snd : ∀ (ps : List (Int × Int)) (k : Nat), k < ps.length → (flat ps)[k * 2 + 1]? = some (.int .i64 (ps.getD k (0, 0)).2)
  | [], k, h => by simp at h
  | p :: r, 0, _ => by simp [flat]
  | p :: r, k + 1, h => by
    have := flat_snd r k (by simpa using h)
    rw [show (k + 1) * 2 + 1 = k * 2 + 1 + 1 + 1 by omega]
    simpa [flat] using this

theorem flat_set : ∀ (ps : List (Int × Int)) (k : Nat) (x y : Int), k < ps.length → (ps.getD k (0, 0)).2 = y → flat (ps.set k (x, y)) = (flat ps).set (k * 2) (.int .i64 x)
  | [], k, _, _, h, _ => by simp at h
  | p :: r, 0, x, y, _, hy => by simp at hy; simp [flat, hy]
  | p :: r, k + 1, x, y, h, hy => by
    have := flat_set r k x y (by simpa using h) (by simpa using hy)
    rw [show (k + 1) * 2 = k * 2 + 1 + 1 by omega]
    simp [flat, this]

/-- a span at block S: its two numbers, its parts -/
structure SpanAt (w : World) (S : Nat) (a b : Int) (v : Value) (ps : List (Int × Int)) : Prop where
  blk : w.heap[S]? = some (.cells #[.int .i64 a, .int .i64 b, v] 37 (0, 0))
  own : w.ownsRow (S + 1) 40 2 v ps.length (flat ps)

/-- what a step on the span leaves of the rest -/
structure Kp (S : Nat) (w w' : World) : Prop where
  below : Below S w w'
  keep : ∀ (k : Nat) (c : Array Value) (T : TypeId) (r : Nat × Nat), w.heap[k]? = some (Obj.cells c T r) → T ≠ 37 → T ≠ 40 → w'.heap[k]? = some (Obj.cells c T r)

theorem Kp.refl (S : Nat) (w : World) : Kp S w w := ⟨Below.refl _ _, fun _ _ _ _ h _ _ => h⟩
theorem Kp.trans {S : Nat} {a b c : World} (h : Kp S a b) (k : Kp S b c) : Kp S a c :=
  ⟨h.below.trans k.below, fun i x T r hh h1 h2 => k.keep i x T r (h.keep i x T r hh h1 h2) h1 h2⟩
theorem Kp.drewN {S n : Nat} {a b : World} (h : Kp S a b) : Kp S a (b.drewN n) := by
  refine ⟨⟨h.below.os, h.below.tape, h.below.output, h.below.size, h.below.block⟩, h.keep⟩
theorem SpanAt.drewN {w : World} {S n : Nat} {a b : Int} {v : Value} {ps : List (Int × Int)} (h : SpanAt w S a b v ps) : SpanAt (w.drewN n) S a b v ps := ⟨h.blk, h.own⟩

theorem cell3 {w : World} {S : Nat} {x0 x1 x2 : Value} (h : w.heap[S]? = some (.cells #[x0, x1, x2] 37 (0, 0))) :
    w.cell? ⟨S, 0, none⟩ = some x0 ∧ w.cell? ⟨S, 1, none⟩ = some x1 ∧ w.cell? ⟨S, 2, none⟩ = some x2 := by
  refine ⟨?_, ?_, ?_⟩ <;> rw [cell_of_row w S _ _ 37 (0, 0) h] <;> rfl

theorem froz3 {w : World} {S : Nat} {x0 x1 x2 : Value} (h : w.heap[S]? = some (.cells #[x0, x1, x2] 37 (0, 0))) (j : Nat) : w.frozen? ⟨S, j, none⟩ = false :=
  frozen_of_row w S j _ 37 h

theorem SpanAt.lt {w : World} {S : Nat} {a b : Int} {v : Value} {ps : List (Int × Int)} (h : SpanAt w S a b v ps) : S < w.heap.size :=
  (Array.getElem?_eq_some_iff.1 h.blk).1

/-- the parts' value is nil, or leads to a row -/
theorem SpanAt.form {w : World} {S : Nat} {a b : Int} {v : Value} {ps : List (Int × Int)} (h : SpanAt w S a b v ps) :
    (v = .slice none 0 0 ∧ ps = []) ∨ ∃ g cap, v = .slice (some ⟨g, 0, none⟩) ps.length cap ∧ S + 1 ≤ g ∧ ps.length ≤ cap ∧ cap ≤ maxLen := by
  rcases h.own.2 with ⟨h1, h2⟩ | ⟨g, cap, cur, h1, h2, _, h3, h4, _⟩
  · exact .inl ⟨h1, List.eq_nil_of_length_eq_zero h2⟩
  · exact .inr ⟨g, cap, h1, h2, h3, h4⟩

theorem SpanAt.cells {w : World} {S g cap : Nat} {a b : Int} {ps : List (Int × Int)} (h : SpanAt w S a b (.slice (some ⟨g, 0, none⟩) ps.length cap) ps) (k : Nat) (hk : k < ps.length) :
    w.cell? ⟨g, k * 2, none⟩ = some (.int .i64 (ps.getD k (0, 0)).1) ∧ w.cell? ⟨g, k * 2 + 1, none⟩ = some (.int .i64 (ps.getD k (0, 0)).2) := by
  rw [h.own.cellAt (k * 2) (by omega), h.own.cellAt (k * 2 + 1) (by omega)]
  exact ⟨flat_fst ps k hk, flat_snd ps k hk⟩

theorem SpanAt.rowType {w : World} {S g n cap : Nat} {a b : Int} {ps : List (Int × Int)} (h : SpanAt w S a b (.slice (some ⟨g, 0, none⟩) n cap) ps) : ∃ cur, w.heap[g]? = some (.cells cur 40 (0, 0)) := by
  rcases h.own.2 with ⟨h1, _⟩ | ⟨g', cap', cur, h1, _, h2, _⟩
  · simp at h1
  · simp only [Value.slice.injEq, Option.some.injEq, Addr.mk.injEq, and_true] at h1
    obtain ⟨rfl, _⟩ := h1
    exact ⟨cur, h2⟩

/-- THE STEP 'the part is there: its j grows' -/
theorem SpanAt.hit {w : World} {S g cap : Nat} {a b : Int} {ps : List (Int × Int)} (h : SpanAt w S a b (.slice (some ⟨g, 0, none⟩) ps.length cap) ps) (k : Nat) (hk : k < ps.length) (x : Int) (hg : S + 1 ≤ g) :
    SpanAt (w.setCell ⟨g, k * 2, none⟩ (.int .i64 x)) S a b (.slice (some ⟨g, 0, none⟩) ps.length cap) (ps.set k (x, (ps.getD k (0, 0)).2)) ∧ Kp S w (w.setCell ⟨g, k * 2, none⟩ (.int .i64 x)) := by
  obtain ⟨cur, hcur⟩ := h.rowType
  obtain ⟨s1, s2⟩ := h.own.stored (k * 2) (.int .i64 x)
  refine ⟨⟨?_, ?_⟩, ?_, ?_⟩
  · rw [Below.heap_setCell _ _ _ _ (by show S ≠ g; omega)]; exact h.blk
  · rw [List.length_set, flat_set ps k x _ hk rfl]; exact s1
  · exact (Below.refl _ _).setCell (by show S ≤ g; omega) _
  · intro i c T r hi h1 h2
    rw [Below.heap_setCell _ _ _ _ (by
      show i ≠ g
      intro e
      rw [e, hcur] at hi
      simp at hi
      exact h2 hi.2.1.symm)]
    exact hi

/-- THE STEP 'a new part at the end' -/
theorem SpanAt.grow {w w1 : World} {S : Nat} {a b j m : Int} {v v' : Value} {o : Obj} {ps : List (Int × Int)} (h : SpanAt w S a b v ps)
    (hown : w1.ownsRow (S + 1) 40 2 v' (ps.length + 1) (flat ps ++ [.int .i64 j, .int .i64 m])) (hg : (w.alloc o).grownBy w1 v.ownBlock) :
    SpanAt (w1.setCell ⟨S, 2, none⟩ v') S a b v' (ps ++ [(j, m)]) ∧ Kp S w (w1.setCell ⟨S, 2, none⟩ v') := by
  have hlt := h.lt
  have hvb : ∀ k, v.ownBlock = some k → S + 1 ≤ k ∧ ∃ cur, w.heap[k]? = some (.cells cur 40 (0, 0)) := by
    intro k hk
    rcases h.own.2 with ⟨h1, _⟩ | ⟨g', cap', cur, h1, h3, h2, _⟩
    · subst h1; simp [Value.ownBlock] at hk
    · subst h1
      simp [Value.ownBlock] at hk
      subst hk
      exact ⟨h3, cur, h2⟩
  have hS : w1.heap[S]? = some (.cells #[.int .i64 a, .int .i64 b, v] 37 (0, 0)) := by
    rw [hg.block S (by simp; omega) (by intro e; have := (hvb S e.symm).1; omega), Below.heap_alloc _ _ _ hlt]
    exact h.blk
  refine ⟨⟨?_, ?_⟩, ?_, ?_⟩
  · rw [heap_setCell_same w1 S 2 _ 37 v' hS]; rfl
  · rw [flat_app, List.length_append]
    exact ownsRow_setCell_below hown (by show S < S + 1; omega) _
  · exact (((Below.refl _ _).alloc (Nat.le_of_lt hlt) _).grown hg (by simp; omega) (fun k e => by have := (hvb k e).1; omega)).setCell (Nat.le_refl _) _
  · intro i c T r hi h1 h2
    have hil : i < w.heap.size := (Array.getElem?_eq_some_iff.1 hi).1
    have hiS : i ≠ S := by
      intro e
      rw [e, h.blk] at hi
      simp at hi
      exact h1 hi.2.1.symm
    rw [Below.heap_setCell _ _ _ _ hiS, hg.block i (by simp; omega) (by
      intro e
      obtain ⟨cur, hc⟩ := (hvb i e.symm).2
      rw [hc] at hi
      simp at hi
      exact h2 hi.2.1.symm), Below.heap_alloc _ _ _ hil]
    exact hi

/-- a fresh span -/
theorem SpanAt.fresh (w : World) (a b : Int) : SpanAt (w.alloc (.cells #[.int .i64 a, .int .i64 b, .slice none 0 0] 37)) w.heap.size a b (.slice none 0 0) [] :=
  ⟨heap_alloc_new w _, World.ownsRow_nil _ _ _ _⟩

end Go.Proofs.Qxb6613294a
