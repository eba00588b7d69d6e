/- clear; the checkers. -/
import Derived.Test.Qxb6613294aCalls
namespace Go.Proofs.Qxb6613294a
open Go.RowKit
set_option linter.unusedVariables false

def clearedW (w : World) (S : Nat) (v0 : Value) : World :=
  (((w.setCell ⟨S, 0, none⟩ (.int .i64 0)).setCell ⟨S, 1, none⟩ (.int .i64 0)).setCell ⟨S, 2, none⟩ v0).drew

theorem clear_some (S g n cap : Nat) (a b : Int) (w : World) (hn : n ≤ cap) (hcap : cap ≤ maxLen)
    (c0 : w.cell? ⟨S, 0, none⟩ = some (.int .i64 a)) (c1 : w.cell? ⟨S, 1, none⟩ = some (.int .i64 b)) (c2 : w.cell? ⟨S, 2, none⟩ = some (.slice (some ⟨g, 0, none⟩) n cap))
    (f0 : w.frozen? ⟨S, 0, none⟩ = false) (f1 : w.frozen? ⟨S, 1, none⟩ = false) (f2 : w.frozen? ⟨S, 2, none⟩ = false) :
    Calls Try.prog 17 #[.pointer (some ⟨S, 0, none⟩)] w fun e w' => e = .returned (.tuple #[]) ∧ w' = clearedW w S (.slice (some ⟨g, 0, none⟩) 0 cap) := by
  unfold maxLen at hcap
  go_enter Try.func17, Try.ntmps17
  go_wp2
  go_region
  all_goals (go_wp2; go_end0)
  all_goals exact ⟨rfl, rfl⟩

theorem clear_nil (S : Nat) (a b : Int) (w : World)
    (c0 : w.cell? ⟨S, 0, none⟩ = some (.int .i64 a)) (c1 : w.cell? ⟨S, 1, none⟩ = some (.int .i64 b)) (c2 : w.cell? ⟨S, 2, none⟩ = some (.slice none 0 0))
    (f0 : w.frozen? ⟨S, 0, none⟩ = false) (f1 : w.frozen? ⟨S, 1, none⟩ = false) (f2 : w.frozen? ⟨S, 2, none⟩ = false) :
    Calls Try.prog 17 #[.pointer (some ⟨S, 0, none⟩)] w fun e w' => e = .returned (.tuple #[]) ∧ w' = clearedW w S (.slice none 0 0) := by
  go_enter Try.func17, Try.ntmps17
  go_wp2
  go_region
  all_goals (go_wp2; go_end0)
  all_goals exact ⟨rfl, rfl⟩

theorem cleared_has {w : World} {S : Nat} {a b : Int} {v v0 : Value} {ps : List (Int × Int)} (h : SpanAt w S a b v ps)
    (hv : (v = .slice none 0 0 ∧ v0 = .slice none 0 0) ∨ ∃ g cap, v = .slice (some ⟨g, 0, none⟩) ps.length cap ∧ v0 = .slice (some ⟨g, 0, none⟩) 0 cap) : Has S 0 0 [] w (clearedW w S v0) := by
  have hb : ∀ k, k ≠ S → (clearedW w S v0).heap[k]? = w.heap[k]? := by
    intro k hk
    show ((((w.setCell ⟨S, 0, none⟩ (.int .i64 0)).setCell ⟨S, 1, none⟩ (.int .i64 0)).setCell ⟨S, 2, none⟩ v0)).heap[k]? = _
    rw [Below.heap_setCell _ _ _ _ hk, Below.heap_setCell _ _ _ _ hk, Below.heap_setCell _ _ _ _ hk]
  have hS : (clearedW w S v0).heap[S]? = some (.cells #[.int .i64 0, .int .i64 0, v0] 37 (0, 0)) := by
    show ((((w.setCell ⟨S, 0, none⟩ (.int .i64 0)).setCell ⟨S, 1, none⟩ (.int .i64 0)).setCell ⟨S, 2, none⟩ v0)).heap[S]? = _
    have h1 := heap_setCell_same w S 0 _ 37 (.int .i64 0) h.blk
    have h2 := heap_setCell_same _ S 1 _ 37 (.int .i64 0) h1
    have h3 := heap_setCell_same _ S 2 _ 37 v0 h2
    rw [h3]; rfl
  refine ⟨v0, ⟨hS, ?_⟩, ?_, ?_⟩
  · rcases hv with ⟨_, rfl⟩ | ⟨g, cap, h1, rfl⟩
    · exact World.ownsRow_nil _ _ _ _
    · subst h1
      rcases h.own.2 with ⟨h1, _⟩ | ⟨g', cap', cur, h1, h2, h3, h4, h5, h6, _⟩
      · simp at h1
      · simp only [Value.slice.injEq, Option.some.injEq, Addr.mk.injEq, and_true, true_and] at h1
        obtain ⟨rfl, rfl⟩ := h1
        exact ⟨rfl, .inr ⟨g, cap, cur, rfl, h2, by rw [hb g (by omega)]; exact h3, Nat.zero_le _, h5, h6, by simp [flat]⟩⟩
  · have b1 : Below S w (w.setCell ⟨S, 0, none⟩ (.int .i64 0)) := (Below.refl S w).setCell (p := ⟨S, 0, none⟩) (Nat.le_refl S) _
    have b2 := b1.setCell (p := ⟨S, 1, none⟩) (Nat.le_refl S) (.int .i64 0)
    have b3 := b2.setCell (p := ⟨S, 2, none⟩) (Nat.le_refl S) v0
    exact b3.drew
  · intro i c T r hi h1 h2
    rw [hb i (by
      intro e
      rw [e, h.blk] at hi
      simp at hi
      exact h1 hi.2.1.symm)]
    exact hi

theorem clear_any (S : Nat) (a b : Int) (v : Value) (ps : List (Int × Int)) (w : World) (h : SpanAt w S a b v ps) :
    Calls Try.prog 17 #[.pointer (some ⟨S, 0, none⟩)] w fun e w' => e = .returned (.tuple #[]) ∧ Has S 0 0 [] w w' := by
  have c := cell3 h.blk
  have f := froz3 h.blk
  rcases h.form with ⟨rfl, rfl⟩ | ⟨g, cap, rfl, hg, hl, hc⟩
  · refine (clear_nil S a b w c.1 c.2.1 c.2.2 (f 0) (f 1) (f 2)).mono fun e w' ⟨h1, h2⟩ => ⟨h1, ?_⟩
    rw [h2]
    exact cleared_has h (.inl ⟨rfl, rfl⟩)
  · refine (clear_some S g ps.length cap a b w hl hc c.1 c.2.1 c.2.2 (f 0) (f 1) (f 2)).mono fun e w' ⟨h1, h2⟩ => ⟨h1, ?_⟩
    rw [h2]
    exact cleared_has h (.inr ⟨g, cap, rfl, rfl⟩)

theorem clear_calls (S : Nat) (a b : Int) (v : Value) (ps : List (Int × Int)) (w : World) (h : SpanAt w S a b v ps) :
    Calls Try.prog 8 #[.pointer (some ⟨S, 0, none⟩)] w fun e w' => e = .returned (.tuple #[]) ∧ Has S 0 0 [] w w' := by
  have H : Hid (SpanAt w S a b v ps) := h
  clear h
  go_enter Try.func8, Try.ntmps8
  go_wp2_with fail
  refine (clear_any S a b v ps w H.out).mono ?_
  rintro e w' ⟨rfl, hh⟩
  go_wp2
  go_end0
  exact ⟨rfl, hh⟩

set_option maxHeartbeats 800000 in
theorem sum_calls (b1 o1 c1 b2 o2 c2 n : Nat) (js ns : List Int) (m : Int) (w : World) (hn : n ≤ 4096)
    (h1 : ∀ i, i < n → w.cell? ⟨b1, o1 + i, none⟩ = some (.int .i64 (js.getD i 0)))
    (h2 : ∀ i, i < n → w.cell? ⟨b2, o2 + i, none⟩ = some (.int .i64 (ns.getD i 0))) :
    Calls Try.prog 14 #[.slice (some ⟨b1, o1, none⟩) n c1, .slice (some ⟨b2, o2, none⟩) n c2, .int .i64 m] w fun e w' => e = .returned (.int .i64 (sumTo js ns m n)) ∧ w' = w := by
  have H1 : Hid (∀ i, i < n → w.cell? ⟨b1, o1 + i, none⟩ = some (.int .i64 (js.getD i 0))) := h1
  have H2 : Hid (∀ i, i < n → w.cell? ⟨b2, o2 + i, none⟩ = some (.int .i64 (ns.getD i 0))) := h2
  clear h1 h2
  go_enter Try.func14, Try.ntmps14
  go_wp2
  go_loop [7, 8] (fun s i => ∃ k : Nat, k ≤ n ∧ i = .int .i64 k ∧ s = .int .i64 (sumTo js ns m k)) (fun _ i => n - (intOf i).toNat)
  case atStart => exact ⟨0, Nat.zero_le _, rfl, rfl⟩
  case round =>
    obtain ⟨k, hk, rfl, rfl⟩ := hrel
    by_cases hlt : k < n
    · obtain ⟨x, hx⟩ : ∃ x, x = js.getD k 0 := ⟨_, rfl⟩
      obtain ⟨y, hy⟩ : ∃ y, y = ns.getD k 0 := ⟨_, rfl⟩
      obtain ⟨s, hs⟩ : ∃ s, s = sumTo js ns m k := ⟨_, rfl⟩
      have e1 := H1.out k hlt
      have e2 := H2.out k hlt
      rw [← hx] at e1
      rw [← hy] at e2
      rw [← hs]
      have HS : Hid (sumTo js ns m (k + 1) = if y = m then wrap64 (s + x) else s) := by
        show sumTo js ns m (k + 1) = _
        rw [hx, hy, hs]; rfl
      clear hx hy hs
      by_cases hym : y = m
      · have hb : (y == m) = true := by simpa using hym
        have HM : Hid (y = m) := hym
        clear hym
        go_wp2
        go_round
        case rel => exact ⟨k + 1, by omega, by go_num, by rw [HS.out, if_pos HM.out]⟩
        case measure => simp [intOf]; omega
      · have hb : (y == m) = false := by simpa using hym
        have HM : Hid (¬ y = m) := hym
        clear hym
        go_wp2
        go_round
        case rel => exact ⟨k + 1, by omega, by go_num, by rw [HS.out, if_neg HM.out]⟩
        case measure => simp [intOf]; omega
    · have hkn : k = n := by omega
      subst hkn
      go_wp2
      go_ret
      exact ⟨rfl, rfl⟩

end Go.Proofs.Qxb6613294a
