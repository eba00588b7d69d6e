/- THE WALK OF FnAttemptsLeftAsksDoNotCount. -/
import Derived.Test.Qxb6613440aRows
import Derived.WalkKit
import Derived.WalkLawsBesides
import Derived.Deep.QuietTactic
import Derived.BigQuiet
namespace Go.Proofs.Qxb6613440a
open Go.RowKit
set_option linter.unusedVariables false

theorem counted_calls (b : Nat) (x y : Int) (w : World) (h1 : w.cell? ⟨b, 10, none⟩ = some (.int .i64 x)) (h2 : w.cell? ⟨b, 33, none⟩ = some (.int .i64 y)) (h0 : 0 ≤ y) (hy : y ≤ x) (hx : x ≤ 9223372036854775807) :
    Calls Try.prog 10 #[.pointer (some ⟨b, 0, none⟩)] w fun e w' => e = .returned (.int .i64 (x - y)) ∧ ∃ q, w' = w.drewN q := by
  go_enter Try.func10, Try.ntmps10
  go_wp2
  go_quiet (fail)
  go_wp2
  go_ret
  exact ⟨rfl, _, rfl⟩

theorem left9_calls (b : Nat) (x y m : Int) (w : World) (h1 : w.cell? ⟨b, 10, none⟩ = some (.int .i64 x)) (h2 : w.cell? ⟨b, 33, none⟩ = some (.int .i64 y)) (h3 : w.cell? ⟨b, 11, none⟩ = some (.int .i64 m)) (h0 : 0 ≤ y) (hy : y ≤ x) (hx : x ≤ 9223372036854775807) :
    Calls Try.prog 9 #[.pointer (some ⟨b, 0, none⟩)] w fun e w' => e = .returned (.bool (decide (x - y < m))) ∧ ∃ q, w' = w.drewN q := by
  go_enter Try.func9, Try.ntmps9
  go_wp2
  go_quiet ((go_at_call 10; refine Calls.quiet_of (counted_calls b x y _ ?_ ?_ h0 hy hx); exact h1; exact h2))
  go_wp2
  go_ret
  exact ⟨rfl, _, rfl⟩

theorem grown_drewN {a w : World} (h : Grown a w) : ∀ q, Grown a (w.drewN q)
  | 0 => h
  | q + 1 => (grown_drewN h q).drew

theorem left8_calls (b : Nat) (x y m : Int) (w : World) (h1 : w.cell? ⟨b, 10, none⟩ = some (.int .i64 x)) (h2 : w.cell? ⟨b, 33, none⟩ = some (.int .i64 y)) (h3 : w.cell? ⟨b, 11, none⟩ = some (.int .i64 m)) (h0 : 0 ≤ y) (hy : y ≤ x) (hx : x ≤ 9223372036854775807) :
    Calls Try.prog 8 #[.pointer (some ⟨b, 0, none⟩)] w fun e w' => e = .returned (.bool (decide (x - y < m))) ∧ ∃ q, w' = w.drewN q := by
  go_enter Try.func8, Try.ntmps8
  go_wp2_with fail
  refine (left9_calls b x y m w h1 h2 h3 h0 hy hx).mono ?_
  rintro e w1 ⟨rfl, q, rfl⟩
  go_wp2
  go_ret
  exact ⟨rfl, _, rfl⟩

def lessB (x y m : Int) : Bool := decide (x - y < m)

theorem left_calls (W : World) (x y m : Int) (w : World) (hG : Grown W w) (h0 : 0 ≤ y) (hy : y ≤ x) (hx : x ≤ 9223372036854775807) :
    Calls Try.prog 6 #[.int .i64 x, .int .i64 y, .int .i64 m] w fun e w' => e = .returned (.bool (lessB x y m)) ∧ Grown W w' := by
  have HG : Hid (Grown W w) := hG
  clear hG
  go_enter Try.func6, Try.ntmps6
  go_wp2_with fail
  refine (left8_calls w.heap.size x y m _ ?_ ?_ ?_ h0 hy hx).mono ?_
  · simp
  · simp
  · simp
  rintro e w1 ⟨rfl, q, rfl⟩
  go_wp2
  go_ret
  exact ⟨rfl, grown_drewN (HG.out.alloc _ _) _⟩

theorem out_asked (x y m : Int) (w : World) (h : y < 0 ∨ (0 ≤ y ∧ x < y)) :
    Calls Try.prog 4 #[.int .i64 x, .int .i64 y, .int .i64 m] w fun e w' => e = .returned (.bool true) ∧ Grown w w' := by
  rcases h with h | ⟨h, h'⟩
  · go_enter Try.func4, Try.ntmps4
    go_wp2
    go_ret
    exact ⟨rfl, Grown.refl _⟩
  · go_enter Try.func4, Try.ntmps4
    go_wp2
    go_ret
    exact ⟨rfl, Grown.refl _⟩

theorem out_max (x y m : Int) (w : World) (h0 : 0 ≤ y) (hy : y ≤ x) (h : (x == 9223372036854775807) = true ∨ ((x == 9223372036854775807) = false ∧ (m == 9223372036854775807) = true)) :
    Calls Try.prog 4 #[.int .i64 x, .int .i64 y, .int .i64 m] w fun e w' => e = .returned (.bool true) ∧ Grown w w' := by
  rcases h with h | ⟨h, h'⟩
  · go_enter Try.func4, Try.ntmps4
    go_wp2
    go_ret
    exact ⟨rfl, Grown.refl _⟩
  · go_enter Try.func4, Try.ntmps4
    go_wp2
    go_ret
    exact ⟨rfl, Grown.refl _⟩

set_option maxHeartbeats 400000 in
theorem attempts_main (x y m : Int) (w : World) (h0 : 0 ≤ y) (hy : y ≤ x) (hx : x < 9223372036854775807) (hm : m < 9223372036854775807) (hm' : -9223372036854775808 ≤ m) :
    Calls Try.prog 4 #[.int .i64 x, .int .i64 y, .int .i64 m] w fun e w' => e = .returned (.bool true) ∧ Grown w w' := by
  have hxb : (x == 9223372036854775807) = false := beq_eq_false_iff_ne.2 (by omega)
  have hmb : (m == 9223372036854775807) = false := beq_eq_false_iff_ne.2 (by omega)
  have e1 : lessB (x + 1) (y + 1) m = lessB x y m := by unfold lessB; congr 1; apply propext; omega
  have e2 : lessB x y m = true → lessB x y (m + 1) = true := by unfold lessB; simp; omega
  have e3 : lessB x y (x - y) = false := by unfold lessB; simp
  have e4 : lessB x y (x - y + 1) = true := by unfold lessB; simp; omega
  have c1 := left_calls w x y m w (Grown.refl _) h0 hy (by omega)
  have c2 := fun w1 (g : Grown w w1) => left_calls w (x + 1) (y + 1) m w1 g (by omega) (by omega) (by omega)
  have c3 := fun w1 (g : Grown w w1) => left_calls w x y (m + 1) w1 g h0 hy (by omega)
  have c4 := fun w1 (g : Grown w w1) => left_calls w x y (x - y) w1 g h0 hy (by omega)
  have c5 := fun w1 (g : Grown w w1) => left_calls w x y (x - y + 1) w1 g h0 hy (by omega)
  rw [e1] at c2
  rw [e3] at c4
  rw [e4] at c5
  obtain ⟨now, hnow⟩ : ∃ b, b = lessB x y m := ⟨_, rfl⟩
  obtain ⟨up, hup⟩ : ∃ b, b = lessB x y (m + 1) := ⟨_, rfl⟩
  rw [← hnow] at c1 c2
  rw [← hup] at c3
  have hmono : now = true → up = true := by rw [hnow, hup]; exact e2
  have C1 : Hid (Calls Try.prog 6 #[.int .i64 x, .int .i64 y, .int .i64 m] w fun e w' => e = .returned (.bool now) ∧ Grown w w') := c1
  have C2 : Hid (∀ w1, Grown w w1 → Calls Try.prog 6 #[.int .i64 (x + 1), .int .i64 (y + 1), .int .i64 m] w1 fun e w' => e = .returned (.bool now) ∧ Grown w w') := c2
  have C3 : Hid (∀ w1, Grown w w1 → Calls Try.prog 6 #[.int .i64 x, .int .i64 y, .int .i64 (m + 1)] w1 fun e w' => e = .returned (.bool up) ∧ Grown w w') := c3
  have C4 : Hid (∀ w1, Grown w w1 → Calls Try.prog 6 #[.int .i64 x, .int .i64 y, .int .i64 (x - y)] w1 fun e w' => e = .returned (.bool false) ∧ Grown w w') := c4
  have C5 : Hid (∀ w1, Grown w w1 → Calls Try.prog 6 #[.int .i64 x, .int .i64 y, .int .i64 (x - y + 1)] w1 fun e w' => e = .returned (.bool true) ∧ Grown w w') := c5
  have hcases : (now = false) ∨ (now = true ∧ up = true) := by
    cases now
    · exact .inl rfl
    · exact .inr ⟨rfl, hmono rfl⟩
  clear c1 c2 c3 c4 c5 e1 e2 e3 e4 hnow hup hmono
  rcases hcases with rfl | ⟨rfl, rfl⟩
  all_goals
    go_enter Try.func4, Try.ntmps4
    go_wp2_with fail
    refine C1.out.mono ?_
    rintro e w1 ⟨rfl, g1⟩
    have G1 : Hid (Grown w w1) := g1
    clear g1
    go_wp2_with fail
    refine (C2.out _ G1.out).mono ?_
    rintro e w2 ⟨rfl, g2⟩
    have G2 : Hid (Grown w w2) := g2
    clear g2
    go_wp2_with fail
    refine (C3.out _ G2.out).mono ?_
    rintro e w3 ⟨rfl, g3⟩
    have G3 : Hid (Grown w w3) := g3
    clear g3
    go_wp2_with fail
    refine (C4.out _ G3.out).mono ?_
    rintro e w4 ⟨rfl, g4⟩
    have G4 : Hid (Grown w w4) := g4
    clear g4
    go_wp2_with fail
    refine (C5.out _ G4.out).mono ?_
    rintro e w5 ⟨rfl, g5⟩
    have G5 : Hid (Grown w w5) := g5
    clear g5
    go_wp2
    go_ret
    exact ⟨rfl, G5.out⟩

end Go.Proofs.Qxb6613440a
