/- THE WALK OF FnExactStepsSplitCostsCarryAndCrossTerm. -/
import Derived.Test.Qxb6613440aRows
import Derived.WalkKit
import Derived.WalkLawsBesides
namespace Go.Proofs.Qxb6613440a
open Go.RowKit
set_option linter.unusedVariables false

theorem sq_expand (a b : Int) : (a + b) * (a + b) = a * a + b * b + 2 * (a * b) := by
  rw [Int.add_mul, Int.mul_add, Int.mul_add, Int.mul_comm b a]; omega

theorem left_ok (a b c : Int) (ha : 0 ≤ a) (hb : 0 ≤ b) (hc : (64 ≤ a % 64 + b % 64 ∧ c = 1) ∨ (a % 64 + b % 64 < 64 ∧ c = 0)) :
    0 ≤ (a + b) / 64 + (a + b) * (a + b) / 65536 - (a / 64 + a * a / 65536) - (b / 64 + b * b / 65536) - c - a * b / 32768 ∧
    (a + b) / 64 + (a + b) * (a + b) / 65536 - (a / 64 + a * a / 65536) - (b / 64 + b * b / 65536) - c - a * b / 32768 ≤ 2 := by
  rw [sq_expand]
  have h1 := Int.mul_nonneg ha ha
  have h2 := Int.mul_nonneg hb hb
  have h3 := Int.mul_nonneg ha hb
  omega

theorem small_of_sq (d : Int) (h0 : 0 ≤ d) (h : d * d ≤ 9223372036854775807) : d ≤ 3037000499 := by
  apply Classical.byContradiction
  intro hn
  have h1 : 3037000500 ≤ d := by omega
  have := Int.mul_le_mul h1 h1 (by omega) h0
  omega

theorem sq_of_div (s : Int) (h0 : 0 < s) (h : ¬ 9223372036854775807 / s < s) : s * s ≤ 9223372036854775807 := by
  have h1 : s ≤ 9223372036854775807 / s := by omega
  exact Int.le_trans (Int.mul_le_mul_of_nonneg_right h1 (by omega)) (Int.ediv_mul_le _ (by omega))

theorem steps_calls (d : Int) (w : World) (h0 : 0 ≤ d) (hd : d ≤ 3037000499) (hq : 0 ≤ d * d) (hs : d * d ≤ 9223372036854775807) :
    Calls Try.prog 5 #[.int .i64 d] w fun e w' => e = .returned (.int .i64 (d / 64 + d * d / 65536)) ∧ w' = w := by
  go_enter Try.func5, Try.ntmps5
  go_wp2
  go_ret
  exact ⟨rfl, rfl⟩

theorem exact_neg (a b : Int) (w : World) (h : a < 0 ∨ (0 ≤ a ∧ b < 0)) :
    Calls Try.prog 3 #[.int .i64 a, .int .i64 b] w fun e w' => e = .returned (.bool true) ∧ w' = w := by
  rcases h with h | ⟨h, h'⟩
  · go_enter Try.func3, Try.ntmps3
    go_wp2
    go_ret
    exact ⟨rfl, rfl⟩
  · go_enter Try.func3, Try.ntmps3
    go_wp2
    go_ret
    exact ⟨rfl, rfl⟩

theorem exact_over (a b : Int) (w : World) (ha : 0 ≤ a) (hb : 0 ≤ b) (hb' : b ≤ 9223372036854775807) (h : 9223372036854775807 - b < a) :
    Calls Try.prog 3 #[.int .i64 a, .int .i64 b] w fun e w' => e = .returned (.bool true) ∧ w' = w := by
  go_enter Try.func3, Try.ntmps3
  go_wp2
  go_ret
  exact ⟨rfl, rfl⟩

theorem exact_big (a b : Int) (w : World) (ha : 0 ≤ a) (hb : 0 ≤ b) (h : a ≤ 9223372036854775807 - b) (hp : 0 < a + b) (hd : 9223372036854775807 / (a + b) < a + b) :
    Calls Try.prog 3 #[.int .i64 a, .int .i64 b] w fun e w' => e = .returned (.bool true) ∧ w' = w := by
  go_enter Try.func3, Try.ntmps3
  go_wp2
  go_ret
  exact ⟨rfl, rfl⟩

set_option maxHeartbeats 400000 in
theorem exact_main (a b : Int) (w : World) (ha : 0 ≤ a) (hb : 0 ≤ b) (hsq : (a + b) * (a + b) ≤ 9223372036854775807) (hz : (a + b ≤ 0) ∨ (0 < a + b ∧ ¬ 9223372036854775807 / (a + b) < a + b)) :
    Calls Try.prog 3 #[.int .i64 a, .int .i64 b] w fun e w' => e = .returned (.bool true) ∧ w' = w := by
  have hs := small_of_sq (a + b) (by omega) hsq
  have qa := Int.mul_nonneg ha ha
  have qb := Int.mul_nonneg hb hb
  have qab := Int.mul_nonneg ha hb
  have qs := Int.mul_nonneg (show 0 ≤ a + b by omega) (show 0 ≤ a + b by omega)
  have ex := sq_expand a b
  have la : a * a ≤ 9223372036854775807 := by omega
  have lb : b * b ≤ 9223372036854775807 := by omega
  have lab : a * b ≤ 9223372036854775807 := by omega
  have Cs := fun w => steps_calls (a + b) w (by omega) hs qs hsq
  have Ca := fun w => steps_calls a w ha (by omega) qa la
  have Cb := fun w => steps_calls b w hb (by omega) qb lb
  obtain ⟨X, hX⟩ : ∃ X, X = (a + b) / 64 + (a + b) * (a + b) / 65536 := ⟨_, rfl⟩
  obtain ⟨Y, hY⟩ : ∃ Y, Y = a / 64 + a * a / 65536 := ⟨_, rfl⟩
  obtain ⟨Z, hZ⟩ : ∃ Z, Z = b / 64 + b * b / 65536 := ⟨_, rfl⟩
  rw [← hX] at Cs
  rw [← hY] at Ca
  rw [← hZ] at Cb
  have hX0 : 0 ≤ X ∧ X ≤ 4611686018427387904 := by rw [hX]; omega
  have hY0 : 0 ≤ Y ∧ Y ≤ 4611686018427387904 := by rw [hY]; omega
  have hZ0 : 0 ≤ Z ∧ Z ≤ 2305843009213693952 := by rw [hZ]; omega
  obtain ⟨hX1, hX2⟩ := hX0
  obtain ⟨hY1, hY2⟩ := hY0
  obtain ⟨hZ1, hZ2⟩ := hZ0
  have HCs : Hid (∀ w, Calls Try.prog 5 #[.int .i64 (a + b)] w fun e w' => e = .returned (.int .i64 X) ∧ w' = w) := Cs
  have HCa : Hid (∀ w, Calls Try.prog 5 #[.int .i64 a] w fun e w' => e = .returned (.int .i64 Y) ∧ w' = w) := Ca
  have HCb : Hid (∀ w, Calls Try.prog 5 #[.int .i64 b] w fun e w' => e = .returned (.int .i64 Z) ∧ w' = w) := Cb
  have key : ∀ c : Int, (64 ≤ a % 64 + b % 64 ∧ c = 1) ∨ (a % 64 + b % 64 < 64 ∧ c = 0) → 0 ≤ X - Y - Z - c - a * b / 32768 ∧ X - Y - Z - c - a * b / 32768 ≤ 2 := by
    intro c hc
    rw [hX, hY, hZ]
    exact left_ok a b c ha hb hc
  have HK : Hid (∀ c : Int, (64 ≤ a % 64 + b % 64 ∧ c = 1) ∨ (a % 64 + b % 64 < 64 ∧ c = 0) → 0 ≤ X - Y - Z - c - a * b / 32768 ∧ X - Y - Z - c - a * b / 32768 ≤ 2) := key
  clear Cs Ca Cb key hX hY hZ ex qa qb qs la lb hsq
  by_cases hc : 64 ≤ a % 64 + b % 64
  · have k := HK.out 1 (.inl ⟨hc, rfl⟩)
    obtain ⟨k1, k2⟩ := k
    rcases hz with hz | ⟨hz, hd⟩
    · exfalso; omega
    · go_enter Try.func3, Try.ntmps3
      go_wp2_with fail
      refine (HCs.out _).mono ?_
      rintro e w' ⟨rfl, rfl⟩
      go_wp2_with fail
      refine (HCa.out _).mono ?_
      rintro e w' ⟨rfl, rfl⟩
      go_wp2_with fail
      refine (HCb.out _).mono ?_
      rintro e w' ⟨rfl, rfl⟩
      go_wp2
      go_ret
      exact ⟨by simp, rfl⟩
  · have k := HK.out 0 (.inr ⟨by omega, rfl⟩)
    obtain ⟨k1, k2⟩ := k
    rcases hz with hz | ⟨hz, hd⟩
    all_goals
      go_enter Try.func3, Try.ntmps3
      go_wp2_with fail
      refine (HCs.out _).mono ?_
      rintro e w' ⟨rfl, rfl⟩
      go_wp2_with fail
      refine (HCa.out _).mono ?_
      rintro e w' ⟨rfl, rfl⟩
      go_wp2_with fail
      refine (HCb.out _).mono ?_
      rintro e w' ⟨rfl, rfl⟩
      go_wp2
      go_ret
      exact ⟨by simp; omega, rfl⟩

end Go.Proofs.Qxb6613440a
