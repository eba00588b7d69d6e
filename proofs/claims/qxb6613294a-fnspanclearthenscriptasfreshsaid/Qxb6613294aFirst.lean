/- zzFirstNonZero, zzBytes of the second law. -/
import Derived.Test.Qxb6613294aRowsOf
namespace Go.Proofs.Qxb6613294a
open Go.RowKit
set_option linter.unusedVariables false

theorem drewN_drewN' (w : World) (p q : Nat) : (w.drewN p).drewN q = w.drewN (p + q) := by
  simp [World.drewN, Nat.add_assoc]

set_option maxHeartbeats 1000000 in
theorem first_calls (b1 o1 c1 b2 o2 c2 n i : Nat) (js ns : List Int) (w : World) (hn : n ≤ 4096) (hi : i < n)
    (h1 : ∀ i, i < n → w.cell? ⟨b1, o1 + i, none⟩ = some (.int .i64 (js.getD i 0)))
    (h2 : ∀ i, i < n → w.cell? ⟨b2, o2 + i, none⟩ = some (.int .i64 (ns.getD i 0))) :
    Calls Try.prog 12 #[.slice (some ⟨b1, o1, none⟩) n c1, .slice (some ⟨b2, o2, none⟩) n c2, .int .i64 i] w fun e w' => e = .returned (.bool (firstB js ns i)) ∧ ∃ q, w' = w.drewN q := by
  have H1 : Hid (∀ i, i < n → w.cell? ⟨b1, o1 + i, none⟩ = some (.int .i64 (js.getD i 0))) := h1
  have H2 : Hid (∀ i, i < n → w.cell? ⟨b2, o2 + i, none⟩ = some (.int .i64 (ns.getD i 0))) := h2
  have i1 := h1 i hi
  have i2 := h2 i hi
  clear h1 h2
  obtain ⟨X, hX⟩ : ∃ x, x = js.getD i 0 := ⟨_, rfl⟩
  obtain ⟨Y, hY⟩ : ∃ y, y = ns.getD i 0 := ⟨_, rfl⟩
  rw [← hX] at i1
  rw [← hY] at i2
  have HX : Hid (X = js.getD i 0) := hX
  have HY : Hid (Y = ns.getD i 0) := hY
  clear hX hY
  have hin : (i : Int) < n := by omega
  by_cases hz : X = 0
  · have hzb : (X == 0) = true := by simpa using hz
    have HF : Hid (firstB js ns i = false) := decide_eq_false (fun h => h.1 (by rw [← HX.out]; exact hz))
    clear hz
    go_enter Try.func12, Try.ntmps12
    go_wp2
    go_ret
    exact ⟨by rw [HF.out]; rfl, 0, rfl⟩
  · have hzb : (X == 0) = false := by simpa using hz
    have HZ : Hid (¬ X = 0) := hz
    clear hz
    go_enter Try.func12, Try.ntmps12
    go_wp2
    go_loopw [7] (fun t wr => ∃ k : Nat, k ≤ i ∧ t = .int .i64 k ∧ (∃ q, wr = w.drewN q) ∧ Hid (∀ m, m < k → ¬ (js.getD m 0 ≠ 0 ∧ ns.getD m 0 = ns.getD i 0))) (fun t _ => i - (intOf t).toNat)
    case atStart => exact ⟨0, Nat.zero_le _, rfl, ⟨0, rfl⟩, fun m hm => by omega⟩
    case round =>
      obtain ⟨k, hk, rfl, ⟨q, rfl⟩, hno⟩ := hrel
      by_cases hlt : k < i
      · have k1 := H1.out k (by omega)
        have k2 := H2.out k (by omega)
        obtain ⟨x, hx⟩ : ∃ x, x = js.getD k 0 := ⟨_, rfl⟩
        obtain ⟨y, hy⟩ : ∃ y, y = ns.getD k 0 := ⟨_, rfl⟩
        rw [← hx] at k1
        rw [← hy] at k2
        have Hx : Hid (x = js.getD k 0) := hx
        have Hy : Hid (y = ns.getD k 0) := hy
        clear hx hy
        have hkn : (k : Int) < n := by omega
        have hki : (k : Int) < i := by omega
        by_cases hx0 : x = 0
        · have hxb : (x != 0) = false := by simpa using hx0
          have HN : Hid (∀ m, m < k + 1 → ¬ (js.getD m 0 ≠ 0 ∧ ns.getD m 0 = ns.getD i 0)) := by
            intro m hm
            by_cases e : m = k
            · subst e; rw [← Hx.out]; exact fun h => h.1 hx0
            · exact hno.out m (by omega)
          clear hx0 hno
          go_wp2
          go_quiet (fail)
          go_wp2
          go_roundw
          case rel => exact ⟨k + 1, by omega, by go_num, ⟨_, rfl⟩, HN⟩
          case measure => simp [intOf]; omega
        · have hxb : (x != 0) = true := by simpa using hx0
          by_cases hyy : y = Y
          · have hyb : (y == Y) = true := by simpa using hyy
            have HF : Hid (firstB js ns i = false) := decide_eq_false (fun h => h.2 k hlt ⟨by rw [← Hx.out]; exact hx0, by rw [← Hy.out, ← HY.out]; exact hyy⟩)
            clear hx0 hyy hno
            go_wp2
            go_quiet (fail)
            go_wp2
            go_ret
            exact ⟨by rw [HF.out]; rfl, _, drewN_drewN' _ _ _⟩
          · have hyb : (y == Y) = false := by simpa using hyy
            have HN : Hid (∀ m, m < k + 1 → ¬ (js.getD m 0 ≠ 0 ∧ ns.getD m 0 = ns.getD i 0)) := by
              intro m hm
              by_cases e : m = k
              · subst e; rw [← Hy.out, ← HY.out]; exact fun h => hyy h.2
              · exact hno.out m (by omega)
            clear hx0 hyy hno
            go_wp2
            go_quiet (fail)
            go_wp2
            go_roundw
            case rel => exact ⟨k + 1, by omega, by go_num, ⟨_, rfl⟩, HN⟩
            case measure => simp [intOf]; omega
      · have hki : k = i := by omega
        have HF : Hid (firstB js ns i = true) := decide_eq_true ⟨by rw [← HX.out]; exact HZ.out, fun m hm => hno.out m (by omega)⟩
        subst hki
        go_wp2
        go_ret
        exact ⟨by rw [HF.out]; rfl, _, rfl⟩

def okB4 (l m p q : Nat) : Bool := decide (l + m + p + q ≤ 1048576)

set_option maxHeartbeats 1000000 in
theorem bytes5 (a b : Int) (a2 a3 a4 a5 : Option Addr) (l2 c2 l3 c3 l4 c4 l5 c5 : Nat) (w : World) (h2 : l2 ≤ maxLen) (h3 : l3 ≤ maxLen) (h4 : l4 ≤ maxLen) (h5 : l5 ≤ maxLen) :
    Calls Try.prog 5 #[.int .i64 a, .int .i64 b, .slice a2 l2 c2, .slice a3 l3 c3, .slice a4 l4 c4, .slice a5 l5 c5] w fun e w' => (∃ t : Bool, e = .returned (.bool t)) ∧ w' = w := by
  unfold maxLen at h2 h3 h4 h5
  by_cases k2 : l2 ≤ 1048576
  · by_cases k3 : l3 ≤ 1048576 ∧ l2 + l3 ≤ 1048576
    · by_cases k4 : l4 ≤ 1048576 ∧ l2 + l3 + l4 ≤ 1048576
      · by_cases k5 : l5 ≤ 1048576
        · by_cases k6 : l2 + l3 + l4 + l5 ≤ 1048576
          all_goals (go_enter Try.func5, Try.ntmps5; go_wp2; go_ret; exact ⟨⟨_, rfl⟩, rfl⟩)
        · go_enter Try.func5, Try.ntmps5; go_wp2; go_ret; exact ⟨⟨_, rfl⟩, rfl⟩
      · by_cases k5 : l4 ≤ 1048576
        all_goals (go_enter Try.func5, Try.ntmps5; go_wp2; go_ret; exact ⟨⟨_, rfl⟩, rfl⟩)
    · by_cases k5 : l3 ≤ 1048576
      all_goals (go_enter Try.func5, Try.ntmps5; go_wp2; go_ret; exact ⟨⟨_, rfl⟩, rfl⟩)
  · go_enter Try.func5, Try.ntmps5; go_wp2; go_ret; exact ⟨⟨_, rfl⟩, rfl⟩

theorem bytes5_small (a b : Int) (a2 a3 a4 a5 : Option Addr) (l2 c2 l3 c3 l4 c4 l5 c5 : Nat) (w : World) (h2 : l2 ≤ 4096) (h3 : l3 ≤ 4096) (h4 : l4 ≤ 4096) (h5 : l5 ≤ 4096) :
    Calls Try.prog 5 #[.int .i64 a, .int .i64 b, .slice a2 l2 c2, .slice a3 l3 c3, .slice a4 l4 c4, .slice a5 l5 c5] w fun e w' => e = .returned (.bool true) ∧ w' = w := by
  go_enter Try.func5, Try.ntmps5
  go_wp2
  go_ret
  exact ⟨rfl, rfl⟩

end Go.Proofs.Qxb6613294a
