/- THE WALK OF FnSpanClearThenScriptAsFresh. -/
import Derived.Test.Qxb6613294aFirst
import Derived.Deep.RegionWith
namespace Go.Proofs.Qxb6613294a
open Go.RowKit
set_option linter.unusedVariables false

set_option maxHeartbeats 1000000 in
theorem early3 (a b : Int) (a2 a3 a4 a5 : Option Addr) (l2 c2 l3 c3 l4 c4 l5 c5 : Nat) (w : World) (h2 : l2 ≤ maxLen) (h3 : l3 ≤ maxLen) (h4 : l4 ≤ maxLen) (h5 : l5 ≤ maxLen)
    (h : ¬ (l2 ≤ 4096 ∧ l4 ≤ 4096 ∧ l2 = l3 ∧ l4 = l5)) :
    Calls Try.prog 3 #[.int .i64 a, .int .i64 b, .slice a2 l2 c2, .slice a3 l3 c3, .slice a4 l4 c4, .slice a5 l5 c5] w fun e w' => e = .returned (.bool true) ∧ w' = w := by
  have B := bytes5 a b a2 a3 a4 a5 l2 c2 l3 c3 l4 c4 l5 c5 w h2 h3 h4 h5
  unfold maxLen at h2 h3 h4 h5
  have key : ∀ (P : Prop), (l2 ≤ 4096 → l3 ≤ 4096 → l4 ≤ 4096 → l5 ≤ 4096 → l2 ≠ l3 → P) → (l2 ≤ 4096 → l3 ≤ 4096 → l4 ≤ 4096 → l5 ≤ 4096 → l2 = l3 → l4 ≠ l5 → P) →
      (l2 ≤ 4096 → l3 ≤ 4096 → l4 ≤ 4096 → ¬ l5 ≤ 4096 → P) → (l2 ≤ 4096 → l3 ≤ 4096 → ¬ l4 ≤ 4096 → P) → (l2 ≤ 4096 → ¬ l3 ≤ 4096 → P) → (¬ l2 ≤ 4096 → P) → P := by
    intro P p1 p2 p3 p4 p5 p6
    by_cases k2 : l2 ≤ 4096
    · by_cases k3 : l3 ≤ 4096
      · by_cases k4 : l4 ≤ 4096
        · by_cases k5 : l5 ≤ 4096
          · by_cases k6 : l2 = l3
            · exact p2 k2 k3 k4 k5 k6 (fun e => h ⟨k2, k4, k6, e⟩)
            · exact p1 k2 k3 k4 k5 k6
          · exact p3 k2 k3 k4 k5
        · exact p4 k2 k3 k4
      · exact p5 k2 k3
    · exact p6 k2
  clear h
  refine key _ ?_ ?_ ?_ ?_ ?_ ?_ <;> clear key
  · intro k2 k3 k4 k5 k6
    have k7 : ((l2 : Int) != (l3 : Int)) = true := by rw [bne_iff_ne]; omega
    go_enter Try.func3, Try.ntmps3
    go_wp2_with fail
    refine B.mono ?_
    rintro e w' ⟨⟨t, rfl⟩, rfl⟩
    cases t
    all_goals (go_wp2; go_ret; exact ⟨rfl, rfl⟩)
  · intro k2 k3 k4 k5 k6 k6'
    subst k6
    have k7 : ((l4 : Int) != (l5 : Int)) = true := by rw [bne_iff_ne]; omega
    go_enter Try.func3, Try.ntmps3
    go_wp2_with fail
    refine B.mono ?_
    rintro e w' ⟨⟨t, rfl⟩, rfl⟩
    cases t
    all_goals (go_wp2; go_ret; exact ⟨rfl, rfl⟩)
  · intro k2 k3 k4 k5
    go_enter Try.func3, Try.ntmps3
    go_wp2_with fail
    refine B.mono ?_
    rintro e w' ⟨⟨t, rfl⟩, rfl⟩
    cases t
    all_goals (go_wp2; go_ret; exact ⟨rfl, rfl⟩)
  · intro k2 k3 k4
    go_enter Try.func3, Try.ntmps3
    go_wp2_with fail
    refine B.mono ?_
    rintro e w' ⟨⟨t, rfl⟩, rfl⟩
    cases t
    all_goals (go_wp2; go_ret; exact ⟨rfl, rfl⟩)
  · intro k2 k3
    go_enter Try.func3, Try.ntmps3
    go_wp2_with fail
    refine B.mono ?_
    rintro e w' ⟨⟨t, rfl⟩, rfl⟩
    cases t
    all_goals (go_wp2; go_ret; exact ⟨rfl, rfl⟩)
  · intro k2
    go_enter Try.func3, Try.ntmps3
    go_wp2_with fail
    refine B.mono ?_
    rintro e w' ⟨⟨t, rfl⟩, rfl⟩
    cases t
    all_goals (go_wp2; go_ret; exact ⟨rfl, rfl⟩)

theorem fresh_has (w : World) (a b : Int) (js ns : List Int) : Has w.heap.size a b (bld js ns 0) w (w.alloc (.cells #[.int .i64 a, .int .i64 b, .slice none 0 0] 37)) :=
  ⟨_, SpanAt.fresh w a b, (Below.refl _ _).alloc (Nat.le_refl _) _, fun k c T r hk _ _ => by rw [Below.heap_alloc _ _ _ (Array.getElem?_eq_some_iff.1 hk).1]; exact hk⟩

theorem has_then {S : Nat} {a b : Int} {ps : List (Int × Int)} {w wr w2 : World} (k : Kp S w wr) (h : Has S a b ps wr.drew w2) : Has S a b ps w w2 := by
  obtain ⟨v, h1, h2⟩ := h
  exact ⟨v, h1, k.trans ((Kp.refl S wr).drewN (n := 1) |>.trans h2)⟩
theorem has_then' {S : Nat} {a b : Int} {ps : List (Int × Int)} {w wr w2 : World} (k : Kp S w wr) (h : Has S a b ps wr w2) : Has S a b ps w w2 := by
  obtain ⟨v, h1, h2⟩ := h
  exact ⟨v, h1, k.trans h2⟩
theorem Has.drewN {S q : Nat} {a b : Int} {ps : List (Int × Int)} {w wr : World} (h : Has S a b ps w wr) : Has S a b ps w (wr.drewN q) := by
  obtain ⟨v, h1, h2⟩ := h
  exact ⟨v, h1.drewN, h2.drewN⟩

set_option maxHeartbeats 4000000 in
set_option maxRecDepth 100000 in
theorem fresh_walk (a b : Int) (a2 a3 a4 a5 : Option Addr) (l c2 c3 n c4 c5 : Nat) (xs ys js ns : List Int) (w : World) (hl : l ≤ 4096) (hn : n ≤ 4096)
    (h2 : Ints w a2 l xs) (h3 : Ints w a3 l ys) (h4 : Ints w a4 n js) (h5 : Ints w a5 n ns)
    (hj : ∀ i, -9223372036854775808 ≤ js.getD i 0 ∧ js.getD i 0 ≤ 9223372036854775807) :
    Calls Try.prog 3 #[.int .i64 a, .int .i64 b, .slice a2 l c2, .slice a3 l c3, .slice a4 n c4, .slice a5 n c5] w fun e w' => e = .returned (.bool true) ∧ Below w.heap.size w w' := by
  have B := bytes5_small a b a2 a3 a4 a5 l c2 l c3 n c4 n c5 w hl hl hn hn
  have H2 : Hid (Ints w a2 l xs) := h2
  have H3 : Hid (Ints w a3 l ys) := h3
  have H4 : Hid (Ints w a4 n js) := h4
  have H5 : Hid (Ints w a5 n ns) := h5
  have HJ : Hid (∀ i, -9223372036854775808 ≤ js.getD i 0 ∧ js.getD i 0 ≤ 9223372036854775807) := hj
  clear h2 h3 h4 h5 hj
  go_enter Try.func3, Try.ntmps3
  go_wp2_with fail
  refine B.mono ?_
  rintro e w' ⟨rfl, rfl⟩
  clear B
  go_wp2_with fail
  refine (new_calls a b w').mono ?_
  rintro e w1 ⟨rfl, hw1⟩
  have h0 : Has w'.heap.size a b (bld xs ys 0) w' w1 := by
    subst hw1
    exact fresh_has _ _ _ _ _
  clear hw1
  go_wp2_with fail
  go_loopw [14] (fun i wr => ∃ k : Nat, k ≤ l ∧ i = .int .i64 k ∧ Has w'.heap.size a b (bld xs ys k) w' wr) (fun i _ => l - (intOf i).toNat)
  case atStart => exact ⟨0, Nat.zero_le _, rfl, h0⟩
  case round =>
    clear h0
    obtain ⟨k, hk, rfl, v, hs, hkp⟩ := hrel
    by_cases hlt : k < l
    · obtain ⟨b1, o1, hb1, hl1, hc1⟩ := H2.out (by omega)
      obtain ⟨b2, o2, hb2, hl2, hc2⟩ := H3.out (by omega)
      subst hb1 hb2
      have e1 := (hkp.below.cell (p := ⟨b1, o1 + k, none⟩) hl1).trans (hc1 k hlt)
      have e2 := (hkp.below.cell (p := ⟨b2, o2 + k, none⟩) hl2).trans (hc2 k hlt)
      obtain ⟨x, hx⟩ : ∃ x, x = xs.getD k 0 := ⟨_, rfl⟩
      obtain ⟨y, hy⟩ : ∃ y, y = ys.getD k 0 := ⟨_, rfl⟩
      rw [← hx] at e1
      rw [← hy] at e2
      have HB : Hid (bld xs ys (k + 1) = addP (bld xs ys k) x y) := by rw [hx, hy]; rfl
      have hlen := bld_len xs ys k
      clear hc1 hc2 hx hy
      have HS : Hid (SpanAt wr w'.heap.size a b v (bld xs ys k)) := hs
      clear hs
      go_wp2_with fail
      go_region_with (go_at_call 7; refine (addPart_calls w'.heap.size a b x y v (bld xs ys k) wr.drew (by omega) HS.out.drew).mono ?_; rintro e w2 ⟨rfl, hh⟩)
      all_goals
        have R := has_then hkp hh
        rw [← HB.out] at R
        clear hh e1 e2
        go_wp2
        go_roundw
        case rel => exact ⟨k + 1, by omega, by go_num, R⟩
        case measure => simp [intOf]; omega
    · go_wp2_with fail
      refine (clear_calls w'.heap.size a b v (bld xs ys k) wr hs).mono ?_
      rintro e w5 ⟨rfl, hh⟩
      have R0 : Has w'.heap.size 0 0 (bld js ns 0) w' w5 := has_then' hkp hh
      clear hh hs hkp hlt hk H2 H3
      go_wp2_with fail
      go_loopw [15] (fun i wr => ∃ k : Nat, k ≤ n ∧ i = .int .i64 k ∧ Has w'.heap.size 0 0 (bld js ns k) w' wr) (fun i _ => n - (intOf i).toNat)
      case atStart => exact ⟨0, Nat.zero_le _, rfl, R0⟩
      case round =>
        clear R0
        obtain ⟨q, hq, rfl, v, hs, hkp⟩ := hrel
        by_cases hlt : q < n
        · obtain ⟨b1, o1, hb1, hl1, hc1⟩ := H4.out (by omega)
          obtain ⟨b2, o2, hb2, hl2, hc2⟩ := H5.out (by omega)
          subst hb1 hb2
          have e1 := (hkp.below.cell (p := ⟨b1, o1 + q, none⟩) hl1).trans (hc1 q hlt)
          have e2 := (hkp.below.cell (p := ⟨b2, o2 + q, none⟩) hl2).trans (hc2 q hlt)
          obtain ⟨x, hx⟩ : ∃ x, x = js.getD q 0 := ⟨_, rfl⟩
          obtain ⟨y, hy⟩ : ∃ y, y = ns.getD q 0 := ⟨_, rfl⟩
          rw [← hx] at e1
          rw [← hy] at e2
          have HB : Hid (bld js ns (q + 1) = addP (bld js ns q) x y) := by rw [hx, hy]; rfl
          have hlen := bld_len js ns q
          clear hc1 hc2 hx hy
          have HS : Hid (SpanAt wr w'.heap.size 0 0 v (bld js ns q)) := hs
          clear hs
          go_wp2_with fail
          go_region_with (go_at_call 7; refine (addPart_calls w'.heap.size 0 0 x y v (bld js ns q) wr.drew (by omega) HS.out.drew).mono ?_; rintro e w2 ⟨rfl, hh⟩)
          all_goals
            have R := has_then hkp hh
            rw [← HB.out] at R
            clear hh e1 e2
            go_wp2
            go_roundw
            case rel => exact ⟨q + 1, by omega, by go_num, R⟩
            case measure => simp [intOf]; omega
        · have hqn : q = n := by omega
          subst hqn
          obtain ⟨ao, cap, hv⟩ := hs.shape
          subst hv
          have d := cell3 hs.blk
          have d0 := d.1
          have d1 := d.2.1
          have d2 := d.2.2
          have HS : Hid (Has w'.heap.size 0 0 (bld js ns q) w' wr) := ⟨_, hs, hkp⟩
          have hlen := bld_len js ns q
          obtain ⟨m, hm⟩ : ∃ m, m = (bld js ns q).length := ⟨_, rfl⟩
          have Hm : Hid (m = (bld js ns q).length) := hm
          rw [← hm] at d2 hlen
          clear d hs hkp hlt hq hm
          go_wp2_with (first | (go_at_call 9; refine (services_calls w'.heap.size 0 wr d0).mono ?_; rintro e w6 ⟨rfl, rfl⟩) | (go_at_call 10; refine (whole_calls w'.heap.size 0 _ d1).mono ?_; rintro e w6 ⟨rfl, rfl⟩) | (go_at_call 11; refine (parts_calls w'.heap.size m cap ao _ d2).mono ?_; rintro e w6 ⟨rfl, rfl⟩))
          clear d0 d1 d2
          go_loopw [17, 18] (fun t i wr => ∃ k : Nat, k ≤ q ∧ i = .int .i64 k ∧ t = .int .i64 (firsts js ns k).length ∧ Hid (Has w'.heap.size 0 0 (bld js ns q) w' wr)) (fun _ i _ => q - (intOf i).toNat)
          case atStart => exact ⟨0, Nat.zero_le _, rfl, rfl, HS⟩
          case round =>
            clear HS
            obtain ⟨k, hk, rfl, rfl, hst⟩ := hrel
            obtain ⟨T, hT⟩ : ∃ T, T = (firsts js ns k).length := ⟨_, rfl⟩
            have HT : Hid (T = (firsts js ns k).length) := hT
            rw [← hT]
            have hTk : T ≤ k := by rw [hT]; exact firsts_len js ns k
            clear hT
            by_cases hlt : k < q
            · obtain ⟨b1, o1, hb1, hl1, hc1⟩ := H4.out (by omega)
              obtain ⟨b2, o2, hb2, hl2, hc2⟩ := H5.out (by omega)
              subst hb1 hb2
              obtain ⟨v, hs, hkp⟩ := hst.out
              have k1 : ∀ i, i < q → wr.cell? ⟨b1, o1 + i, none⟩ = some (.int .i64 (js.getD i 0)) := fun i hi => (hkp.below.cell (p := ⟨b1, o1 + i, none⟩) hl1).trans (hc1 i hi)
              have k2 : ∀ i, i < q → wr.cell? ⟨b2, o2 + i, none⟩ = some (.int .i64 (ns.getD i 0)) := fun i hi => (hkp.below.cell (p := ⟨b2, o2 + i, none⟩) hl2).trans (hc2 i hi)
              have F := first_calls b1 o1 c4 b2 o2 c5 q k js ns wr hn hlt k1 k2
              cases hf : firstB js ns k
              · rw [hf] at F
                have HN : Hid ((firsts js ns (k + 1)).length = T) := (firsts_step_no js ns k hf).trans HT.out.symm
                clear hc1 hc2 k1 k2 hf hs hkp
                go_wp2_with fail
                refine F.mono ?_
                rintro e w7 ⟨rfl, z, rfl⟩
                go_wp2
                go_roundw
                case rel => exact ⟨k + 1, by omega, by go_num, by rw [HN.out], hst.out.drewN⟩
                case measure => simp [intOf]; omega
              · rw [hf] at F
                have HN : Hid ((firsts js ns (k + 1)).length = T + 1) := by
                  have := firsts_step_yes js ns k hf
                  rw [← HT.out] at this
                  exact this
                have P := part_at js ns HJ.out k q hlt hf
                rw [← HT.out, ← Hm.out] at P
                obtain ⟨P1, P2⟩ := P
                obtain ⟨g, cp, p0, p1, p2⟩ := hs.part T (by have := Hm.out; omega)
                rw [P2] at p1 p2
                rw [← Hm.out] at p0
                have e2 := k2 k hlt
                obtain ⟨y, hy⟩ : ∃ y, y = ns.getD k 0 := ⟨_, rfl⟩
                rw [← hy] at e2 p1 p2
                have hP1 : (T : Int) < m := by omega
                have SM := fun (w8 : World) (c8 : ∀ a, w8.cell? a = wr.cell? a) => sum_calls b1 o1 c4 b2 o2 c5 q js ns y w8 hn (fun i hi => (c8 _).trans (k1 i hi)) (fun i hi => (c8 _).trans (k2 i hi))
                obtain ⟨x, hx⟩ : ∃ x, x = sumTo js ns y q := ⟨_, rfl⟩
                rw [← hx] at p1 SM
                have HSM : Hid (∀ (w8 : World), (∀ a, w8.cell? a = wr.cell? a) → Calls Try.prog 14 #[.slice (some ⟨b1, o1, none⟩) q c4, .slice (some ⟨b2, o2, none⟩) q c5, .int .i64 y] w8 fun e w' => e = .returned (.int .i64 x) ∧ w' = w8) := SM
                clear hc1 hc2 k1 k2 hf hs hkp P2 hy hx SM
                go_wp2_with fail
                refine F.mono ?_
                rintro e w7 ⟨rfl, z, rfl⟩
                go_wp2_with fail
                refine (part_calls w'.heap.size g m cp T x y (wr.drewN z) P1 (by omega) (by exact p0) (by exact p1) (by exact p2)).mono ?_
                rintro e w8 ⟨rfl, z', rfl⟩
                go_wp2_with fail
                refine (HSM.out (wr.drewN (z + z')) (fun a => rfl)).mono ?_
                rintro e w9 ⟨rfl, rfl⟩
                go_wp2
                go_roundw
                case rel => exact ⟨k + 1, by omega, by go_num, by rw [HN.out]; go_num, hst.out.drewN⟩
                case measure => simp [intOf]; omega
            · have hkq : k = q := by omega
              subst hkq
              have hTm : T = m := by rw [HT.out, Hm.out, len_all js ns HJ.out]
              subst hTm
              obtain ⟨v, hs, hkp⟩ := hst.out
              have hb := hkp.below
              clear hs hkp hst
              go_wp2
              go_ret
              exact ⟨by simp, hb⟩

end Go.Proofs.Qxb6613294a
