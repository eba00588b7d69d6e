/- THE WALK OF FnSpanClearRebuildRoundTrip. -/
import Derived.Test.Qxb6613294aRowsOf
import Derived.Deep.RegionWith
namespace Go.Proofs.Qxb6613294a
open Go.RowKit
set_option linter.unusedVariables false

theorem Try.info2 : (Try.prog.info? 2).map (fun i => (i.zero, i.size, i.bytes)) = some (some (.int .i64 0), 1, 8) := by kernel_rfl

def okB (l m : Nat) : Bool := decide (l + m ≤ 1048576)

theorem bytes15 (a b : Int) (a2 a3 : Option Addr) (l2 c2 l3 c3 : Nat) (w : World) (h2 : l2 ≤ maxLen) (h3 : l3 ≤ maxLen) :
    Calls Try.prog 15 #[.int .i64 a, .int .i64 b, .slice a2 l2 c2, .slice a3 l3 c3] w fun e w' => e = .returned (.bool (okB l2 l3)) ∧ w' = w := by
  unfold maxLen at h2 h3
  by_cases k2 : l2 ≤ 1048576
  · by_cases k3 : l3 ≤ 1048576
    · by_cases k4 : l2 + l3 ≤ 1048576
      · have e : Hid (okB l2 l3 = true) := decide_eq_true k4
        go_enter Try.func15, Try.ntmps15
        go_wp2
        go_ret
        exact ⟨by rw [e.out]; rfl, rfl⟩
      · have e : Hid (okB l2 l3 = false) := decide_eq_false k4
        go_enter Try.func15, Try.ntmps15
        go_wp2
        go_ret
        exact ⟨by rw [e.out]; rfl, rfl⟩
    · have e : Hid (okB l2 l3 = false) := decide_eq_false (by omega)
      go_enter Try.func15, Try.ntmps15
      go_wp2
      go_ret
      exact ⟨by rw [e.out]; rfl, rfl⟩
  · have e : Hid (okB l2 l3 = false) := decide_eq_false (by omega)
    go_enter Try.func15, Try.ntmps15
    go_wp2
    go_ret
    exact ⟨by rw [e.out]; rfl, rfl⟩

theorem early (a b : Int) (a2 a3 : Option Addr) (l2 c2 l3 c3 : Nat) (w : World) (h2 : l2 ≤ maxLen) (h3 : l3 ≤ maxLen) (h : ¬ (l2 ≤ 4096 ∧ l2 = l3)) :
    Calls Try.prog 4 #[.int .i64 a, .int .i64 b, .slice a2 l2 c2, .slice a3 l3 c3] w fun e w' => e = .returned (.bool true) ∧ w' = w := by
  have B := bytes15 a b a2 a3 l2 c2 l3 c3 w h2 h3
  unfold maxLen at h2 h3
  obtain ⟨t, ht⟩ : ∃ t, okB l2 l3 = t := ⟨_, rfl⟩
  rw [ht] at B
  cases t
  · go_enter Try.func4, Try.ntmps4
    go_wp2_with fail
    refine B.mono ?_
    rintro e w' ⟨rfl, rfl⟩
    go_wp2
    go_ret
    exact ⟨rfl, rfl⟩
  · by_cases k2 : l2 ≤ 4096
    · by_cases k3 : l3 ≤ 4096
      · have k4 : ((l2 : Int) != (l3 : Int)) = true := by rw [bne_iff_ne]; omega
        go_enter Try.func4, Try.ntmps4
        go_wp2_with fail
        refine B.mono ?_
        rintro e w' ⟨rfl, rfl⟩
        go_wp2
        go_ret
        exact ⟨rfl, rfl⟩
      · go_enter Try.func4, Try.ntmps4
        go_wp2_with fail
        refine B.mono ?_
        rintro e w' ⟨rfl, rfl⟩
        go_wp2
        go_ret
        exact ⟨rfl, rfl⟩
    · go_enter Try.func4, Try.ntmps4
      go_wp2_with fail
      refine B.mono ?_
      rintro e w' ⟨rfl, rfl⟩
      go_wp2
      go_ret
      exact ⟨rfl, rfl⟩

theorem first_has (w : World) (a b : Int) (js ns : List Int) : Has w.heap.size a b (bld js ns 0) w (w.alloc (.cells #[.int .i64 a, .int .i64 b, .slice none 0 0] 37)) :=
  ⟨_, SpanAt.fresh w a b, (Below.refl _ _).alloc (Nat.le_refl _) _, fun k c T r hk _ _ => by rw [Below.heap_alloc _ _ _ (Array.getElem?_eq_some_iff.1 hk).1]; exact hk⟩

theorem has_step {S : Nat} {a b : Int} {ps : List (Int × Int)} {w wr w2 : World} (k : Kp S w wr) (h : Has S a b ps wr.drew w2) : Has S a b ps w w2 := by
  obtain ⟨v, h1, h2⟩ := h
  exact ⟨v, h1, k.trans ((Kp.refl S wr).drewN (n := 1) |>.trans h2)⟩

set_option maxHeartbeats 4000000 in
set_option maxRecDepth 100000 in
theorem main_walk (a b : Int) (a2 a3 : Option Addr) (n c2 c3 : Nat) (js ns : List Int) (w : World) (hn : n ≤ 4096)
    (h2 : Ints w a2 n js) (h3 : Ints w a3 n ns) :
    Calls Try.prog 4 #[.int .i64 a, .int .i64 b, .slice a2 n c2, .slice a3 n c3] w fun e w' => e = .returned (.bool true) ∧ Below w.heap.size w w' := by
  have B := bytes15 a b a2 a3 n c2 n c3 w (by unfold maxLen; omega) (by unfold maxLen; omega)
  rw [show okB n n = true from decide_eq_true (by omega)] at B
  have H2 : Hid (Ints w a2 n js) := h2
  have H3 : Hid (Ints w a3 n ns) := h3
  clear h2 h3
  obtain ⟨i0, hi, hz0, hz1, hz2⟩ := info_parts Try.info2
  go_enter Try.func4, Try.ntmps4
  go_wp2_with fail
  refine B.mono ?_
  rintro e w' ⟨rfl, rfl⟩
  clear B
  go_wp2_with fail
  refine (new_calls a b w').mono ?_
  rintro e w1 ⟨rfl, hw1⟩
  have h0 : Has w'.heap.size a b (bld js ns 0) w' w1 := by
    subst hw1
    exact first_has _ _ _ _ _
  clear hw1
  go_wp2_with fail
  go_loopw [10] (fun i wr => ∃ k : Nat, k ≤ n ∧ i = .int .i64 k ∧ Has w'.heap.size a b (bld js ns k) w' wr) (fun i _ => n - (intOf i).toNat)
  case atStart => exact ⟨0, Nat.zero_le _, rfl, h0⟩
  case round =>
    clear h0
    obtain ⟨k, hk, rfl, v, hs, hkp⟩ := hrel
    by_cases hlt : k < n
    · obtain ⟨b1, o1, hb1, hl1, hc1⟩ := H2.out (by omega)
      obtain ⟨b2, o2, hb2, hl2, hc2⟩ := H3.out (by omega)
      subst hb1 hb2
      have e1 := (hkp.below.cell (p := ⟨b1, o1 + k, none⟩) hl1).trans (hc1 k hlt)
      have e2 := (hkp.below.cell (p := ⟨b2, o2 + k, none⟩) hl2).trans (hc2 k hlt)
      obtain ⟨x, hx⟩ : ∃ x, x = js.getD k 0 := ⟨_, rfl⟩
      obtain ⟨y, hy⟩ : ∃ y, y = ns.getD k 0 := ⟨_, rfl⟩
      rw [← hx] at e1
      rw [← hy] at e2
      have HB : Hid (bld js ns (k + 1) = addP (bld js ns k) x y) := by rw [hx, hy]; rfl
      have hlen := bld_len js ns k
      clear hc1 hc2 hx hy
      have HS : Hid (SpanAt wr w'.heap.size a b v (bld js ns k)) := hs
      clear hs
      go_wp2_with fail
      go_region_with (go_at_call 7; refine (addPart_calls w'.heap.size a b x y v (bld js ns k) wr.drew (by omega) HS.out.drew).mono ?_; rintro e w2 ⟨rfl, hh⟩)
      all_goals
        have R := has_step hkp hh
        rw [← HB.out] at R
        clear hh e1 e2
        go_wp2
        go_roundw
        case rel => exact ⟨k + 1, by omega, by go_num, R⟩
        case measure => simp [intOf]; omega
    · have hkn : k = n := by omega
      subst hkn
      obtain ⟨ps, hps⟩ : ∃ ps, ps = bld js ns k := ⟨_, rfl⟩
      have hlen := bld_len js ns k
      rw [← hps] at hs hlen
      have HP : Hid (ps = bld js ns k) := hps
      clear hps hlt hk
      obtain ⟨ao, cap, hv⟩ := hs.shape
      subst hv
      have cc := (cell3 hs.blk).2.2
      have HS : Hid (SpanAt wr w'.heap.size a b (.slice ao ps.length cap) ps) := hs
      have hws := hs.lt
      obtain ⟨m, hm⟩ : ∃ m, m = ps.length := ⟨_, rfl⟩
      have Hm : Hid (m = ps.length) := hm
      rw [← hm] at cc hlen
      clear hs hm
      have hml : (m : Int) ≤ k := by omega
      go_wp2_with fail
      refine (parts_calls w'.heap.size m cap ao wr cc).mono ?_
      rintro e w2 ⟨rfl, hw2⟩
      subst hw2
      go_wp2_with (first | (at_make; refine wpList_make_full _ rfl (.tmp 63) (.tmp 63) 22 rfl (w'.heap.size + 1) 2 i0 (.int .i64 0) 1 Try.underlying22 hi hz0 hz1 .i64 .i64 m m m rfl rfl rfl rfl (by rw [hz2]; omega) (by unfold maxLen; omega) (by omega) ?_; intro w3 ho3 hg3) | (at_make; refine wpList_make_full _ rfl (.tmp 65) (.tmp 65) 22 rfl (w'.heap.size + 1) 2 i0 (.int .i64 0) 1 Try.underlying22 hi hz0 hz1 .i64 .i64 m m m rfl rfl rfl rfl (by rw [hz2]; omega) (by unfold maxLen; omega) (by have := hg3.size; omega) ?_; intro w4 ho4 hg4))
      have hJ : w2.heap.size < w3.heap.size := (Row.made ho3).lt
      have hst : ∃ v, St w' w'.heap.size w2.heap.size w3.heap.size m a b v ps (cpJ ps 0) (cpN ps 0) w4 := by
        rw [cpJ_zero, cpN_zero]
        exact ⟨_, (HS.out.grown hg3).grown hg4, (Row.made ho3).grown hg4, Row.made ho4, (hkp.below.grown hg3 (by omega) (fun _ h => by cases h)).grown hg4 (by have := hg3.size; omega) (fun _ h => by cases h), by omega, by omega, by omega⟩
      obtain ⟨J, hJe⟩ : ∃ J, J = w2.heap.size := ⟨_, rfl⟩
      obtain ⟨N, hNe⟩ : ∃ N, N = w3.heap.size := ⟨_, rfl⟩
      rw [← hJe, ← hNe] at hst
      rw [← hJe, ← hNe]
      have HST : Hid (∃ v, St w' w'.heap.size J N m a b v ps (cpJ ps 0) (cpN ps 0) w4) := hst
      clear hst hJe hNe hJ ho3 hg3 ho4 hg4 cc HS hkp hws
      go_loopw [14] (fun i wr => ∃ t : Nat, t ≤ m ∧ i = .int .i64 t ∧ Hid (∃ v, St w' w'.heap.size J N m a b v ps (cpJ ps t) (cpN ps t) wr)) (fun i _ => m - (intOf i).toNat)
      case atStart => exact ⟨0, Nat.zero_le _, rfl, HST⟩
      case round =>
        clear HST
        obtain ⟨t, ht, rfl, hst⟩ := hrel
        obtain ⟨v, st⟩ := hst.out
        by_cases hlt : t < m
        · obtain ⟨g, cp, p0, p1, p2⟩ := st.sp.part t (by have := Hm.out; omega)
          rw [← Hm.out] at p0
          obtain ⟨x, hx⟩ : ∃ x, x = (ps.getD t (0, 0)).1 := ⟨_, rfl⟩
          obtain ⟨y, hy⟩ : ∃ y, y = (ps.getD t (0, 0)).2 := ⟨_, rfl⟩
          rw [← hx] at p1
          rw [← hy] at p2
          have HX : Hid (x = (ps.getD t (0, 0)).1) := hx
          have HY : Hid (y = (ps.getD t (0, 0)).2) := hy
          have q1 := st.rj.cell t hlt
          have q2 := st.rn.cell t hlt
          have f1 := st.rj.frozen t
          have f2 := st.rn.frozen t
          have hjn := st.jn
          obtain ⟨x', hx'⟩ : ∃ x', x' = cpJ ps t t := ⟨_, rfl⟩
          obtain ⟨y', hy'⟩ : ∃ y', y' = cpN ps t t := ⟨_, rfl⟩
          rw [← hx'] at q1
          rw [← hy'] at q2
          have HSt : Hid (St w' w'.heap.size J N m a b v ps (cpJ ps t) (cpN ps t) wr) := st
          clear st hst hx hy hx' hy'
          go_wp2_with fail
          refine (part_calls w'.heap.size g m cp t x y wr hlt (by omega) p0 p1 p2).mono ?_
          rintro e w5 ⟨rfl, q, rfl⟩
          go_wp2
          go_roundw
          case rel =>
            refine ⟨t + 1, by omega, by go_num, v, ?_⟩
            rw [cpJ_succ, cpN_succ, ← HX.out, ← HY.out]
            exact (HSt.out.drewN (q := q)).setJN t x y
          case measure => simp [intOf]; omega
        · have htm : t = m := by omega
          subst htm
          go_wp2_with fail
          refine (clear_calls w'.heap.size a b v ps wr st.sp).mono ?_
          rintro e w5 ⟨rfl, hh⟩
          obtain ⟨v5, st5⟩ := st.has hh
          have d := cell3 st5.sp.blk
          obtain ⟨ao5, cap5, hv5⟩ := st5.sp.shape
          subst hv5
          have d0 := d.1
          have d1 := d.2.1
          have d2 : w5.cell? ⟨w'.heap.size, 2, none⟩ = some (.slice ao5 0 cap5) := d.2.2
          have hst5 : Hid (∃ v, St w' w'.heap.size J N t 0 0 v (bld js ns 0) (cpJ ps t) (cpN ps t) w5) := ⟨_, st5⟩
          clear st st5 hh hst d ht hlt
          go_wp2_with (first | (go_at_call 9; refine (services_calls w'.heap.size 0 w5 d0).mono ?_; rintro e w6 ⟨rfl, rfl⟩) | (go_at_call 10; refine (whole_calls w'.heap.size 0 _ d1).mono ?_; rintro e w6 ⟨rfl, rfl⟩) | (go_at_call 11; refine (parts_calls w'.heap.size 0 cap5 ao5 _ d2).mono ?_; rintro e w6 ⟨rfl, rfl⟩))
          go_loopw [17] (fun i wr => ∃ q : Nat, q ≤ k ∧ i = .int .i64 q ∧ Hid (∃ v, St w' w'.heap.size J N t 0 0 v (bld js ns q) (cpJ ps t) (cpN ps t) wr)) (fun i _ => k - (intOf i).toNat)
          case atStart => exact ⟨0, Nat.zero_le _, rfl, hst5⟩
          case round =>
            clear hst5 d0 d1 d2
            obtain ⟨q, hq, rfl, hst⟩ := hrel
            obtain ⟨v, st⟩ := hst.out
            by_cases hlt : q < k
            · obtain ⟨b1, o1, hb1, hl1, hc1⟩ := H2.out (by omega)
              obtain ⟨b2, o2, hb2, hl2, hc2⟩ := H3.out (by omega)
              subst hb1 hb2
              have e1 := (st.bel.cell (p := ⟨b1, o1 + q, none⟩) hl1).trans (hc1 q hlt)
              have e2 := (st.bel.cell (p := ⟨b2, o2 + q, none⟩) hl2).trans (hc2 q hlt)
              obtain ⟨x, hx⟩ : ∃ x, x = js.getD q 0 := ⟨_, rfl⟩
              obtain ⟨y, hy⟩ : ∃ y, y = ns.getD q 0 := ⟨_, rfl⟩
              rw [← hx] at e1
              rw [← hy] at e2
              have HB : Hid (bld js ns (q + 1) = addP (bld js ns q) x y) := by rw [hx, hy]; rfl
              have hlen := bld_len js ns q
              clear hc1 hc2 hx hy hst
              have HS : Hid (St w' w'.heap.size J N t 0 0 v (bld js ns q) (cpJ ps t) (cpN ps t) wr) := st
              clear st
              go_wp2_with fail
              go_region_with (go_at_call 7; refine (addPart_calls w'.heap.size 0 0 x y v (bld js ns q) wr.drew (by omega) HS.out.sp.drew).mono ?_; rintro e w2 ⟨rfl, hh⟩)
              all_goals
                have R := HS.out.drew.has hh
                rw [← HB.out] at R
                have HR : Hid (∃ v, St w' w'.heap.size J N t 0 0 v (bld js ns (q + 1)) (cpJ ps t) (cpN ps t) w2) := R
                clear hh e1 e2 R
                go_wp2
                go_roundw
                case rel => exact ⟨q + 1, by omega, by go_num, HR⟩
                case measure => simp [intOf]; omega
            · have hqn : q = k := by omega
              subst hqn
              rw [← HP.out] at st
              obtain ⟨ao6, cap6, hv6⟩ := st.sp.shape
              subst hv6
              have d2 := (cell3 st.sp.blk).2.2
              rw [← Hm.out] at d2
              rw [← HP.out] at hst
              clear st hlt hq
              go_wp2_with fail
              refine (parts_calls w'.heap.size t cap6 ao6 wr d2).mono ?_
              rintro e w6 ⟨rfl, rfl⟩
              clear d2
              go_wp2_with fail
              go_loopw [18] (fun i wr => ∃ z : Nat, z ≤ t ∧ i = .int .i64 z ∧ Hid (∃ v, St w' w'.heap.size J N t 0 0 v ps (cpJ ps t) (cpN ps t) wr)) (fun i _ => t - (intOf i).toNat)
              case atStart => exact ⟨0, Nat.zero_le _, rfl, hst⟩
              case round =>
                clear hst
                obtain ⟨z, hz, rfl, hst⟩ := hrel
                obtain ⟨v, st⟩ := hst.out
                by_cases hlt : z < t
                · obtain ⟨g, cp, p0, p1, p2⟩ := st.sp.part z (by have := Hm.out; omega)
                  rw [← Hm.out] at p0
                  have q1 := st.rj.cell z hlt
                  have q2 := st.rn.cell z hlt
                  rw [cpJ_at ps t z hlt] at q1
                  rw [cpN_at ps t z hlt] at q2
                  obtain ⟨x, hx⟩ : ∃ x, x = (ps.getD z (0, 0)).1 := ⟨_, rfl⟩
                  obtain ⟨y, hy⟩ : ∃ y, y = (ps.getD z (0, 0)).2 := ⟨_, rfl⟩
                  rw [← hx] at p1 q1
                  rw [← hy] at p2 q2
                  have HSt : Hid (∃ v, St w' w'.heap.size J N t 0 0 v ps (cpJ ps t) (cpN ps t) wr) := hst
                  clear st hst hx hy
                  go_wp2_with fail
                  refine (part_calls w'.heap.size g t cp z x y wr hlt (by omega) p0 p1 p2).mono ?_
                  rintro e w5 ⟨rfl, q, rfl⟩
                  go_wp2
                  go_roundw
                  case rel =>
                    refine ⟨z + 1, by omega, by go_num, ?_⟩
                    obtain ⟨v, st⟩ := HSt.out
                    exact ⟨v, st.drewN⟩
                  case measure => simp [intOf]; omega
                · have hb := st.bel
                  clear st hst
                  go_wp2
                  go_ret
                  exact ⟨rfl, hb⟩

end Go.Proofs.Qxb6613294a
