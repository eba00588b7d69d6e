/- THE CONTRACTS OF THE SPAN's FUNCTIONS. -/
import Derived.Test.Qxb6613294aParts
import Derived.WalkLawsBesides
import Derived.WalkSpells
namespace Go.Proofs.Qxb6613294a
open Go.RowKit
set_option linter.unusedVariables false

theorem Try.info40 : (Try.prog.info? 40).map (fun i => (i.zero, i.size, i.bytes)) = some (some (.agg #[.int .i64 0, .int .i64 0]), 2, 16) := by kernel_rfl

/-- behind a step the span holds ps, and nothing else has turned -/
def Has (S : Nat) (a b : Int) (ps : List (Int × Int)) (w w' : World) : Prop := ∃ v', SpanAt w' S a b v' ps ∧ Kp S w w'

theorem add_zero (p : Value) (m : Int) (w : World) :
    Calls Try.prog 16 #[p, .int .i64 0, .int .i64 m] w fun e w' => e = .returned (.tuple #[]) ∧ w' = w := by
  go_enter Try.func16, Try.ntmps16
  go_wp2
  refine bodyPost_ret (results_none rfl _ _ _) rfl ?_
  exact ⟨rfl, rfl⟩

set_option maxHeartbeats 800000 in
theorem add_some (S g cap : Nat) (a b j m : Int) (ps : List (Int × Int)) (w : World) (hn : ps.length ≤ 4096) (hcap : cap ≤ maxLen) (hg : S + 1 ≤ g)
    (h : SpanAt w S a b (.slice (some ⟨g, 0, none⟩) ps.length cap) ps) (hj : (j == 0) = false) :
    Calls Try.prog 16 #[.pointer (some ⟨S, 0, none⟩), .int .i64 j, .int .i64 m] w fun e w' => e = .returned (.tuple #[]) ∧ Has S a b (addP ps j m) w w' := by
  have H := h
  have c2 := (cell3 h.blk).2.2
  have hlt := h.lt
  have hc := h.cells
  have hff := h.own.frozenAt
  have hj0 : ¬ j = 0 := by simpa using hj
  have HA : Hid (addP ps j m = upd j m ps) := by show addP ps j m = upd j m ps; unfold addP; rw [if_neg hj0]
  have Hn : Hid (ps.length = ps.length) := rfl
  obtain ⟨i0, hi, hz0, hz1, hz2⟩ := info_parts Try.info40
  have HH : Hid (SpanAt w S a b (.slice (some ⟨g, 0, none⟩) ps.length cap) ps) := H
  have HC : Hid (∀ k, k < ps.length → w.cell? ⟨g, k * 2, none⟩ = some (.int .i64 (ps.getD k (0, 0)).1) ∧ w.cell? ⟨g, k * 2 + 1, none⟩ = some (.int .i64 (ps.getD k (0, 0)).2)) := hc
  clear h H hc hj0 Hn
  go_enter Try.func16, Try.ntmps16
  go_wp2
  go_loop [14] (fun i => ∃ k : Nat, k ≤ ps.length ∧ i = .int .i64 k ∧ Hid (noneB ps m k)) (fun i => ps.length - (intOf i).toNat)
  case atStart => exact ⟨0, Nat.zero_le _, rfl, fun i hi => by omega⟩
  case round =>
    obtain ⟨k, hk, rfl, hno⟩ := hrel
    by_cases hlt : k < ps.length
    · have ⟨h0, h1⟩ := HC.out k hlt
      have hit := fun x => HH.out.hit k hlt x hg
      obtain ⟨x, hx⟩ : ∃ x, x = (ps.getD k (0, 0)).1 := ⟨_, rfl⟩
      obtain ⟨y, hy⟩ : ∃ y, y = (ps.getD k (0, 0)).2 := ⟨_, rfl⟩
      rw [← hx] at h0
      rw [← hy] at h1
      have Hit : Hid (∀ x, SpanAt (w.setCell ⟨g, k * 2, none⟩ (.int .i64 x)) S a b (.slice (some ⟨g, 0, none⟩) ps.length cap) (ps.set k (x, (ps.getD k (0, 0)).2)) ∧ Kp S w (w.setCell ⟨g, k * 2, none⟩ (.int .i64 x))) := hit
      have HX : Hid (x = (ps.getD k (0, 0)).1) := hx
      have HY : Hid (y = (ps.getD k (0, 0)).2) := hy
      clear hit hx hy
      by_cases hym : y = m
      · have hb : (y == m) = true := by simpa using hym
        have HM : Hid (y = m) := hym
        clear hym
        go_wp2
        refine bodyPost_ret (results_none rfl _ _ _) rfl ?_
        refine ⟨rfl, .slice (some ⟨g, 0, none⟩) ps.length cap, ?_⟩
        rw [HA.out, upd_hit j m ps k hlt hno.out (HY.out.symm.trans HM.out), ← HX.out]
        exact Hit.out _
      · have hb : (y == m) = false := by simpa using hym
        go_wp2
        go_round
        case rel =>
          refine ⟨k + 1, by omega, by go_num, ?_⟩
          intro i hi
          by_cases hik : i = k
          · subst hik; rw [← HY.out]; exact hym
          · exact hno.out i (by omega)
        case measure => simp [intOf]; omega
    · have hkn : k = ps.length := by omega
      subst hkn
      go_wp2_with (at_builtin; refine wpList_append_own _ rfl (.tmp 44) (.tmp 48) 35 rfl (S + 1) 40 i0 (.agg #[.int .i64 0, .int .i64 0]) 2 16 Try.underlying35 hi hz0 hz1 hz2 rfl (by decide) _ _ (flat ps) rfl (HH.out.own.alloc _) ⟨w.heap.size, 0, none⟩ 1 1 [.int .i64 j, .int .i64 m] rfl rfl ?c1 ?c2 ?c3 ?c4 ?c5 ?_)
      case c2 => exact ⟨rfl, rfl⟩
      case c3 => unfold maxLen; omega
      case c4 => omega
      case c5 => omega
      intro v' w1 hown hgrow _
      have R := HH.out.grow hown hgrow
      obtain ⟨g', cap', hv⟩ : ∃ g' cap', v' = .slice (some ⟨g', 0, none⟩) (ps.length + 1) cap' := by
        rcases hown.2 with ⟨_, h⟩ | ⟨g', cap', _, h, _⟩
        · omega
        · exact ⟨g', cap', h⟩
      subst hv
      have hS : w1.heap[S]? = some (.cells #[.int .i64 a, .int .i64 b, .slice (some ⟨g, 0, none⟩) ps.length cap] 37 (0, 0)) := by
        rw [hgrow.block S (by simp; omega) (by simp [Value.ownBlock]; omega), Below.heap_alloc _ _ _ (by omega)]
        exact HH.out.blk
      have k2 := (cell3 hS).2.2
      have f2 := froz3 hS 2
      have HR : Hid (SpanAt (w1.setCell ⟨S, 2, none⟩ (.slice (some ⟨g', 0, none⟩) (ps.length + 1) cap')) S a b (.slice (some ⟨g', 0, none⟩) (ps.length + 1) cap') (ps ++ [(j, m)]) ∧ Kp S w (w1.setCell ⟨S, 2, none⟩ (.slice (some ⟨g', 0, none⟩) (ps.length + 1) cap'))) := R
      clear R hown hgrow hS
      go_wp2
      go_end0
      refine ⟨rfl, .slice (some ⟨g', 0, none⟩) (ps.length + 1) cap', ?_⟩
      rw [HA.out, upd_miss j m ps hno.out]
      exact HR.out

set_option maxHeartbeats 800000 in
theorem add_nil (S : Nat) (a b j m : Int) (w : World) (h : SpanAt w S a b (.slice none 0 0) []) (hj : (j == 0) = false) :
    Calls Try.prog 16 #[.pointer (some ⟨S, 0, none⟩), .int .i64 j, .int .i64 m] w fun e w' => e = .returned (.tuple #[]) ∧ Has S a b (addP [] j m) w w' := by
  have c2 := (cell3 h.blk).2.2
  have hlt := h.lt
  have hj0 : ¬ j = 0 := by simpa using hj
  have HA : Hid (addP [] j m = [(j, m)]) := by show addP [] j m = _; unfold addP; rw [if_neg hj0]; rfl
  obtain ⟨i0, hi, hz0, hz1, hz2⟩ := info_parts Try.info40
  have HH : Hid (SpanAt w S a b (.slice none 0 0) []) := h
  clear h hj0
  go_enter Try.func16, Try.ntmps16
  go_wp2
  refine wp_loop_rounds 1 ?_
  rw [rounds_succ]
  go_wp2_with (at_builtin; refine wpList_append_own _ rfl (.tmp 44) (.tmp 48) 35 rfl (S + 1) 40 i0 (.agg #[.int .i64 0, .int .i64 0]) 2 16 Try.underlying35 hi hz0 hz1 hz2 rfl (by decide) _ 0 [] rfl (HH.out.own.alloc _) ⟨w.heap.size, 0, none⟩ 1 1 [.int .i64 j, .int .i64 m] rfl rfl ?c1 ?c2 ?c3 ?c4 ?c5 ?_)
  case c1 =>
    intro i u hi
    match i, hi with
    | 0, hi => simp at hi; subst hi; simp [Addr.add]
    | 1, hi => simp at hi; subst hi; simp [Addr.add]
  case c2 => intro u hu; simp at hu; rcases hu with rfl | rfl <;> rfl
  case c3 => unfold maxLen; omega
  case c4 => omega
  case c5 => simp; omega
  intro v' w1 hown hgrow _
  have R := HH.out.grow hown hgrow
  obtain ⟨g', cap', hv⟩ : ∃ g' cap', v' = .slice (some ⟨g', 0, none⟩) 1 cap' := by
    rcases hown.2 with ⟨_, h⟩ | ⟨g', cap', _, h, _⟩
    · omega
    · exact ⟨g', cap', h⟩
  subst hv
  have hS : w1.heap[S]? = some (.cells #[.int .i64 a, .int .i64 b, .slice none 0 0] 37 (0, 0)) := by
    rw [hgrow.block S (by simp; omega) (by simp [Value.ownBlock]), Below.heap_alloc _ _ _ (by omega)]
    exact HH.out.blk
  have k2 := (cell3 hS).2.2
  have f2 := froz3 hS 2
  have HR : Hid (SpanAt (w1.setCell ⟨S, 2, none⟩ (.slice (some ⟨g', 0, none⟩) 1 cap')) S a b (.slice (some ⟨g', 0, none⟩) 1 cap') [(j, m)] ∧ Kp S w (w1.setCell ⟨S, 2, none⟩ (.slice (some ⟨g', 0, none⟩) 1 cap'))) := R
  clear R hown hgrow hS
  go_wp2
  go_end0
  refine ⟨rfl, .slice (some ⟨g', 0, none⟩) 1 cap', ?_⟩
  rw [HA.out]
  exact HR.out

theorem add_any (S : Nat) (a b j m : Int) (v : Value) (ps : List (Int × Int)) (w : World) (hn : ps.length ≤ 4096) (h : SpanAt w S a b v ps) :
    Calls Try.prog 16 #[.pointer (some ⟨S, 0, none⟩), .int .i64 j, .int .i64 m] w fun e w' => e = .returned (.tuple #[]) ∧ Has S a b (addP ps j m) w w' := by
  by_cases hj : j = 0
  · subst hj
    refine (add_zero _ _ _).mono fun e w' ⟨h1, h2⟩ => ⟨h1, v, ?_, ?_⟩
    · subst h2; unfold addP; rw [if_pos rfl]; exact h
    · subst h2; exact Kp.refl _ _
  · have hb : (j == 0) = false := by simpa using hj
    rcases h.form with ⟨rfl, rfl⟩ | ⟨g, cap, rfl, hg, _, hc⟩
    · exact add_nil S a b j m w h hb
    · exact add_some S g cap a b j m ps w hn hc hg h hb

/-- ZZspanAddPart -/
theorem addPart_calls (S : Nat) (a b j m : Int) (v : Value) (ps : List (Int × Int)) (w : World) (hn : ps.length ≤ 4096) (h : SpanAt w S a b v ps) :
    Calls Try.prog 7 #[.pointer (some ⟨S, 0, none⟩), .int .i64 j, .int .i64 m] w fun e w' => e = .returned (.tuple #[]) ∧ Has S a b (addP ps j m) w w' := by
  have H : Hid (SpanAt w S a b v ps) := h
  clear h
  go_enter Try.func7, Try.ntmps7
  go_wp2_with fail
  refine (add_any S a b j m v ps w hn H.out).mono ?_
  rintro e w' ⟨rfl, hh⟩
  go_wp2
  go_end0
  exact ⟨rfl, hh⟩

/-- ZZnewSpan -/
theorem new_calls (a b : Int) (w : World) :
    Calls Try.prog 6 #[.int .i64 a, .int .i64 b] w fun e w' => e = .returned (.pointer (some ⟨w.heap.size, 0, none⟩)) ∧ w' = w.alloc (.cells #[.int .i64 a, .int .i64 b, .slice none 0 0] 37) := by
  go_enter Try.func6, Try.ntmps6
  go_wp2
  go_ret
  exact ⟨rfl, rfl⟩

theorem services_calls (S : Nat) (a : Int) (w : World) (c0 : w.cell? ⟨S, 0, none⟩ = some (.int .i64 a)) :
    Calls Try.prog 9 #[.pointer (some ⟨S, 0, none⟩)] w fun e w' => e = .returned (.int .i64 a) ∧ w' = w := by
  go_enter Try.func9, Try.ntmps9
  go_wp2
  go_ret
  exact ⟨rfl, rfl⟩

theorem whole_calls (S : Nat) (a : Int) (w : World) (c0 : w.cell? ⟨S, 1, none⟩ = some (.int .i64 a)) :
    Calls Try.prog 10 #[.pointer (some ⟨S, 0, none⟩)] w fun e w' => e = .returned (.int .i64 a) ∧ w' = w := by
  go_enter Try.func10, Try.ntmps10
  go_wp2
  go_ret
  exact ⟨rfl, rfl⟩

theorem parts_calls (S n cap : Nat) (ao : Option Addr) (w : World) (c0 : w.cell? ⟨S, 2, none⟩ = some (.slice ao n cap)) :
    Calls Try.prog 11 #[.pointer (some ⟨S, 0, none⟩)] w fun e w' => e = .returned (.int .i64 n) ∧ w' = w := by
  go_enter Try.func11, Try.ntmps11
  go_wp2
  go_ret
  exact ⟨rfl, rfl⟩

theorem part_calls (S g n cap k : Nat) (x y : Int) (w : World) (hk : k < n) (hn : n ≤ 4096) (c0 : w.cell? ⟨S, 2, none⟩ = some (.slice (some ⟨g, 0, none⟩) n cap))
    (h0 : w.cell? ⟨g, k * 2, none⟩ = some (.int .i64 x)) (h1 : w.cell? ⟨g, k * 2 + 1, none⟩ = some (.int .i64 y)) :
    Calls Try.prog 13 #[.pointer (some ⟨S, 0, none⟩), .int .i64 k] w fun e w' => e = .returned (.tuple #[.int .i64 x, .int .i64 y]) ∧ ∃ q, w' = w.drewN q := by
  have hk' : (k : Int) < n := by omega
  go_enter Try.func13, Try.ntmps13
  go_wp2
  go_quiet (fail)
  go_wp2
  go_ret2
  exact ⟨rfl, _, rfl⟩

end Go.Proofs.Qxb6613294a
