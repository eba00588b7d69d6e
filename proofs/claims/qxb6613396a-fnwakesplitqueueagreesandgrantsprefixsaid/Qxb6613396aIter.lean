/- line, within: a range over a function, at a top-level transaction. -/
import Derived.Test.Qxb6613396aRows
import Derived.RangeFuncNested
import Derived.RangeFuncBound
import Derived.RangeFuncCalls
import Derived.RangeFuncLeaves
import Derived.Shelf.Abstract
import Derived.Shelf.RegionOpen
import Derived.WalkKit
import Derived.OwnWalkIn
import Derived.TacticsInMore
import Derived.LoopNIn
import Derived.LoopIn
namespace Go.Proofs.Qxb6613396a
open Go.RowKit Go.Shelf
attribute [local go_sem] Oper.semAt_some
set_option linter.unusedVariables false

/-- a pointer to the head of block b -/
abbrev Pt (b : Nat) : Value := .pointer (some ⟨b, 0, none⟩)

theorem line_in (F : Fence) (n : Nat) (h39 : F.fn 39) (hro : F.round = none) (T : Nat) (w : World) :
    CallsIn F n Try.prog 39 #[.pointer (some ⟨T, 0, none⟩)] w fun e w' => e = .returned (.func (.func 40) #[] #[.pointer (some ⟨w.heap.size, 0, none⟩)]) ∧ w' = w.alloc (.cells #[.pointer (some ⟨T, 0, none⟩)] 63) := by
  refine callsIn_of_wp Try.func39 rfl h39 ?_ hro
  simp only [Try.ntmps39, List.size_toArray, List.length_cons, List.length_nil, Nat.reduceAdd, Nat.reduceSub, Array.replicate_succ, Array.replicate_zero, List.push_toArray, List.append_toArray, List.nil_append, List.cons_append]
  gi_wp2
  go_ret
  exact ⟨rfl, rfl⟩

/-- what is still to come of the line -/
def ptrLeft : Value → Nat | .pointer (some _) => 1 | _ => 0

set_option maxRecDepth 100000 in
set_option maxHeartbeats 1000000 in
theorem line1_in (F : Fence) (n : Nat) (h40 : F.fn 40) (hro : F.round = none) (hn : 1 ≤ n) (l Bn n₀ T : Nat) (J Jx : List Unit → World → Prop)
    (hY : ∀ pre x W, J pre W → pre.length < 1 → YieldAt F (n - 1) Try.prog l #[.pointer (some ⟨T, 0, none⟩)] W fun e W' =>
      (e = .returned (.bool true) ∧ J (pre ++ [x]) W' ∧ Below n₀ W W') ∨ (e = .returned (.bool false) ∧ Jx (pre ++ [x]) W'))
    (W : World) (hBn : W.cell? ⟨Bn, 0, none⟩ = some (.pointer (some ⟨T, 0, none⟩))) (hT : T < n₀) (hP : W.cell? ⟨T, 1, none⟩ = some (.pointer none)) (h0 : J [] W) :
    CallsIn F n Try.prog 40 #[.func (.yield l) #[] #[], .pointer (some ⟨Bn, 0, none⟩)] W fun e W' => (∃ v, e = .returned v) ∧
      ((∃ ys, ys = [()] ∧ J ys W') ∨ (∃ pre, pre = [()] ∧ Jx pre W')) := by
  refine callsIn_of_wp Try.func40 rfl h40 ?_ hro
  simp only [Try.ntmps40, List.size_toArray, List.length_cons, List.length_nil, Nat.reduceAdd, Nat.reduceSub, Array.replicate_succ, Array.replicate_zero, List.push_toArray, List.append_toArray, List.nil_append, List.cons_append]
  gi_wp2
  gi_loopw [3] (fun p wr => (p = .pointer (some ⟨T, 0, none⟩) ∧ J [] wr ∧ wr.cell? ⟨T, 1, none⟩ = some (.pointer none)) ∨ (p = .pointer none ∧ J [()] wr))
    (fun p _ => ptrLeft p)
  case atStart => exact .inl ⟨rfl, h0, hP⟩
  case round =>
    rcases hrel with ⟨rfl, hJ, hP'⟩ | ⟨rfl, hJ⟩
    · obtain ⟨fn, tmps, assign, body, hy, hR⟩ := hY [] () wr hJ (by simp)
      gi_wp2
      refine hR.mono ?_
      rintro e W3 (⟨rfl, hJ3, hk3⟩ | ⟨rfl, hJx3⟩)
      · have hq3 : W3.cell? ⟨T, 1, none⟩ = some (.pointer none) := (hk3.cell (p := ⟨T, 1, none⟩) hT).trans hP'
        gi_wp2
        go_roundw
        case rel => exact .inr ⟨rfl, hJ3⟩
        case measure => simp [ptrLeft]
      · gi_wp2
        refine bodyPost_ret (results_none rfl _ _ _) rfl ?_
        exact ⟨⟨_, rfl⟩, .inr ⟨_, rfl, hJx3⟩⟩
    · gi_wp2
      go_end0
      exact ⟨⟨_, rfl⟩, .inl ⟨_, rfl, hJ⟩⟩

theorem line_stops (F : Fence) (n : Nat) (h40 : F.fn 40) (hro : F.round = none) (hn : 1 ≤ n) (Bn n₀ T : Nat) (w : World) (hB : Bn < w.heap.size) (hn0 : n₀ ≤ w.heap.size)
    (hBn : w.cell? ⟨Bn, 0, none⟩ = some (.pointer (some ⟨T, 0, none⟩))) (hT : T < n₀) (hP : w.cell? ⟨T, 1, none⟩ = some (.pointer none)) :
    SeqStopsK F n Try.prog 40 #[.pointer (some ⟨Bn, 0, none⟩)] (fun _ : Unit => #[.pointer (some ⟨T, 0, none⟩)]) (Below n₀) (fun ys => ys = [()]) (fun pre => pre = [()]) 1 w :=
  fun l J Jx W hW hJ hJx hY h0 => line1_in F n h40 hro hn l Bn n₀ T J Jx hY W ((hW.cell (p := ⟨Bn, 0, none⟩) hB).trans hBn) hT ((hW.cell (p := ⟨T, 1, none⟩) (Nat.lt_of_lt_of_le hT hn0)).trans hP) h0

end Go.Proofs.Qxb6613396a
