/-
  No cell of these rows narrows 'for every input' (looked for: loops, veiled, ifaces, maps, wideKeys, modest, calm, conditions, laid).
  DERIVED. THE GIVEN ROWS OF THIS SEAT. 2 by the template 'for every input the law returns true; each argument reads behind the call as it read before'; 0 by the template 'total and deterministic' (their statements: Qxb6613440aTotals.lean).
  GIVEN WITH THE SEED: the statements are not yours to turn. If you find one false, say at which input.
  Laid BY PROGRAM, IN A SANDBOX (cutbox-rows.mjs): the forced cells as the released guide's own fill.sh prints them over the translation 9ae8dc60251e1f06… (all of the seat's roots in one cut). By AI agents, Wed Nov 11 2026. No macro, syntax, notation, axiom, sorry.
-/
import Derived.Test.Qxb6613440aChecked
import GoSem.Claim
import GoSem.ClaimJoined
import GoSem.ClaimMapViews
import Derived.JoinedTies
import Derived.KernelRfl
namespace Go.Proofs.Qxb6613440a
/- THE CELL 'sum', in the pinned program and in every row, IS THE sha256 OF THE DUMP (.gsa) THAT Qxb6613440aProg.lean LOADS. Nothing in Lean hashes anything: it is a label: what it is worth is what the hold of that sum in a sandbox is worth. -/
noncomputable def Try.pinned : Pinned := { name := "qxb6613440a", sum := "9ae8dc60251e1f06c96b03060bb2d1ff1948db71e8425e0628106593e0e932f0", checked := Try.checked }
namespace Rows
def none {H : Type} : Left H := { results := [], args := [] }

/-- 'zzlaws_pkg_task_b1.FnExactStepsSplitCostsCarryAndCrossTerm': WHATEVER THE INPUT: true; the input reads as it did. -/
def fnExactStepsSplitCostsCarryAndCrossTermSpec : ChangeSpec := { name := "fnExactStepsSplitCostsCarryAndCrossTerm", fn := fun _ => fun
  | [d1, d2] => { results := [.lit (.bool true)], args := [d1, d2] }
  | _ => none }
def fnExactStepsSplitCostsCarryAndCrossTermRow : OpenClaim := { program := "qxb6613440a", sum := "9ae8dc60251e1f06c96b03060bb2d1ff1948db71e8425e0628106593e0e932f0", func := "example.com/longhaul/longhaul/zzlaws_pkg_task_b1.FnExactStepsSplitCostsCarryAndCrossTerm", spec := "fnExactStepsSplitCostsCarryAndCrossTerm", apart := false }
def FnExactStepsSplitCostsCarryAndCrossTermSaid : Prop := fnExactStepsSplitCostsCarryAndCrossTermRow.holds Try.pinned (OpenSpec.ofChange fnExactStepsSplitCostsCarryAndCrossTermSpec)

/-- ITS FALSE NEIGHBOUR: 'it returns false'. Refute it at one input. -/
def fnExactStepsSplitCostsCarryAndCrossTermWrong : ChangeSpec := { name := "fnExactStepsSplitCostsCarryAndCrossTerm", fn := fun _ => fun
  | [d1, d2] => { results := [.lit (.bool false)], args := [d1, d2] }
  | _ => none }
def FnExactStepsSplitCostsCarryAndCrossTermWrongFalsely : Prop := fnExactStepsSplitCostsCarryAndCrossTermRow.holds Try.pinned (OpenSpec.ofChange fnExactStepsSplitCostsCarryAndCrossTermWrong)

/-- 'zzlaws_pkg_task_b1.FnAttemptsLeftAsksDoNotCount': WHATEVER THE INPUT: true; the input reads as it did. -/
def fnAttemptsLeftAsksDoNotCountSpec : ChangeSpec := { name := "fnAttemptsLeftAsksDoNotCount", fn := fun _ => fun
  | [d1, d2, d3] => { results := [.lit (.bool true)], args := [d1, d2, d3] }
  | _ => none }
def fnAttemptsLeftAsksDoNotCountRow : OpenClaim := { program := "qxb6613440a", sum := "9ae8dc60251e1f06c96b03060bb2d1ff1948db71e8425e0628106593e0e932f0", func := "example.com/longhaul/longhaul/zzlaws_pkg_task_b1.FnAttemptsLeftAsksDoNotCount", spec := "fnAttemptsLeftAsksDoNotCount", apart := false }
def FnAttemptsLeftAsksDoNotCountSaid : Prop := fnAttemptsLeftAsksDoNotCountRow.holds Try.pinned (OpenSpec.ofChange fnAttemptsLeftAsksDoNotCountSpec)

/-- ITS FALSE NEIGHBOUR: 'it returns false'. Refute it at one input. -/
def fnAttemptsLeftAsksDoNotCountWrong : ChangeSpec := { name := "fnAttemptsLeftAsksDoNotCount", fn := fun _ => fun
  | [d1, d2, d3] => { results := [.lit (.bool false)], args := [d1, d2, d3] }
  | _ => none }
def FnAttemptsLeftAsksDoNotCountWrongFalsely : Prop := fnAttemptsLeftAsksDoNotCountRow.holds Try.pinned (OpenSpec.ofChange fnAttemptsLeftAsksDoNotCountWrong)

end Rows
end Go.Proofs.Qxb6613440a
