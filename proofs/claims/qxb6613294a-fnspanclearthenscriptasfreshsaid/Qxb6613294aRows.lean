/-
  No cell of these rows narrows 'for every input' (looked for: loops, veiled, ifaces, maps, wideKeys, modest, calm, conditions, laid).
  DERIVED. THE GIVEN ROWS OF THIS SEAT. 2 by the template 'for every input the law returns true; each argument reads behind the call as it read before'; 0 by the template 'total and deterministic' (their statements: Qxb6613294aTotals.lean).
  GIVEN WITH THE SEED: the statements are not yours to turn. If you find one false, say at which input.
  Laid BY PROGRAM, IN A SANDBOX (cutbox-rows.mjs): the forced cells as the released guide's own fill.sh prints them over the translation da0c9f44a1a4ab5c… (all of the seat's roots in one cut). By AI agents, Wed Nov 11 2026. No macro, syntax, notation, axiom, sorry.
-/
import Derived.Test.Qxb6613294aChecked
import GoSem.Claim
import GoSem.ClaimJoined
import GoSem.ClaimMapViews
import Derived.JoinedTies
import Derived.KernelRfl
namespace Go.Proofs.Qxb6613294a
/- THE CELL 'sum', in the pinned program and in every row, IS THE sha256 OF THE DUMP (.gsa) THAT Qxb6613294aProg.lean LOADS. Nothing in Lean hashes anything: it is a label: what it is worth is what the hold of that sum in a sandbox is worth. -/
noncomputable def Try.pinned : Pinned := { name := "qxb6613294a", sum := "da0c9f44a1a4ab5c2025c0f75b303b8690b929b7ebbf40be40ef3be9771002fe", checked := Try.checked }
namespace Rows
def none {H : Type} : Left H := { results := [], args := [] }

/-- 'zzlaws_internal_simulate_b1.FnSpanClearThenScriptAsFresh': WHATEVER THE INPUT: true; the input reads as it did. -/
def fnSpanClearThenScriptAsFreshSpec : ChangeSpec := { name := "fnSpanClearThenScriptAsFresh", fn := fun _ => fun
  | [d1, d2, d3, d4, d5, d6] => { results := [.lit (.bool true)], args := [d1, d2, d3, d4, d5, d6] }
  | _ => none }
def fnSpanClearThenScriptAsFreshRow : OpenClaim := { program := "qxb6613294a", sum := "da0c9f44a1a4ab5c2025c0f75b303b8690b929b7ebbf40be40ef3be9771002fe", func := "example.com/outpace/outpace/zzlaws_internal_simulate_b1.FnSpanClearThenScriptAsFresh", spec := "fnSpanClearThenScriptAsFresh", apart := false }
def FnSpanClearThenScriptAsFreshSaid : Prop := fnSpanClearThenScriptAsFreshRow.holds Try.pinned (OpenSpec.ofChange fnSpanClearThenScriptAsFreshSpec)

/-- ITS FALSE NEIGHBOUR: 'it returns false'. Refute it at one input. -/
def fnSpanClearThenScriptAsFreshWrong : ChangeSpec := { name := "fnSpanClearThenScriptAsFresh", fn := fun _ => fun
  | [d1, d2, d3, d4, d5, d6] => { results := [.lit (.bool false)], args := [d1, d2, d3, d4, d5, d6] }
  | _ => none }
def FnSpanClearThenScriptAsFreshWrongFalsely : Prop := fnSpanClearThenScriptAsFreshRow.holds Try.pinned (OpenSpec.ofChange fnSpanClearThenScriptAsFreshWrong)

/-- 'zzlaws_internal_simulate_b1.FnSpanClearRebuildRoundTrip': WHATEVER THE INPUT: true; the input reads as it did. -/
def fnSpanClearRebuildRoundTripSpec : ChangeSpec := { name := "fnSpanClearRebuildRoundTrip", fn := fun _ => fun
  | [d1, d2, d3, d4] => { results := [.lit (.bool true)], args := [d1, d2, d3, d4] }
  | _ => none }
def fnSpanClearRebuildRoundTripRow : OpenClaim := { program := "qxb6613294a", sum := "da0c9f44a1a4ab5c2025c0f75b303b8690b929b7ebbf40be40ef3be9771002fe", func := "example.com/outpace/outpace/zzlaws_internal_simulate_b1.FnSpanClearRebuildRoundTrip", spec := "fnSpanClearRebuildRoundTrip", apart := false }
def FnSpanClearRebuildRoundTripSaid : Prop := fnSpanClearRebuildRoundTripRow.holds Try.pinned (OpenSpec.ofChange fnSpanClearRebuildRoundTripSpec)

/-- ITS FALSE NEIGHBOUR: 'it returns false'. Refute it at one input. -/
def fnSpanClearRebuildRoundTripWrong : ChangeSpec := { name := "fnSpanClearRebuildRoundTrip", fn := fun _ => fun
  | [d1, d2, d3, d4] => { results := [.lit (.bool false)], args := [d1, d2, d3, d4] }
  | _ => none }
def FnSpanClearRebuildRoundTripWrongFalsely : Prop := fnSpanClearRebuildRoundTripRow.holds Try.pinned (OpenSpec.ofChange fnSpanClearRebuildRoundTripWrong)

end Rows
end Go.Proofs.Qxb6613294a
