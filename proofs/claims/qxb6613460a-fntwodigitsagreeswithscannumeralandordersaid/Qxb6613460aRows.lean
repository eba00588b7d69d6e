/-
  No cell of these rows narrows 'for every input' (looked for: loops, veiled, ifaces, maps, wideKeys, modest, calm, conditions, laid).
  DERIVED. THE GIVEN ROWS OF THIS SEAT. 3 by the template 'for every input the law returns true; each argument reads behind the call as it read before'; 0 by the template 'total and deterministic' (their statements: Qxb6613460aTotals.lean).
  GIVEN WITH THE SEED: the statements are not yours to turn. If you find one false, say at which input.
  Laid BY PROGRAM, IN A SANDBOX (cutbox-rows.mjs): the forced cells as the released guide's own fill.sh prints them over the translation ffb1249e5cefa8b1… (all of the seat's roots in one cut). By AI agents, Wed Nov 11 2026. No macro, syntax, notation, axiom, sorry.
-/
import Derived.Test.Qxb6613460aChecked
import GoSem.Claim
import GoSem.ClaimJoined
import GoSem.ClaimMapViews
import Derived.JoinedTies
import Derived.KernelRfl
namespace Go.Proofs.Qxb6613460a
/- THE CELL 'sum', in the pinned program and in every row, IS THE sha256 OF THE DUMP (.gsa) THAT Qxb6613460aProg.lean LOADS. Nothing in Lean hashes anything: it is a label: what it is worth is what the hold of that sum in a sandbox is worth. -/
noncomputable def Try.pinned : Pinned := { name := "qxb6613460a", sum := "ffb1249e5cefa8b14d62ed09fbc9614d618d0b1384677f364e576577c21243f5", checked := Try.checked }
namespace Rows
def none {H : Type} : Left H := { results := [], args := [] }

/-- 'zzlaws_internal_textcast_b1.FnTwoDigitsAgreesWithScanNumeralAndOrder': WHATEVER THE INPUT: true; the input reads as it did. -/
def fnTwoDigitsAgreesWithScanNumeralAndOrderSpec : ChangeSpec := { name := "fnTwoDigitsAgreesWithScanNumeralAndOrder", fn := fun _ => fun
  | [d1, d2] => { results := [.lit (.bool true)], args := [d1, d2] }
  | _ => none }
def fnTwoDigitsAgreesWithScanNumeralAndOrderRow : OpenClaim := { program := "qxb6613460a", sum := "ffb1249e5cefa8b14d62ed09fbc9614d618d0b1384677f364e576577c21243f5", func := "example.com/jetway/jetway/zzlaws_internal_textcast_b1.FnTwoDigitsAgreesWithScanNumeralAndOrder", spec := "fnTwoDigitsAgreesWithScanNumeralAndOrder", apart := false }
def FnTwoDigitsAgreesWithScanNumeralAndOrderSaid : Prop := fnTwoDigitsAgreesWithScanNumeralAndOrderRow.holds Try.pinned (OpenSpec.ofChange fnTwoDigitsAgreesWithScanNumeralAndOrderSpec)

/-- ITS FALSE NEIGHBOUR: 'it returns false'. Refute it at one input. -/
def fnTwoDigitsAgreesWithScanNumeralAndOrderWrong : ChangeSpec := { name := "fnTwoDigitsAgreesWithScanNumeralAndOrder", fn := fun _ => fun
  | [d1, d2] => { results := [.lit (.bool false)], args := [d1, d2] }
  | _ => none }
def FnTwoDigitsAgreesWithScanNumeralAndOrderWrongFalsely : Prop := fnTwoDigitsAgreesWithScanNumeralAndOrderRow.holds Try.pinned (OpenSpec.ofChange fnTwoDigitsAgreesWithScanNumeralAndOrderWrong)

/-- 'zzlaws_internal_textcast_b1.FnEndsRunEightCopiesAndJoins': WHATEVER THE INPUT: true; the input reads as it did. -/
def fnEndsRunEightCopiesAndJoinsSpec : ChangeSpec := { name := "fnEndsRunEightCopiesAndJoins", fn := fun _ => fun
  | [d1, d2] => { results := [.lit (.bool true)], args := [d1, d2] }
  | _ => none }
def fnEndsRunEightCopiesAndJoinsRow : OpenClaim := { program := "qxb6613460a", sum := "ffb1249e5cefa8b14d62ed09fbc9614d618d0b1384677f364e576577c21243f5", func := "example.com/jetway/jetway/zzlaws_internal_textcast_b1.FnEndsRunEightCopiesAndJoins", spec := "fnEndsRunEightCopiesAndJoins", inPlace := ["internal/bytealg.IndexByteString", "internal/bytealg.IndexString"], named := ["internal/bytealg.MaxLen"], apart := false }
def FnEndsRunEightCopiesAndJoinsSaid : Prop := fnEndsRunEightCopiesAndJoinsRow.holds Try.pinned (OpenSpec.ofChange fnEndsRunEightCopiesAndJoinsSpec)

/-- ITS FALSE NEIGHBOUR: 'it returns false'. Refute it at one input. -/
def fnEndsRunEightCopiesAndJoinsWrong : ChangeSpec := { name := "fnEndsRunEightCopiesAndJoins", fn := fun _ => fun
  | [d1, d2] => { results := [.lit (.bool false)], args := [d1, d2] }
  | _ => none }
def FnEndsRunEightCopiesAndJoinsWrongFalsely : Prop := fnEndsRunEightCopiesAndJoinsRow.holds Try.pinned (OpenSpec.ofChange fnEndsRunEightCopiesAndJoinsWrong)

/-- 'zzlaws_internal_textcast_b1.FnEndsRunOneLengthInEight': WHATEVER THE INPUT: true; the input reads as it did. -/
def fnEndsRunOneLengthInEightSpec : ChangeSpec := { name := "fnEndsRunOneLengthInEight", fn := fun _ => fun
  | [d1, d2] => { results := [.lit (.bool true)], args := [d1, d2] }
  | _ => none }
def fnEndsRunOneLengthInEightRow : OpenClaim := { program := "qxb6613460a", sum := "ffb1249e5cefa8b14d62ed09fbc9614d618d0b1384677f364e576577c21243f5", func := "example.com/jetway/jetway/zzlaws_internal_textcast_b1.FnEndsRunOneLengthInEight", spec := "fnEndsRunOneLengthInEight", inPlace := ["internal/bytealg.IndexByteString", "internal/bytealg.IndexString"], named := ["internal/bytealg.MaxLen"], apart := false }
def FnEndsRunOneLengthInEightSaid : Prop := fnEndsRunOneLengthInEightRow.holds Try.pinned (OpenSpec.ofChange fnEndsRunOneLengthInEightSpec)

/-- ITS FALSE NEIGHBOUR: 'it returns false'. Refute it at one input. -/
def fnEndsRunOneLengthInEightWrong : ChangeSpec := { name := "fnEndsRunOneLengthInEight", fn := fun _ => fun
  | [d1, d2] => { results := [.lit (.bool false)], args := [d1, d2] }
  | _ => none }
def FnEndsRunOneLengthInEightWrongFalsely : Prop := fnEndsRunOneLengthInEightRow.holds Try.pinned (OpenSpec.ofChange fnEndsRunOneLengthInEightWrong)

end Rows
end Go.Proofs.Qxb6613460a
