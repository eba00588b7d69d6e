/-
  No cell of these rows narrows 'for every input' (looked for: loops, veiled, ifaces, maps, wideKeys, modest, calm, conditions, laid).
  DERIVED. THE GIVEN ROWS OF THIS SEAT. 2 by the template 'for every input the law returns true; each argument reads behind the call as it read before'; 0 by the template 'total and deterministic' (their statements: Qxb6613396aTotals.lean).
  GIVEN WITH THE SEED: the statements are not yours to turn. If you find one false, say at which input.
  Laid BY PROGRAM, IN A SANDBOX (cutbox-rows.mjs): the forced cells as the released guide's own fill.sh prints them over the translation ad76b5dba5f7a89d… (all of the seat's roots in one cut). By AI agents, Wed Nov 11 2026. No macro, syntax, notation, axiom, sorry.
-/
import Derived.Test.Qxb6613396aChecked
import GoSem.Claim
import GoSem.ClaimJoined
import GoSem.ClaimMapViews
import Derived.JoinedTies
import Derived.KernelRfl
namespace Go.Proofs.Qxb6613396a
/- THE CELL 'sum', in the pinned program and in every row, IS THE sha256 OF THE DUMP (.gsa) THAT Qxb6613396aProg.lean LOADS. Nothing in Lean hashes anything: it is a label: what it is worth is what the hold of that sum in a sandbox is worth. -/
noncomputable def Try.pinned : Pinned := { name := "qxb6613396a", sum := "ad76b5dba5f7a89d6f8d11fee6127f66d227356944f9c3385edc4d3270147f22", checked := Try.checked }
namespace Rows
def none {H : Type} : Left H := { results := [], args := [] }

/-- 'zzlaws_root_b1.FnWakeSplitQueueAgreesAndGrantsPrefix': WHATEVER THE INPUT: true; the input reads as it did. -/
def fnWakeSplitQueueAgreesAndGrantsPrefixSpec : ChangeSpec := { name := "fnWakeSplitQueueAgreesAndGrantsPrefix", fn := fun _ => fun
  | [d1, d2, d3, d4, d5] => { results := [.lit (.bool true)], args := [d1, d2, d3, d4, d5] }
  | _ => none }
def fnWakeSplitQueueAgreesAndGrantsPrefixRow : OpenClaim := { program := "qxb6613396a", sum := "ad76b5dba5f7a89d6f8d11fee6127f66d227356944f9c3385edc4d3270147f22", func := "example.com/holdfast/holdfast/zzlaws_root_b1.FnWakeSplitQueueAgreesAndGrantsPrefix", spec := "fnWakeSplitQueueAgreesAndGrantsPrefix", unfollowed := true, recurses := true, plainKeys := false, apart := false }
def FnWakeSplitQueueAgreesAndGrantsPrefixSaid : Prop := fnWakeSplitQueueAgreesAndGrantsPrefixRow.holds Try.pinned (OpenSpec.ofChange fnWakeSplitQueueAgreesAndGrantsPrefixSpec)

/-- ITS FALSE NEIGHBOUR: 'it returns false'. Refute it at one input. -/
def fnWakeSplitQueueAgreesAndGrantsPrefixWrong : ChangeSpec := { name := "fnWakeSplitQueueAgreesAndGrantsPrefix", fn := fun _ => fun
  | [d1, d2, d3, d4, d5] => { results := [.lit (.bool false)], args := [d1, d2, d3, d4, d5] }
  | _ => none }
def FnWakeSplitQueueAgreesAndGrantsPrefixWrongFalsely : Prop := fnWakeSplitQueueAgreesAndGrantsPrefixRow.holds Try.pinned (OpenSpec.ofChange fnWakeSplitQueueAgreesAndGrantsPrefixWrong)

/-- 'zzlaws_root_b1.FnWakeKeepsBooksAndIsIdempotent': WHATEVER THE INPUT: true; the input reads as it did. -/
def fnWakeKeepsBooksAndIsIdempotentSpec : ChangeSpec := { name := "fnWakeKeepsBooksAndIsIdempotent", fn := fun _ => fun
  | [d1, d2, d3, d4] => { results := [.lit (.bool true)], args := [d1, d2, d3, d4] }
  | _ => none }
def fnWakeKeepsBooksAndIsIdempotentRow : OpenClaim := { program := "qxb6613396a", sum := "ad76b5dba5f7a89d6f8d11fee6127f66d227356944f9c3385edc4d3270147f22", func := "example.com/holdfast/holdfast/zzlaws_root_b1.FnWakeKeepsBooksAndIsIdempotent", spec := "fnWakeKeepsBooksAndIsIdempotent", unfollowed := true, recurses := true, plainKeys := false, apart := false }
def FnWakeKeepsBooksAndIsIdempotentSaid : Prop := fnWakeKeepsBooksAndIsIdempotentRow.holds Try.pinned (OpenSpec.ofChange fnWakeKeepsBooksAndIsIdempotentSpec)

/-- ITS FALSE NEIGHBOUR: 'it returns false'. Refute it at one input. -/
def fnWakeKeepsBooksAndIsIdempotentWrong : ChangeSpec := { name := "fnWakeKeepsBooksAndIsIdempotent", fn := fun _ => fun
  | [d1, d2, d3, d4] => { results := [.lit (.bool false)], args := [d1, d2, d3, d4] }
  | _ => none }
def FnWakeKeepsBooksAndIsIdempotentWrongFalsely : Prop := fnWakeKeepsBooksAndIsIdempotentRow.holds Try.pinned (OpenSpec.ofChange fnWakeKeepsBooksAndIsIdempotentWrong)

end Rows
end Go.Proofs.Qxb6613396a
