/-
  No cell of these rows narrows 'for every input' (looked for: loops, veiled, ifaces, maps, wideKeys, modest, calm, conditions, laid).
  DERIVED. THE GIVEN ROWS OF THIS SEAT. 2 by the template 'for every input the law returns true; each argument reads behind the call as it read before'; 0 by the template 'total and deterministic' (their statements: Qxb6629060aTotals.lean).
  GIVEN WITH THE SEED: the statements are not yours to turn. If you find one false, say at which input.
  Laid BY PROGRAM, IN A SANDBOX (cutbox-rows.mjs): the forced cells as the released guide's own fill.sh prints them over the translation b8de21fb719b1852… (all of the seat's roots in one cut). By AI agents, Wed Nov 11 2026. No macro, syntax, notation, axiom, sorry.
-/
import Derived.Test.Qxb6629060aChecked
import GoSem.Claim
import GoSem.ClaimJoined
import GoSem.ClaimMapViews
import Derived.JoinedTies
import Derived.KernelRfl
namespace Go.Proofs.Qxb6629060a
/- THE CELL 'sum', in the pinned program and in every row, IS THE sha256 OF THE DUMP (.gsa) THAT Qxb6629060aProg.lean LOADS. Nothing in Lean hashes anything: it is a label: what it is worth is what the hold of that sum in a sandbox is worth. -/
noncomputable def Try.pinned : Pinned := { name := "qxb6629060a", sum := "b8de21fb719b18528fb95ebe5add2c4cf9f961aee56e2c40c44071119194a592", checked := Try.checked }
namespace Rows
def none {H : Type} : Left H := { results := [], args := [] }

/-- 'zzlaws_internal_isolation_b1.FnForAutocommitIsGreatestNonSerializableAtMost': WHATEVER THE INPUT: true; the input reads as it did. -/
def fnForAutocommitIsGreatestNonSerializableAtMostSpec : ChangeSpec := { name := "fnForAutocommitIsGreatestNonSerializableAtMost", fn := fun _ => fun
  | [d] => { results := [.lit (.bool true)], args := [d] }
  | _ => none }
def fnForAutocommitIsGreatestNonSerializableAtMostRow : OpenClaim := { program := "qxb6629060a", sum := "b8de21fb719b18528fb95ebe5add2c4cf9f961aee56e2c40c44071119194a592", func := "example.com/candado/candado/zzlaws_internal_isolation_b1.FnForAutocommitIsGreatestNonSerializableAtMost", spec := "fnForAutocommitIsGreatestNonSerializableAtMost", apart := false }
def FnForAutocommitIsGreatestNonSerializableAtMostSaid : Prop := fnForAutocommitIsGreatestNonSerializableAtMostRow.holds Try.pinned (OpenSpec.ofChange fnForAutocommitIsGreatestNonSerializableAtMostSpec)

/-- ITS FALSE NEIGHBOUR: 'it returns false'. Refute it at one input. -/
def fnForAutocommitIsGreatestNonSerializableAtMostWrong : ChangeSpec := { name := "fnForAutocommitIsGreatestNonSerializableAtMost", fn := fun _ => fun
  | [d] => { results := [.lit (.bool false)], args := [d] }
  | _ => none }
def FnForAutocommitIsGreatestNonSerializableAtMostWrongFalsely : Prop := fnForAutocommitIsGreatestNonSerializableAtMostRow.holds Try.pinned (OpenSpec.ofChange fnForAutocommitIsGreatestNonSerializableAtMostWrong)

/-- 'zzlaws_internal_isolation_b1.FnForAutocommitCommutesWithMaxAndStepsDownByAtMostOne': WHATEVER THE INPUT: true; the input reads as it did. -/
def fnForAutocommitCommutesWithMaxAndStepsDownByAtMostOneSpec : ChangeSpec := { name := "fnForAutocommitCommutesWithMaxAndStepsDownByAtMostOne", fn := fun _ => fun
  | [d1, d2] => { results := [.lit (.bool true)], args := [d1, d2] }
  | _ => none }
def fnForAutocommitCommutesWithMaxAndStepsDownByAtMostOneRow : OpenClaim := { program := "qxb6629060a", sum := "b8de21fb719b18528fb95ebe5add2c4cf9f961aee56e2c40c44071119194a592", func := "example.com/candado/candado/zzlaws_internal_isolation_b1.FnForAutocommitCommutesWithMaxAndStepsDownByAtMostOne", spec := "fnForAutocommitCommutesWithMaxAndStepsDownByAtMostOne", apart := false }
def FnForAutocommitCommutesWithMaxAndStepsDownByAtMostOneSaid : Prop := fnForAutocommitCommutesWithMaxAndStepsDownByAtMostOneRow.holds Try.pinned (OpenSpec.ofChange fnForAutocommitCommutesWithMaxAndStepsDownByAtMostOneSpec)

/-- ITS FALSE NEIGHBOUR: 'it returns false'. Refute it at one input. -/
def fnForAutocommitCommutesWithMaxAndStepsDownByAtMostOneWrong : ChangeSpec := { name := "fnForAutocommitCommutesWithMaxAndStepsDownByAtMostOne", fn := fun _ => fun
  | [d1, d2] => { results := [.lit (.bool false)], args := [d1, d2] }
  | _ => none }
def FnForAutocommitCommutesWithMaxAndStepsDownByAtMostOneWrongFalsely : Prop := fnForAutocommitCommutesWithMaxAndStepsDownByAtMostOneRow.holds Try.pinned (OpenSpec.ofChange fnForAutocommitCommutesWithMaxAndStepsDownByAtMostOneWrong)

end Rows
end Go.Proofs.Qxb6629060a
