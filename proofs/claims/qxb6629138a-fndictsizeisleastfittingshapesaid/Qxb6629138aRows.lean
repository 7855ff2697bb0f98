/-
  No cell of these rows narrows 'for every input' (looked for: loops, veiled, ifaces, maps, wideKeys, modest, calm, conditions, laid).
  DERIVED. THE GIVEN ROWS OF THIS SEAT. 2 by the template 'for every input the law returns true; each argument reads behind the call as it read before'; 0 by the template 'total and deterministic' (their statements: Qxb6629138aTotals.lean).
  GIVEN WITH THE SEED: the statements are not yours to turn. If you find one false, say at which input.
  Laid BY PROGRAM, IN A SANDBOX (cutbox-rows.mjs): the forced cells as the released guide's own fill.sh prints them over the translation aedd88cd7387c514… (all of the seat's roots in one cut). By AI agents, Wed Nov 11 2026. No macro, syntax, notation, axiom, sorry.
-/
import Derived.Test.Qxb6629138aChecked
import GoSem.Claim
import GoSem.ClaimJoined
import GoSem.ClaimMapViews
import Derived.JoinedTies
import Derived.KernelRfl
namespace Go.Proofs.Qxb6629138a
/- THE CELL 'sum', in the pinned program and in every row, IS THE sha256 OF THE DUMP (.gsa) THAT Qxb6629138aProg.lean LOADS. Nothing in Lean hashes anything: it is a label: what it is worth is what the hold of that sum in a sandbox is worth. -/
noncomputable def Try.pinned : Pinned := { name := "qxb6629138a", sum := "aedd88cd7387c51423f56787a6fc4db1c6962c3e22c8405362505d288b1dcd25", checked := Try.checked }
namespace Rows
def none {H : Type} : Left H := { results := [], args := [] }

/-- 'zzlaws_internal_lzmaenc_b1.FnDictSizeHalvesWithItsArguments': WHATEVER THE INPUT: true; the input reads as it did. -/
def fnDictSizeHalvesWithItsArgumentsSpec : ChangeSpec := { name := "fnDictSizeHalvesWithItsArguments", fn := fun _ => fun
  | [d1, d2] => { results := [.lit (.bool true)], args := [d1, d2] }
  | _ => none }
def fnDictSizeHalvesWithItsArgumentsRow : OpenClaim := { program := "qxb6629138a", sum := "aedd88cd7387c51423f56787a6fc4db1c6962c3e22c8405362505d288b1dcd25", func := "example.com/dirmirror/dirmirror/zzlaws_internal_lzmaenc_b1.FnDictSizeHalvesWithItsArguments", spec := "fnDictSizeHalvesWithItsArguments", apart := false }
def FnDictSizeHalvesWithItsArgumentsSaid : Prop := fnDictSizeHalvesWithItsArgumentsRow.holds Try.pinned (OpenSpec.ofChange fnDictSizeHalvesWithItsArgumentsSpec)

/-- ITS FALSE NEIGHBOUR: 'it returns false'. Refute it at one input. -/
def fnDictSizeHalvesWithItsArgumentsWrong : ChangeSpec := { name := "fnDictSizeHalvesWithItsArguments", fn := fun _ => fun
  | [d1, d2] => { results := [.lit (.bool false)], args := [d1, d2] }
  | _ => none }
def FnDictSizeHalvesWithItsArgumentsWrongFalsely : Prop := fnDictSizeHalvesWithItsArgumentsRow.holds Try.pinned (OpenSpec.ofChange fnDictSizeHalvesWithItsArgumentsWrong)

/-- 'zzlaws_internal_lzmaenc_b1.FnDictSizeIsLeastFittingShape': WHATEVER THE INPUT: true; the input reads as it did. -/
def fnDictSizeIsLeastFittingShapeSpec : ChangeSpec := { name := "fnDictSizeIsLeastFittingShape", fn := fun _ => fun
  | [d1, d2] => { results := [.lit (.bool true)], args := [d1, d2] }
  | _ => none }
def fnDictSizeIsLeastFittingShapeRow : OpenClaim := { program := "qxb6629138a", sum := "aedd88cd7387c51423f56787a6fc4db1c6962c3e22c8405362505d288b1dcd25", func := "example.com/dirmirror/dirmirror/zzlaws_internal_lzmaenc_b1.FnDictSizeIsLeastFittingShape", spec := "fnDictSizeIsLeastFittingShape", apart := false }
def FnDictSizeIsLeastFittingShapeSaid : Prop := fnDictSizeIsLeastFittingShapeRow.holds Try.pinned (OpenSpec.ofChange fnDictSizeIsLeastFittingShapeSpec)

/-- ITS FALSE NEIGHBOUR: 'it returns false'. Refute it at one input. -/
def fnDictSizeIsLeastFittingShapeWrong : ChangeSpec := { name := "fnDictSizeIsLeastFittingShape", fn := fun _ => fun
  | [d1, d2] => { results := [.lit (.bool false)], args := [d1, d2] }
  | _ => none }
def FnDictSizeIsLeastFittingShapeWrongFalsely : Prop := fnDictSizeIsLeastFittingShapeRow.holds Try.pinned (OpenSpec.ofChange fnDictSizeIsLeastFittingShapeWrong)

end Rows
end Go.Proofs.Qxb6629138a
