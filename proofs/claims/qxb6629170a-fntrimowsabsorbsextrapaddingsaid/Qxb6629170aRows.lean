/-
  No cell of these rows narrows 'for every input' (looked for: loops, veiled, ifaces, maps, wideKeys, modest, calm, conditions, laid).
  DERIVED. THE GIVEN ROWS OF THIS SEAT. 2 by the template 'for every input the law returns true; each argument reads behind the call as it read before'; 0 by the template 'total and deterministic' (their statements: Qxb6629170aTotals.lean).
  GIVEN WITH THE SEED: the statements are not yours to turn. If you find one false, say at which input.
  Laid BY PROGRAM, IN A SANDBOX (cutbox-rows.mjs): the forced cells as the released guide's own fill.sh prints them over the translation faeed8e93263423f… (all of the seat's roots in one cut). By AI agents, Wed Nov 11 2026. No macro, syntax, notation, axiom, sorry.
-/
import Derived.Test.Qxb6629170aChecked
import GoSem.Claim
import GoSem.ClaimJoined
import GoSem.ClaimMapViews
import Derived.JoinedTies
import Derived.KernelRfl
namespace Go.Proofs.Qxb6629170a
/- THE CELL 'sum', in the pinned program and in every row, IS THE sha256 OF THE DUMP (.gsa) THAT Qxb6629170aProg.lean LOADS. Nothing in Lean hashes anything: it is a label: what it is worth is what the hold of that sum in a sandbox is worth. -/
noncomputable def Try.pinned : Pinned := { name := "qxb6629170a", sum := "faeed8e93263423ff2481739d3cc7d1eb5fa5761d994d51335cd873663f54908", checked := Try.checked }
namespace Rows
def none {H : Type} : Left H := { results := [], args := [] }

/-- 'zzlaws_internal_httpfield_b1.FnTrimOWSIsTheCoreBetweenPadding': WHATEVER THE INPUT: true; the input reads as it did. -/
def fnTrimOWSIsTheCoreBetweenPaddingSpec : ChangeSpec := { name := "fnTrimOWSIsTheCoreBetweenPadding", fn := fun _ => fun
  | [d] => { results := [.lit (.bool true)], args := [d] }
  | _ => none }
def fnTrimOWSIsTheCoreBetweenPaddingRow : OpenClaim := { program := "qxb6629170a", sum := "faeed8e93263423ff2481739d3cc7d1eb5fa5761d994d51335cd873663f54908", func := "example.com/isdar/isdar/zzlaws_internal_httpfield_b1.FnTrimOWSIsTheCoreBetweenPadding", spec := "fnTrimOWSIsTheCoreBetweenPadding", apart := false }
def FnTrimOWSIsTheCoreBetweenPaddingSaid : Prop := fnTrimOWSIsTheCoreBetweenPaddingRow.holds Try.pinned (OpenSpec.ofChange fnTrimOWSIsTheCoreBetweenPaddingSpec)

/-- ITS FALSE NEIGHBOUR: 'it returns false'. Refute it at one input. -/
def fnTrimOWSIsTheCoreBetweenPaddingWrong : ChangeSpec := { name := "fnTrimOWSIsTheCoreBetweenPadding", fn := fun _ => fun
  | [d] => { results := [.lit (.bool false)], args := [d] }
  | _ => none }
def FnTrimOWSIsTheCoreBetweenPaddingWrongFalsely : Prop := fnTrimOWSIsTheCoreBetweenPaddingRow.holds Try.pinned (OpenSpec.ofChange fnTrimOWSIsTheCoreBetweenPaddingWrong)

/-- 'zzlaws_internal_httpfield_b1.FnTrimOWSAbsorbsExtraPadding': WHATEVER THE INPUT: true; the input reads as it did. -/
def fnTrimOWSAbsorbsExtraPaddingSpec : ChangeSpec := { name := "fnTrimOWSAbsorbsExtraPadding", fn := fun _ => fun
  | [d1, d2, d3] => { results := [.lit (.bool true)], args := [d1, d2, d3] }
  | _ => none }
def fnTrimOWSAbsorbsExtraPaddingRow : OpenClaim := { program := "qxb6629170a", sum := "faeed8e93263423ff2481739d3cc7d1eb5fa5761d994d51335cd873663f54908", func := "example.com/isdar/isdar/zzlaws_internal_httpfield_b1.FnTrimOWSAbsorbsExtraPadding", spec := "fnTrimOWSAbsorbsExtraPadding", apart := false }
def FnTrimOWSAbsorbsExtraPaddingSaid : Prop := fnTrimOWSAbsorbsExtraPaddingRow.holds Try.pinned (OpenSpec.ofChange fnTrimOWSAbsorbsExtraPaddingSpec)

/-- ITS FALSE NEIGHBOUR: 'it returns false'. Refute it at one input. -/
def fnTrimOWSAbsorbsExtraPaddingWrong : ChangeSpec := { name := "fnTrimOWSAbsorbsExtraPadding", fn := fun _ => fun
  | [d1, d2, d3] => { results := [.lit (.bool false)], args := [d1, d2, d3] }
  | _ => none }
def FnTrimOWSAbsorbsExtraPaddingWrongFalsely : Prop := fnTrimOWSAbsorbsExtraPaddingRow.holds Try.pinned (OpenSpec.ofChange fnTrimOWSAbsorbsExtraPaddingWrong)

end Rows
end Go.Proofs.Qxb6629170a
