/-
  No cell of these rows narrows 'for every input' (looked for: loops, veiled, ifaces, maps, wideKeys, modest, calm, conditions, laid).
  DERIVED. THE GIVEN ROWS OF THIS SEAT. 2 by the template 'for every input the law returns true; each argument reads behind the call as it read before'; 0 by the template 'total and deterministic' (their statements: Qxb6629095aTotals.lean).
  GIVEN WITH THE SEED: the statements are not yours to turn. If you find one false, say at which input.
  Laid BY PROGRAM, IN A SANDBOX (cutbox-rows.mjs): the forced cells as the released guide's own fill.sh prints them over the translation 5e9fbfe09c0edf98… (all of the seat's roots in one cut). By AI agents, Wed Nov 11 2026. No macro, syntax, notation, axiom, sorry.
-/
import Derived.Test.Qxb6629095aChecked
import GoSem.Claim
import GoSem.ClaimJoined
import GoSem.ClaimMapViews
import Derived.JoinedTies
import Derived.KernelRfl
namespace Go.Proofs.Qxb6629095a
/- THE CELL 'sum', in the pinned program and in every row, IS THE sha256 OF THE DUMP (.gsa) THAT Qxb6629095aProg.lean LOADS. Nothing in Lean hashes anything: it is a label: what it is worth is what the hold of that sum in a sandbox is worth. -/
noncomputable def Try.pinned : Pinned := { name := "qxb6629095a", sum := "5e9fbfe09c0edf98018fe36f42d032979067a0f9466e1f8af57f7a9d7fde4efb", checked := Try.checked }
namespace Rows
def none {H : Type} : Left H := { results := [], args := [] }

/-- 'zzlaws_internal_ascii_b1.FnEqualFoldCaseFlipSymmetryAndCut': WHATEVER THE INPUT: true; the input reads as it did. -/
def fnEqualFoldCaseFlipSymmetryAndCutSpec : ChangeSpec := { name := "fnEqualFoldCaseFlipSymmetryAndCut", fn := fun _ => fun
  | [d1, d2, d3] => { results := [.lit (.bool true)], args := [d1, d2, d3] }
  | _ => none }
def fnEqualFoldCaseFlipSymmetryAndCutRow : OpenClaim := { program := "qxb6629095a", sum := "5e9fbfe09c0edf98018fe36f42d032979067a0f9466e1f8af57f7a9d7fde4efb", func := "example.com/issuer/issuer/zzlaws_internal_ascii_b1.FnEqualFoldCaseFlipSymmetryAndCut", spec := "fnEqualFoldCaseFlipSymmetryAndCut", apart := false }
def FnEqualFoldCaseFlipSymmetryAndCutSaid : Prop := fnEqualFoldCaseFlipSymmetryAndCutRow.holds Try.pinned (OpenSpec.ofChange fnEqualFoldCaseFlipSymmetryAndCutSpec)

/-- ITS FALSE NEIGHBOUR: 'it returns false'. Refute it at one input. -/
def fnEqualFoldCaseFlipSymmetryAndCutWrong : ChangeSpec := { name := "fnEqualFoldCaseFlipSymmetryAndCut", fn := fun _ => fun
  | [d1, d2, d3] => { results := [.lit (.bool false)], args := [d1, d2, d3] }
  | _ => none }
def FnEqualFoldCaseFlipSymmetryAndCutWrongFalsely : Prop := fnEqualFoldCaseFlipSymmetryAndCutRow.holds Try.pinned (OpenSpec.ofChange fnEqualFoldCaseFlipSymmetryAndCutWrong)

/-- 'zzlaws_internal_ascii_b1.FnEqualFoldOneByteAcceptsExactlyItsCasePartner': WHATEVER THE INPUT: true; the input reads as it did. -/
def fnEqualFoldOneByteAcceptsExactlyItsCasePartnerSpec : ChangeSpec := { name := "fnEqualFoldOneByteAcceptsExactlyItsCasePartner", fn := fun _ => fun
  | [d1, d2] => { results := [.lit (.bool true)], args := [d1, d2] }
  | _ => none }
def fnEqualFoldOneByteAcceptsExactlyItsCasePartnerRow : OpenClaim := { program := "qxb6629095a", sum := "5e9fbfe09c0edf98018fe36f42d032979067a0f9466e1f8af57f7a9d7fde4efb", func := "example.com/issuer/issuer/zzlaws_internal_ascii_b1.FnEqualFoldOneByteAcceptsExactlyItsCasePartner", spec := "fnEqualFoldOneByteAcceptsExactlyItsCasePartner", apart := false }
def FnEqualFoldOneByteAcceptsExactlyItsCasePartnerSaid : Prop := fnEqualFoldOneByteAcceptsExactlyItsCasePartnerRow.holds Try.pinned (OpenSpec.ofChange fnEqualFoldOneByteAcceptsExactlyItsCasePartnerSpec)

/-- ITS FALSE NEIGHBOUR: 'it returns false'. Refute it at one input. -/
def fnEqualFoldOneByteAcceptsExactlyItsCasePartnerWrong : ChangeSpec := { name := "fnEqualFoldOneByteAcceptsExactlyItsCasePartner", fn := fun _ => fun
  | [d1, d2] => { results := [.lit (.bool false)], args := [d1, d2] }
  | _ => none }
def FnEqualFoldOneByteAcceptsExactlyItsCasePartnerWrongFalsely : Prop := fnEqualFoldOneByteAcceptsExactlyItsCasePartnerRow.holds Try.pinned (OpenSpec.ofChange fnEqualFoldOneByteAcceptsExactlyItsCasePartnerWrong)

end Rows
end Go.Proofs.Qxb6629095a
