/-
  No cell of these rows narrows 'for every input' (looked for: loops, veiled, ifaces, maps, wideKeys, modest, calm, conditions, laid).
  DERIVED. THE GIVEN ROWS OF THIS SEAT. 9 by the template 'for every input the law returns true; each argument reads behind the call as it read before'; 0 by the template 'total and deterministic' (their statements: Qxb6602480aTotals.lean).
  GIVEN WITH THE SEED: the statements are not yours to turn. If you find one false, say at which input.
  Laid BY PROGRAM, IN A SANDBOX (cutbox-rows.mjs): the forced cells as the released guide's own fill.sh prints them over the translation 2f4fc2bf02119f73… (all of the seat's roots in one cut). By AI agents, Wed Nov 11 2026. No macro, syntax, notation, axiom, sorry.
-/
import Derived.Test.Qxb6602480aChecked
import GoSem.Claim
import GoSem.ClaimJoined
import GoSem.ClaimMapViews
import Derived.JoinedTies
import Derived.KernelRfl
namespace Go.Proofs.Qxb6602480a
/- THE CELL 'sum', in the pinned program and in every row, IS THE sha256 OF THE DUMP (.gsa) THAT Qxb6602480aProg.lean LOADS. Nothing in Lean hashes anything: it is a label: what it is worth is what the hold of that sum in a sandbox is worth. -/
noncomputable def Try.pinned : Pinned := { name := "qxb6602480a", sum := "2f4fc2bf02119f73d09607a0d945b605d5721b48a3503bbba52a87200a77ac94", checked := Try.checked }
namespace Rows
def none {H : Type} : Left H := { results := [], args := [] }

/-- 'zzlaws_internal_wideint_b1.FnCompareMatchesSubtraction': WHATEVER THE INPUT: true; the input reads as it did. -/
def fnCompareMatchesSubtractionSpec : ChangeSpec := { name := "fnCompareMatchesSubtraction", fn := fun _ => fun
  | [d1, d2] => { results := [.lit (.bool true)], args := [d1, d2] }
  | _ => none }
def fnCompareMatchesSubtractionRow : OpenClaim := { program := "qxb6602480a", sum := "2f4fc2bf02119f73d09607a0d945b605d5721b48a3503bbba52a87200a77ac94", func := "example.com/stria/stria/zzlaws_internal_wideint_b1.FnCompareMatchesSubtraction", spec := "fnCompareMatchesSubtraction", apart := false }
def FnCompareMatchesSubtractionSaid : Prop := fnCompareMatchesSubtractionRow.holds Try.pinned (OpenSpec.ofChange fnCompareMatchesSubtractionSpec)

/-- ITS FALSE NEIGHBOUR: 'it returns false'. Refute it at one input. -/
def fnCompareMatchesSubtractionWrong : ChangeSpec := { name := "fnCompareMatchesSubtraction", fn := fun _ => fun
  | [d1, d2] => { results := [.lit (.bool false)], args := [d1, d2] }
  | _ => none }
def FnCompareMatchesSubtractionWrongFalsely : Prop := fnCompareMatchesSubtractionRow.holds Try.pinned (OpenSpec.ofChange fnCompareMatchesSubtractionWrong)

/-- 'zzlaws_internal_wideint_b1.FnCompareAntisymmetric': WHATEVER THE INPUT: true; the input reads as it did. -/
def fnCompareAntisymmetricSpec : ChangeSpec := { name := "fnCompareAntisymmetric", fn := fun _ => fun
  | [d1, d2] => { results := [.lit (.bool true)], args := [d1, d2] }
  | _ => none }
def fnCompareAntisymmetricRow : OpenClaim := { program := "qxb6602480a", sum := "2f4fc2bf02119f73d09607a0d945b605d5721b48a3503bbba52a87200a77ac94", func := "example.com/stria/stria/zzlaws_internal_wideint_b1.FnCompareAntisymmetric", spec := "fnCompareAntisymmetric", apart := false }
def FnCompareAntisymmetricSaid : Prop := fnCompareAntisymmetricRow.holds Try.pinned (OpenSpec.ofChange fnCompareAntisymmetricSpec)

/-- ITS FALSE NEIGHBOUR: 'it returns false'. Refute it at one input. -/
def fnCompareAntisymmetricWrong : ChangeSpec := { name := "fnCompareAntisymmetric", fn := fun _ => fun
  | [d1, d2] => { results := [.lit (.bool false)], args := [d1, d2] }
  | _ => none }
def FnCompareAntisymmetricWrongFalsely : Prop := fnCompareAntisymmetricRow.holds Try.pinned (OpenSpec.ofChange fnCompareAntisymmetricWrong)

/-- 'zzlaws_internal_wideint_b1.FnCompareAgreesWithOneWord': WHATEVER THE INPUT: true; the input reads as it did. -/
def fnCompareAgreesWithOneWordSpec : ChangeSpec := { name := "fnCompareAgreesWithOneWord", fn := fun _ => fun
  | [d1, d2] => { results := [.lit (.bool true)], args := [d1, d2] }
  | _ => none }
def fnCompareAgreesWithOneWordRow : OpenClaim := { program := "qxb6602480a", sum := "2f4fc2bf02119f73d09607a0d945b605d5721b48a3503bbba52a87200a77ac94", func := "example.com/stria/stria/zzlaws_internal_wideint_b1.FnCompareAgreesWithOneWord", spec := "fnCompareAgreesWithOneWord", apart := false }
def FnCompareAgreesWithOneWordSaid : Prop := fnCompareAgreesWithOneWordRow.holds Try.pinned (OpenSpec.ofChange fnCompareAgreesWithOneWordSpec)

/-- ITS FALSE NEIGHBOUR: 'it returns false'. Refute it at one input. -/
def fnCompareAgreesWithOneWordWrong : ChangeSpec := { name := "fnCompareAgreesWithOneWord", fn := fun _ => fun
  | [d1, d2] => { results := [.lit (.bool false)], args := [d1, d2] }
  | _ => none }
def FnCompareAgreesWithOneWordWrongFalsely : Prop := fnCompareAgreesWithOneWordRow.holds Try.pinned (OpenSpec.ofChange fnCompareAgreesWithOneWordWrong)

/-- 'zzlaws_internal_wideint_b1.FnOneWordExact': WHATEVER THE INPUT: true; the input reads as it did. -/
def fnOneWordExactSpec : ChangeSpec := { name := "fnOneWordExact", fn := fun _ => fun
  | [d] => { results := [.lit (.bool true)], args := [d] }
  | _ => none }
def fnOneWordExactRow : OpenClaim := { program := "qxb6602480a", sum := "2f4fc2bf02119f73d09607a0d945b605d5721b48a3503bbba52a87200a77ac94", func := "example.com/stria/stria/zzlaws_internal_wideint_b1.FnOneWordExact", spec := "fnOneWordExact", apart := false }
def FnOneWordExactSaid : Prop := fnOneWordExactRow.holds Try.pinned (OpenSpec.ofChange fnOneWordExactSpec)

/-- ITS FALSE NEIGHBOUR: 'it returns false'. Refute it at one input. -/
def fnOneWordExactWrong : ChangeSpec := { name := "fnOneWordExact", fn := fun _ => fun
  | [d] => { results := [.lit (.bool false)], args := [d] }
  | _ => none }
def FnOneWordExactWrongFalsely : Prop := fnOneWordExactRow.holds Try.pinned (OpenSpec.ofChange fnOneWordExactWrong)

/-- 'zzlaws_internal_wideint_b1.FnOneWordSignExtension': WHATEVER THE INPUT: true; the input reads as it did. -/
def fnOneWordSignExtensionSpec : ChangeSpec := { name := "fnOneWordSignExtension", fn := fun _ => fun
  | [d] => { results := [.lit (.bool true)], args := [d] }
  | _ => none }
def fnOneWordSignExtensionRow : OpenClaim := { program := "qxb6602480a", sum := "2f4fc2bf02119f73d09607a0d945b605d5721b48a3503bbba52a87200a77ac94", func := "example.com/stria/stria/zzlaws_internal_wideint_b1.FnOneWordSignExtension", spec := "fnOneWordSignExtension", apart := false }
def FnOneWordSignExtensionSaid : Prop := fnOneWordSignExtensionRow.holds Try.pinned (OpenSpec.ofChange fnOneWordSignExtensionSpec)

/-- ITS FALSE NEIGHBOUR: 'it returns false'. Refute it at one input. -/
def fnOneWordSignExtensionWrong : ChangeSpec := { name := "fnOneWordSignExtension", fn := fun _ => fun
  | [d] => { results := [.lit (.bool false)], args := [d] }
  | _ => none }
def FnOneWordSignExtensionWrongFalsely : Prop := fnOneWordSignExtensionRow.holds Try.pinned (OpenSpec.ofChange fnOneWordSignExtensionWrong)

/-- 'zzlaws_internal_wideint_b1.FnOneWordRoundTrip': WHATEVER THE INPUT: true; the input reads as it did. -/
def fnOneWordRoundTripSpec : ChangeSpec := { name := "fnOneWordRoundTrip", fn := fun _ => fun
  | [d1, d2] => { results := [.lit (.bool true)], args := [d1, d2] }
  | _ => none }
def fnOneWordRoundTripRow : OpenClaim := { program := "qxb6602480a", sum := "2f4fc2bf02119f73d09607a0d945b605d5721b48a3503bbba52a87200a77ac94", func := "example.com/stria/stria/zzlaws_internal_wideint_b1.FnOneWordRoundTrip", spec := "fnOneWordRoundTrip", apart := false }
def FnOneWordRoundTripSaid : Prop := fnOneWordRoundTripRow.holds Try.pinned (OpenSpec.ofChange fnOneWordRoundTripSpec)

/-- ITS FALSE NEIGHBOUR: 'it returns false'. Refute it at one input. -/
def fnOneWordRoundTripWrong : ChangeSpec := { name := "fnOneWordRoundTrip", fn := fun _ => fun
  | [d1, d2] => { results := [.lit (.bool false)], args := [d1, d2] }
  | _ => none }
def FnOneWordRoundTripWrongFalsely : Prop := fnOneWordRoundTripRow.holds Try.pinned (OpenSpec.ofChange fnOneWordRoundTripWrong)

/-- 'zzlaws_internal_wideint_b1.FnShiftLeftMatchesDoubling': WHATEVER THE INPUT: true; the input reads as it did. -/
def fnShiftLeftMatchesDoublingSpec : ChangeSpec := { name := "fnShiftLeftMatchesDoubling", fn := fun _ => fun
  | [d1, d2, d3] => { results := [.lit (.bool true)], args := [d1, d2, d3] }
  | _ => none }
def fnShiftLeftMatchesDoublingRow : OpenClaim := { program := "qxb6602480a", sum := "2f4fc2bf02119f73d09607a0d945b605d5721b48a3503bbba52a87200a77ac94", func := "example.com/stria/stria/zzlaws_internal_wideint_b1.FnShiftLeftMatchesDoubling", spec := "fnShiftLeftMatchesDoubling", apart := false }
def FnShiftLeftMatchesDoublingSaid : Prop := fnShiftLeftMatchesDoublingRow.holds Try.pinned (OpenSpec.ofChange fnShiftLeftMatchesDoublingSpec)

/-- ITS FALSE NEIGHBOUR: 'it returns false'. Refute it at one input. -/
def fnShiftLeftMatchesDoublingWrong : ChangeSpec := { name := "fnShiftLeftMatchesDoubling", fn := fun _ => fun
  | [d1, d2, d3] => { results := [.lit (.bool false)], args := [d1, d2, d3] }
  | _ => none }
def FnShiftLeftMatchesDoublingWrongFalsely : Prop := fnShiftLeftMatchesDoublingRow.holds Try.pinned (OpenSpec.ofChange fnShiftLeftMatchesDoublingWrong)

/-- 'zzlaws_internal_wideint_b1.FnShiftLeftInPlace': WHATEVER THE INPUT: true; the input reads as it did. -/
def fnShiftLeftInPlaceSpec : ChangeSpec := { name := "fnShiftLeftInPlace", fn := fun _ => fun
  | [d1, d2] => { results := [.lit (.bool true)], args := [d1, d2] }
  | _ => none }
def fnShiftLeftInPlaceRow : OpenClaim := { program := "qxb6602480a", sum := "2f4fc2bf02119f73d09607a0d945b605d5721b48a3503bbba52a87200a77ac94", func := "example.com/stria/stria/zzlaws_internal_wideint_b1.FnShiftLeftInPlace", spec := "fnShiftLeftInPlace", apart := false }
def FnShiftLeftInPlaceSaid : Prop := fnShiftLeftInPlaceRow.holds Try.pinned (OpenSpec.ofChange fnShiftLeftInPlaceSpec)

/-- ITS FALSE NEIGHBOUR: 'it returns false'. Refute it at one input. -/
def fnShiftLeftInPlaceWrong : ChangeSpec := { name := "fnShiftLeftInPlace", fn := fun _ => fun
  | [d1, d2] => { results := [.lit (.bool false)], args := [d1, d2] }
  | _ => none }
def FnShiftLeftInPlaceWrongFalsely : Prop := fnShiftLeftInPlaceRow.holds Try.pinned (OpenSpec.ofChange fnShiftLeftInPlaceWrong)

/-- 'zzlaws_internal_wideint_b1.FnShiftLeftComposes': WHATEVER THE INPUT: true; the input reads as it did. -/
def fnShiftLeftComposesSpec : ChangeSpec := { name := "fnShiftLeftComposes", fn := fun _ => fun
  | [d1, d2, d3] => { results := [.lit (.bool true)], args := [d1, d2, d3] }
  | _ => none }
def fnShiftLeftComposesRow : OpenClaim := { program := "qxb6602480a", sum := "2f4fc2bf02119f73d09607a0d945b605d5721b48a3503bbba52a87200a77ac94", func := "example.com/stria/stria/zzlaws_internal_wideint_b1.FnShiftLeftComposes", spec := "fnShiftLeftComposes", apart := false }
def FnShiftLeftComposesSaid : Prop := fnShiftLeftComposesRow.holds Try.pinned (OpenSpec.ofChange fnShiftLeftComposesSpec)

/-- ITS FALSE NEIGHBOUR: 'it returns false'. Refute it at one input. -/
def fnShiftLeftComposesWrong : ChangeSpec := { name := "fnShiftLeftComposes", fn := fun _ => fun
  | [d1, d2, d3] => { results := [.lit (.bool false)], args := [d1, d2, d3] }
  | _ => none }
def FnShiftLeftComposesWrongFalsely : Prop := fnShiftLeftComposesRow.holds Try.pinned (OpenSpec.ofChange fnShiftLeftComposesWrong)

end Rows
end Go.Proofs.Qxb6602480a
