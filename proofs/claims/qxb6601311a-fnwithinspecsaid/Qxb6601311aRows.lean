/-
  No cell of these rows narrows 'for every input' (looked for: loops, veiled, ifaces, maps, wideKeys, modest, calm, conditions, laid).
  DERIVED. THE GIVEN ROWS OF THIS SEAT. 3 by the template 'for every input the law returns true; each argument reads behind the call as it read before'; 0 by the template 'total and deterministic' (their statements: Qxb6601311aTotals.lean).
  GIVEN WITH THE SEED: the statements are not yours to turn. If you find one false, say at which input.
  Laid BY PROGRAM, IN A SANDBOX (cutbox-rows.mjs): the forced cells as the released guide's own fill.sh prints them over the translation 4193db7a1a2448da… (all of the seat's roots in one cut). By AI agents, Wed Nov 11 2026. No macro, syntax, notation, axiom, sorry.
-/
import Derived.Test.Qxb6601311aChecked
import GoSem.Claim
import GoSem.ClaimJoined
import GoSem.ClaimMapViews
import Derived.JoinedTies
import Derived.KernelRfl
namespace Go.Proofs.Qxb6601311a
/- THE CELL 'sum', in the pinned program and in every row, IS THE sha256 OF THE DUMP (.gsa) THAT Qxb6601311aProg.lean LOADS. Nothing in Lean hashes anything: it is a label: what it is worth is what the hold of that sum in a sandbox is worth. -/
noncomputable def Try.pinned : Pinned := { name := "qxb6601311a", sum := "4193db7a1a2448daa0323ee306abd9d8738320070eaf97dce5a0445b658da9b7", checked := Try.checked }
namespace Rows
def none {H : Type} : Left H := { results := [], args := [] }

/-- 'zzlaws_folders_b1.FnWithinSpec': WHATEVER THE INPUT: true; the input reads as it did. -/
def fnWithinSpecSpec : ChangeSpec := { name := "fnWithinSpec", fn := fun _ => fun
  | [d1, d2] => { results := [.lit (.bool true)], args := [d1, d2] }
  | _ => none }
def fnWithinSpecRow : OpenClaim := { program := "qxb6601311a", sum := "4193db7a1a2448daa0323ee306abd9d8738320070eaf97dce5a0445b658da9b7", func := "example.com/sheaf/sheaf/zzlaws_folders_b1.FnWithinSpec", spec := "fnWithinSpec", apart := false }
def FnWithinSpecSaid : Prop := fnWithinSpecRow.holds Try.pinned (OpenSpec.ofChange fnWithinSpecSpec)

/-- ITS FALSE NEIGHBOUR: 'it returns false'. Refute it at one input. -/
def fnWithinSpecWrong : ChangeSpec := { name := "fnWithinSpec", fn := fun _ => fun
  | [d1, d2] => { results := [.lit (.bool false)], args := [d1, d2] }
  | _ => none }
def FnWithinSpecWrongFalsely : Prop := fnWithinSpecRow.holds Try.pinned (OpenSpec.ofChange fnWithinSpecWrong)

/-- 'zzlaws_folders_b1.FnWithinTransitive': WHATEVER THE INPUT: true; the input reads as it did. -/
def fnWithinTransitiveSpec : ChangeSpec := { name := "fnWithinTransitive", fn := fun _ => fun
  | [d1, d2, d3] => { results := [.lit (.bool true)], args := [d1, d2, d3] }
  | _ => none }
def fnWithinTransitiveRow : OpenClaim := { program := "qxb6601311a", sum := "4193db7a1a2448daa0323ee306abd9d8738320070eaf97dce5a0445b658da9b7", func := "example.com/sheaf/sheaf/zzlaws_folders_b1.FnWithinTransitive", spec := "fnWithinTransitive", apart := false }
def FnWithinTransitiveSaid : Prop := fnWithinTransitiveRow.holds Try.pinned (OpenSpec.ofChange fnWithinTransitiveSpec)

/-- ITS FALSE NEIGHBOUR: 'it returns false'. Refute it at one input. -/
def fnWithinTransitiveWrong : ChangeSpec := { name := "fnWithinTransitive", fn := fun _ => fun
  | [d1, d2, d3] => { results := [.lit (.bool false)], args := [d1, d2, d3] }
  | _ => none }
def FnWithinTransitiveWrongFalsely : Prop := fnWithinTransitiveRow.holds Try.pinned (OpenSpec.ofChange fnWithinTransitiveWrong)

/-- 'zzlaws_folders_b1.FnWithinPartialOrder': WHATEVER THE INPUT: true; the input reads as it did. -/
def fnWithinPartialOrderSpec : ChangeSpec := { name := "fnWithinPartialOrder", fn := fun _ => fun
  | [d1, d2] => { results := [.lit (.bool true)], args := [d1, d2] }
  | _ => none }
def fnWithinPartialOrderRow : OpenClaim := { program := "qxb6601311a", sum := "4193db7a1a2448daa0323ee306abd9d8738320070eaf97dce5a0445b658da9b7", func := "example.com/sheaf/sheaf/zzlaws_folders_b1.FnWithinPartialOrder", spec := "fnWithinPartialOrder", apart := false }
def FnWithinPartialOrderSaid : Prop := fnWithinPartialOrderRow.holds Try.pinned (OpenSpec.ofChange fnWithinPartialOrderSpec)

/-- ITS FALSE NEIGHBOUR: 'it returns false'. Refute it at one input. -/
def fnWithinPartialOrderWrong : ChangeSpec := { name := "fnWithinPartialOrder", fn := fun _ => fun
  | [d1, d2] => { results := [.lit (.bool false)], args := [d1, d2] }
  | _ => none }
def FnWithinPartialOrderWrongFalsely : Prop := fnWithinPartialOrderRow.holds Try.pinned (OpenSpec.ofChange fnWithinPartialOrderWrong)

end Rows
end Go.Proofs.Qxb6601311a
