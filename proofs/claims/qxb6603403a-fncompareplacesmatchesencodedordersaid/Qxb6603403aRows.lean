/-
  No cell of these rows narrows 'for every input' (looked for: loops, veiled, ifaces, maps, wideKeys, modest, calm, conditions, laid).
  DERIVED. THE GIVEN ROWS OF THIS SEAT. 3 by the template 'for every input the law returns true; each argument reads behind the call as it read before'; 0 by the template 'total and deterministic' (their statements: Qxb6603403aTotals.lean).
  GIVEN WITH THE SEED: the statements are not yours to turn. If you find one false, say at which input.
  Laid BY PROGRAM, IN A SANDBOX (cutbox-rows.mjs): the forced cells as the released guide's own fill.sh prints them over the translation 2851c534e13a5728… (all of the seat's roots in one cut). By AI agents, Wed Nov 11 2026. No macro, syntax, notation, axiom, sorry.
-/
import Derived.Test.Qxb6603403aChecked
import GoSem.Claim
import GoSem.ClaimJoined
import GoSem.ClaimMapViews
import Derived.JoinedTies
import Derived.KernelRfl
namespace Go.Proofs.Qxb6603403a
/- THE CELL 'sum', in the pinned program and in every row, IS THE sha256 OF THE DUMP (.gsa) THAT Qxb6603403aProg.lean LOADS. Nothing in Lean hashes anything: it is a label: what it is worth is what the hold of that sum in a sandbox is worth. -/
noncomputable def Try.pinned : Pinned := { name := "qxb6603403a", sum := "2851c534e13a57289f1a14c8c61a61944ab34ea841341fc01d5105d3c08de77f", checked := Try.checked }
namespace Rows
def none {H : Type} : Left H := { results := [], args := [] }

/-- 'zzlaws_internal_schema_b1.FnComparePlacesMatchesEncodedOrder': WHATEVER THE INPUT: true; the input reads as it did. -/
def fnComparePlacesMatchesEncodedOrderSpec : ChangeSpec := { name := "fnComparePlacesMatchesEncodedOrder", fn := fun _ => fun
  | [d1, d2] => { results := [.lit (.bool true)], args := [d1, d2] }
  | _ => none }
def fnComparePlacesMatchesEncodedOrderRow : OpenClaim := { program := "qxb6603403a", sum := "2851c534e13a57289f1a14c8c61a61944ab34ea841341fc01d5105d3c08de77f", func := "example.com/eddyline/eddyline/zzlaws_internal_schema_b1.FnComparePlacesMatchesEncodedOrder", spec := "fnComparePlacesMatchesEncodedOrder", inPlace := ["internal/bytealg.abigen_runtime_cmpstring"], apart := false }
def FnComparePlacesMatchesEncodedOrderSaid : Prop := fnComparePlacesMatchesEncodedOrderRow.holds Try.pinned (OpenSpec.ofChange fnComparePlacesMatchesEncodedOrderSpec)

/-- ITS FALSE NEIGHBOUR: 'it returns false'. Refute it at one input. -/
def fnComparePlacesMatchesEncodedOrderWrong : ChangeSpec := { name := "fnComparePlacesMatchesEncodedOrder", fn := fun _ => fun
  | [d1, d2] => { results := [.lit (.bool false)], args := [d1, d2] }
  | _ => none }
def FnComparePlacesMatchesEncodedOrderWrongFalsely : Prop := fnComparePlacesMatchesEncodedOrderRow.holds Try.pinned (OpenSpec.ofChange fnComparePlacesMatchesEncodedOrderWrong)

/-- 'zzlaws_internal_schema_b1.FnComparePlacesAntisymmetricAndZeroOnlyAtEqual': WHATEVER THE INPUT: true; the input reads as it did. -/
def fnComparePlacesAntisymmetricAndZeroOnlyAtEqualSpec : ChangeSpec := { name := "fnComparePlacesAntisymmetricAndZeroOnlyAtEqual", fn := fun _ => fun
  | [d1, d2] => { results := [.lit (.bool true)], args := [d1, d2] }
  | _ => none }
def fnComparePlacesAntisymmetricAndZeroOnlyAtEqualRow : OpenClaim := { program := "qxb6603403a", sum := "2851c534e13a57289f1a14c8c61a61944ab34ea841341fc01d5105d3c08de77f", func := "example.com/eddyline/eddyline/zzlaws_internal_schema_b1.FnComparePlacesAntisymmetricAndZeroOnlyAtEqual", spec := "fnComparePlacesAntisymmetricAndZeroOnlyAtEqual", inPlace := ["internal/bytealg.abigen_runtime_cmpstring"], apart := false }
def FnComparePlacesAntisymmetricAndZeroOnlyAtEqualSaid : Prop := fnComparePlacesAntisymmetricAndZeroOnlyAtEqualRow.holds Try.pinned (OpenSpec.ofChange fnComparePlacesAntisymmetricAndZeroOnlyAtEqualSpec)

/-- ITS FALSE NEIGHBOUR: 'it returns false'. Refute it at one input. -/
def fnComparePlacesAntisymmetricAndZeroOnlyAtEqualWrong : ChangeSpec := { name := "fnComparePlacesAntisymmetricAndZeroOnlyAtEqual", fn := fun _ => fun
  | [d1, d2] => { results := [.lit (.bool false)], args := [d1, d2] }
  | _ => none }
def FnComparePlacesAntisymmetricAndZeroOnlyAtEqualWrongFalsely : Prop := fnComparePlacesAntisymmetricAndZeroOnlyAtEqualRow.holds Try.pinned (OpenSpec.ofChange fnComparePlacesAntisymmetricAndZeroOnlyAtEqualWrong)

/-- 'zzlaws_internal_schema_b1.FnComparePlacesOrdersArrayItemsByNumber': WHATEVER THE INPUT: true; the input reads as it did. -/
def fnComparePlacesOrdersArrayItemsByNumberSpec : ChangeSpec := { name := "fnComparePlacesOrdersArrayItemsByNumber", fn := fun _ => fun
  | [d1, d2, d3, d4, d5] => { results := [.lit (.bool true)], args := [d1, d2, d3, d4, d5] }
  | _ => none }
def fnComparePlacesOrdersArrayItemsByNumberRow : OpenClaim := { program := "qxb6603403a", sum := "2851c534e13a57289f1a14c8c61a61944ab34ea841341fc01d5105d3c08de77f", func := "example.com/eddyline/eddyline/zzlaws_internal_schema_b1.FnComparePlacesOrdersArrayItemsByNumber", spec := "fnComparePlacesOrdersArrayItemsByNumber", inPlace := ["internal/bytealg.abigen_runtime_cmpstring"], apart := false }
def FnComparePlacesOrdersArrayItemsByNumberSaid : Prop := fnComparePlacesOrdersArrayItemsByNumberRow.holds Try.pinned (OpenSpec.ofChange fnComparePlacesOrdersArrayItemsByNumberSpec)

/-- ITS FALSE NEIGHBOUR: 'it returns false'. Refute it at one input. -/
def fnComparePlacesOrdersArrayItemsByNumberWrong : ChangeSpec := { name := "fnComparePlacesOrdersArrayItemsByNumber", fn := fun _ => fun
  | [d1, d2, d3, d4, d5] => { results := [.lit (.bool false)], args := [d1, d2, d3, d4, d5] }
  | _ => none }
def FnComparePlacesOrdersArrayItemsByNumberWrongFalsely : Prop := fnComparePlacesOrdersArrayItemsByNumberRow.holds Try.pinned (OpenSpec.ofChange fnComparePlacesOrdersArrayItemsByNumberWrong)

end Rows
end Go.Proofs.Qxb6603403a
