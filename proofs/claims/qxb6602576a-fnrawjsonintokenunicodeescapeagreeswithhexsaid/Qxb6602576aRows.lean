/-
  No cell of these rows narrows 'for every input' (looked for: loops, veiled, ifaces, maps, wideKeys, modest, calm, conditions, laid).
  DERIVED. THE GIVEN ROWS OF THIS SEAT. 4 by the template 'for every input the law returns true; each argument reads behind the call as it read before'; 0 by the template 'total and deterministic' (their statements: Qxb6602576aTotals.lean).
  GIVEN WITH THE SEED: the statements are not yours to turn. If you find one false, say at which input.
  Laid BY PROGRAM, IN A SANDBOX (cutbox-rows.mjs): the forced cells as the released guide's own fill.sh prints them over the translation 8ffc074285dea19b… (all of the seat's roots in one cut). By AI agents, Wed Nov 11 2026. No macro, syntax, notation, axiom, sorry.
-/
import Derived.Test.Qxb6602576aChecked
import GoSem.Claim
import GoSem.ClaimJoined
import GoSem.ClaimMapViews
import Derived.JoinedTies
import Derived.KernelRfl
namespace Go.Proofs.Qxb6602576a
/- THE CELL 'sum', in the pinned program and in every row, IS THE sha256 OF THE DUMP (.gsa) THAT Qxb6602576aProg.lean LOADS. Nothing in Lean hashes anything: it is a label: what it is worth is what the hold of that sum in a sandbox is worth. -/
noncomputable def Try.pinned : Pinned := { name := "qxb6602576a", sum := "8ffc074285dea19b21a27f1eb4415d4f8136b0b7e4e4dcd624d828698a54def9", checked := Try.checked }
namespace Rows
def none {H : Type} : Left H := { results := [], args := [] }

/-- 'zzlaws_internal_rawjson_b1.FnRawjsonStartAgreesWithKind': WHATEVER THE INPUT: true; the input reads as it did. -/
def fnRawjsonStartAgreesWithKindSpec : ChangeSpec := { name := "fnRawjsonStartAgreesWithKind", fn := fun _ => fun
  | [d1, d2] => { results := [.lit (.bool true)], args := [d1, d2] }
  | _ => none }
def fnRawjsonStartAgreesWithKindRow : OpenClaim := { program := "qxb6602576a", sum := "8ffc074285dea19b21a27f1eb4415d4f8136b0b7e4e4dcd624d828698a54def9", func := "example.com/glot3/glot3/zzlaws_internal_rawjson_b1.FnRawjsonStartAgreesWithKind", spec := "fnRawjsonStartAgreesWithKind", apart := false }
def FnRawjsonStartAgreesWithKindSaid : Prop := fnRawjsonStartAgreesWithKindRow.holds Try.pinned (OpenSpec.ofChange fnRawjsonStartAgreesWithKindSpec)

/-- ITS FALSE NEIGHBOUR: 'it returns false'. Refute it at one input. -/
def fnRawjsonStartAgreesWithKindWrong : ChangeSpec := { name := "fnRawjsonStartAgreesWithKind", fn := fun _ => fun
  | [d1, d2] => { results := [.lit (.bool false)], args := [d1, d2] }
  | _ => none }
def FnRawjsonStartAgreesWithKindWrongFalsely : Prop := fnRawjsonStartAgreesWithKindRow.holds Try.pinned (OpenSpec.ofChange fnRawjsonStartAgreesWithKindWrong)

/-- 'zzlaws_internal_rawjson_b1.FnRawjsonInTokenSpellsLiteral': WHATEVER THE INPUT: true; the input reads as it did. -/
def fnRawjsonInTokenSpellsLiteralSpec : ChangeSpec := { name := "fnRawjsonInTokenSpellsLiteral", fn := fun _ => fun
  | [d] => { results := [.lit (.bool true)], args := [d] }
  | _ => none }
def fnRawjsonInTokenSpellsLiteralRow : OpenClaim := { program := "qxb6602576a", sum := "8ffc074285dea19b21a27f1eb4415d4f8136b0b7e4e4dcd624d828698a54def9", func := "example.com/glot3/glot3/zzlaws_internal_rawjson_b1.FnRawjsonInTokenSpellsLiteral", spec := "fnRawjsonInTokenSpellsLiteral", apart := false }
def FnRawjsonInTokenSpellsLiteralSaid : Prop := fnRawjsonInTokenSpellsLiteralRow.holds Try.pinned (OpenSpec.ofChange fnRawjsonInTokenSpellsLiteralSpec)

/-- ITS FALSE NEIGHBOUR: 'it returns false'. Refute it at one input. -/
def fnRawjsonInTokenSpellsLiteralWrong : ChangeSpec := { name := "fnRawjsonInTokenSpellsLiteral", fn := fun _ => fun
  | [d] => { results := [.lit (.bool false)], args := [d] }
  | _ => none }
def FnRawjsonInTokenSpellsLiteralWrongFalsely : Prop := fnRawjsonInTokenSpellsLiteralRow.holds Try.pinned (OpenSpec.ofChange fnRawjsonInTokenSpellsLiteralWrong)

/-- 'zzlaws_internal_rawjson_b1.FnRawjsonInTokenUnicodeEscapeAgreesWithHex': WHATEVER THE INPUT: true; the input reads as it did. -/
def fnRawjsonInTokenUnicodeEscapeAgreesWithHexSpec : ChangeSpec := { name := "fnRawjsonInTokenUnicodeEscapeAgreesWithHex", fn := fun _ => fun
  | [d1, d2, d3, d4, d5] => { results := [.lit (.bool true)], args := [d1, d2, d3, d4, d5] }
  | _ => none }
def fnRawjsonInTokenUnicodeEscapeAgreesWithHexRow : OpenClaim := { program := "qxb6602576a", sum := "8ffc074285dea19b21a27f1eb4415d4f8136b0b7e4e4dcd624d828698a54def9", func := "example.com/glot3/glot3/zzlaws_internal_rawjson_b1.FnRawjsonInTokenUnicodeEscapeAgreesWithHex", spec := "fnRawjsonInTokenUnicodeEscapeAgreesWithHex", apart := false }
def FnRawjsonInTokenUnicodeEscapeAgreesWithHexSaid : Prop := fnRawjsonInTokenUnicodeEscapeAgreesWithHexRow.holds Try.pinned (OpenSpec.ofChange fnRawjsonInTokenUnicodeEscapeAgreesWithHexSpec)

/-- ITS FALSE NEIGHBOUR: 'it returns false'. Refute it at one input. -/
def fnRawjsonInTokenUnicodeEscapeAgreesWithHexWrong : ChangeSpec := { name := "fnRawjsonInTokenUnicodeEscapeAgreesWithHex", fn := fun _ => fun
  | [d1, d2, d3, d4, d5] => { results := [.lit (.bool false)], args := [d1, d2, d3, d4, d5] }
  | _ => none }
def FnRawjsonInTokenUnicodeEscapeAgreesWithHexWrongFalsely : Prop := fnRawjsonInTokenUnicodeEscapeAgreesWithHexRow.holds Try.pinned (OpenSpec.ofChange fnRawjsonInTokenUnicodeEscapeAgreesWithHexWrong)

/-- 'zzlaws_internal_rawjson_b1.FnRawjsonKindFirstByteDecides': WHATEVER THE INPUT: true; the input reads as it did. -/
def fnRawjsonKindFirstByteDecidesSpec : ChangeSpec := { name := "fnRawjsonKindFirstByteDecides", fn := fun _ => fun
  | [d1, d2] => { results := [.lit (.bool true)], args := [d1, d2] }
  | _ => none }
def fnRawjsonKindFirstByteDecidesRow : OpenClaim := { program := "qxb6602576a", sum := "8ffc074285dea19b21a27f1eb4415d4f8136b0b7e4e4dcd624d828698a54def9", func := "example.com/glot3/glot3/zzlaws_internal_rawjson_b1.FnRawjsonKindFirstByteDecides", spec := "fnRawjsonKindFirstByteDecides", apart := false }
def FnRawjsonKindFirstByteDecidesSaid : Prop := fnRawjsonKindFirstByteDecidesRow.holds Try.pinned (OpenSpec.ofChange fnRawjsonKindFirstByteDecidesSpec)

/-- ITS FALSE NEIGHBOUR: 'it returns false'. Refute it at one input. -/
def fnRawjsonKindFirstByteDecidesWrong : ChangeSpec := { name := "fnRawjsonKindFirstByteDecides", fn := fun _ => fun
  | [d1, d2] => { results := [.lit (.bool false)], args := [d1, d2] }
  | _ => none }
def FnRawjsonKindFirstByteDecidesWrongFalsely : Prop := fnRawjsonKindFirstByteDecidesRow.holds Try.pinned (OpenSpec.ofChange fnRawjsonKindFirstByteDecidesWrong)

end Rows
end Go.Proofs.Qxb6602576a
