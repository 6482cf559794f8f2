/-
  No cell of these rows narrows 'for every input' (looked for: loops, veiled, ifaces, maps, wideKeys, modest, calm, conditions, laid).
  DERIVED. THE GIVEN ROWS OF THIS SEAT. 3 by the template 'for every input the law returns true; each argument reads behind the call as it read before'; 0 by the template 'total and deterministic' (their statements: Qxb6613449aTotals.lean).
  GIVEN WITH THE SEED: the statements are not yours to turn. If you find one false, say at which input.
  Laid BY PROGRAM, IN A SANDBOX (cutbox-rows.mjs): the forced cells as the released guide's own fill.sh prints them over the translation ae843745e48c4d62… (all of the seat's roots in one cut). By AI agents, Wed Nov 11 2026. No macro, syntax, notation, axiom, sorry.
-/
import Derived.Test.Qxb6613449aChecked
import GoSem.Claim
import GoSem.ClaimJoined
import GoSem.ClaimMapViews
import Derived.JoinedTies
import Derived.KernelRfl
namespace Go.Proofs.Qxb6613449a
/- THE CELL 'sum', in the pinned program and in every row, IS THE sha256 OF THE DUMP (.gsa) THAT Qxb6613449aProg.lean LOADS. Nothing in Lean hashes anything: it is a label: what it is worth is what the hold of that sum in a sandbox is worth. -/
noncomputable def Try.pinned : Pinned := { name := "qxb6613449a", sum := "ae843745e48c4d626c1e233c34b19c6e80a0171cdf132b74e11a8a021a2ca424", checked := Try.checked }
namespace Rows
def none {H : Type} : Left H := { results := [], args := [] }

/-- 'zzlaws_pkg_definition_b1.FnIsAlnumIsDigitOrFoldedLetter': WHATEVER THE INPUT: true; the input reads as it did. -/
def fnIsAlnumIsDigitOrFoldedLetterSpec : ChangeSpec := { name := "fnIsAlnumIsDigitOrFoldedLetter", fn := fun _ => fun
  | [d] => { results := [.lit (.bool true)], args := [d] }
  | _ => none }
def fnIsAlnumIsDigitOrFoldedLetterRow : OpenClaim := { program := "qxb6613449a", sum := "ae843745e48c4d626c1e233c34b19c6e80a0171cdf132b74e11a8a021a2ca424", func := "example.com/oikos/oikos/zzlaws_pkg_definition_b1.FnIsAlnumIsDigitOrFoldedLetter", spec := "fnIsAlnumIsDigitOrFoldedLetter", apart := false }
def FnIsAlnumIsDigitOrFoldedLetterSaid : Prop := fnIsAlnumIsDigitOrFoldedLetterRow.holds Try.pinned (OpenSpec.ofChange fnIsAlnumIsDigitOrFoldedLetterSpec)

/-- ITS FALSE NEIGHBOUR: 'it returns false'. Refute it at one input. -/
def fnIsAlnumIsDigitOrFoldedLetterWrong : ChangeSpec := { name := "fnIsAlnumIsDigitOrFoldedLetter", fn := fun _ => fun
  | [d] => { results := [.lit (.bool false)], args := [d] }
  | _ => none }
def FnIsAlnumIsDigitOrFoldedLetterWrongFalsely : Prop := fnIsAlnumIsDigitOrFoldedLetterRow.holds Try.pinned (OpenSpec.ofChange fnIsAlnumIsDigitOrFoldedLetterWrong)

/-- 'zzlaws_pkg_definition_b1.FnExpandSplitsAndTakesAnInsertedLiteral': WHATEVER THE INPUT: true; the input reads as it did. -/
def fnExpandSplitsAndTakesAnInsertedLiteralSpec : ChangeSpec := { name := "fnExpandSplitsAndTakesAnInsertedLiteral", fn := fun _ => fun
  | [d1, d2, d3, d4, d5, d6] => { results := [.lit (.bool true)], args := [d1, d2, d3, d4, d5, d6] }
  | _ => none }
def fnExpandSplitsAndTakesAnInsertedLiteralRow : OpenClaim := { program := "qxb6613449a", sum := "ae843745e48c4d626c1e233c34b19c6e80a0171cdf132b74e11a8a021a2ca424", func := "example.com/oikos/oikos/zzlaws_pkg_definition_b1.FnExpandSplitsAndTakesAnInsertedLiteral", spec := "fnExpandSplitsAndTakesAnInsertedLiteral", inPlace := ["internal/abi.NoEscape"], unfollowed := true, recurses := true, apart := false }
def FnExpandSplitsAndTakesAnInsertedLiteralSaid : Prop := fnExpandSplitsAndTakesAnInsertedLiteralRow.holds Try.pinned (OpenSpec.ofChange fnExpandSplitsAndTakesAnInsertedLiteralSpec)

/-- ITS FALSE NEIGHBOUR: 'it returns false'. Refute it at one input. -/
def fnExpandSplitsAndTakesAnInsertedLiteralWrong : ChangeSpec := { name := "fnExpandSplitsAndTakesAnInsertedLiteral", fn := fun _ => fun
  | [d1, d2, d3, d4, d5, d6] => { results := [.lit (.bool false)], args := [d1, d2, d3, d4, d5, d6] }
  | _ => none }
def FnExpandSplitsAndTakesAnInsertedLiteralWrongFalsely : Prop := fnExpandSplitsAndTakesAnInsertedLiteralRow.holds Try.pinned (OpenSpec.ofChange fnExpandSplitsAndTakesAnInsertedLiteralWrong)

/-- 'zzlaws_pkg_definition_b1.FnExpandReferencesActAsTheirValues': WHATEVER THE INPUT: true; the input reads as it did. -/
def fnExpandReferencesActAsTheirValuesSpec : ChangeSpec := { name := "fnExpandReferencesActAsTheirValues", fn := fun _ => fun
  | [d1, d2, d3, d4] => { results := [.lit (.bool true)], args := [d1, d2, d3, d4] }
  | _ => none }
def fnExpandReferencesActAsTheirValuesRow : OpenClaim := { program := "qxb6613449a", sum := "ae843745e48c4d626c1e233c34b19c6e80a0171cdf132b74e11a8a021a2ca424", func := "example.com/oikos/oikos/zzlaws_pkg_definition_b1.FnExpandReferencesActAsTheirValues", spec := "fnExpandReferencesActAsTheirValues", inPlace := ["internal/abi.NoEscape"], unfollowed := true, recurses := true, apart := false }
def FnExpandReferencesActAsTheirValuesSaid : Prop := fnExpandReferencesActAsTheirValuesRow.holds Try.pinned (OpenSpec.ofChange fnExpandReferencesActAsTheirValuesSpec)

/-- ITS FALSE NEIGHBOUR: 'it returns false'. Refute it at one input. -/
def fnExpandReferencesActAsTheirValuesWrong : ChangeSpec := { name := "fnExpandReferencesActAsTheirValues", fn := fun _ => fun
  | [d1, d2, d3, d4] => { results := [.lit (.bool false)], args := [d1, d2, d3, d4] }
  | _ => none }
def FnExpandReferencesActAsTheirValuesWrongFalsely : Prop := fnExpandReferencesActAsTheirValuesRow.holds Try.pinned (OpenSpec.ofChange fnExpandReferencesActAsTheirValuesWrong)

end Rows
end Go.Proofs.Qxb6613449a
