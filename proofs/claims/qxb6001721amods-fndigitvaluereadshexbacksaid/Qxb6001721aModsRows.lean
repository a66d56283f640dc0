/-
  No cell of these rows narrows 'for every input' (looked for: loops, veiled, ifaces, maps, wideKeys, modest, calm, conditions, laid).
  DERIVED. THE GIVEN ROWS OF THIS SEAT. 5 by the template 'for every input the law returns true; each argument reads behind the call as it read before'; 0 by the template 'total and deterministic' (their statements: Qxb6001721aModsTotals.lean).
  GIVEN WITH THE SEED: the statements are not yours to turn. If you find one false, say at which input.
  Laid BY PROGRAM, IN A SANDBOX (cutbox-rows.mjs): the forced cells as the released guide's own fill.sh prints them over the translation 5850b6666d08c653… (all of the seat's roots in one cut). By AI agents, Wed Nov 11 2026. No macro, syntax, notation, axiom, sorry.
-/
import Derived.Test.Qxb6001721aModsChecked
import GoSem.Claim
import GoSem.ClaimJoined
import GoSem.ClaimMapViews
import Derived.JoinedTies
import Derived.KernelRfl
namespace Go.Proofs.Qxb6001721aMods
/- THE CELL 'sum', in the pinned program and in every row, IS THE sha256 OF THE DUMP (.gsa) THAT Qxb6001721aModsProg.lean LOADS. Nothing in Lean hashes anything: it is a label: what it is worth is what the hold of that sum in a sandbox is worth. -/
noncomputable def Trym.pinned : Pinned := { name := "qxb6001721amods", sum := "5850b6666d08c653a8457558d970857c4b7a740b50421a94f302c9d549cf85b4", checked := Trym.checked }
namespace Rows
def none {H : Type} : Left H := { results := [], args := [] }

/-- 'zzlaws_internal_jinja_b1.FnHasURISchemeMatchesSchemeByScheme': WHATEVER THE INPUT: true; the input reads as it did. -/
def fnHasURISchemeMatchesSchemeBySchemeSpec : ChangeSpec := { name := "fnHasURISchemeMatchesSchemeByScheme", fn := fun _ => fun
  | [d1, d2, d3] => { results := [.lit (.bool true)], args := [d1, d2, d3] }
  | _ => none }
def fnHasURISchemeMatchesSchemeBySchemeRow : OpenClaim := { program := "qxb6001721amods", sum := "5850b6666d08c653a8457558d970857c4b7a740b50421a94f302c9d549cf85b4", func := "example.com/cradle/cradle/zzlaws_internal_jinja_b1.FnHasURISchemeMatchesSchemeByScheme", spec := "fnHasURISchemeMatchesSchemeByScheme", inPlace := ["internal/bytealg.IndexByteString"], make := .lifted ["publicsums"], apart := false }
def FnHasURISchemeMatchesSchemeBySchemeSaid : Prop := fnHasURISchemeMatchesSchemeBySchemeRow.holds Trym.pinned (OpenSpec.ofChange fnHasURISchemeMatchesSchemeBySchemeSpec)

/-- ITS FALSE NEIGHBOUR: 'it returns false'. Refute it at one input. -/
def fnHasURISchemeMatchesSchemeBySchemeWrong : ChangeSpec := { name := "fnHasURISchemeMatchesSchemeByScheme", fn := fun _ => fun
  | [d1, d2, d3] => { results := [.lit (.bool false)], args := [d1, d2, d3] }
  | _ => none }
def FnHasURISchemeMatchesSchemeBySchemeWrongFalsely : Prop := fnHasURISchemeMatchesSchemeBySchemeRow.holds Trym.pinned (OpenSpec.ofChange fnHasURISchemeMatchesSchemeBySchemeWrong)

/-- 'zzlaws_internal_jinja_b1.FnHasURISchemeGrowsWithSchemes': WHATEVER THE INPUT: true; the input reads as it did. -/
def fnHasURISchemeGrowsWithSchemesSpec : ChangeSpec := { name := "fnHasURISchemeGrowsWithSchemes", fn := fun _ => fun
  | [d1, d2, d3, d4] => { results := [.lit (.bool true)], args := [d1, d2, d3, d4] }
  | _ => none }
def fnHasURISchemeGrowsWithSchemesRow : OpenClaim := { program := "qxb6001721amods", sum := "5850b6666d08c653a8457558d970857c4b7a740b50421a94f302c9d549cf85b4", func := "example.com/cradle/cradle/zzlaws_internal_jinja_b1.FnHasURISchemeGrowsWithSchemes", spec := "fnHasURISchemeGrowsWithSchemes", inPlace := ["internal/bytealg.IndexByteString"], make := .lifted ["publicsums"], apart := false }
def FnHasURISchemeGrowsWithSchemesSaid : Prop := fnHasURISchemeGrowsWithSchemesRow.holds Trym.pinned (OpenSpec.ofChange fnHasURISchemeGrowsWithSchemesSpec)

/-- ITS FALSE NEIGHBOUR: 'it returns false'. Refute it at one input. -/
def fnHasURISchemeGrowsWithSchemesWrong : ChangeSpec := { name := "fnHasURISchemeGrowsWithSchemes", fn := fun _ => fun
  | [d1, d2, d3, d4] => { results := [.lit (.bool false)], args := [d1, d2, d3, d4] }
  | _ => none }
def FnHasURISchemeGrowsWithSchemesWrongFalsely : Prop := fnHasURISchemeGrowsWithSchemesRow.holds Trym.pinned (OpenSpec.ofChange fnHasURISchemeGrowsWithSchemesWrong)

/-- 'zzlaws_internal_jinja_b1.FnHasURISchemeRefusesTextWithoutColonOrItself': WHATEVER THE INPUT: true; the input reads as it did. -/
def fnHasURISchemeRefusesTextWithoutColonOrItselfSpec : ChangeSpec := { name := "fnHasURISchemeRefusesTextWithoutColonOrItself", fn := fun _ => fun
  | [d1, d2, d3] => { results := [.lit (.bool true)], args := [d1, d2, d3] }
  | _ => none }
def fnHasURISchemeRefusesTextWithoutColonOrItselfRow : OpenClaim := { program := "qxb6001721amods", sum := "5850b6666d08c653a8457558d970857c4b7a740b50421a94f302c9d549cf85b4", func := "example.com/cradle/cradle/zzlaws_internal_jinja_b1.FnHasURISchemeRefusesTextWithoutColonOrItself", spec := "fnHasURISchemeRefusesTextWithoutColonOrItself", inPlace := ["internal/bytealg.IndexByteString"], make := .lifted ["publicsums"], apart := false }
def FnHasURISchemeRefusesTextWithoutColonOrItselfSaid : Prop := fnHasURISchemeRefusesTextWithoutColonOrItselfRow.holds Trym.pinned (OpenSpec.ofChange fnHasURISchemeRefusesTextWithoutColonOrItselfSpec)

/-- ITS FALSE NEIGHBOUR: 'it returns false'. Refute it at one input. -/
def fnHasURISchemeRefusesTextWithoutColonOrItselfWrong : ChangeSpec := { name := "fnHasURISchemeRefusesTextWithoutColonOrItself", fn := fun _ => fun
  | [d1, d2, d3] => { results := [.lit (.bool false)], args := [d1, d2, d3] }
  | _ => none }
def FnHasURISchemeRefusesTextWithoutColonOrItselfWrongFalsely : Prop := fnHasURISchemeRefusesTextWithoutColonOrItselfRow.holds Trym.pinned (OpenSpec.ofChange fnHasURISchemeRefusesTextWithoutColonOrItselfWrong)

/-- 'zzlaws_internal_jinja_b1.FnDigitValueIsHexDigitOrSixteen': WHATEVER THE INPUT: true; the input reads as it did. -/
def fnDigitValueIsHexDigitOrSixteenSpec : ChangeSpec := { name := "fnDigitValueIsHexDigitOrSixteen", fn := fun _ => fun
  | [d] => { results := [.lit (.bool true)], args := [d] }
  | _ => none }
def fnDigitValueIsHexDigitOrSixteenRow : OpenClaim := { program := "qxb6001721amods", sum := "5850b6666d08c653a8457558d970857c4b7a740b50421a94f302c9d549cf85b4", func := "example.com/cradle/cradle/zzlaws_internal_jinja_b1.FnDigitValueIsHexDigitOrSixteen", spec := "fnDigitValueIsHexDigitOrSixteen", make := .lifted ["publicsums"], apart := false }
def FnDigitValueIsHexDigitOrSixteenSaid : Prop := fnDigitValueIsHexDigitOrSixteenRow.holds Trym.pinned (OpenSpec.ofChange fnDigitValueIsHexDigitOrSixteenSpec)

/-- ITS FALSE NEIGHBOUR: 'it returns false'. Refute it at one input. -/
def fnDigitValueIsHexDigitOrSixteenWrong : ChangeSpec := { name := "fnDigitValueIsHexDigitOrSixteen", fn := fun _ => fun
  | [d] => { results := [.lit (.bool false)], args := [d] }
  | _ => none }
def FnDigitValueIsHexDigitOrSixteenWrongFalsely : Prop := fnDigitValueIsHexDigitOrSixteenRow.holds Trym.pinned (OpenSpec.ofChange fnDigitValueIsHexDigitOrSixteenWrong)

/-- 'zzlaws_internal_jinja_b1.FnDigitValueReadsHexBack': WHATEVER THE INPUT: true; the input reads as it did. -/
def fnDigitValueReadsHexBackSpec : ChangeSpec := { name := "fnDigitValueReadsHexBack", fn := fun _ => fun
  | [d1, d2] => { results := [.lit (.bool true)], args := [d1, d2] }
  | _ => none }
def fnDigitValueReadsHexBackRow : OpenClaim := { program := "qxb6001721amods", sum := "5850b6666d08c653a8457558d970857c4b7a740b50421a94f302c9d549cf85b4", func := "example.com/cradle/cradle/zzlaws_internal_jinja_b1.FnDigitValueReadsHexBack", spec := "fnDigitValueReadsHexBack", make := .lifted ["publicsums"], apart := false }
def FnDigitValueReadsHexBackSaid : Prop := fnDigitValueReadsHexBackRow.holds Trym.pinned (OpenSpec.ofChange fnDigitValueReadsHexBackSpec)

/-- ITS FALSE NEIGHBOUR: 'it returns false'. Refute it at one input. -/
def fnDigitValueReadsHexBackWrong : ChangeSpec := { name := "fnDigitValueReadsHexBack", fn := fun _ => fun
  | [d1, d2] => { results := [.lit (.bool false)], args := [d1, d2] }
  | _ => none }
def FnDigitValueReadsHexBackWrongFalsely : Prop := fnDigitValueReadsHexBackRow.holds Trym.pinned (OpenSpec.ofChange fnDigitValueReadsHexBackWrong)

end Rows
end Go.Proofs.Qxb6001721aMods
