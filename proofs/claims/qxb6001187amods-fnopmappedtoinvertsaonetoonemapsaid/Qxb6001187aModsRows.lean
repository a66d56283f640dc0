/-
  No cell of these rows narrows 'for every input' (looked for: loops, veiled, ifaces, maps, wideKeys, modest, calm, conditions, laid).
  DERIVED. THE GIVEN ROWS OF THIS SEAT. 2 by the template 'for every input the law returns true; each argument reads behind the call as it read before'; 0 by the template 'total and deterministic' (their statements: Qxb6001187aModsTotals.lean).
  GIVEN WITH THE SEED: the statements are not yours to turn. If you find one false, say at which input.
  Laid BY PROGRAM, IN A SANDBOX (cutbox-rows.mjs): the forced cells as the released guide's own fill.sh prints them over the translation e39ed1f31bcecd7d… (all of the seat's roots in one cut). By AI agents, Wed Nov 11 2026. No macro, syntax, notation, axiom, sorry.
-/
import Derived.Test.Qxb6001187aModsChecked
import GoSem.Claim
import GoSem.ClaimJoined
import GoSem.ClaimMapViews
import Derived.JoinedTies
import Derived.KernelRfl
namespace Go.Proofs.Qxb6001187aMods
/- THE CELL 'sum', in the pinned program and in every row, IS THE sha256 OF THE DUMP (.gsa) THAT Qxb6001187aModsProg.lean LOADS. Nothing in Lean hashes anything: it is a label: what it is worth is what the hold of that sum in a sandbox is worth. -/
noncomputable def Trym.pinned : Pinned := { name := "qxb6001187amods", sum := "e39ed1f31bcecd7dbcc8a85c802bc784c3822b4cf463451e718710b893cf7166", checked := Trym.checked }
namespace Rows
def none {H : Type} : Left H := { results := [], args := [] }

/-- 'zzlaws_txn_b1.FnOpMappedToFindsAPreimageExactlyWhenOneExists': WHATEVER THE INPUT: true; the input reads as it did. -/
def fnOpMappedToFindsAPreimageExactlyWhenOneExistsSpec : ChangeSpec := { name := "fnOpMappedToFindsAPreimageExactlyWhenOneExists", fn := fun _ => fun
  | [d1, d2, d3] => { results := [.lit (.bool true)], args := [d1, d2, d3] }
  | _ => none }
def fnOpMappedToFindsAPreimageExactlyWhenOneExistsRow : OpenClaim := { program := "qxb6001187amods", sum := "e39ed1f31bcecd7dbcc8a85c802bc784c3822b4cf463451e718710b893cf7166", func := "example.com/concordat/concordat/zzlaws_txn_b1.FnOpMappedToFindsAPreimageExactlyWhenOneExists", spec := "fnOpMappedToFindsAPreimageExactlyWhenOneExists", make := .lifted ["publicsums"], apart := false }
def FnOpMappedToFindsAPreimageExactlyWhenOneExistsSaid : Prop := fnOpMappedToFindsAPreimageExactlyWhenOneExistsRow.holds Trym.pinned (OpenSpec.ofChange fnOpMappedToFindsAPreimageExactlyWhenOneExistsSpec)

/-- ITS FALSE NEIGHBOUR: 'it returns false'. Refute it at one input. -/
def fnOpMappedToFindsAPreimageExactlyWhenOneExistsWrong : ChangeSpec := { name := "fnOpMappedToFindsAPreimageExactlyWhenOneExists", fn := fun _ => fun
  | [d1, d2, d3] => { results := [.lit (.bool false)], args := [d1, d2, d3] }
  | _ => none }
def FnOpMappedToFindsAPreimageExactlyWhenOneExistsWrongFalsely : Prop := fnOpMappedToFindsAPreimageExactlyWhenOneExistsRow.holds Trym.pinned (OpenSpec.ofChange fnOpMappedToFindsAPreimageExactlyWhenOneExistsWrong)

/-- 'zzlaws_txn_b1.FnOpMappedToInvertsAOneToOneMap': WHATEVER THE INPUT: true; the input reads as it did. -/
def fnOpMappedToInvertsAOneToOneMapSpec : ChangeSpec := { name := "fnOpMappedToInvertsAOneToOneMap", fn := fun _ => fun
  | [d1, d2, d3] => { results := [.lit (.bool true)], args := [d1, d2, d3] }
  | _ => none }
def fnOpMappedToInvertsAOneToOneMapRow : OpenClaim := { program := "qxb6001187amods", sum := "e39ed1f31bcecd7dbcc8a85c802bc784c3822b4cf463451e718710b893cf7166", func := "example.com/concordat/concordat/zzlaws_txn_b1.FnOpMappedToInvertsAOneToOneMap", spec := "fnOpMappedToInvertsAOneToOneMap", make := .lifted ["publicsums"], apart := false }
def FnOpMappedToInvertsAOneToOneMapSaid : Prop := fnOpMappedToInvertsAOneToOneMapRow.holds Trym.pinned (OpenSpec.ofChange fnOpMappedToInvertsAOneToOneMapSpec)

/-- ITS FALSE NEIGHBOUR: 'it returns false'. Refute it at one input. -/
def fnOpMappedToInvertsAOneToOneMapWrong : ChangeSpec := { name := "fnOpMappedToInvertsAOneToOneMap", fn := fun _ => fun
  | [d1, d2, d3] => { results := [.lit (.bool false)], args := [d1, d2, d3] }
  | _ => none }
def FnOpMappedToInvertsAOneToOneMapWrongFalsely : Prop := fnOpMappedToInvertsAOneToOneMapRow.holds Trym.pinned (OpenSpec.ofChange fnOpMappedToInvertsAOneToOneMapWrong)

end Rows
end Go.Proofs.Qxb6001187aMods
