/-
  No cell of these rows narrows 'for every input' (looked for: loops, veiled, ifaces, maps, wideKeys, modest, calm, conditions, laid).
  DERIVED. THE GIVEN ROWS OF THIS SEAT. 6 by the template 'for every input the law returns true; each argument reads behind the call as it read before'; 0 by the template 'total and deterministic' (their statements: Qxb6000442aModsTotals.lean).
  GIVEN WITH THE SEED: the statements are not yours to turn. If you find one false, say at which input.
  Laid BY PROGRAM, IN A SANDBOX (cutbox-rows.mjs): the forced cells as the released guide's own fill.sh prints them over the translation 1061ff92e9056f68… (all of the seat's roots in one cut). By AI agents, Wed Nov 11 2026. No macro, syntax, notation, axiom, sorry.
-/
import Derived.Test.Qxb6000442aModsChecked
import GoSem.Claim
import GoSem.ClaimJoined
import GoSem.ClaimMapViews
import Derived.JoinedTies
import Derived.KernelRfl
namespace Go.Proofs.Qxb6000442aMods
/- THE CELL 'sum', in the pinned program and in every row, IS THE sha256 OF THE DUMP (.gsa) THAT Qxb6000442aModsProg.lean LOADS. Nothing in Lean hashes anything: it is a label: what it is worth is what the hold of that sum in a sandbox is worth. -/
noncomputable def Trym.pinned : Pinned := { name := "qxb6000442amods", sum := "1061ff92e9056f68ca910959209e2cdc997b86abb7e28a3fde18eb85124862b9", checked := Trym.checked }
namespace Rows
def none {H : Type} : Left H := { results := [], args := [] }

/-- 'zzlaws_link_b1.FnSegmentLensPartitionsBySpec': WHATEVER THE INPUT: true; the input reads as it did. -/
def fnSegmentLensPartitionsBySpecSpec : ChangeSpec := { name := "fnSegmentLensPartitionsBySpec", fn := fun _ => fun
  | [d] => { results := [.lit (.bool true)], args := [d] }
  | _ => none }
def fnSegmentLensPartitionsBySpecRow : OpenClaim := { program := "qxb6000442amods", sum := "1061ff92e9056f68ca910959209e2cdc997b86abb7e28a3fde18eb85124862b9", func := "example.com/chainwise/chainwise/zzlaws_link_b1.FnSegmentLensPartitionsBySpec", spec := "fnSegmentLensPartitionsBySpec", make := .lifted ["publicsums"], apart := false }
def FnSegmentLensPartitionsBySpecSaid : Prop := fnSegmentLensPartitionsBySpecRow.holds Trym.pinned (OpenSpec.ofChange fnSegmentLensPartitionsBySpecSpec)

/-- ITS FALSE NEIGHBOUR: 'it returns false'. Refute it at one input. -/
def fnSegmentLensPartitionsBySpecWrong : ChangeSpec := { name := "fnSegmentLensPartitionsBySpec", fn := fun _ => fun
  | [d] => { results := [.lit (.bool false)], args := [d] }
  | _ => none }
def FnSegmentLensPartitionsBySpecWrongFalsely : Prop := fnSegmentLensPartitionsBySpecRow.holds Trym.pinned (OpenSpec.ofChange fnSegmentLensPartitionsBySpecWrong)

/-- 'zzlaws_link_b1.FnSegmentLensSplitsAtMaskedTag': WHATEVER THE INPUT: true; the input reads as it did. -/
def fnSegmentLensSplitsAtMaskedTagSpec : ChangeSpec := { name := "fnSegmentLensSplitsAtMaskedTag", fn := fun _ => fun
  | [d1, d2] => { results := [.lit (.bool true)], args := [d1, d2] }
  | _ => none }
def fnSegmentLensSplitsAtMaskedTagRow : OpenClaim := { program := "qxb6000442amods", sum := "1061ff92e9056f68ca910959209e2cdc997b86abb7e28a3fde18eb85124862b9", func := "example.com/chainwise/chainwise/zzlaws_link_b1.FnSegmentLensSplitsAtMaskedTag", spec := "fnSegmentLensSplitsAtMaskedTag", make := .lifted ["publicsums"], apart := false }
def FnSegmentLensSplitsAtMaskedTagSaid : Prop := fnSegmentLensSplitsAtMaskedTagRow.holds Trym.pinned (OpenSpec.ofChange fnSegmentLensSplitsAtMaskedTagSpec)

/-- ITS FALSE NEIGHBOUR: 'it returns false'. Refute it at one input. -/
def fnSegmentLensSplitsAtMaskedTagWrong : ChangeSpec := { name := "fnSegmentLensSplitsAtMaskedTag", fn := fun _ => fun
  | [d1, d2] => { results := [.lit (.bool false)], args := [d1, d2] }
  | _ => none }
def FnSegmentLensSplitsAtMaskedTagWrongFalsely : Prop := fnSegmentLensSplitsAtMaskedTagRow.holds Trym.pinned (OpenSpec.ofChange fnSegmentLensSplitsAtMaskedTagWrong)

/-- 'zzlaws_link_b1.FnRunLenAgreesWithSegmentLens': WHATEVER THE INPUT: true; the input reads as it did. -/
def fnRunLenAgreesWithSegmentLensSpec : ChangeSpec := { name := "fnRunLenAgreesWithSegmentLens", fn := fun _ => fun
  | [d1, d2] => { results := [.lit (.bool true)], args := [d1, d2] }
  | _ => none }
def fnRunLenAgreesWithSegmentLensRow : OpenClaim := { program := "qxb6000442amods", sum := "1061ff92e9056f68ca910959209e2cdc997b86abb7e28a3fde18eb85124862b9", func := "example.com/chainwise/chainwise/zzlaws_link_b1.FnRunLenAgreesWithSegmentLens", spec := "fnRunLenAgreesWithSegmentLens", make := .lifted ["publicsums"], apart := false }
def FnRunLenAgreesWithSegmentLensSaid : Prop := fnRunLenAgreesWithSegmentLensRow.holds Trym.pinned (OpenSpec.ofChange fnRunLenAgreesWithSegmentLensSpec)

/-- ITS FALSE NEIGHBOUR: 'it returns false'. Refute it at one input. -/
def fnRunLenAgreesWithSegmentLensWrong : ChangeSpec := { name := "fnRunLenAgreesWithSegmentLens", fn := fun _ => fun
  | [d1, d2] => { results := [.lit (.bool false)], args := [d1, d2] }
  | _ => none }
def FnRunLenAgreesWithSegmentLensWrongFalsely : Prop := fnRunLenAgreesWithSegmentLensRow.holds Trym.pinned (OpenSpec.ofChange fnRunLenAgreesWithSegmentLensWrong)

/-- 'zzlaws_link_b1.FnRunLenStopsAtTotal': WHATEVER THE INPUT: true; the input reads as it did. -/
def fnRunLenStopsAtTotalSpec : ChangeSpec := { name := "fnRunLenStopsAtTotal", fn := fun _ => fun
  | [d1, d2, d3, d4] => { results := [.lit (.bool true)], args := [d1, d2, d3, d4] }
  | _ => none }
def fnRunLenStopsAtTotalRow : OpenClaim := { program := "qxb6000442amods", sum := "1061ff92e9056f68ca910959209e2cdc997b86abb7e28a3fde18eb85124862b9", func := "example.com/chainwise/chainwise/zzlaws_link_b1.FnRunLenStopsAtTotal", spec := "fnRunLenStopsAtTotal", make := .lifted ["publicsums"], apart := false }
def FnRunLenStopsAtTotalSaid : Prop := fnRunLenStopsAtTotalRow.holds Trym.pinned (OpenSpec.ofChange fnRunLenStopsAtTotalSpec)

/-- ITS FALSE NEIGHBOUR: 'it returns false'. Refute it at one input. -/
def fnRunLenStopsAtTotalWrong : ChangeSpec := { name := "fnRunLenStopsAtTotal", fn := fun _ => fun
  | [d1, d2, d3, d4] => { results := [.lit (.bool false)], args := [d1, d2, d3, d4] }
  | _ => none }
def FnRunLenStopsAtTotalWrongFalsely : Prop := fnRunLenStopsAtTotalRow.holds Trym.pinned (OpenSpec.ofChange fnRunLenStopsAtTotalWrong)

/-- 'zzlaws_link_b1.FnOwnListsExactlyTheUnresent': WHATEVER THE INPUT: true; the input reads as it did. -/
def fnOwnListsExactlyTheUnresentSpec : ChangeSpec := { name := "fnOwnListsExactlyTheUnresent", fn := fun _ => fun
  | [d] => { results := [.lit (.bool true)], args := [d] }
  | _ => none }
def fnOwnListsExactlyTheUnresentRow : OpenClaim := { program := "qxb6000442amods", sum := "1061ff92e9056f68ca910959209e2cdc997b86abb7e28a3fde18eb85124862b9", func := "example.com/chainwise/chainwise/zzlaws_link_b1.FnOwnListsExactlyTheUnresent", spec := "fnOwnListsExactlyTheUnresent", make := .lifted ["publicsums"], apart := false }
def FnOwnListsExactlyTheUnresentSaid : Prop := fnOwnListsExactlyTheUnresentRow.holds Trym.pinned (OpenSpec.ofChange fnOwnListsExactlyTheUnresentSpec)

/-- ITS FALSE NEIGHBOUR: 'it returns false'. Refute it at one input. -/
def fnOwnListsExactlyTheUnresentWrong : ChangeSpec := { name := "fnOwnListsExactlyTheUnresent", fn := fun _ => fun
  | [d] => { results := [.lit (.bool false)], args := [d] }
  | _ => none }
def FnOwnListsExactlyTheUnresentWrongFalsely : Prop := fnOwnListsExactlyTheUnresentRow.holds Trym.pinned (OpenSpec.ofChange fnOwnListsExactlyTheUnresentWrong)

/-- 'zzlaws_link_b1.FnOwnOfConcatenation': WHATEVER THE INPUT: true; the input reads as it did. -/
def fnOwnOfConcatenationSpec : ChangeSpec := { name := "fnOwnOfConcatenation", fn := fun _ => fun
  | [d1, d2] => { results := [.lit (.bool true)], args := [d1, d2] }
  | _ => none }
def fnOwnOfConcatenationRow : OpenClaim := { program := "qxb6000442amods", sum := "1061ff92e9056f68ca910959209e2cdc997b86abb7e28a3fde18eb85124862b9", func := "example.com/chainwise/chainwise/zzlaws_link_b1.FnOwnOfConcatenation", spec := "fnOwnOfConcatenation", make := .lifted ["publicsums"], apart := false }
def FnOwnOfConcatenationSaid : Prop := fnOwnOfConcatenationRow.holds Trym.pinned (OpenSpec.ofChange fnOwnOfConcatenationSpec)

/-- ITS FALSE NEIGHBOUR: 'it returns false'. Refute it at one input. -/
def fnOwnOfConcatenationWrong : ChangeSpec := { name := "fnOwnOfConcatenation", fn := fun _ => fun
  | [d1, d2] => { results := [.lit (.bool false)], args := [d1, d2] }
  | _ => none }
def FnOwnOfConcatenationWrongFalsely : Prop := fnOwnOfConcatenationRow.holds Trym.pinned (OpenSpec.ofChange fnOwnOfConcatenationWrong)

end Rows
end Go.Proofs.Qxb6000442aMods
