/-
  No cell of these rows narrows 'for every input' (looked for: loops, veiled, ifaces, maps, wideKeys, modest, calm, conditions, laid).
  DERIVED. THE GIVEN ROWS OF THIS SEAT. 4 by the template 'for every input the law returns true; each argument reads behind the call as it read before'; 0 by the template 'total and deterministic' (their statements: Qxb6000899aModsTotals.lean).
  GIVEN WITH THE SEED: the statements are not yours to turn. If you find one false, say at which input.
  Laid BY PROGRAM, IN A SANDBOX (cutbox-rows.mjs): the forced cells as the released guide's own fill.sh prints them over the translation 32835d3e10087285… (all of the seat's roots in one cut). By AI agents, Wed Nov 11 2026. No macro, syntax, notation, axiom, sorry.
-/
import Derived.Test.Qxb6000899aModsChecked
import GoSem.Claim
import GoSem.ClaimJoined
import GoSem.ClaimMapViews
import Derived.JoinedTies
import Derived.KernelRfl
namespace Go.Proofs.Qxb6000899aMods
/- THE CELL 'sum', in the pinned program and in every row, IS THE sha256 OF THE DUMP (.gsa) THAT Qxb6000899aModsProg.lean LOADS. Nothing in Lean hashes anything: it is a label: what it is worth is what the hold of that sum in a sandbox is worth. -/
noncomputable def Trym.pinned : Pinned := { name := "qxb6000899amods", sum := "32835d3e10087285a7499a1a9909ba87c886f10eac9ed9a86eaddfe2aec3b423", checked := Trym.checked }
namespace Rows
def none {H : Type} : Left H := { results := [], args := [] }

/-- 'zzlaws_root_b1.FnTxStateStringRoundTrip': WHATEVER THE INPUT: true; the input reads as it did. -/
def fnTxStateStringRoundTripSpec : ChangeSpec := { name := "fnTxStateStringRoundTrip", fn := fun _ => fun
  | [d] => { results := [.lit (.bool true)], args := [d] }
  | _ => none }
def fnTxStateStringRoundTripRow : OpenClaim := { program := "qxb6000899amods", sum := "32835d3e10087285a7499a1a9909ba87c886f10eac9ed9a86eaddfe2aec3b423", func := "example.com/partwise/partwise/zzlaws_root_b1.FnTxStateStringRoundTrip", spec := "fnTxStateStringRoundTrip", make := .lifted ["publicsums"], apart := false }
def FnTxStateStringRoundTripSaid : Prop := fnTxStateStringRoundTripRow.holds Trym.pinned (OpenSpec.ofChange fnTxStateStringRoundTripSpec)

/-- ITS FALSE NEIGHBOUR: 'it returns false'. Refute it at one input. -/
def fnTxStateStringRoundTripWrong : ChangeSpec := { name := "fnTxStateStringRoundTrip", fn := fun _ => fun
  | [d] => { results := [.lit (.bool false)], args := [d] }
  | _ => none }
def FnTxStateStringRoundTripWrongFalsely : Prop := fnTxStateStringRoundTripRow.holds Trym.pinned (OpenSpec.ofChange fnTxStateStringRoundTripWrong)

/-- 'zzlaws_root_b1.FnTxStateStringSeparates': WHATEVER THE INPUT: true; the input reads as it did. -/
def fnTxStateStringSeparatesSpec : ChangeSpec := { name := "fnTxStateStringSeparates", fn := fun _ => fun
  | [d1, d2] => { results := [.lit (.bool true)], args := [d1, d2] }
  | _ => none }
def fnTxStateStringSeparatesRow : OpenClaim := { program := "qxb6000899amods", sum := "32835d3e10087285a7499a1a9909ba87c886f10eac9ed9a86eaddfe2aec3b423", func := "example.com/partwise/partwise/zzlaws_root_b1.FnTxStateStringSeparates", spec := "fnTxStateStringSeparates", make := .lifted ["publicsums"], apart := false }
def FnTxStateStringSeparatesSaid : Prop := fnTxStateStringSeparatesRow.holds Trym.pinned (OpenSpec.ofChange fnTxStateStringSeparatesSpec)

/-- ITS FALSE NEIGHBOUR: 'it returns false'. Refute it at one input. -/
def fnTxStateStringSeparatesWrong : ChangeSpec := { name := "fnTxStateStringSeparates", fn := fun _ => fun
  | [d1, d2] => { results := [.lit (.bool false)], args := [d1, d2] }
  | _ => none }
def FnTxStateStringSeparatesWrongFalsely : Prop := fnTxStateStringSeparatesRow.holds Trym.pinned (OpenSpec.ofChange fnTxStateStringSeparatesWrong)

/-- 'zzlaws_root_b1.FnQuorumFLargestTolerated': WHATEVER THE INPUT: true; the input reads as it did. -/
def fnQuorumFLargestToleratedSpec : ChangeSpec := { name := "fnQuorumFLargestTolerated", fn := fun _ => fun
  | [d] => { results := [.lit (.bool true)], args := [d] }
  | _ => none }
def fnQuorumFLargestToleratedRow : OpenClaim := { program := "qxb6000899amods", sum := "32835d3e10087285a7499a1a9909ba87c886f10eac9ed9a86eaddfe2aec3b423", func := "example.com/partwise/partwise/zzlaws_root_b1.FnQuorumFLargestTolerated", spec := "fnQuorumFLargestTolerated", make := .lifted ["publicsums"], apart := false }
def FnQuorumFLargestToleratedSaid : Prop := fnQuorumFLargestToleratedRow.holds Trym.pinned (OpenSpec.ofChange fnQuorumFLargestToleratedSpec)

/-- ITS FALSE NEIGHBOUR: 'it returns false'. Refute it at one input. -/
def fnQuorumFLargestToleratedWrong : ChangeSpec := { name := "fnQuorumFLargestTolerated", fn := fun _ => fun
  | [d] => { results := [.lit (.bool false)], args := [d] }
  | _ => none }
def FnQuorumFLargestToleratedWrongFalsely : Prop := fnQuorumFLargestToleratedRow.holds Trym.pinned (OpenSpec.ofChange fnQuorumFLargestToleratedWrong)

/-- 'zzlaws_root_b1.FnQuorumFMonotone': WHATEVER THE INPUT: true; the input reads as it did. -/
def fnQuorumFMonotoneSpec : ChangeSpec := { name := "fnQuorumFMonotone", fn := fun _ => fun
  | [d1, d2] => { results := [.lit (.bool true)], args := [d1, d2] }
  | _ => none }
def fnQuorumFMonotoneRow : OpenClaim := { program := "qxb6000899amods", sum := "32835d3e10087285a7499a1a9909ba87c886f10eac9ed9a86eaddfe2aec3b423", func := "example.com/partwise/partwise/zzlaws_root_b1.FnQuorumFMonotone", spec := "fnQuorumFMonotone", make := .lifted ["publicsums"], apart := false }
def FnQuorumFMonotoneSaid : Prop := fnQuorumFMonotoneRow.holds Trym.pinned (OpenSpec.ofChange fnQuorumFMonotoneSpec)

/-- ITS FALSE NEIGHBOUR: 'it returns false'. Refute it at one input. -/
def fnQuorumFMonotoneWrong : ChangeSpec := { name := "fnQuorumFMonotone", fn := fun _ => fun
  | [d1, d2] => { results := [.lit (.bool false)], args := [d1, d2] }
  | _ => none }
def FnQuorumFMonotoneWrongFalsely : Prop := fnQuorumFMonotoneRow.holds Trym.pinned (OpenSpec.ofChange fnQuorumFMonotoneWrong)

end Rows
end Go.Proofs.Qxb6000899aMods
