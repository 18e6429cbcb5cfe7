/-
  No cell of these rows narrows 'for every input' (looked for: loops, veiled, ifaces, maps, wideKeys, modest, calm, conditions, laid).
  DERIVED. THE GIVEN ROWS OF THIS SEAT. 5 by the template 'for every input the law returns true; each argument reads behind the call as it read before'; 0 by the template 'total and deterministic' (their statements: Qxb6602375aTotals.lean).
  GIVEN WITH THE SEED: the statements are not yours to turn. If you find one false, say at which input.
  Laid BY PROGRAM, IN A SANDBOX (cutbox-rows.mjs): the forced cells as the released guide's own fill.sh prints them over the translation b9bf4792c7e17d33… (all of the seat's roots in one cut). By AI agents, Wed Nov 11 2026. No macro, syntax, notation, axiom, sorry.
-/
import Derived.Test.Qxb6602375aChecked
import GoSem.Claim
import GoSem.ClaimJoined
import GoSem.ClaimMapViews
import Derived.JoinedTies
import Derived.KernelRfl
namespace Go.Proofs.Qxb6602375a
/- THE CELL 'sum', in the pinned program and in every row, IS THE sha256 OF THE DUMP (.gsa) THAT Qxb6602375aProg.lean LOADS. Nothing in Lean hashes anything: it is a label: what it is worth is what the hold of that sum in a sandbox is worth. -/
noncomputable def Try.pinned : Pinned := { name := "qxb6602375a", sum := "b9bf4792c7e17d33465ad35ac776359f7fb5ec12312a41f9076d7da81d5bf14f", checked := Try.checked }
namespace Rows
def none {H : Type} : Left H := { results := [], args := [] }

/-- 'zzlaws_internal_check_b1.FnHasCycleMatchesDFS': WHATEVER THE INPUT: true; the input reads as it did. -/
def fnHasCycleMatchesDFSSpec : ChangeSpec := { name := "fnHasCycleMatchesDFS", fn := fun _ => fun
  | [d] => { results := [.lit (.bool true)], args := [d] }
  | _ => none }
def fnHasCycleMatchesDFSRow : OpenClaim := { program := "qxb6602375a", sum := "b9bf4792c7e17d33465ad35ac776359f7fb5ec12312a41f9076d7da81d5bf14f", func := "example.com/loomcast/loomcast/zzlaws_internal_check_b1.FnHasCycleMatchesDFS", spec := "fnHasCycleMatchesDFS", apart := false }
def FnHasCycleMatchesDFSSaid : Prop := fnHasCycleMatchesDFSRow.holds Try.pinned (OpenSpec.ofChange fnHasCycleMatchesDFSSpec)

/-- ITS FALSE NEIGHBOUR: 'it returns false'. Refute it at one input. -/
def fnHasCycleMatchesDFSWrong : ChangeSpec := { name := "fnHasCycleMatchesDFS", fn := fun _ => fun
  | [d] => { results := [.lit (.bool false)], args := [d] }
  | _ => none }
def FnHasCycleMatchesDFSWrongFalsely : Prop := fnHasCycleMatchesDFSRow.holds Try.pinned (OpenSpec.ofChange fnHasCycleMatchesDFSWrong)

/-- 'zzlaws_internal_check_b1.FnHasCycleSameOnReversedGraph': WHATEVER THE INPUT: true; the input reads as it did. -/
def fnHasCycleSameOnReversedGraphSpec : ChangeSpec := { name := "fnHasCycleSameOnReversedGraph", fn := fun _ => fun
  | [d] => { results := [.lit (.bool true)], args := [d] }
  | _ => none }
def fnHasCycleSameOnReversedGraphRow : OpenClaim := { program := "qxb6602375a", sum := "b9bf4792c7e17d33465ad35ac776359f7fb5ec12312a41f9076d7da81d5bf14f", func := "example.com/loomcast/loomcast/zzlaws_internal_check_b1.FnHasCycleSameOnReversedGraph", spec := "fnHasCycleSameOnReversedGraph", apart := false }
def FnHasCycleSameOnReversedGraphSaid : Prop := fnHasCycleSameOnReversedGraphRow.holds Try.pinned (OpenSpec.ofChange fnHasCycleSameOnReversedGraphSpec)

/-- ITS FALSE NEIGHBOUR: 'it returns false'. Refute it at one input. -/
def fnHasCycleSameOnReversedGraphWrong : ChangeSpec := { name := "fnHasCycleSameOnReversedGraph", fn := fun _ => fun
  | [d] => { results := [.lit (.bool false)], args := [d] }
  | _ => none }
def FnHasCycleSameOnReversedGraphWrongFalsely : Prop := fnHasCycleSameOnReversedGraphRow.holds Try.pinned (OpenSpec.ofChange fnHasCycleSameOnReversedGraphWrong)

/-- 'zzlaws_internal_check_b1.FnHasCycleAfterAddedEdge': WHATEVER THE INPUT: true; the input reads as it did. -/
def fnHasCycleAfterAddedEdgeSpec : ChangeSpec := { name := "fnHasCycleAfterAddedEdge", fn := fun _ => fun
  | [d1, d2, d3] => { results := [.lit (.bool true)], args := [d1, d2, d3] }
  | _ => none }
def fnHasCycleAfterAddedEdgeRow : OpenClaim := { program := "qxb6602375a", sum := "b9bf4792c7e17d33465ad35ac776359f7fb5ec12312a41f9076d7da81d5bf14f", func := "example.com/loomcast/loomcast/zzlaws_internal_check_b1.FnHasCycleAfterAddedEdge", spec := "fnHasCycleAfterAddedEdge", apart := false }
def FnHasCycleAfterAddedEdgeSaid : Prop := fnHasCycleAfterAddedEdgeRow.holds Try.pinned (OpenSpec.ofChange fnHasCycleAfterAddedEdgeSpec)

/-- ITS FALSE NEIGHBOUR: 'it returns false'. Refute it at one input. -/
def fnHasCycleAfterAddedEdgeWrong : ChangeSpec := { name := "fnHasCycleAfterAddedEdge", fn := fun _ => fun
  | [d1, d2, d3] => { results := [.lit (.bool false)], args := [d1, d2, d3] }
  | _ => none }
def FnHasCycleAfterAddedEdgeWrongFalsely : Prop := fnHasCycleAfterAddedEdgeRow.holds Try.pinned (OpenSpec.ofChange fnHasCycleAfterAddedEdgeWrong)

/-- 'zzlaws_internal_check_b1.FnRunMessageNumbersIdsByFirstSight': WHATEVER THE INPUT: true; the input reads as it did. -/
def fnRunMessageNumbersIdsByFirstSightSpec : ChangeSpec := { name := "fnRunMessageNumbersIdsByFirstSight", fn := fun _ => fun
  | [d] => { results := [.lit (.bool true)], args := [d] }
  | _ => none }
def fnRunMessageNumbersIdsByFirstSightRow : OpenClaim := { program := "qxb6602375a", sum := "b9bf4792c7e17d33465ad35ac776359f7fb5ec12312a41f9076d7da81d5bf14f", func := "example.com/loomcast/loomcast/zzlaws_internal_check_b1.FnRunMessageNumbersIdsByFirstSight", spec := "fnRunMessageNumbersIdsByFirstSight", apart := false }
def FnRunMessageNumbersIdsByFirstSightSaid : Prop := fnRunMessageNumbersIdsByFirstSightRow.holds Try.pinned (OpenSpec.ofChange fnRunMessageNumbersIdsByFirstSightSpec)

/-- ITS FALSE NEIGHBOUR: 'it returns false'. Refute it at one input. -/
def fnRunMessageNumbersIdsByFirstSightWrong : ChangeSpec := { name := "fnRunMessageNumbersIdsByFirstSight", fn := fun _ => fun
  | [d] => { results := [.lit (.bool false)], args := [d] }
  | _ => none }
def FnRunMessageNumbersIdsByFirstSightWrongFalsely : Prop := fnRunMessageNumbersIdsByFirstSightRow.holds Try.pinned (OpenSpec.ofChange fnRunMessageNumbersIdsByFirstSightWrong)

/-- 'zzlaws_internal_check_b1.FnViolationStringRoundTrip': WHATEVER THE INPUT: true; the input reads as it did. -/
def fnViolationStringRoundTripSpec : ChangeSpec := { name := "fnViolationStringRoundTrip", fn := fun _ => fun
  | [d1, d2, d3] => { results := [.lit (.bool true)], args := [d1, d2, d3] }
  | _ => none }
def fnViolationStringRoundTripRow : OpenClaim := { program := "qxb6602375a", sum := "b9bf4792c7e17d33465ad35ac776359f7fb5ec12312a41f9076d7da81d5bf14f", func := "example.com/loomcast/loomcast/zzlaws_internal_check_b1.FnViolationStringRoundTrip", spec := "fnViolationStringRoundTrip", apart := false }
def FnViolationStringRoundTripSaid : Prop := fnViolationStringRoundTripRow.holds Try.pinned (OpenSpec.ofChange fnViolationStringRoundTripSpec)

/-- ITS FALSE NEIGHBOUR: 'it returns false'. Refute it at one input. -/
def fnViolationStringRoundTripWrong : ChangeSpec := { name := "fnViolationStringRoundTrip", fn := fun _ => fun
  | [d1, d2, d3] => { results := [.lit (.bool false)], args := [d1, d2, d3] }
  | _ => none }
def FnViolationStringRoundTripWrongFalsely : Prop := fnViolationStringRoundTripRow.holds Try.pinned (OpenSpec.ofChange fnViolationStringRoundTripWrong)

end Rows
end Go.Proofs.Qxb6602375a
