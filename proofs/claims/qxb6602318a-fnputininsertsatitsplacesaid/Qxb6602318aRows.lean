/-
  No cell of these rows narrows 'for every input' (looked for: loops, veiled, ifaces, maps, wideKeys, modest, calm, conditions, laid).
  DERIVED. THE GIVEN ROWS OF THIS SEAT. 8 by the template 'for every input the law returns true; each argument reads behind the call as it read before'; 0 by the template 'total and deterministic' (their statements: Qxb6602318aTotals.lean).
  GIVEN WITH THE SEED: the statements are not yours to turn. If you find one false, say at which input.
  Laid BY PROGRAM, IN A SANDBOX (cutbox-rows.mjs): the forced cells as the released guide's own fill.sh prints them over the translation eb9ab428db895459… (all of the seat's roots in one cut). By AI agents, Wed Nov 11 2026. No macro, syntax, notation, axiom, sorry.
-/
import Derived.Test.Qxb6602318aChecked
import GoSem.Claim
import GoSem.ClaimJoined
import GoSem.ClaimMapViews
import Derived.JoinedTies
import Derived.KernelRfl
namespace Go.Proofs.Qxb6602318a
/- THE CELL 'sum', in the pinned program and in every row, IS THE sha256 OF THE DUMP (.gsa) THAT Qxb6602318aProg.lean LOADS. Nothing in Lean hashes anything: it is a label: what it is worth is what the hold of that sum in a sandbox is worth. -/
noncomputable def Try.pinned : Pinned := { name := "qxb6602318a", sum := "eb9ab428db8954598240a48608de95754a74007e66cde804e6fcb3f7c097497e", checked := Try.checked }
namespace Rows
def none {H : Type} : Left H := { results := [], args := [] }

/-- 'zzlaws_root_b1.FnWholeStepsMatchesLineModel': WHATEVER THE INPUT: true; the input reads as it did. -/
def fnWholeStepsMatchesLineModelSpec : ChangeSpec := { name := "fnWholeStepsMatchesLineModel", fn := fun _ => fun
  | [d] => { results := [.lit (.bool true)], args := [d] }
  | _ => none }
def fnWholeStepsMatchesLineModelRow : OpenClaim := { program := "qxb6602318a", sum := "eb9ab428db8954598240a48608de95754a74007e66cde804e6fcb3f7c097497e", func := "example.com/admit/admit/zzlaws_root_b1.FnWholeStepsMatchesLineModel", spec := "fnWholeStepsMatchesLineModel", apart := false }
def FnWholeStepsMatchesLineModelSaid : Prop := fnWholeStepsMatchesLineModelRow.holds Try.pinned (OpenSpec.ofChange fnWholeStepsMatchesLineModelSpec)

/-- ITS FALSE NEIGHBOUR: 'it returns false'. Refute it at one input. -/
def fnWholeStepsMatchesLineModelWrong : ChangeSpec := { name := "fnWholeStepsMatchesLineModel", fn := fun _ => fun
  | [d] => { results := [.lit (.bool false)], args := [d] }
  | _ => none }
def FnWholeStepsMatchesLineModelWrongFalsely : Prop := fnWholeStepsMatchesLineModelRow.holds Try.pinned (OpenSpec.ofChange fnWholeStepsMatchesLineModelWrong)

/-- 'zzlaws_root_b1.FnWholeStepsIgnoresTornLine': WHATEVER THE INPUT: true; the input reads as it did. -/
def fnWholeStepsIgnoresTornLineSpec : ChangeSpec := { name := "fnWholeStepsIgnoresTornLine", fn := fun _ => fun
  | [d1, d2] => { results := [.lit (.bool true)], args := [d1, d2] }
  | _ => none }
def fnWholeStepsIgnoresTornLineRow : OpenClaim := { program := "qxb6602318a", sum := "eb9ab428db8954598240a48608de95754a74007e66cde804e6fcb3f7c097497e", func := "example.com/admit/admit/zzlaws_root_b1.FnWholeStepsIgnoresTornLine", spec := "fnWholeStepsIgnoresTornLine", apart := false }
def FnWholeStepsIgnoresTornLineSaid : Prop := fnWholeStepsIgnoresTornLineRow.holds Try.pinned (OpenSpec.ofChange fnWholeStepsIgnoresTornLineSpec)

/-- ITS FALSE NEIGHBOUR: 'it returns false'. Refute it at one input. -/
def fnWholeStepsIgnoresTornLineWrong : ChangeSpec := { name := "fnWholeStepsIgnoresTornLine", fn := fun _ => fun
  | [d1, d2] => { results := [.lit (.bool false)], args := [d1, d2] }
  | _ => none }
def FnWholeStepsIgnoresTornLineWrongFalsely : Prop := fnWholeStepsIgnoresTornLineRow.holds Try.pinned (OpenSpec.ofChange fnWholeStepsIgnoresTornLineWrong)

/-- 'zzlaws_root_b1.FnWholeStepsCutsOnALineBreak': WHATEVER THE INPUT: true; the input reads as it did. -/
def fnWholeStepsCutsOnALineBreakSpec : ChangeSpec := { name := "fnWholeStepsCutsOnALineBreak", fn := fun _ => fun
  | [d] => { results := [.lit (.bool true)], args := [d] }
  | _ => none }
def fnWholeStepsCutsOnALineBreakRow : OpenClaim := { program := "qxb6602318a", sum := "eb9ab428db8954598240a48608de95754a74007e66cde804e6fcb3f7c097497e", func := "example.com/admit/admit/zzlaws_root_b1.FnWholeStepsCutsOnALineBreak", spec := "fnWholeStepsCutsOnALineBreak", apart := false }
def FnWholeStepsCutsOnALineBreakSaid : Prop := fnWholeStepsCutsOnALineBreakRow.holds Try.pinned (OpenSpec.ofChange fnWholeStepsCutsOnALineBreakSpec)

/-- ITS FALSE NEIGHBOUR: 'it returns false'. Refute it at one input. -/
def fnWholeStepsCutsOnALineBreakWrong : ChangeSpec := { name := "fnWholeStepsCutsOnALineBreak", fn := fun _ => fun
  | [d] => { results := [.lit (.bool false)], args := [d] }
  | _ => none }
def FnWholeStepsCutsOnALineBreakWrongFalsely : Prop := fnWholeStepsCutsOnALineBreakRow.holds Try.pinned (OpenSpec.ofChange fnWholeStepsCutsOnALineBreakWrong)

/-- 'zzlaws_root_b1.FnSiftDownRestoresHeap': WHATEVER THE INPUT: true; the input reads as it did. -/
def fnSiftDownRestoresHeapSpec : ChangeSpec := { name := "fnSiftDownRestoresHeap", fn := fun _ => fun
  | [d1, d2] => { results := [.lit (.bool true)], args := [d1, d2] }
  | _ => none }
def fnSiftDownRestoresHeapRow : OpenClaim := { program := "qxb6602318a", sum := "eb9ab428db8954598240a48608de95754a74007e66cde804e6fcb3f7c097497e", func := "example.com/admit/admit/zzlaws_root_b1.FnSiftDownRestoresHeap", spec := "fnSiftDownRestoresHeap", apart := false }
def FnSiftDownRestoresHeapSaid : Prop := fnSiftDownRestoresHeapRow.holds Try.pinned (OpenSpec.ofChange fnSiftDownRestoresHeapSpec)

/-- ITS FALSE NEIGHBOUR: 'it returns false'. Refute it at one input. -/
def fnSiftDownRestoresHeapWrong : ChangeSpec := { name := "fnSiftDownRestoresHeap", fn := fun _ => fun
  | [d1, d2] => { results := [.lit (.bool false)], args := [d1, d2] }
  | _ => none }
def FnSiftDownRestoresHeapWrongFalsely : Prop := fnSiftDownRestoresHeapRow.holds Try.pinned (OpenSpec.ofChange fnSiftDownRestoresHeapWrong)

/-- 'zzlaws_root_b1.FnSiftDownMovesOnlyWhenOutOfPlace': WHATEVER THE INPUT: true; the input reads as it did. -/
def fnSiftDownMovesOnlyWhenOutOfPlaceSpec : ChangeSpec := { name := "fnSiftDownMovesOnlyWhenOutOfPlace", fn := fun _ => fun
  | [d1, d2] => { results := [.lit (.bool true)], args := [d1, d2] }
  | _ => none }
def fnSiftDownMovesOnlyWhenOutOfPlaceRow : OpenClaim := { program := "qxb6602318a", sum := "eb9ab428db8954598240a48608de95754a74007e66cde804e6fcb3f7c097497e", func := "example.com/admit/admit/zzlaws_root_b1.FnSiftDownMovesOnlyWhenOutOfPlace", spec := "fnSiftDownMovesOnlyWhenOutOfPlace", apart := false }
def FnSiftDownMovesOnlyWhenOutOfPlaceSaid : Prop := fnSiftDownMovesOnlyWhenOutOfPlaceRow.holds Try.pinned (OpenSpec.ofChange fnSiftDownMovesOnlyWhenOutOfPlaceSpec)

/-- ITS FALSE NEIGHBOUR: 'it returns false'. Refute it at one input. -/
def fnSiftDownMovesOnlyWhenOutOfPlaceWrong : ChangeSpec := { name := "fnSiftDownMovesOnlyWhenOutOfPlace", fn := fun _ => fun
  | [d1, d2] => { results := [.lit (.bool false)], args := [d1, d2] }
  | _ => none }
def FnSiftDownMovesOnlyWhenOutOfPlaceWrongFalsely : Prop := fnSiftDownMovesOnlyWhenOutOfPlaceRow.holds Try.pinned (OpenSpec.ofChange fnSiftDownMovesOnlyWhenOutOfPlaceWrong)

/-- 'zzlaws_root_b1.FnPutInInsertsAtItsPlace': WHATEVER THE INPUT: true; the input reads as it did. -/
def fnPutInInsertsAtItsPlaceSpec : ChangeSpec := { name := "fnPutInInsertsAtItsPlace", fn := fun _ => fun
  | [d1, d2, d3, d4] => { results := [.lit (.bool true)], args := [d1, d2, d3, d4] }
  | _ => none }
def fnPutInInsertsAtItsPlaceRow : OpenClaim := { program := "qxb6602318a", sum := "eb9ab428db8954598240a48608de95754a74007e66cde804e6fcb3f7c097497e", func := "example.com/admit/admit/zzlaws_root_b1.FnPutInInsertsAtItsPlace", spec := "fnPutInInsertsAtItsPlace", apart := false }
def FnPutInInsertsAtItsPlaceSaid : Prop := fnPutInInsertsAtItsPlaceRow.holds Try.pinned (OpenSpec.ofChange fnPutInInsertsAtItsPlaceSpec)

/-- ITS FALSE NEIGHBOUR: 'it returns false'. Refute it at one input. -/
def fnPutInInsertsAtItsPlaceWrong : ChangeSpec := { name := "fnPutInInsertsAtItsPlace", fn := fun _ => fun
  | [d1, d2, d3, d4] => { results := [.lit (.bool false)], args := [d1, d2, d3, d4] }
  | _ => none }
def FnPutInInsertsAtItsPlaceWrongFalsely : Prop := fnPutInInsertsAtItsPlaceRow.holds Try.pinned (OpenSpec.ofChange fnPutInInsertsAtItsPlaceWrong)

/-- 'zzlaws_root_b1.FnPutInKeepsTheSetSorted': WHATEVER THE INPUT: true; the input reads as it did. -/
def fnPutInKeepsTheSetSortedSpec : ChangeSpec := { name := "fnPutInKeepsTheSetSorted", fn := fun _ => fun
  | [d1, d2, d3, d4] => { results := [.lit (.bool true)], args := [d1, d2, d3, d4] }
  | _ => none }
def fnPutInKeepsTheSetSortedRow : OpenClaim := { program := "qxb6602318a", sum := "eb9ab428db8954598240a48608de95754a74007e66cde804e6fcb3f7c097497e", func := "example.com/admit/admit/zzlaws_root_b1.FnPutInKeepsTheSetSorted", spec := "fnPutInKeepsTheSetSorted", apart := false }
def FnPutInKeepsTheSetSortedSaid : Prop := fnPutInKeepsTheSetSortedRow.holds Try.pinned (OpenSpec.ofChange fnPutInKeepsTheSetSortedSpec)

/-- ITS FALSE NEIGHBOUR: 'it returns false'. Refute it at one input. -/
def fnPutInKeepsTheSetSortedWrong : ChangeSpec := { name := "fnPutInKeepsTheSetSorted", fn := fun _ => fun
  | [d1, d2, d3, d4] => { results := [.lit (.bool false)], args := [d1, d2, d3, d4] }
  | _ => none }
def FnPutInKeepsTheSetSortedWrongFalsely : Prop := fnPutInKeepsTheSetSortedRow.holds Try.pinned (OpenSpec.ofChange fnPutInKeepsTheSetSortedWrong)

/-- 'zzlaws_root_b1.FnPutInLeavesHandedRunsAlone': WHATEVER THE INPUT: true; the input reads as it did. -/
def fnPutInLeavesHandedRunsAloneSpec : ChangeSpec := { name := "fnPutInLeavesHandedRunsAlone", fn := fun _ => fun
  | [d1, d2, d3, d4] => { results := [.lit (.bool true)], args := [d1, d2, d3, d4] }
  | _ => none }
def fnPutInLeavesHandedRunsAloneRow : OpenClaim := { program := "qxb6602318a", sum := "eb9ab428db8954598240a48608de95754a74007e66cde804e6fcb3f7c097497e", func := "example.com/admit/admit/zzlaws_root_b1.FnPutInLeavesHandedRunsAlone", spec := "fnPutInLeavesHandedRunsAlone", apart := false }
def FnPutInLeavesHandedRunsAloneSaid : Prop := fnPutInLeavesHandedRunsAloneRow.holds Try.pinned (OpenSpec.ofChange fnPutInLeavesHandedRunsAloneSpec)

/-- ITS FALSE NEIGHBOUR: 'it returns false'. Refute it at one input. -/
def fnPutInLeavesHandedRunsAloneWrong : ChangeSpec := { name := "fnPutInLeavesHandedRunsAlone", fn := fun _ => fun
  | [d1, d2, d3, d4] => { results := [.lit (.bool false)], args := [d1, d2, d3, d4] }
  | _ => none }
def FnPutInLeavesHandedRunsAloneWrongFalsely : Prop := fnPutInLeavesHandedRunsAloneRow.holds Try.pinned (OpenSpec.ofChange fnPutInLeavesHandedRunsAloneWrong)

end Rows
end Go.Proofs.Qxb6602318a
