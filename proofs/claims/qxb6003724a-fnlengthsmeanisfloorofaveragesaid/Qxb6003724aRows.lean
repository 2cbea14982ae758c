/-
  No cell of these rows narrows 'for every input' (looked for: loops, veiled, ifaces, maps, wideKeys, modest, calm, conditions, laid).
  DERIVED. THE GIVEN ROWS OF THIS SEAT. 4 by the template 'for every input the law returns true; each argument reads behind the call as it read before'; 0 by the template 'total and deterministic' (their statements: Qxb6003724aTotals.lean).
  GIVEN WITH THE SEED: the statements are not yours to turn. If you find one false, say at which input.
  Laid BY PROGRAM, IN A SANDBOX (cutbox-rows.mjs): the forced cells as the released guide's own fill.sh prints them over the translation bdf275294da449fc… (all of the seat's roots in one cut). By AI agents, Wed Nov 11 2026. No macro, syntax, notation, axiom, sorry.
-/
import Derived.Test.Qxb6003724aChecked
import GoSem.Claim
import GoSem.ClaimJoined
import GoSem.ClaimMapViews
import Derived.JoinedTies
import Derived.KernelRfl
namespace Go.Proofs.Qxb6003724a
/- THE CELL 'sum', in the pinned program and in every row, IS THE sha256 OF THE DUMP (.gsa) THAT Qxb6003724aProg.lean LOADS. Nothing in Lean hashes anything: it is a label: what it is worth is what the hold of that sum in a sandbox is worth. -/
noncomputable def Try.pinned : Pinned := { name := "qxb6003724a", sum := "bdf275294da449fc3aead04ed98beb87640fb431117d850948bff52352889b7a", checked := Try.checked }
namespace Rows
def none {H : Type} : Left H := { results := [], args := [] }

/-- 'zzlaws_internal_sim_g2.FnBoxReachesSymmetricAndMonotone': WHATEVER THE INPUT: true; the input reads as it did. -/
def fnBoxReachesSymmetricAndMonotoneSpec : ChangeSpec := { name := "fnBoxReachesSymmetricAndMonotone", fn := fun _ => fun
  | [d1, d2, d3, d4, d5, d6, d7, d8, d9, d10] => { results := [.lit (.bool true)], args := [d1, d2, d3, d4, d5, d6, d7, d8, d9, d10] }
  | _ => none }
def fnBoxReachesSymmetricAndMonotoneRow : OpenClaim := { program := "qxb6003724a", sum := "bdf275294da449fc3aead04ed98beb87640fb431117d850948bff52352889b7a", func := "example.com/riftwatch/riftwatch/zzlaws_internal_sim_g2.FnBoxReachesSymmetricAndMonotone", spec := "fnBoxReachesSymmetricAndMonotone", apart := false }
def FnBoxReachesSymmetricAndMonotoneSaid : Prop := fnBoxReachesSymmetricAndMonotoneRow.holds Try.pinned (OpenSpec.ofChange fnBoxReachesSymmetricAndMonotoneSpec)

/-- ITS FALSE NEIGHBOUR: 'it returns false'. Refute it at one input. -/
def fnBoxReachesSymmetricAndMonotoneWrong : ChangeSpec := { name := "fnBoxReachesSymmetricAndMonotone", fn := fun _ => fun
  | [d1, d2, d3, d4, d5, d6, d7, d8, d9, d10] => { results := [.lit (.bool false)], args := [d1, d2, d3, d4, d5, d6, d7, d8, d9, d10] }
  | _ => none }
def FnBoxReachesSymmetricAndMonotoneWrongFalsely : Prop := fnBoxReachesSymmetricAndMonotoneRow.holds Try.pinned (OpenSpec.ofChange fnBoxReachesSymmetricAndMonotoneWrong)

/-- 'zzlaws_internal_sim_g2.FnBoxReachesAgreesWithNearOnPoints': WHATEVER THE INPUT: true; the input reads as it did. -/
def fnBoxReachesAgreesWithNearOnPointsSpec : ChangeSpec := { name := "fnBoxReachesAgreesWithNearOnPoints", fn := fun _ => fun
  | [d1, d2, d3, d4, d5] => { results := [.lit (.bool true)], args := [d1, d2, d3, d4, d5] }
  | _ => none }
def fnBoxReachesAgreesWithNearOnPointsRow : OpenClaim := { program := "qxb6003724a", sum := "bdf275294da449fc3aead04ed98beb87640fb431117d850948bff52352889b7a", func := "example.com/riftwatch/riftwatch/zzlaws_internal_sim_g2.FnBoxReachesAgreesWithNearOnPoints", spec := "fnBoxReachesAgreesWithNearOnPoints", apart := false }
def FnBoxReachesAgreesWithNearOnPointsSaid : Prop := fnBoxReachesAgreesWithNearOnPointsRow.holds Try.pinned (OpenSpec.ofChange fnBoxReachesAgreesWithNearOnPointsSpec)

/-- ITS FALSE NEIGHBOUR: 'it returns false'. Refute it at one input. -/
def fnBoxReachesAgreesWithNearOnPointsWrong : ChangeSpec := { name := "fnBoxReachesAgreesWithNearOnPoints", fn := fun _ => fun
  | [d1, d2, d3, d4, d5] => { results := [.lit (.bool false)], args := [d1, d2, d3, d4, d5] }
  | _ => none }
def FnBoxReachesAgreesWithNearOnPointsWrongFalsely : Prop := fnBoxReachesAgreesWithNearOnPointsRow.holds Try.pinned (OpenSpec.ofChange fnBoxReachesAgreesWithNearOnPointsWrong)

/-- 'zzlaws_internal_sim_g2.FnLengthsMergeOfSplitIsAddOfWhole': WHATEVER THE INPUT: true; the input reads as it did. -/
def fnLengthsMergeOfSplitIsAddOfWholeSpec : ChangeSpec := { name := "fnLengthsMergeOfSplitIsAddOfWhole", fn := fun _ => fun
  | [d1, d2] => { results := [.lit (.bool true)], args := [d1, d2] }
  | _ => none }
def fnLengthsMergeOfSplitIsAddOfWholeRow : OpenClaim := { program := "qxb6003724a", sum := "bdf275294da449fc3aead04ed98beb87640fb431117d850948bff52352889b7a", func := "example.com/riftwatch/riftwatch/zzlaws_internal_sim_g2.FnLengthsMergeOfSplitIsAddOfWhole", spec := "fnLengthsMergeOfSplitIsAddOfWhole", apart := false }
def FnLengthsMergeOfSplitIsAddOfWholeSaid : Prop := fnLengthsMergeOfSplitIsAddOfWholeRow.holds Try.pinned (OpenSpec.ofChange fnLengthsMergeOfSplitIsAddOfWholeSpec)

/-- ITS FALSE NEIGHBOUR: 'it returns false'. Refute it at one input. -/
def fnLengthsMergeOfSplitIsAddOfWholeWrong : ChangeSpec := { name := "fnLengthsMergeOfSplitIsAddOfWhole", fn := fun _ => fun
  | [d1, d2] => { results := [.lit (.bool false)], args := [d1, d2] }
  | _ => none }
def FnLengthsMergeOfSplitIsAddOfWholeWrongFalsely : Prop := fnLengthsMergeOfSplitIsAddOfWholeRow.holds Try.pinned (OpenSpec.ofChange fnLengthsMergeOfSplitIsAddOfWholeWrong)

/-- 'zzlaws_internal_sim_g2.FnLengthsMeanIsFloorOfAverage': WHATEVER THE INPUT: true; the input reads as it did. -/
def fnLengthsMeanIsFloorOfAverageSpec : ChangeSpec := { name := "fnLengthsMeanIsFloorOfAverage", fn := fun _ => fun
  | [d] => { results := [.lit (.bool true)], args := [d] }
  | _ => none }
def fnLengthsMeanIsFloorOfAverageRow : OpenClaim := { program := "qxb6003724a", sum := "bdf275294da449fc3aead04ed98beb87640fb431117d850948bff52352889b7a", func := "example.com/riftwatch/riftwatch/zzlaws_internal_sim_g2.FnLengthsMeanIsFloorOfAverage", spec := "fnLengthsMeanIsFloorOfAverage", apart := false }
def FnLengthsMeanIsFloorOfAverageSaid : Prop := fnLengthsMeanIsFloorOfAverageRow.holds Try.pinned (OpenSpec.ofChange fnLengthsMeanIsFloorOfAverageSpec)

/-- ITS FALSE NEIGHBOUR: 'it returns false'. Refute it at one input. -/
def fnLengthsMeanIsFloorOfAverageWrong : ChangeSpec := { name := "fnLengthsMeanIsFloorOfAverage", fn := fun _ => fun
  | [d] => { results := [.lit (.bool false)], args := [d] }
  | _ => none }
def FnLengthsMeanIsFloorOfAverageWrongFalsely : Prop := fnLengthsMeanIsFloorOfAverageRow.holds Try.pinned (OpenSpec.ofChange fnLengthsMeanIsFloorOfAverageWrong)

end Rows
end Go.Proofs.Qxb6003724a
