/-
  No cell of these rows narrows 'for every input' (looked for: loops, veiled, ifaces, maps, wideKeys, modest, calm, conditions, laid).
  DERIVED. THE GIVEN ROWS OF THIS SEAT. 8 by the template 'for every input the law returns true; each argument reads behind the call as it read before'; 0 by the template 'total and deterministic' (their statements: Qxb6600010aTotals.lean).
  GIVEN WITH THE SEED: the statements are not yours to turn. If you find one false, say at which input.
  Laid BY PROGRAM, IN A SANDBOX (cutbox-rows.mjs): the forced cells as the released guide's own fill.sh prints them over the translation a1ec88b3d2742f90… (all of the seat's roots in one cut). By AI agents, Wed Nov 11 2026. No macro, syntax, notation, axiom, sorry.
-/
import Derived.Test.Qxb6600010aChecked
import GoSem.Claim
import GoSem.ClaimJoined
import GoSem.ClaimMapViews
import Derived.JoinedTies
import Derived.KernelRfl
namespace Go.Proofs.Qxb6600010a
/- THE CELL 'sum', in the pinned program and in every row, IS THE sha256 OF THE DUMP (.gsa) THAT Qxb6600010aProg.lean LOADS. Nothing in Lean hashes anything: it is a label: what it is worth is what the hold of that sum in a sandbox is worth. -/
noncomputable def Try.pinned : Pinned := { name := "qxb6600010a", sum := "a1ec88b3d2742f908f68c5940526f26270656f896bb52c4795a150e80278f6f3", checked := Try.checked }
namespace Rows
def none {H : Type} : Left H := { results := [], args := [] }

/-- 'zzlaws_pkg_route_b1.FnWalkFindsShortestPaths': WHATEVER THE INPUT: true; the input reads as it did. -/
def fnWalkFindsShortestPathsSpec : ChangeSpec := { name := "fnWalkFindsShortestPaths", fn := fun _ => fun
  | [d1, d2, d3, d4] => { results := [.lit (.bool true)], args := [d1, d2, d3, d4] }
  | _ => none }
def fnWalkFindsShortestPathsRow : OpenClaim := { program := "qxb6600010a", sum := "a1ec88b3d2742f908f68c5940526f26270656f896bb52c4795a150e80278f6f3", func := "example.com/weftnode/weftnode/zzlaws_pkg_route_b1.FnWalkFindsShortestPaths", spec := "fnWalkFindsShortestPaths", inPlace := ["internal/bytealg.abigen_runtime_cmpstring"], unfollowed := true, recurses := true, plainKeys := false, apart := false }
def FnWalkFindsShortestPathsSaid : Prop := fnWalkFindsShortestPathsRow.holds Try.pinned (OpenSpec.ofChange fnWalkFindsShortestPathsSpec)

/-- ITS FALSE NEIGHBOUR: 'it returns false'. Refute it at one input. -/
def fnWalkFindsShortestPathsWrong : ChangeSpec := { name := "fnWalkFindsShortestPaths", fn := fun _ => fun
  | [d1, d2, d3, d4] => { results := [.lit (.bool false)], args := [d1, d2, d3, d4] }
  | _ => none }
def FnWalkFindsShortestPathsWrongFalsely : Prop := fnWalkFindsShortestPathsRow.holds Try.pinned (OpenSpec.ofChange fnWalkFindsShortestPathsWrong)

/-- 'zzlaws_pkg_route_b1.FnWalkTwiceChangesNothing': WHATEVER THE INPUT: true; the input reads as it did. -/
def fnWalkTwiceChangesNothingSpec : ChangeSpec := { name := "fnWalkTwiceChangesNothing", fn := fun _ => fun
  | [d1, d2, d3, d4] => { results := [.lit (.bool true)], args := [d1, d2, d3, d4] }
  | _ => none }
def fnWalkTwiceChangesNothingRow : OpenClaim := { program := "qxb6600010a", sum := "a1ec88b3d2742f908f68c5940526f26270656f896bb52c4795a150e80278f6f3", func := "example.com/weftnode/weftnode/zzlaws_pkg_route_b1.FnWalkTwiceChangesNothing", spec := "fnWalkTwiceChangesNothing", inPlace := ["internal/bytealg.abigen_runtime_cmpstring"], unfollowed := true, recurses := true, plainKeys := false, apart := false }
def FnWalkTwiceChangesNothingSaid : Prop := fnWalkTwiceChangesNothingRow.holds Try.pinned (OpenSpec.ofChange fnWalkTwiceChangesNothingSpec)

/-- ITS FALSE NEIGHBOUR: 'it returns false'. Refute it at one input. -/
def fnWalkTwiceChangesNothingWrong : ChangeSpec := { name := "fnWalkTwiceChangesNothing", fn := fun _ => fun
  | [d1, d2, d3, d4] => { results := [.lit (.bool false)], args := [d1, d2, d3, d4] }
  | _ => none }
def FnWalkTwiceChangesNothingWrongFalsely : Prop := fnWalkTwiceChangesNothingRow.holds Try.pinned (OpenSpec.ofChange fnWalkTwiceChangesNothingWrong)

/-- 'zzlaws_pkg_route_b1.FnWalkReportsExactlyTheChangedPaths': WHATEVER THE INPUT: true; the input reads as it did. -/
def fnWalkReportsExactlyTheChangedPathsSpec : ChangeSpec := { name := "fnWalkReportsExactlyTheChangedPaths", fn := fun _ => fun
  | [d1, d2, d3, d4] => { results := [.lit (.bool true)], args := [d1, d2, d3, d4] }
  | _ => none }
def fnWalkReportsExactlyTheChangedPathsRow : OpenClaim := { program := "qxb6600010a", sum := "a1ec88b3d2742f908f68c5940526f26270656f896bb52c4795a150e80278f6f3", func := "example.com/weftnode/weftnode/zzlaws_pkg_route_b1.FnWalkReportsExactlyTheChangedPaths", spec := "fnWalkReportsExactlyTheChangedPaths", inPlace := ["internal/bytealg.abigen_runtime_cmpstring"], unfollowed := true, recurses := true, plainKeys := false, apart := false }
def FnWalkReportsExactlyTheChangedPathsSaid : Prop := fnWalkReportsExactlyTheChangedPathsRow.holds Try.pinned (OpenSpec.ofChange fnWalkReportsExactlyTheChangedPathsSpec)

/-- ITS FALSE NEIGHBOUR: 'it returns false'. Refute it at one input. -/
def fnWalkReportsExactlyTheChangedPathsWrong : ChangeSpec := { name := "fnWalkReportsExactlyTheChangedPaths", fn := fun _ => fun
  | [d1, d2, d3, d4] => { results := [.lit (.bool false)], args := [d1, d2, d3, d4] }
  | _ => none }
def FnWalkReportsExactlyTheChangedPathsWrongFalsely : Prop := fnWalkReportsExactlyTheChangedPathsRow.holds Try.pinned (OpenSpec.ofChange fnWalkReportsExactlyTheChangedPathsWrong)

/-- 'zzlaws_pkg_route_b1.FnCompactKeepsEveryHeldNodeByName': WHATEVER THE INPUT: true; the input reads as it did. -/
def fnCompactKeepsEveryHeldNodeByNameSpec : ChangeSpec := { name := "fnCompactKeepsEveryHeldNodeByName", fn := fun _ => fun
  | [d1, d2, d3] => { results := [.lit (.bool true)], args := [d1, d2, d3] }
  | _ => none }
def fnCompactKeepsEveryHeldNodeByNameRow : OpenClaim := { program := "qxb6600010a", sum := "a1ec88b3d2742f908f68c5940526f26270656f896bb52c4795a150e80278f6f3", func := "example.com/weftnode/weftnode/zzlaws_pkg_route_b1.FnCompactKeepsEveryHeldNodeByName", spec := "fnCompactKeepsEveryHeldNodeByName", inPlace := ["internal/bytealg.abigen_runtime_cmpstring"], unfollowed := true, recurses := true, plainKeys := false, apart := false }
def FnCompactKeepsEveryHeldNodeByNameSaid : Prop := fnCompactKeepsEveryHeldNodeByNameRow.holds Try.pinned (OpenSpec.ofChange fnCompactKeepsEveryHeldNodeByNameSpec)

/-- ITS FALSE NEIGHBOUR: 'it returns false'. Refute it at one input. -/
def fnCompactKeepsEveryHeldNodeByNameWrong : ChangeSpec := { name := "fnCompactKeepsEveryHeldNodeByName", fn := fun _ => fun
  | [d1, d2, d3] => { results := [.lit (.bool false)], args := [d1, d2, d3] }
  | _ => none }
def FnCompactKeepsEveryHeldNodeByNameWrongFalsely : Prop := fnCompactKeepsEveryHeldNodeByNameRow.holds Try.pinned (OpenSpec.ofChange fnCompactKeepsEveryHeldNodeByNameWrong)

/-- 'zzlaws_pkg_route_b1.FnCompactThenWalkChangesNothing': WHATEVER THE INPUT: true; the input reads as it did. -/
def fnCompactThenWalkChangesNothingSpec : ChangeSpec := { name := "fnCompactThenWalkChangesNothing", fn := fun _ => fun
  | [d1, d2, d3] => { results := [.lit (.bool true)], args := [d1, d2, d3] }
  | _ => none }
def fnCompactThenWalkChangesNothingRow : OpenClaim := { program := "qxb6600010a", sum := "a1ec88b3d2742f908f68c5940526f26270656f896bb52c4795a150e80278f6f3", func := "example.com/weftnode/weftnode/zzlaws_pkg_route_b1.FnCompactThenWalkChangesNothing", spec := "fnCompactThenWalkChangesNothing", inPlace := ["internal/bytealg.abigen_runtime_cmpstring"], unfollowed := true, recurses := true, plainKeys := false, apart := false }
def FnCompactThenWalkChangesNothingSaid : Prop := fnCompactThenWalkChangesNothingRow.holds Try.pinned (OpenSpec.ofChange fnCompactThenWalkChangesNothingSpec)

/-- ITS FALSE NEIGHBOUR: 'it returns false'. Refute it at one input. -/
def fnCompactThenWalkChangesNothingWrong : ChangeSpec := { name := "fnCompactThenWalkChangesNothing", fn := fun _ => fun
  | [d1, d2, d3] => { results := [.lit (.bool false)], args := [d1, d2, d3] }
  | _ => none }
def FnCompactThenWalkChangesNothingWrongFalsely : Prop := fnCompactThenWalkChangesNothingRow.holds Try.pinned (OpenSpec.ofChange fnCompactThenWalkChangesNothingWrong)

/-- 'zzlaws_pkg_route_b1.FnCompactTwiceIsOnce': WHATEVER THE INPUT: true; the input reads as it did. -/
def fnCompactTwiceIsOnceSpec : ChangeSpec := { name := "fnCompactTwiceIsOnce", fn := fun _ => fun
  | [d1, d2, d3] => { results := [.lit (.bool true)], args := [d1, d2, d3] }
  | _ => none }
def fnCompactTwiceIsOnceRow : OpenClaim := { program := "qxb6600010a", sum := "a1ec88b3d2742f908f68c5940526f26270656f896bb52c4795a150e80278f6f3", func := "example.com/weftnode/weftnode/zzlaws_pkg_route_b1.FnCompactTwiceIsOnce", spec := "fnCompactTwiceIsOnce", inPlace := ["internal/bytealg.abigen_runtime_cmpstring"], unfollowed := true, recurses := true, plainKeys := false, apart := false }
def FnCompactTwiceIsOnceSaid : Prop := fnCompactTwiceIsOnceRow.holds Try.pinned (OpenSpec.ofChange fnCompactTwiceIsOnceSpec)

/-- ITS FALSE NEIGHBOUR: 'it returns false'. Refute it at one input. -/
def fnCompactTwiceIsOnceWrong : ChangeSpec := { name := "fnCompactTwiceIsOnce", fn := fun _ => fun
  | [d1, d2, d3] => { results := [.lit (.bool false)], args := [d1, d2, d3] }
  | _ => none }
def FnCompactTwiceIsOnceWrongFalsely : Prop := fnCompactTwiceIsOnceRow.holds Try.pinned (OpenSpec.ofChange fnCompactTwiceIsOnceWrong)

/-- 'zzlaws_pkg_route_b1.FnRelinkedWalkAgreesWithWalk': WHATEVER THE INPUT: true; the input reads as it did. -/
def fnRelinkedWalkAgreesWithWalkSpec : ChangeSpec := { name := "fnRelinkedWalkAgreesWithWalk", fn := fun _ => fun
  | [d1, d2, d3, d4, d5] => { results := [.lit (.bool true)], args := [d1, d2, d3, d4, d5] }
  | _ => none }
def fnRelinkedWalkAgreesWithWalkRow : OpenClaim := { program := "qxb6600010a", sum := "a1ec88b3d2742f908f68c5940526f26270656f896bb52c4795a150e80278f6f3", func := "example.com/weftnode/weftnode/zzlaws_pkg_route_b1.FnRelinkedWalkAgreesWithWalk", spec := "fnRelinkedWalkAgreesWithWalk", inPlace := ["internal/bytealg.abigen_runtime_cmpstring"], unfollowed := true, recurses := true, plainKeys := false, apart := false }
def FnRelinkedWalkAgreesWithWalkSaid : Prop := fnRelinkedWalkAgreesWithWalkRow.holds Try.pinned (OpenSpec.ofChange fnRelinkedWalkAgreesWithWalkSpec)

/-- ITS FALSE NEIGHBOUR: 'it returns false'. Refute it at one input. -/
def fnRelinkedWalkAgreesWithWalkWrong : ChangeSpec := { name := "fnRelinkedWalkAgreesWithWalk", fn := fun _ => fun
  | [d1, d2, d3, d4, d5] => { results := [.lit (.bool false)], args := [d1, d2, d3, d4, d5] }
  | _ => none }
def FnRelinkedWalkAgreesWithWalkWrongFalsely : Prop := fnRelinkedWalkAgreesWithWalkRow.holds Try.pinned (OpenSpec.ofChange fnRelinkedWalkAgreesWithWalkWrong)

/-- 'zzlaws_pkg_route_b1.FnRelinkedWithoutWalkKeepsPaths': WHATEVER THE INPUT: true; the input reads as it did. -/
def fnRelinkedWithoutWalkKeepsPathsSpec : ChangeSpec := { name := "fnRelinkedWithoutWalkKeepsPaths", fn := fun _ => fun
  | [d1, d2, d3, d4] => { results := [.lit (.bool true)], args := [d1, d2, d3, d4] }
  | _ => none }
def fnRelinkedWithoutWalkKeepsPathsRow : OpenClaim := { program := "qxb6600010a", sum := "a1ec88b3d2742f908f68c5940526f26270656f896bb52c4795a150e80278f6f3", func := "example.com/weftnode/weftnode/zzlaws_pkg_route_b1.FnRelinkedWithoutWalkKeepsPaths", spec := "fnRelinkedWithoutWalkKeepsPaths", inPlace := ["internal/bytealg.abigen_runtime_cmpstring"], unfollowed := true, recurses := true, plainKeys := false, apart := false }
def FnRelinkedWithoutWalkKeepsPathsSaid : Prop := fnRelinkedWithoutWalkKeepsPathsRow.holds Try.pinned (OpenSpec.ofChange fnRelinkedWithoutWalkKeepsPathsSpec)

/-- ITS FALSE NEIGHBOUR: 'it returns false'. Refute it at one input. -/
def fnRelinkedWithoutWalkKeepsPathsWrong : ChangeSpec := { name := "fnRelinkedWithoutWalkKeepsPaths", fn := fun _ => fun
  | [d1, d2, d3, d4] => { results := [.lit (.bool false)], args := [d1, d2, d3, d4] }
  | _ => none }
def FnRelinkedWithoutWalkKeepsPathsWrongFalsely : Prop := fnRelinkedWithoutWalkKeepsPathsRow.holds Try.pinned (OpenSpec.ofChange fnRelinkedWithoutWalkKeepsPathsWrong)

end Rows
end Go.Proofs.Qxb6600010a
