/-
  No cell of these rows narrows 'for every input' (looked for: loops, veiled, ifaces, maps, wideKeys, modest, calm, conditions, laid).
  DERIVED. THE GIVEN ROWS OF THIS SEAT. 6 by the template 'for every input the law returns true; each argument reads behind the call as it read before'; 0 by the template 'total and deterministic' (their statements: Qxb6601491aTotals.lean).
  GIVEN WITH THE SEED: the statements are not yours to turn. If you find one false, say at which input.
  Laid BY PROGRAM, IN A SANDBOX (cutbox-rows.mjs): the forced cells as the released guide's own fill.sh prints them over the translation 16dc4c9cffdd41aa… (all of the seat's roots in one cut). By AI agents, Wed Nov 11 2026. No macro, syntax, notation, axiom, sorry.
-/
import Derived.Test.Qxb6601491aChecked
import GoSem.Claim
import GoSem.ClaimJoined
import GoSem.ClaimMapViews
import Derived.JoinedTies
import Derived.KernelRfl
namespace Go.Proofs.Qxb6601491a
/- THE CELL 'sum', in the pinned program and in every row, IS THE sha256 OF THE DUMP (.gsa) THAT Qxb6601491aProg.lean LOADS. Nothing in Lean hashes anything: it is a label: what it is worth is what the hold of that sum in a sandbox is worth. -/
noncomputable def Try.pinned : Pinned := { name := "qxb6601491a", sum := "16dc4c9cffdd41aa67670bc3e5e54da6b605eee72bfb3ccd2319f92a8b359406", checked := Try.checked }
namespace Rows
def none {H : Type} : Left H := { results := [], args := [] }

/-- 'zzlaws_internal_topology_b1.FnNewGraphMatchesEdgeSetModel': WHATEVER THE INPUT: true; the input reads as it did. -/
def fnNewGraphMatchesEdgeSetModelSpec : ChangeSpec := { name := "fnNewGraphMatchesEdgeSetModel", fn := fun _ => fun
  | [d] => { results := [.lit (.bool true)], args := [d] }
  | _ => none }
def fnNewGraphMatchesEdgeSetModelRow : OpenClaim := { program := "qxb6601491a", sum := "16dc4c9cffdd41aa67670bc3e5e54da6b605eee72bfb3ccd2319f92a8b359406", func := "example.com/weftline/weftline/zzlaws_internal_topology_b1.FnNewGraphMatchesEdgeSetModel", spec := "fnNewGraphMatchesEdgeSetModel", recurses := true, plainKeys := false, apart := false }
def FnNewGraphMatchesEdgeSetModelSaid : Prop := fnNewGraphMatchesEdgeSetModelRow.holds Try.pinned (OpenSpec.ofChange fnNewGraphMatchesEdgeSetModelSpec)

/-- ITS FALSE NEIGHBOUR: 'it returns false'. Refute it at one input. -/
def fnNewGraphMatchesEdgeSetModelWrong : ChangeSpec := { name := "fnNewGraphMatchesEdgeSetModel", fn := fun _ => fun
  | [d] => { results := [.lit (.bool false)], args := [d] }
  | _ => none }
def FnNewGraphMatchesEdgeSetModelWrongFalsely : Prop := fnNewGraphMatchesEdgeSetModelRow.holds Try.pinned (OpenSpec.ofChange fnNewGraphMatchesEdgeSetModelWrong)

/-- 'zzlaws_internal_topology_b1.FnNewGraphIsAFixedPointOfItsOwnRebuild': WHATEVER THE INPUT: true; the input reads as it did. -/
def fnNewGraphIsAFixedPointOfItsOwnRebuildSpec : ChangeSpec := { name := "fnNewGraphIsAFixedPointOfItsOwnRebuild", fn := fun _ => fun
  | [d] => { results := [.lit (.bool true)], args := [d] }
  | _ => none }
def fnNewGraphIsAFixedPointOfItsOwnRebuildRow : OpenClaim := { program := "qxb6601491a", sum := "16dc4c9cffdd41aa67670bc3e5e54da6b605eee72bfb3ccd2319f92a8b359406", func := "example.com/weftline/weftline/zzlaws_internal_topology_b1.FnNewGraphIsAFixedPointOfItsOwnRebuild", spec := "fnNewGraphIsAFixedPointOfItsOwnRebuild", recurses := true, plainKeys := false, apart := false }
def FnNewGraphIsAFixedPointOfItsOwnRebuildSaid : Prop := fnNewGraphIsAFixedPointOfItsOwnRebuildRow.holds Try.pinned (OpenSpec.ofChange fnNewGraphIsAFixedPointOfItsOwnRebuildSpec)

/-- ITS FALSE NEIGHBOUR: 'it returns false'. Refute it at one input. -/
def fnNewGraphIsAFixedPointOfItsOwnRebuildWrong : ChangeSpec := { name := "fnNewGraphIsAFixedPointOfItsOwnRebuild", fn := fun _ => fun
  | [d] => { results := [.lit (.bool false)], args := [d] }
  | _ => none }
def FnNewGraphIsAFixedPointOfItsOwnRebuildWrongFalsely : Prop := fnNewGraphIsAFixedPointOfItsOwnRebuildRow.holds Try.pinned (OpenSpec.ofChange fnNewGraphIsAFixedPointOfItsOwnRebuildWrong)

/-- 'zzlaws_internal_topology_b1.FnRingCorrectCountsNodesHoldingNearestNeighbours': WHATEVER THE INPUT: true; the input reads as it did. -/
def fnRingCorrectCountsNodesHoldingNearestNeighboursSpec : ChangeSpec := { name := "fnRingCorrectCountsNodesHoldingNearestNeighbours", fn := fun _ => fun
  | [d1, d2] => { results := [.lit (.bool true)], args := [d1, d2] }
  | _ => none }
def fnRingCorrectCountsNodesHoldingNearestNeighboursRow : OpenClaim := { program := "qxb6601491a", sum := "16dc4c9cffdd41aa67670bc3e5e54da6b605eee72bfb3ccd2319f92a8b359406", func := "example.com/weftline/weftline/zzlaws_internal_topology_b1.FnRingCorrectCountsNodesHoldingNearestNeighbours", spec := "fnRingCorrectCountsNodesHoldingNearestNeighbours", inPlace := ["internal/bytealg.Compare"], unfollowed := true, recurses := true, plainKeys := false, apart := false }
def FnRingCorrectCountsNodesHoldingNearestNeighboursSaid : Prop := fnRingCorrectCountsNodesHoldingNearestNeighboursRow.holds Try.pinned (OpenSpec.ofChange fnRingCorrectCountsNodesHoldingNearestNeighboursSpec)

/-- ITS FALSE NEIGHBOUR: 'it returns false'. Refute it at one input. -/
def fnRingCorrectCountsNodesHoldingNearestNeighboursWrong : ChangeSpec := { name := "fnRingCorrectCountsNodesHoldingNearestNeighbours", fn := fun _ => fun
  | [d1, d2] => { results := [.lit (.bool false)], args := [d1, d2] }
  | _ => none }
def FnRingCorrectCountsNodesHoldingNearestNeighboursWrongFalsely : Prop := fnRingCorrectCountsNodesHoldingNearestNeighboursRow.holds Try.pinned (OpenSpec.ofChange fnRingCorrectCountsNodesHoldingNearestNeighboursWrong)

/-- 'zzlaws_internal_topology_b1.FnRingCorrectIsBoundedByNodesWithEnoughLinks': WHATEVER THE INPUT: true; the input reads as it did. -/
def fnRingCorrectIsBoundedByNodesWithEnoughLinksSpec : ChangeSpec := { name := "fnRingCorrectIsBoundedByNodesWithEnoughLinks", fn := fun _ => fun
  | [d1, d2] => { results := [.lit (.bool true)], args := [d1, d2] }
  | _ => none }
def fnRingCorrectIsBoundedByNodesWithEnoughLinksRow : OpenClaim := { program := "qxb6601491a", sum := "16dc4c9cffdd41aa67670bc3e5e54da6b605eee72bfb3ccd2319f92a8b359406", func := "example.com/weftline/weftline/zzlaws_internal_topology_b1.FnRingCorrectIsBoundedByNodesWithEnoughLinks", spec := "fnRingCorrectIsBoundedByNodesWithEnoughLinks", inPlace := ["internal/bytealg.Compare"], unfollowed := true, recurses := true, plainKeys := false, apart := false }
def FnRingCorrectIsBoundedByNodesWithEnoughLinksSaid : Prop := fnRingCorrectIsBoundedByNodesWithEnoughLinksRow.holds Try.pinned (OpenSpec.ofChange fnRingCorrectIsBoundedByNodesWithEnoughLinksSpec)

/-- ITS FALSE NEIGHBOUR: 'it returns false'. Refute it at one input. -/
def fnRingCorrectIsBoundedByNodesWithEnoughLinksWrong : ChangeSpec := { name := "fnRingCorrectIsBoundedByNodesWithEnoughLinks", fn := fun _ => fun
  | [d1, d2] => { results := [.lit (.bool false)], args := [d1, d2] }
  | _ => none }
def FnRingCorrectIsBoundedByNodesWithEnoughLinksWrongFalsely : Prop := fnRingCorrectIsBoundedByNodesWithEnoughLinksRow.holds Try.pinned (OpenSpec.ofChange fnRingCorrectIsBoundedByNodesWithEnoughLinksWrong)

/-- 'zzlaws_internal_topology_b1.FnMedianIsMiddleOrderStatisticAndSortsItsArgument': WHATEVER THE INPUT: true; the input reads as it did. -/
def fnMedianIsMiddleOrderStatisticAndSortsItsArgumentSpec : ChangeSpec := { name := "fnMedianIsMiddleOrderStatisticAndSortsItsArgument", fn := fun _ => fun
  | [d] => { results := [.lit (.bool true)], args := [d] }
  | _ => none }
def fnMedianIsMiddleOrderStatisticAndSortsItsArgumentRow : OpenClaim := { program := "qxb6601491a", sum := "16dc4c9cffdd41aa67670bc3e5e54da6b605eee72bfb3ccd2319f92a8b359406", func := "example.com/weftline/weftline/zzlaws_internal_topology_b1.FnMedianIsMiddleOrderStatisticAndSortsItsArgument", spec := "fnMedianIsMiddleOrderStatisticAndSortsItsArgument", recurses := true, plainKeys := false, apart := false }
def FnMedianIsMiddleOrderStatisticAndSortsItsArgumentSaid : Prop := fnMedianIsMiddleOrderStatisticAndSortsItsArgumentRow.holds Try.pinned (OpenSpec.ofChange fnMedianIsMiddleOrderStatisticAndSortsItsArgumentSpec)

/-- ITS FALSE NEIGHBOUR: 'it returns false'. Refute it at one input. -/
def fnMedianIsMiddleOrderStatisticAndSortsItsArgumentWrong : ChangeSpec := { name := "fnMedianIsMiddleOrderStatisticAndSortsItsArgument", fn := fun _ => fun
  | [d] => { results := [.lit (.bool false)], args := [d] }
  | _ => none }
def FnMedianIsMiddleOrderStatisticAndSortsItsArgumentWrongFalsely : Prop := fnMedianIsMiddleOrderStatisticAndSortsItsArgumentRow.holds Try.pinned (OpenSpec.ofChange fnMedianIsMiddleOrderStatisticAndSortsItsArgumentWrong)

/-- 'zzlaws_internal_topology_b1.FnMedianIsOrderFreeAndIdempotent': WHATEVER THE INPUT: true; the input reads as it did. -/
def fnMedianIsOrderFreeAndIdempotentSpec : ChangeSpec := { name := "fnMedianIsOrderFreeAndIdempotent", fn := fun _ => fun
  | [d] => { results := [.lit (.bool true)], args := [d] }
  | _ => none }
def fnMedianIsOrderFreeAndIdempotentRow : OpenClaim := { program := "qxb6601491a", sum := "16dc4c9cffdd41aa67670bc3e5e54da6b605eee72bfb3ccd2319f92a8b359406", func := "example.com/weftline/weftline/zzlaws_internal_topology_b1.FnMedianIsOrderFreeAndIdempotent", spec := "fnMedianIsOrderFreeAndIdempotent", recurses := true, plainKeys := false, apart := false }
def FnMedianIsOrderFreeAndIdempotentSaid : Prop := fnMedianIsOrderFreeAndIdempotentRow.holds Try.pinned (OpenSpec.ofChange fnMedianIsOrderFreeAndIdempotentSpec)

/-- ITS FALSE NEIGHBOUR: 'it returns false'. Refute it at one input. -/
def fnMedianIsOrderFreeAndIdempotentWrong : ChangeSpec := { name := "fnMedianIsOrderFreeAndIdempotent", fn := fun _ => fun
  | [d] => { results := [.lit (.bool false)], args := [d] }
  | _ => none }
def FnMedianIsOrderFreeAndIdempotentWrongFalsely : Prop := fnMedianIsOrderFreeAndIdempotentRow.holds Try.pinned (OpenSpec.ofChange fnMedianIsOrderFreeAndIdempotentWrong)

end Rows
end Go.Proofs.Qxb6601491a
