/-
  No cell of these rows narrows 'for every input' (looked for: loops, veiled, ifaces, maps, wideKeys, modest, calm, conditions, laid).
  DERIVED. THE GIVEN ROWS OF THIS SEAT. 5 by the template 'for every input the law returns true; each argument reads behind the call as it read before'; 0 by the template 'total and deterministic' (their statements: Qxb6600025aTotals.lean).
  GIVEN WITH THE SEED: the statements are not yours to turn. If you find one false, say at which input.
  Laid BY PROGRAM, IN A SANDBOX (cutbox-rows.mjs): the forced cells as the released guide's own fill.sh prints them over the translation d16aeb2f817944a0… (all of the seat's roots in one cut). By AI agents, Wed Nov 11 2026. No macro, syntax, notation, axiom, sorry.
-/
import Derived.Test.Qxb6600025aChecked
import GoSem.Claim
import GoSem.ClaimJoined
import GoSem.ClaimMapViews
import Derived.JoinedTies
import Derived.KernelRfl
namespace Go.Proofs.Qxb6600025a
/- THE CELL 'sum', in the pinned program and in every row, IS THE sha256 OF THE DUMP (.gsa) THAT Qxb6600025aProg.lean LOADS. Nothing in Lean hashes anything: it is a label: what it is worth is what the hold of that sum in a sandbox is worth. -/
noncomputable def Try.pinned : Pinned := { name := "qxb6600025a", sum := "d16aeb2f817944a012a9ac88d33bdb9564f812b61a5365db979a413b94a6f87d", checked := Try.checked }
namespace Rows
def none {H : Type} : Left H := { results := [], args := [] }

/-- 'zzlaws_internal_cluster_b1.FnPlacementNextIsTheSamePlacementOneEpochOn': WHATEVER THE INPUT: true; the input reads as it did. -/
def fnPlacementNextIsTheSamePlacementOneEpochOnSpec : ChangeSpec := { name := "fnPlacementNextIsTheSamePlacementOneEpochOn", fn := fun _ => fun
  | [d1, d2, d3, d4] => { results := [.lit (.bool true)], args := [d1, d2, d3, d4] }
  | _ => none }
def fnPlacementNextIsTheSamePlacementOneEpochOnRow : OpenClaim := { program := "qxb6600025a", sum := "d16aeb2f817944a012a9ac88d33bdb9564f812b61a5365db979a413b94a6f87d", func := "example.com/oxbow/oxbow/zzlaws_internal_cluster_b1.FnPlacementNextIsTheSamePlacementOneEpochOn", spec := "fnPlacementNextIsTheSamePlacementOneEpochOn", apart := false }
def FnPlacementNextIsTheSamePlacementOneEpochOnSaid : Prop := fnPlacementNextIsTheSamePlacementOneEpochOnRow.holds Try.pinned (OpenSpec.ofChange fnPlacementNextIsTheSamePlacementOneEpochOnSpec)

/-- ITS FALSE NEIGHBOUR: 'it returns false'. Refute it at one input. -/
def fnPlacementNextIsTheSamePlacementOneEpochOnWrong : ChangeSpec := { name := "fnPlacementNextIsTheSamePlacementOneEpochOn", fn := fun _ => fun
  | [d1, d2, d3, d4] => { results := [.lit (.bool false)], args := [d1, d2, d3, d4] }
  | _ => none }
def FnPlacementNextIsTheSamePlacementOneEpochOnWrongFalsely : Prop := fnPlacementNextIsTheSamePlacementOneEpochOnRow.holds Try.pinned (OpenSpec.ofChange fnPlacementNextIsTheSamePlacementOneEpochOnWrong)

/-- 'zzlaws_internal_cluster_b1.FnPlacementNextSharesNoMemoryWithItsSource': WHATEVER THE INPUT: true; the input reads as it did. -/
def fnPlacementNextSharesNoMemoryWithItsSourceSpec : ChangeSpec := { name := "fnPlacementNextSharesNoMemoryWithItsSource", fn := fun _ => fun
  | [d1, d2, d3, d4] => { results := [.lit (.bool true)], args := [d1, d2, d3, d4] }
  | _ => none }
def fnPlacementNextSharesNoMemoryWithItsSourceRow : OpenClaim := { program := "qxb6600025a", sum := "d16aeb2f817944a012a9ac88d33bdb9564f812b61a5365db979a413b94a6f87d", func := "example.com/oxbow/oxbow/zzlaws_internal_cluster_b1.FnPlacementNextSharesNoMemoryWithItsSource", spec := "fnPlacementNextSharesNoMemoryWithItsSource", apart := false }
def FnPlacementNextSharesNoMemoryWithItsSourceSaid : Prop := fnPlacementNextSharesNoMemoryWithItsSourceRow.holds Try.pinned (OpenSpec.ofChange fnPlacementNextSharesNoMemoryWithItsSourceSpec)

/-- ITS FALSE NEIGHBOUR: 'it returns false'. Refute it at one input. -/
def fnPlacementNextSharesNoMemoryWithItsSourceWrong : ChangeSpec := { name := "fnPlacementNextSharesNoMemoryWithItsSource", fn := fun _ => fun
  | [d1, d2, d3, d4] => { results := [.lit (.bool false)], args := [d1, d2, d3, d4] }
  | _ => none }
def FnPlacementNextSharesNoMemoryWithItsSourceWrongFalsely : Prop := fnPlacementNextSharesNoMemoryWithItsSourceRow.holds Try.pinned (OpenSpec.ofChange fnPlacementNextSharesNoMemoryWithItsSourceWrong)

/-- 'zzlaws_internal_cluster_b1.FnPlacementNextAnswersEveryQueryAlike': WHATEVER THE INPUT: true; the input reads as it did. -/
def fnPlacementNextAnswersEveryQueryAlikeSpec : ChangeSpec := { name := "fnPlacementNextAnswersEveryQueryAlike", fn := fun _ => fun
  | [d1, d2, d3, d4] => { results := [.lit (.bool true)], args := [d1, d2, d3, d4] }
  | _ => none }
def fnPlacementNextAnswersEveryQueryAlikeRow : OpenClaim := { program := "qxb6600025a", sum := "d16aeb2f817944a012a9ac88d33bdb9564f812b61a5365db979a413b94a6f87d", func := "example.com/oxbow/oxbow/zzlaws_internal_cluster_b1.FnPlacementNextAnswersEveryQueryAlike", spec := "fnPlacementNextAnswersEveryQueryAlike", apart := false }
def FnPlacementNextAnswersEveryQueryAlikeSaid : Prop := fnPlacementNextAnswersEveryQueryAlikeRow.holds Try.pinned (OpenSpec.ofChange fnPlacementNextAnswersEveryQueryAlikeSpec)

/-- ITS FALSE NEIGHBOUR: 'it returns false'. Refute it at one input. -/
def fnPlacementNextAnswersEveryQueryAlikeWrong : ChangeSpec := { name := "fnPlacementNextAnswersEveryQueryAlike", fn := fun _ => fun
  | [d1, d2, d3, d4] => { results := [.lit (.bool false)], args := [d1, d2, d3, d4] }
  | _ => none }
def FnPlacementNextAnswersEveryQueryAlikeWrongFalsely : Prop := fnPlacementNextAnswersEveryQueryAlikeRow.holds Try.pinned (OpenSpec.ofChange fnPlacementNextAnswersEveryQueryAlikeWrong)

/-- 'zzlaws_internal_cluster_b1.FnClusterPlacementRotatesThroughTheNodes': WHATEVER THE INPUT: true; the input reads as it did. -/
def fnClusterPlacementRotatesThroughTheNodesSpec : ChangeSpec := { name := "fnClusterPlacementRotatesThroughTheNodes", fn := fun _ => fun
  | [d1, d2, d3] => { results := [.lit (.bool true)], args := [d1, d2, d3] }
  | _ => none }
def fnClusterPlacementRotatesThroughTheNodesRow : OpenClaim := { program := "qxb6600025a", sum := "d16aeb2f817944a012a9ac88d33bdb9564f812b61a5365db979a413b94a6f87d", func := "example.com/oxbow/oxbow/zzlaws_internal_cluster_b1.FnClusterPlacementRotatesThroughTheNodes", spec := "fnClusterPlacementRotatesThroughTheNodes", apart := false }
def FnClusterPlacementRotatesThroughTheNodesSaid : Prop := fnClusterPlacementRotatesThroughTheNodesRow.holds Try.pinned (OpenSpec.ofChange fnClusterPlacementRotatesThroughTheNodesSpec)

/-- ITS FALSE NEIGHBOUR: 'it returns false'. Refute it at one input. -/
def fnClusterPlacementRotatesThroughTheNodesWrong : ChangeSpec := { name := "fnClusterPlacementRotatesThroughTheNodes", fn := fun _ => fun
  | [d1, d2, d3] => { results := [.lit (.bool false)], args := [d1, d2, d3] }
  | _ => none }
def FnClusterPlacementRotatesThroughTheNodesWrongFalsely : Prop := fnClusterPlacementRotatesThroughTheNodesRow.holds Try.pinned (OpenSpec.ofChange fnClusterPlacementRotatesThroughTheNodesWrong)

/-- 'zzlaws_internal_cluster_b1.FnClusterPlacementSpreadsRegionsEvenly': WHATEVER THE INPUT: true; the input reads as it did. -/
def fnClusterPlacementSpreadsRegionsEvenlySpec : ChangeSpec := { name := "fnClusterPlacementSpreadsRegionsEvenly", fn := fun _ => fun
  | [d1, d2, d3] => { results := [.lit (.bool true)], args := [d1, d2, d3] }
  | _ => none }
def fnClusterPlacementSpreadsRegionsEvenlyRow : OpenClaim := { program := "qxb6600025a", sum := "d16aeb2f817944a012a9ac88d33bdb9564f812b61a5365db979a413b94a6f87d", func := "example.com/oxbow/oxbow/zzlaws_internal_cluster_b1.FnClusterPlacementSpreadsRegionsEvenly", spec := "fnClusterPlacementSpreadsRegionsEvenly", apart := false }
def FnClusterPlacementSpreadsRegionsEvenlySaid : Prop := fnClusterPlacementSpreadsRegionsEvenlyRow.holds Try.pinned (OpenSpec.ofChange fnClusterPlacementSpreadsRegionsEvenlySpec)

/-- ITS FALSE NEIGHBOUR: 'it returns false'. Refute it at one input. -/
def fnClusterPlacementSpreadsRegionsEvenlyWrong : ChangeSpec := { name := "fnClusterPlacementSpreadsRegionsEvenly", fn := fun _ => fun
  | [d1, d2, d3] => { results := [.lit (.bool false)], args := [d1, d2, d3] }
  | _ => none }
def FnClusterPlacementSpreadsRegionsEvenlyWrongFalsely : Prop := fnClusterPlacementSpreadsRegionsEvenlyRow.holds Try.pinned (OpenSpec.ofChange fnClusterPlacementSpreadsRegionsEvenlyWrong)

end Rows
end Go.Proofs.Qxb6600025a
