/-
  No cell of these rows narrows 'for every input' (looked for: loops, veiled, ifaces, maps, wideKeys, modest, calm, conditions, laid).
  DERIVED. THE GIVEN ROWS OF THIS SEAT. 9 by the template 'for every input the law returns true; each argument reads behind the call as it read before'; 0 by the template 'total and deterministic' (their statements: Qxb6602564aTotals.lean).
  GIVEN WITH THE SEED: the statements are not yours to turn. If you find one false, say at which input.
  Laid BY PROGRAM, IN A SANDBOX (cutbox-rows.mjs): the forced cells as the released guide's own fill.sh prints them over the translation 1e20f599b5d0cbbe… (all of the seat's roots in one cut). By AI agents, Wed Nov 11 2026. No macro, syntax, notation, axiom, sorry.
-/
import Derived.Test.Qxb6602564aChecked
import GoSem.Claim
import GoSem.ClaimJoined
import GoSem.ClaimMapViews
import Derived.JoinedTies
import Derived.KernelRfl
namespace Go.Proofs.Qxb6602564a
/- THE CELL 'sum', in the pinned program and in every row, IS THE sha256 OF THE DUMP (.gsa) THAT Qxb6602564aProg.lean LOADS. Nothing in Lean hashes anything: it is a label: what it is worth is what the hold of that sum in a sandbox is worth. -/
noncomputable def Try.pinned : Pinned := { name := "qxb6602564a", sum := "1e20f599b5d0cbbef184ea26669d71f103817aab444693c76f873b8088bbd066", checked := Try.checked }
namespace Rows
def none {H : Type} : Left H := { results := [], args := [] }

/-- 'zzlaws_pkg_placement_b1.FnRepeatsIffSortedNeighboursEqual': WHATEVER THE INPUT: true; the input reads as it did. -/
def fnRepeatsIffSortedNeighboursEqualSpec : ChangeSpec := { name := "fnRepeatsIffSortedNeighboursEqual", fn := fun _ => fun
  | [d] => { results := [.lit (.bool true)], args := [d] }
  | _ => none }
def fnRepeatsIffSortedNeighboursEqualRow : OpenClaim := { program := "qxb6602564a", sum := "1e20f599b5d0cbbef184ea26669d71f103817aab444693c76f873b8088bbd066", func := "example.com/bursar/bursar/zzlaws_pkg_placement_b1.FnRepeatsIffSortedNeighboursEqual", spec := "fnRepeatsIffSortedNeighboursEqual", apart := false }
def FnRepeatsIffSortedNeighboursEqualSaid : Prop := fnRepeatsIffSortedNeighboursEqualRow.holds Try.pinned (OpenSpec.ofChange fnRepeatsIffSortedNeighboursEqualSpec)

/-- ITS FALSE NEIGHBOUR: 'it returns false'. Refute it at one input. -/
def fnRepeatsIffSortedNeighboursEqualWrong : ChangeSpec := { name := "fnRepeatsIffSortedNeighboursEqual", fn := fun _ => fun
  | [d] => { results := [.lit (.bool false)], args := [d] }
  | _ => none }
def FnRepeatsIffSortedNeighboursEqualWrongFalsely : Prop := fnRepeatsIffSortedNeighboursEqualRow.holds Try.pinned (OpenSpec.ofChange fnRepeatsIffSortedNeighboursEqualWrong)

/-- 'zzlaws_pkg_placement_b1.FnRepeatsOrderFree': WHATEVER THE INPUT: true; the input reads as it did. -/
def fnRepeatsOrderFreeSpec : ChangeSpec := { name := "fnRepeatsOrderFree", fn := fun _ => fun
  | [d] => { results := [.lit (.bool true)], args := [d] }
  | _ => none }
def fnRepeatsOrderFreeRow : OpenClaim := { program := "qxb6602564a", sum := "1e20f599b5d0cbbef184ea26669d71f103817aab444693c76f873b8088bbd066", func := "example.com/bursar/bursar/zzlaws_pkg_placement_b1.FnRepeatsOrderFree", spec := "fnRepeatsOrderFree", apart := false }
def FnRepeatsOrderFreeSaid : Prop := fnRepeatsOrderFreeRow.holds Try.pinned (OpenSpec.ofChange fnRepeatsOrderFreeSpec)

/-- ITS FALSE NEIGHBOUR: 'it returns false'. Refute it at one input. -/
def fnRepeatsOrderFreeWrong : ChangeSpec := { name := "fnRepeatsOrderFree", fn := fun _ => fun
  | [d] => { results := [.lit (.bool false)], args := [d] }
  | _ => none }
def FnRepeatsOrderFreeWrongFalsely : Prop := fnRepeatsOrderFreeRow.holds Try.pinned (OpenSpec.ofChange fnRepeatsOrderFreeWrong)

/-- 'zzlaws_pkg_placement_b1.FnRepeatsSplitsOverConcatenation': WHATEVER THE INPUT: true; the input reads as it did. -/
def fnRepeatsSplitsOverConcatenationSpec : ChangeSpec := { name := "fnRepeatsSplitsOverConcatenation", fn := fun _ => fun
  | [d1, d2] => { results := [.lit (.bool true)], args := [d1, d2] }
  | _ => none }
def fnRepeatsSplitsOverConcatenationRow : OpenClaim := { program := "qxb6602564a", sum := "1e20f599b5d0cbbef184ea26669d71f103817aab444693c76f873b8088bbd066", func := "example.com/bursar/bursar/zzlaws_pkg_placement_b1.FnRepeatsSplitsOverConcatenation", spec := "fnRepeatsSplitsOverConcatenation", apart := false }
def FnRepeatsSplitsOverConcatenationSaid : Prop := fnRepeatsSplitsOverConcatenationRow.holds Try.pinned (OpenSpec.ofChange fnRepeatsSplitsOverConcatenationSpec)

/-- ITS FALSE NEIGHBOUR: 'it returns false'. Refute it at one input. -/
def fnRepeatsSplitsOverConcatenationWrong : ChangeSpec := { name := "fnRepeatsSplitsOverConcatenation", fn := fun _ => fun
  | [d1, d2] => { results := [.lit (.bool false)], args := [d1, d2] }
  | _ => none }
def FnRepeatsSplitsOverConcatenationWrongFalsely : Prop := fnRepeatsSplitsOverConcatenationRow.holds Try.pinned (OpenSpec.ofChange fnRepeatsSplitsOverConcatenationWrong)

/-- 'zzlaws_pkg_placement_b1.FnRadixSortsByTotalHeldDownNode': WHATEVER THE INPUT: true; the input reads as it did. -/
def fnRadixSortsByTotalHeldDownNodeSpec : ChangeSpec := { name := "fnRadixSortsByTotalHeldDownNode", fn := fun _ => fun
  | [d1, d2, d3] => { results := [.lit (.bool true)], args := [d1, d2, d3] }
  | _ => none }
def fnRadixSortsByTotalHeldDownNodeRow : OpenClaim := { program := "qxb6602564a", sum := "1e20f599b5d0cbbef184ea26669d71f103817aab444693c76f873b8088bbd066", func := "example.com/bursar/bursar/zzlaws_pkg_placement_b1.FnRadixSortsByTotalHeldDownNode", spec := "fnRadixSortsByTotalHeldDownNode", apart := false }
def FnRadixSortsByTotalHeldDownNodeSaid : Prop := fnRadixSortsByTotalHeldDownNodeRow.holds Try.pinned (OpenSpec.ofChange fnRadixSortsByTotalHeldDownNodeSpec)

/-- ITS FALSE NEIGHBOUR: 'it returns false'. Refute it at one input. -/
def fnRadixSortsByTotalHeldDownNodeWrong : ChangeSpec := { name := "fnRadixSortsByTotalHeldDownNode", fn := fun _ => fun
  | [d1, d2, d3] => { results := [.lit (.bool false)], args := [d1, d2, d3] }
  | _ => none }
def FnRadixSortsByTotalHeldDownNodeWrongFalsely : Prop := fnRadixSortsByTotalHeldDownNodeRow.holds Try.pinned (OpenSpec.ofChange fnRadixSortsByTotalHeldDownNodeWrong)

/-- 'zzlaws_pkg_placement_b1.FnRadixReusedSorterAsFresh': WHATEVER THE INPUT: true; the input reads as it did. -/
def fnRadixReusedSorterAsFreshSpec : ChangeSpec := { name := "fnRadixReusedSorterAsFresh", fn := fun _ => fun
  | [d1, d2, d3, d4, d5, d6] => { results := [.lit (.bool true)], args := [d1, d2, d3, d4, d5, d6] }
  | _ => none }
def fnRadixReusedSorterAsFreshRow : OpenClaim := { program := "qxb6602564a", sum := "1e20f599b5d0cbbef184ea26669d71f103817aab444693c76f873b8088bbd066", func := "example.com/bursar/bursar/zzlaws_pkg_placement_b1.FnRadixReusedSorterAsFresh", spec := "fnRadixReusedSorterAsFresh", apart := false }
def FnRadixReusedSorterAsFreshSaid : Prop := fnRadixReusedSorterAsFreshRow.holds Try.pinned (OpenSpec.ofChange fnRadixReusedSorterAsFreshSpec)

/-- ITS FALSE NEIGHBOUR: 'it returns false'. Refute it at one input. -/
def fnRadixReusedSorterAsFreshWrong : ChangeSpec := { name := "fnRadixReusedSorterAsFresh", fn := fun _ => fun
  | [d1, d2, d3, d4, d5, d6] => { results := [.lit (.bool false)], args := [d1, d2, d3, d4, d5, d6] }
  | _ => none }
def FnRadixReusedSorterAsFreshWrongFalsely : Prop := fnRadixReusedSorterAsFreshRow.holds Try.pinned (OpenSpec.ofChange fnRadixReusedSorterAsFreshWrong)

/-- 'zzlaws_pkg_placement_b1.FnRadixOrderFree': WHATEVER THE INPUT: true; the input reads as it did. -/
def fnRadixOrderFreeSpec : ChangeSpec := { name := "fnRadixOrderFree", fn := fun _ => fun
  | [d1, d2, d3] => { results := [.lit (.bool true)], args := [d1, d2, d3] }
  | _ => none }
def fnRadixOrderFreeRow : OpenClaim := { program := "qxb6602564a", sum := "1e20f599b5d0cbbef184ea26669d71f103817aab444693c76f873b8088bbd066", func := "example.com/bursar/bursar/zzlaws_pkg_placement_b1.FnRadixOrderFree", spec := "fnRadixOrderFree", apart := false }
def FnRadixOrderFreeSaid : Prop := fnRadixOrderFreeRow.holds Try.pinned (OpenSpec.ofChange fnRadixOrderFreeSpec)

/-- ITS FALSE NEIGHBOUR: 'it returns false'. Refute it at one input. -/
def fnRadixOrderFreeWrong : ChangeSpec := { name := "fnRadixOrderFree", fn := fun _ => fun
  | [d1, d2, d3] => { results := [.lit (.bool false)], args := [d1, d2, d3] }
  | _ => none }
def FnRadixOrderFreeWrongFalsely : Prop := fnRadixOrderFreeRow.holds Try.pinned (OpenSpec.ofChange fnRadixOrderFreeWrong)

/-- 'zzlaws_pkg_placement_b1.FnLayerIsShortestChainByLevels': WHATEVER THE INPUT: true; the input reads as it did. -/
def fnLayerIsShortestChainByLevelsSpec : ChangeSpec := { name := "fnLayerIsShortestChainByLevels", fn := fun _ => fun
  | [d1, d2, d3, d4, d5] => { results := [.lit (.bool true)], args := [d1, d2, d3, d4, d5] }
  | _ => none }
def fnLayerIsShortestChainByLevelsRow : OpenClaim := { program := "qxb6602564a", sum := "1e20f599b5d0cbbef184ea26669d71f103817aab444693c76f873b8088bbd066", func := "example.com/bursar/bursar/zzlaws_pkg_placement_b1.FnLayerIsShortestChainByLevels", spec := "fnLayerIsShortestChainByLevels", apart := false }
def FnLayerIsShortestChainByLevelsSaid : Prop := fnLayerIsShortestChainByLevelsRow.holds Try.pinned (OpenSpec.ofChange fnLayerIsShortestChainByLevelsSpec)

/-- ITS FALSE NEIGHBOUR: 'it returns false'. Refute it at one input. -/
def fnLayerIsShortestChainByLevelsWrong : ChangeSpec := { name := "fnLayerIsShortestChainByLevels", fn := fun _ => fun
  | [d1, d2, d3, d4, d5] => { results := [.lit (.bool false)], args := [d1, d2, d3, d4, d5] }
  | _ => none }
def FnLayerIsShortestChainByLevelsWrongFalsely : Prop := fnLayerIsShortestChainByLevelsRow.holds Try.pinned (OpenSpec.ofChange fnLayerIsShortestChainByLevelsWrong)

/-- 'zzlaws_pkg_placement_b1.FnLayerUnmovedByAnEarlierSearch': WHATEVER THE INPUT: true; the input reads as it did. -/
def fnLayerUnmovedByAnEarlierSearchSpec : ChangeSpec := { name := "fnLayerUnmovedByAnEarlierSearch", fn := fun _ => fun
  | [d1, d2, d3, d4, d5, d6, d7, d8, d9] => { results := [.lit (.bool true)], args := [d1, d2, d3, d4, d5, d6, d7, d8, d9] }
  | _ => none }
def fnLayerUnmovedByAnEarlierSearchRow : OpenClaim := { program := "qxb6602564a", sum := "1e20f599b5d0cbbef184ea26669d71f103817aab444693c76f873b8088bbd066", func := "example.com/bursar/bursar/zzlaws_pkg_placement_b1.FnLayerUnmovedByAnEarlierSearch", spec := "fnLayerUnmovedByAnEarlierSearch", apart := false }
def FnLayerUnmovedByAnEarlierSearchSaid : Prop := fnLayerUnmovedByAnEarlierSearchRow.holds Try.pinned (OpenSpec.ofChange fnLayerUnmovedByAnEarlierSearchSpec)

/-- ITS FALSE NEIGHBOUR: 'it returns false'. Refute it at one input. -/
def fnLayerUnmovedByAnEarlierSearchWrong : ChangeSpec := { name := "fnLayerUnmovedByAnEarlierSearch", fn := fun _ => fun
  | [d1, d2, d3, d4, d5, d6, d7, d8, d9] => { results := [.lit (.bool false)], args := [d1, d2, d3, d4, d5, d6, d7, d8, d9] }
  | _ => none }
def FnLayerUnmovedByAnEarlierSearchWrongFalsely : Prop := fnLayerUnmovedByAnEarlierSearchRow.holds Try.pinned (OpenSpec.ofChange fnLayerUnmovedByAnEarlierSearchWrong)

/-- 'zzlaws_pkg_placement_b1.FnLayerNoLongerForWiderSpans': WHATEVER THE INPUT: true; the input reads as it did. -/
def fnLayerNoLongerForWiderSpansSpec : ChangeSpec := { name := "fnLayerNoLongerForWiderSpans", fn := fun _ => fun
  | [d1, d2, d3, d4, d5, d6, d7, d8, d9] => { results := [.lit (.bool true)], args := [d1, d2, d3, d4, d5, d6, d7, d8, d9] }
  | _ => none }
def fnLayerNoLongerForWiderSpansRow : OpenClaim := { program := "qxb6602564a", sum := "1e20f599b5d0cbbef184ea26669d71f103817aab444693c76f873b8088bbd066", func := "example.com/bursar/bursar/zzlaws_pkg_placement_b1.FnLayerNoLongerForWiderSpans", spec := "fnLayerNoLongerForWiderSpans", apart := false }
def FnLayerNoLongerForWiderSpansSaid : Prop := fnLayerNoLongerForWiderSpansRow.holds Try.pinned (OpenSpec.ofChange fnLayerNoLongerForWiderSpansSpec)

/-- ITS FALSE NEIGHBOUR: 'it returns false'. Refute it at one input. -/
def fnLayerNoLongerForWiderSpansWrong : ChangeSpec := { name := "fnLayerNoLongerForWiderSpans", fn := fun _ => fun
  | [d1, d2, d3, d4, d5, d6, d7, d8, d9] => { results := [.lit (.bool false)], args := [d1, d2, d3, d4, d5, d6, d7, d8, d9] }
  | _ => none }
def FnLayerNoLongerForWiderSpansWrongFalsely : Prop := fnLayerNoLongerForWiderSpansRow.holds Try.pinned (OpenSpec.ofChange fnLayerNoLongerForWiderSpansWrong)

end Rows
end Go.Proofs.Qxb6602564a
