/-
  No cell of these rows narrows 'for every input' (looked for: loops, veiled, ifaces, maps, wideKeys, modest, calm, conditions, laid).
  DERIVED. THE GIVEN ROWS OF THIS SEAT. 3 by the template 'for every input the law returns true; each argument reads behind the call as it read before'; 0 by the template 'total and deterministic' (their statements: Qxb6612831aTotals.lean).
  GIVEN WITH THE SEED: the statements are not yours to turn. If you find one false, say at which input.
  Laid BY PROGRAM, IN A SANDBOX (cutbox-rows.mjs): the forced cells as the released guide's own fill.sh prints them over the translation 9ca05b904c6be16e… (all of the seat's roots in one cut). By AI agents, Wed Nov 11 2026. No macro, syntax, notation, axiom, sorry.
-/
import Derived.Test.Qxb6612831aChecked
import GoSem.Claim
import GoSem.ClaimJoined
import GoSem.ClaimMapViews
import Derived.JoinedTies
import Derived.KernelRfl
namespace Go.Proofs.Qxb6612831a
/- THE CELL 'sum', in the pinned program and in every row, IS THE sha256 OF THE DUMP (.gsa) THAT Qxb6612831aProg.lean LOADS. Nothing in Lean hashes anything: it is a label: what it is worth is what the hold of that sum in a sandbox is worth. -/
noncomputable def Try.pinned : Pinned := { name := "qxb6612831a", sum := "9ca05b904c6be16e7431a17b0dc49530653f00dee3571edb0928d3fdf5d6f8ef", checked := Try.checked }
namespace Rows
def none {H : Type} : Left H := { results := [], args := [] }

/-- 'zzlaws_internal_schedule_b1.FnUnionMergesTwoSetsUnderSmallerRoot': WHATEVER THE INPUT: true; the input reads as it did. -/
def fnUnionMergesTwoSetsUnderSmallerRootSpec : ChangeSpec := { name := "fnUnionMergesTwoSetsUnderSmallerRoot", fn := fun _ => fun
  | [d1, d2, d3] => { results := [.lit (.bool true)], args := [d1, d2, d3] }
  | _ => none }
def fnUnionMergesTwoSetsUnderSmallerRootRow : OpenClaim := { program := "qxb6612831a", sum := "9ca05b904c6be16e7431a17b0dc49530653f00dee3571edb0928d3fdf5d6f8ef", func := "example.com/weftlock/weftlock/zzlaws_internal_schedule_b1.FnUnionMergesTwoSetsUnderSmallerRoot", spec := "fnUnionMergesTwoSetsUnderSmallerRoot", apart := false }
def FnUnionMergesTwoSetsUnderSmallerRootSaid : Prop := fnUnionMergesTwoSetsUnderSmallerRootRow.holds Try.pinned (OpenSpec.ofChange fnUnionMergesTwoSetsUnderSmallerRootSpec)

/-- ITS FALSE NEIGHBOUR: 'it returns false'. Refute it at one input. -/
def fnUnionMergesTwoSetsUnderSmallerRootWrong : ChangeSpec := { name := "fnUnionMergesTwoSetsUnderSmallerRoot", fn := fun _ => fun
  | [d1, d2, d3] => { results := [.lit (.bool false)], args := [d1, d2, d3] }
  | _ => none }
def FnUnionMergesTwoSetsUnderSmallerRootWrongFalsely : Prop := fnUnionMergesTwoSetsUnderSmallerRootRow.holds Try.pinned (OpenSpec.ofChange fnUnionMergesTwoSetsUnderSmallerRootWrong)

/-- 'zzlaws_internal_schedule_b1.FnUnionScriptNamesEachSetBySmallest': WHATEVER THE INPUT: true; the input reads as it did. -/
def fnUnionScriptNamesEachSetBySmallestSpec : ChangeSpec := { name := "fnUnionScriptNamesEachSetBySmallest", fn := fun _ => fun
  | [d1, d2] => { results := [.lit (.bool true)], args := [d1, d2] }
  | _ => none }
def fnUnionScriptNamesEachSetBySmallestRow : OpenClaim := { program := "qxb6612831a", sum := "9ca05b904c6be16e7431a17b0dc49530653f00dee3571edb0928d3fdf5d6f8ef", func := "example.com/weftlock/weftlock/zzlaws_internal_schedule_b1.FnUnionScriptNamesEachSetBySmallest", spec := "fnUnionScriptNamesEachSetBySmallest", apart := false }
def FnUnionScriptNamesEachSetBySmallestSaid : Prop := fnUnionScriptNamesEachSetBySmallestRow.holds Try.pinned (OpenSpec.ofChange fnUnionScriptNamesEachSetBySmallestSpec)

/-- ITS FALSE NEIGHBOUR: 'it returns false'. Refute it at one input. -/
def fnUnionScriptNamesEachSetBySmallestWrong : ChangeSpec := { name := "fnUnionScriptNamesEachSetBySmallest", fn := fun _ => fun
  | [d1, d2] => { results := [.lit (.bool false)], args := [d1, d2] }
  | _ => none }
def FnUnionScriptNamesEachSetBySmallestWrongFalsely : Prop := fnUnionScriptNamesEachSetBySmallestRow.holds Try.pinned (OpenSpec.ofChange fnUnionScriptNamesEachSetBySmallestWrong)

/-- 'zzlaws_internal_schedule_b1.FnSerialOrderIsSmallestTopological': WHATEVER THE INPUT: true; the input reads as it did. -/
def fnSerialOrderIsSmallestTopologicalSpec : ChangeSpec := { name := "fnSerialOrderIsSmallestTopological", fn := fun _ => fun
  | [d1, d2, d3] => { results := [.lit (.bool true)], args := [d1, d2, d3] }
  | _ => none }
def fnSerialOrderIsSmallestTopologicalRow : OpenClaim := { program := "qxb6612831a", sum := "9ca05b904c6be16e7431a17b0dc49530653f00dee3571edb0928d3fdf5d6f8ef", func := "example.com/weftlock/weftlock/zzlaws_internal_schedule_b1.FnSerialOrderIsSmallestTopological", spec := "fnSerialOrderIsSmallestTopological", unfollowed := true, recurses := true, apart := false }
def FnSerialOrderIsSmallestTopologicalSaid : Prop := fnSerialOrderIsSmallestTopologicalRow.holds Try.pinned (OpenSpec.ofChange fnSerialOrderIsSmallestTopologicalSpec)

/-- ITS FALSE NEIGHBOUR: 'it returns false'. Refute it at one input. -/
def fnSerialOrderIsSmallestTopologicalWrong : ChangeSpec := { name := "fnSerialOrderIsSmallestTopological", fn := fun _ => fun
  | [d1, d2, d3] => { results := [.lit (.bool false)], args := [d1, d2, d3] }
  | _ => none }
def FnSerialOrderIsSmallestTopologicalWrongFalsely : Prop := fnSerialOrderIsSmallestTopologicalRow.holds Try.pinned (OpenSpec.ofChange fnSerialOrderIsSmallestTopologicalWrong)

end Rows
end Go.Proofs.Qxb6612831a
