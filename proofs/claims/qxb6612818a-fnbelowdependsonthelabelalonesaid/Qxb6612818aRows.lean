/-
  No cell of these rows narrows 'for every input' (looked for: loops, veiled, ifaces, maps, wideKeys, modest, calm, conditions, laid).
  DERIVED. THE GIVEN ROWS OF THIS SEAT. 2 by the template 'for every input the law returns true; each argument reads behind the call as it read before'; 0 by the template 'total and deterministic' (their statements: Qxb6612818aTotals.lean).
  GIVEN WITH THE SEED: the statements are not yours to turn. If you find one false, say at which input.
  Laid BY PROGRAM, IN A SANDBOX (cutbox-rows.mjs): the forced cells as the released guide's own fill.sh prints them over the translation 008d0f861d26abf4… (all of the seat's roots in one cut). By AI agents, Wed Nov 11 2026. No macro, syntax, notation, axiom, sorry.
-/
import Derived.Test.Qxb6612818aChecked
import GoSem.Claim
import GoSem.ClaimJoined
import GoSem.ClaimMapViews
import Derived.JoinedTies
import Derived.KernelRfl
namespace Go.Proofs.Qxb6612818a
/- THE CELL 'sum', in the pinned program and in every row, IS THE sha256 OF THE DUMP (.gsa) THAT Qxb6612818aProg.lean LOADS. Nothing in Lean hashes anything: it is a label: what it is worth is what the hold of that sum in a sandbox is worth. -/
noncomputable def Try.pinned : Pinned := { name := "qxb6612818a", sum := "008d0f861d26abf4b5b25e599ebac0319e4924013619ad8200c69df543ea38ce", checked := Try.checked }
namespace Rows
def none {H : Type} : Left H := { results := [], args := [] }

/-- 'zzlaws_root_b1.FnBelowDependsOnTheLabelAlone': WHATEVER THE INPUT: true; the input reads as it did. -/
def fnBelowDependsOnTheLabelAloneSpec : ChangeSpec := { name := "fnBelowDependsOnTheLabelAlone", fn := fun _ => fun
  | [d1, d2, d3] => { results := [.lit (.bool true)], args := [d1, d2, d3] }
  | _ => none }
def fnBelowDependsOnTheLabelAloneRow : OpenClaim := { program := "qxb6612818a", sum := "008d0f861d26abf4b5b25e599ebac0319e4924013619ad8200c69df543ea38ce", func := "example.com/holdfast/holdfast/zzlaws_root_b1.FnBelowDependsOnTheLabelAlone", spec := "fnBelowDependsOnTheLabelAlone", apart := false }
def FnBelowDependsOnTheLabelAloneSaid : Prop := fnBelowDependsOnTheLabelAloneRow.holds Try.pinned (OpenSpec.ofChange fnBelowDependsOnTheLabelAloneSpec)

/-- ITS FALSE NEIGHBOUR: 'it returns false'. Refute it at one input. -/
def fnBelowDependsOnTheLabelAloneWrong : ChangeSpec := { name := "fnBelowDependsOnTheLabelAlone", fn := fun _ => fun
  | [d1, d2, d3] => { results := [.lit (.bool false)], args := [d1, d2, d3] }
  | _ => none }
def FnBelowDependsOnTheLabelAloneWrongFalsely : Prop := fnBelowDependsOnTheLabelAloneRow.holds Try.pinned (OpenSpec.ofChange fnBelowDependsOnTheLabelAloneWrong)

/-- 'zzlaws_root_b1.FnBelowIsAStrictChain': WHATEVER THE INPUT: true; the input reads as it did. -/
def fnBelowIsAStrictChainSpec : ChangeSpec := { name := "fnBelowIsAStrictChain", fn := fun _ => fun
  | [d1, d2, d3] => { results := [.lit (.bool true)], args := [d1, d2, d3] }
  | _ => none }
def fnBelowIsAStrictChainRow : OpenClaim := { program := "qxb6612818a", sum := "008d0f861d26abf4b5b25e599ebac0319e4924013619ad8200c69df543ea38ce", func := "example.com/holdfast/holdfast/zzlaws_root_b1.FnBelowIsAStrictChain", spec := "fnBelowIsAStrictChain", apart := false }
def FnBelowIsAStrictChainSaid : Prop := fnBelowIsAStrictChainRow.holds Try.pinned (OpenSpec.ofChange fnBelowIsAStrictChainSpec)

/-- ITS FALSE NEIGHBOUR: 'it returns false'. Refute it at one input. -/
def fnBelowIsAStrictChainWrong : ChangeSpec := { name := "fnBelowIsAStrictChain", fn := fun _ => fun
  | [d1, d2, d3] => { results := [.lit (.bool false)], args := [d1, d2, d3] }
  | _ => none }
def FnBelowIsAStrictChainWrongFalsely : Prop := fnBelowIsAStrictChainRow.holds Try.pinned (OpenSpec.ofChange fnBelowIsAStrictChainWrong)

end Rows
end Go.Proofs.Qxb6612818a
