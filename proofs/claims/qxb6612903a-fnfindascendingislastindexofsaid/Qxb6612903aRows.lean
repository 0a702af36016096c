/-
  No cell of these rows narrows 'for every input' (looked for: loops, veiled, ifaces, maps, wideKeys, modest, calm, conditions, laid).
  DERIVED. THE GIVEN ROWS OF THIS SEAT. 2 by the template 'for every input the law returns true; each argument reads behind the call as it read before'; 0 by the template 'total and deterministic' (their statements: Qxb6612903aTotals.lean).
  GIVEN WITH THE SEED: the statements are not yours to turn. If you find one false, say at which input.
  Laid BY PROGRAM, IN A SANDBOX (cutbox-rows.mjs): the forced cells as the released guide's own fill.sh prints them over the translation 881a56980617fc9a… (all of the seat's roots in one cut). By AI agents, Wed Nov 11 2026. No macro, syntax, notation, axiom, sorry.
-/
import Derived.Test.Qxb6612903aChecked
import GoSem.Claim
import GoSem.ClaimJoined
import GoSem.ClaimMapViews
import Derived.JoinedTies
import Derived.KernelRfl
namespace Go.Proofs.Qxb6612903a
/- THE CELL 'sum', in the pinned program and in every row, IS THE sha256 OF THE DUMP (.gsa) THAT Qxb6612903aProg.lean LOADS. Nothing in Lean hashes anything: it is a label: what it is worth is what the hold of that sum in a sandbox is worth. -/
noncomputable def Try.pinned : Pinned := { name := "qxb6612903a", sum := "881a56980617fc9a8be62e52902eba576a1c256be0e6bb6821b724ea10220521", checked := Try.checked }
namespace Rows
def none {H : Type} : Left H := { results := [], args := [] }

/-- 'zzlaws_internal_book_b1.FnFindAscendingIsLastIndexOf': WHATEVER THE INPUT: true; the input reads as it did. -/
def fnFindAscendingIsLastIndexOfSpec : ChangeSpec := { name := "fnFindAscendingIsLastIndexOf", fn := fun _ => fun
  | [d1, d2] => { results := [.lit (.bool true)], args := [d1, d2] }
  | _ => none }
def fnFindAscendingIsLastIndexOfRow : OpenClaim := { program := "qxb6612903a", sum := "881a56980617fc9a8be62e52902eba576a1c256be0e6bb6821b724ea10220521", func := "example.com/tuoguan/tuoguan/zzlaws_internal_book_b1.FnFindAscendingIsLastIndexOf", spec := "fnFindAscendingIsLastIndexOf", unfollowed := true, recurses := true, apart := false }
def FnFindAscendingIsLastIndexOfSaid : Prop := fnFindAscendingIsLastIndexOfRow.holds Try.pinned (OpenSpec.ofChange fnFindAscendingIsLastIndexOfSpec)

/-- ITS FALSE NEIGHBOUR: 'it returns false'. Refute it at one input. -/
def fnFindAscendingIsLastIndexOfWrong : ChangeSpec := { name := "fnFindAscendingIsLastIndexOf", fn := fun _ => fun
  | [d1, d2] => { results := [.lit (.bool false)], args := [d1, d2] }
  | _ => none }
def FnFindAscendingIsLastIndexOfWrongFalsely : Prop := fnFindAscendingIsLastIndexOfRow.holds Try.pinned (OpenSpec.ofChange fnFindAscendingIsLastIndexOfWrong)

/-- 'zzlaws_internal_book_b1.FnFindAnyOrderNeverWrong': WHATEVER THE INPUT: true; the input reads as it did. -/
def fnFindAnyOrderNeverWrongSpec : ChangeSpec := { name := "fnFindAnyOrderNeverWrong", fn := fun _ => fun
  | [d1, d2] => { results := [.lit (.bool true)], args := [d1, d2] }
  | _ => none }
def fnFindAnyOrderNeverWrongRow : OpenClaim := { program := "qxb6612903a", sum := "881a56980617fc9a8be62e52902eba576a1c256be0e6bb6821b724ea10220521", func := "example.com/tuoguan/tuoguan/zzlaws_internal_book_b1.FnFindAnyOrderNeverWrong", spec := "fnFindAnyOrderNeverWrong", unfollowed := true, recurses := true, apart := false }
def FnFindAnyOrderNeverWrongSaid : Prop := fnFindAnyOrderNeverWrongRow.holds Try.pinned (OpenSpec.ofChange fnFindAnyOrderNeverWrongSpec)

/-- ITS FALSE NEIGHBOUR: 'it returns false'. Refute it at one input. -/
def fnFindAnyOrderNeverWrongWrong : ChangeSpec := { name := "fnFindAnyOrderNeverWrong", fn := fun _ => fun
  | [d1, d2] => { results := [.lit (.bool false)], args := [d1, d2] }
  | _ => none }
def FnFindAnyOrderNeverWrongWrongFalsely : Prop := fnFindAnyOrderNeverWrongRow.holds Try.pinned (OpenSpec.ofChange fnFindAnyOrderNeverWrongWrong)

end Rows
end Go.Proofs.Qxb6612903a
