/-
  NARROWER THAN 'FOR EVERY INPUT', by the rows' own cells (each row's printed sentence says how): FnSetExtendedScriptLastWins: maps.
  DERIVED. THE GIVEN ROWS OF THIS SEAT. 1 by the template 'for every input the law returns true; each argument reads behind the call as it read before'; 0 by the template 'total and deterministic' (their statements: Qxb6612959aTotals.lean).
  GIVEN WITH THE SEED: the statements are not yours to turn. If you find one false, say at which input.
  Laid BY PROGRAM, IN A SANDBOX (cutbox-rows.mjs): the forced cells as the released guide's own fill.sh prints them over the translation 56ee4ea2b94cad99… (all of the seat's roots in one cut). By AI agents, Wed Nov 11 2026. No macro, syntax, notation, axiom, sorry.
-/
import Derived.Test.Qxb6612959aChecked
import GoSem.Claim
import GoSem.ClaimJoined
import GoSem.ClaimMapViews
import Derived.JoinedTies
import Derived.KernelRfl
namespace Go.Proofs.Qxb6612959a
/- THE CELL 'sum', in the pinned program and in every row, IS THE sha256 OF THE DUMP (.gsa) THAT Qxb6612959aProg.lean LOADS. Nothing in Lean hashes anything: it is a label: what it is worth is what the hold of that sum in a sandbox is worth. -/
noncomputable def Try.pinned : Pinned := { name := "qxb6612959a", sum := "56ee4ea2b94cad99418c096bd85f012c2291faab8fc191b3d4c2e5c970b0f49f", checked := Try.checked }
namespace Rows
def none {H : Type} : Left H := { results := [], args := [] }

/-- 'zzlaws_root_b1.FnSetExtendedScriptLastWins': WHATEVER THE INPUT: true; the input reads as it did. -/
def fnSetExtendedScriptLastWinsSpec : ChangeSpec := { name := "fnSetExtendedScriptLastWins", fn := fun _ => fun
  | [d1, d2, d3, d4, d5] => { results := [.lit (.bool true)], args := [d1, d2, d3, d4, d5] }
  | _ => none }
def fnSetExtendedScriptLastWinsRow : OpenClaim := { program := "qxb6612959a", sum := "56ee4ea2b94cad99418c096bd85f012c2291faab8fc191b3d4c2e5c970b0f49f", func := "example.com/zhaomu/zhaomu/zzlaws_root_b1.FnSetExtendedScriptLastWins", spec := "fnSetExtendedScriptLastWins", maps := true, apart := false }
def FnSetExtendedScriptLastWinsSaid : Prop := fnSetExtendedScriptLastWinsRow.holds Try.pinned (OpenSpec.ofChange fnSetExtendedScriptLastWinsSpec)

/-- ITS FALSE NEIGHBOUR: 'it returns false'. Refute it at one input. -/
def fnSetExtendedScriptLastWinsWrong : ChangeSpec := { name := "fnSetExtendedScriptLastWins", fn := fun _ => fun
  | [d1, d2, d3, d4, d5] => { results := [.lit (.bool false)], args := [d1, d2, d3, d4, d5] }
  | _ => none }
def FnSetExtendedScriptLastWinsWrongFalsely : Prop := fnSetExtendedScriptLastWinsRow.holds Try.pinned (OpenSpec.ofChange fnSetExtendedScriptLastWinsWrong)

end Rows
end Go.Proofs.Qxb6612959a
