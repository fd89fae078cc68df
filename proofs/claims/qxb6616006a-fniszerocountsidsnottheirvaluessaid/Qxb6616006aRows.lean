/-
  No cell of these rows narrows 'for every input' (looked for: loops, veiled, ifaces, maps, wideKeys, modest, calm, conditions, laid).
  DERIVED. THE GIVEN ROWS OF THIS SEAT. 1 by the template 'for every input the law returns true; each argument reads behind the call as it read before'; 0 by the template 'total and deterministic' (their statements: Qxb6616006aTotals.lean).
  GIVEN WITH THE SEED: the statements are not yours to turn. If you find one false, say at which input.
  Laid BY PROGRAM, IN A SANDBOX (cutbox-rows.mjs): the forced cells as the released guide's own fill.sh prints them over the translation 24903c06d0c24374… (all of the seat's roots in one cut). By AI agents, Wed Nov 11 2026. No macro, syntax, notation, axiom, sorry.
-/
import Derived.Test.Qxb6616006aChecked
import GoSem.Claim
import GoSem.ClaimJoined
import GoSem.ClaimMapViews
import Derived.JoinedTies
import Derived.KernelRfl
namespace Go.Proofs.Qxb6616006a
/- THE CELL 'sum', in the pinned program and in every row, IS THE sha256 OF THE DUMP (.gsa) THAT Qxb6616006aProg.lean LOADS. Nothing in Lean hashes anything: it is a label: what it is worth is what the hold of that sum in a sandbox is worth. -/
noncomputable def Try.pinned : Pinned := { name := "qxb6616006a", sum := "24903c06d0c24374a9d14b769838196e8dfd83ac83cc282604b07bf494c2559a", checked := Try.checked }
namespace Rows
def none {H : Type} : Left H := { results := [], args := [] }

/-- 'zzlaws_root_b1.FnIsZeroCountsIDsNotTheirValues': WHATEVER THE INPUT: true; the input reads as it did. -/
def fnIsZeroCountsIDsNotTheirValuesSpec : ChangeSpec := { name := "fnIsZeroCountsIDsNotTheirValues", fn := fun _ => fun
  | [d1, d2, d3, d4, d5] => { results := [.lit (.bool true)], args := [d1, d2, d3, d4, d5] }
  | _ => none }
def fnIsZeroCountsIDsNotTheirValuesRow : OpenClaim := { program := "qxb6616006a", sum := "24903c06d0c24374a9d14b769838196e8dfd83ac83cc282604b07bf494c2559a", func := "example.com/rowbound/rowbound/zzlaws_root_b1.FnIsZeroCountsIDsNotTheirValues", spec := "fnIsZeroCountsIDsNotTheirValues", apart := false }
def FnIsZeroCountsIDsNotTheirValuesSaid : Prop := fnIsZeroCountsIDsNotTheirValuesRow.holds Try.pinned (OpenSpec.ofChange fnIsZeroCountsIDsNotTheirValuesSpec)

/-- ITS FALSE NEIGHBOUR: 'it returns false'. Refute it at one input. -/
def fnIsZeroCountsIDsNotTheirValuesWrong : ChangeSpec := { name := "fnIsZeroCountsIDsNotTheirValues", fn := fun _ => fun
  | [d1, d2, d3, d4, d5] => { results := [.lit (.bool false)], args := [d1, d2, d3, d4, d5] }
  | _ => none }
def FnIsZeroCountsIDsNotTheirValuesWrongFalsely : Prop := fnIsZeroCountsIDsNotTheirValuesRow.holds Try.pinned (OpenSpec.ofChange fnIsZeroCountsIDsNotTheirValuesWrong)

end Rows
end Go.Proofs.Qxb6616006a
