/-
  No cell of these rows narrows 'for every input' (looked for: loops, veiled, ifaces, maps, wideKeys, modest, calm, conditions, laid).
  DERIVED. THE GIVEN ROWS OF THIS SEAT. 2 by the template 'for every input the law returns true; each argument reads behind the call as it read before'; 0 by the template 'total and deterministic' (their statements: Qxb6616029aTotals.lean).
  GIVEN WITH THE SEED: the statements are not yours to turn. If you find one false, say at which input.
  Laid BY PROGRAM, IN A SANDBOX (cutbox-rows.mjs): the forced cells as the released guide's own fill.sh prints them over the translation 26ebbeb8da3f1bfa… (all of the seat's roots in one cut). By AI agents, Wed Nov 11 2026. No macro, syntax, notation, axiom, sorry.
-/
import Derived.Test.Qxb6616029aChecked
import GoSem.Claim
import GoSem.ClaimJoined
import GoSem.ClaimMapViews
import Derived.JoinedTies
import Derived.KernelRfl
namespace Go.Proofs.Qxb6616029a
/- THE CELL 'sum', in the pinned program and in every row, IS THE sha256 OF THE DUMP (.gsa) THAT Qxb6616029aProg.lean LOADS. Nothing in Lean hashes anything: it is a label: what it is worth is what the hold of that sum in a sandbox is worth. -/
noncomputable def Try.pinned : Pinned := { name := "qxb6616029a", sum := "26ebbeb8da3f1bfaf29744c4ccd24134ee3e974905c34b576197d4ae6491f0dc", checked := Try.checked }
namespace Rows
def none {H : Type} : Left H := { results := [], args := [] }

/-- 'zzlaws_internal_yaml_b1.FnBlankAndAnchorCharNeverBoth': WHATEVER THE INPUT: true; the input reads as it did. -/
def fnBlankAndAnchorCharNeverBothSpec : ChangeSpec := { name := "fnBlankAndAnchorCharNeverBoth", fn := fun _ => fun
  | [d] => { results := [.lit (.bool true)], args := [d] }
  | _ => none }
def fnBlankAndAnchorCharNeverBothRow : OpenClaim := { program := "qxb6616029a", sum := "26ebbeb8da3f1bfaf29744c4ccd24134ee3e974905c34b576197d4ae6491f0dc", func := "example.com/dostep/dostep/zzlaws_internal_yaml_b1.FnBlankAndAnchorCharNeverBoth", spec := "fnBlankAndAnchorCharNeverBoth", apart := false }
def FnBlankAndAnchorCharNeverBothSaid : Prop := fnBlankAndAnchorCharNeverBothRow.holds Try.pinned (OpenSpec.ofChange fnBlankAndAnchorCharNeverBothSpec)

/-- ITS FALSE NEIGHBOUR: 'it returns false'. Refute it at one input. -/
def fnBlankAndAnchorCharNeverBothWrong : ChangeSpec := { name := "fnBlankAndAnchorCharNeverBoth", fn := fun _ => fun
  | [d] => { results := [.lit (.bool false)], args := [d] }
  | _ => none }
def FnBlankAndAnchorCharNeverBothWrongFalsely : Prop := fnBlankAndAnchorCharNeverBothRow.holds Try.pinned (OpenSpec.ofChange fnBlankAndAnchorCharNeverBothWrong)

/-- 'zzlaws_internal_yaml_b1.FnAnchorCharIsTheURLBase64Alphabet': WHATEVER THE INPUT: true; the input reads as it did. -/
def fnAnchorCharIsTheURLBase64AlphabetSpec : ChangeSpec := { name := "fnAnchorCharIsTheURLBase64Alphabet", fn := fun _ => fun
  | [d] => { results := [.lit (.bool true)], args := [d] }
  | _ => none }
def fnAnchorCharIsTheURLBase64AlphabetRow : OpenClaim := { program := "qxb6616029a", sum := "26ebbeb8da3f1bfaf29744c4ccd24134ee3e974905c34b576197d4ae6491f0dc", func := "example.com/dostep/dostep/zzlaws_internal_yaml_b1.FnAnchorCharIsTheURLBase64Alphabet", spec := "fnAnchorCharIsTheURLBase64Alphabet", apart := false }
def FnAnchorCharIsTheURLBase64AlphabetSaid : Prop := fnAnchorCharIsTheURLBase64AlphabetRow.holds Try.pinned (OpenSpec.ofChange fnAnchorCharIsTheURLBase64AlphabetSpec)

/-- ITS FALSE NEIGHBOUR: 'it returns false'. Refute it at one input. -/
def fnAnchorCharIsTheURLBase64AlphabetWrong : ChangeSpec := { name := "fnAnchorCharIsTheURLBase64Alphabet", fn := fun _ => fun
  | [d] => { results := [.lit (.bool false)], args := [d] }
  | _ => none }
def FnAnchorCharIsTheURLBase64AlphabetWrongFalsely : Prop := fnAnchorCharIsTheURLBase64AlphabetRow.holds Try.pinned (OpenSpec.ofChange fnAnchorCharIsTheURLBase64AlphabetWrong)

end Rows
end Go.Proofs.Qxb6616029a
