/-
  No cell of these rows narrows 'for every input' (looked for: loops, veiled, ifaces, maps, wideKeys, modest, calm, conditions, laid).
  DERIVED. THE GIVEN ROWS OF THIS SEAT. 2 by the template 'for every input the law returns true; each argument reads behind the call as it read before'; 0 by the template 'total and deterministic' (their statements: Qxb6616104aTotals.lean).
  GIVEN WITH THE SEED: the statements are not yours to turn. If you find one false, say at which input.
  Laid BY PROGRAM, IN A SANDBOX (cutbox-rows.mjs): the forced cells as the released guide's own fill.sh prints them over the translation dd277d33a0b7ed7e… (all of the seat's roots in one cut). By AI agents, Wed Nov 11 2026. No macro, syntax, notation, axiom, sorry.
-/
import Derived.Test.Qxb6616104aChecked
import GoSem.Claim
import GoSem.ClaimJoined
import GoSem.ClaimMapViews
import Derived.JoinedTies
import Derived.KernelRfl
namespace Go.Proofs.Qxb6616104a
/- THE CELL 'sum', in the pinned program and in every row, IS THE sha256 OF THE DUMP (.gsa) THAT Qxb6616104aProg.lean LOADS. Nothing in Lean hashes anything: it is a label: what it is worth is what the hold of that sum in a sandbox is worth. -/
noncomputable def Try.pinned : Pinned := { name := "qxb6616104a", sum := "dd277d33a0b7ed7edd0564fa1e346a568b1cd2a375bee34de1f78fb588bcf8c3", checked := Try.checked }
namespace Rows
def none {H : Type} : Left H := { results := [], args := [] }

/-- 'zzlaws_parser_b1.FnIsOpHangsOnKindAndTextAlone': WHATEVER THE INPUT: true; the input reads as it did. -/
def fnIsOpHangsOnKindAndTextAloneSpec : ChangeSpec := { name := "fnIsOpHangsOnKindAndTextAlone", fn := fun _ => fun
  | [d1, d2, d3, d4, d5, d6, d7, d8, d9, d10, d11, d12] => { results := [.lit (.bool true)], args := [d1, d2, d3, d4, d5, d6, d7, d8, d9, d10, d11, d12] }
  | _ => none }
def fnIsOpHangsOnKindAndTextAloneRow : OpenClaim := { program := "qxb6616104a", sum := "dd277d33a0b7ed7edd0564fa1e346a568b1cd2a375bee34de1f78fb588bcf8c3", func := "example.com/terraspan/terraspan/zzlaws_parser_b1.FnIsOpHangsOnKindAndTextAlone", spec := "fnIsOpHangsOnKindAndTextAlone", apart := false }
def FnIsOpHangsOnKindAndTextAloneSaid : Prop := fnIsOpHangsOnKindAndTextAloneRow.holds Try.pinned (OpenSpec.ofChange fnIsOpHangsOnKindAndTextAloneSpec)

/-- ITS FALSE NEIGHBOUR: 'it returns false'. Refute it at one input. -/
def fnIsOpHangsOnKindAndTextAloneWrong : ChangeSpec := { name := "fnIsOpHangsOnKindAndTextAlone", fn := fun _ => fun
  | [d1, d2, d3, d4, d5, d6, d7, d8, d9, d10, d11, d12] => { results := [.lit (.bool false)], args := [d1, d2, d3, d4, d5, d6, d7, d8, d9, d10, d11, d12] }
  | _ => none }
def FnIsOpHangsOnKindAndTextAloneWrongFalsely : Prop := fnIsOpHangsOnKindAndTextAloneRow.holds Try.pinned (OpenSpec.ofChange fnIsOpHangsOnKindAndTextAloneWrong)

/-- 'zzlaws_parser_b1.FnUnsupportedClauseAgreesWithAt': WHATEVER THE INPUT: true; the input reads as it did. -/
def fnUnsupportedClauseAgreesWithAtSpec : ChangeSpec := { name := "fnUnsupportedClauseAgreesWithAt", fn := fun _ => fun
  | [d1, d2, d3, d4, d5, d6, d7] => { results := [.lit (.bool true)], args := [d1, d2, d3, d4, d5, d6, d7] }
  | _ => none }
def fnUnsupportedClauseAgreesWithAtRow : OpenClaim := { program := "qxb6616104a", sum := "dd277d33a0b7ed7edd0564fa1e346a568b1cd2a375bee34de1f78fb588bcf8c3", func := "example.com/terraspan/terraspan/zzlaws_parser_b1.FnUnsupportedClauseAgreesWithAt", spec := "fnUnsupportedClauseAgreesWithAt", apart := false }
def FnUnsupportedClauseAgreesWithAtSaid : Prop := fnUnsupportedClauseAgreesWithAtRow.holds Try.pinned (OpenSpec.ofChange fnUnsupportedClauseAgreesWithAtSpec)

/-- ITS FALSE NEIGHBOUR: 'it returns false'. Refute it at one input. -/
def fnUnsupportedClauseAgreesWithAtWrong : ChangeSpec := { name := "fnUnsupportedClauseAgreesWithAt", fn := fun _ => fun
  | [d1, d2, d3, d4, d5, d6, d7] => { results := [.lit (.bool false)], args := [d1, d2, d3, d4, d5, d6, d7] }
  | _ => none }
def FnUnsupportedClauseAgreesWithAtWrongFalsely : Prop := fnUnsupportedClauseAgreesWithAtRow.holds Try.pinned (OpenSpec.ofChange fnUnsupportedClauseAgreesWithAtWrong)

end Rows
end Go.Proofs.Qxb6616104a
