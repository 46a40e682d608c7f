/-
  No cell of these rows narrows 'for every input' (looked for: loops, veiled, ifaces, maps, wideKeys, modest, calm, conditions, laid).
  DERIVED. THE GIVEN ROWS OF THIS SEAT. 1 by the template 'for every input the law returns true; each argument reads behind the call as it read before'; 0 by the template 'total and deterministic' (their statements: Qxb6601474aTotals.lean).
  GIVEN WITH THE SEED: the statements are not yours to turn. If you find one false, say at which input.
  Laid BY PROGRAM, IN A SANDBOX (cutbox-rows.mjs): the forced cells as the released guide's own fill.sh prints them over the translation 57624b9dc30503a5… (all of the seat's roots in one cut). By AI agents, Wed Nov 11 2026. No macro, syntax, notation, axiom, sorry.
-/
import Derived.Test.Qxb6601474aChecked
import GoSem.Claim
import GoSem.ClaimJoined
import GoSem.ClaimMapViews
import Derived.JoinedTies
import Derived.KernelRfl
namespace Go.Proofs.Qxb6601474a
/- THE CELL 'sum', in the pinned program and in every row, IS THE sha256 OF THE DUMP (.gsa) THAT Qxb6601474aProg.lean LOADS. Nothing in Lean hashes anything: it is a label: what it is worth is what the hold of that sum in a sandbox is worth. -/
noncomputable def Try.pinned : Pinned := { name := "qxb6601474a", sum := "57624b9dc30503a597eb7eb7f76c9011e6344c08f83494788d9dab85956858d8", checked := Try.checked }
namespace Rows
def none {H : Type} : Left H := { results := [], args := [] }

/-- 'zzlaws_internal_executor_b1.FnCollationNamesIsTheDocumentedSet': WHATEVER THE INPUT: true; the input reads as it did. -/
def fnCollationNamesIsTheDocumentedSetSpec : ChangeSpec := { name := "fnCollationNamesIsTheDocumentedSet", fn := fun _ => fun
  | [d] => { results := [.lit (.bool true)], args := [d] }
  | _ => none }
def fnCollationNamesIsTheDocumentedSetRow : OpenClaim := { program := "qxb6601474a", sum := "57624b9dc30503a597eb7eb7f76c9011e6344c08f83494788d9dab85956858d8", func := "example.com/palimpsest/palimpsest/zzlaws_internal_executor_b1.FnCollationNamesIsTheDocumentedSet", spec := "fnCollationNamesIsTheDocumentedSet", apart := false }
def FnCollationNamesIsTheDocumentedSetSaid : Prop := fnCollationNamesIsTheDocumentedSetRow.holds Try.pinned (OpenSpec.ofChange fnCollationNamesIsTheDocumentedSetSpec)

/-- ITS FALSE NEIGHBOUR: 'it returns false'. Refute it at one input. -/
def fnCollationNamesIsTheDocumentedSetWrong : ChangeSpec := { name := "fnCollationNamesIsTheDocumentedSet", fn := fun _ => fun
  | [d] => { results := [.lit (.bool false)], args := [d] }
  | _ => none }
def FnCollationNamesIsTheDocumentedSetWrongFalsely : Prop := fnCollationNamesIsTheDocumentedSetRow.holds Try.pinned (OpenSpec.ofChange fnCollationNamesIsTheDocumentedSetWrong)

end Rows
end Go.Proofs.Qxb6601474a
