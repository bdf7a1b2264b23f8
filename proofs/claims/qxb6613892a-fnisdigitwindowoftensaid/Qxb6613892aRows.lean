/-
  No cell of these rows narrows 'for every input' (looked for: loops, veiled, ifaces, maps, wideKeys, modest, calm, conditions, laid).
  DERIVED. THE GIVEN ROWS OF THIS SEAT. 1 by the template 'for every input the law returns true; each argument reads behind the call as it read before'; 0 by the template 'total and deterministic' (their statements: Qxb6613892aTotals.lean).
  GIVEN WITH THE SEED: the statements are not yours to turn. If you find one false, say at which input.
  Laid BY PROGRAM, IN A SANDBOX (cutbox-rows.mjs): the forced cells as the released guide's own fill.sh prints them over the translation 86a521ac02b8c6ab… (all of the seat's roots in one cut). By AI agents, Wed Nov 11 2026. No macro, syntax, notation, axiom, sorry.
-/
import Derived.Test.Qxb6613892aChecked
import GoSem.Claim
import GoSem.ClaimJoined
import GoSem.ClaimMapViews
import Derived.JoinedTies
import Derived.KernelRfl
namespace Go.Proofs.Qxb6613892a
/- THE CELL 'sum', in the pinned program and in every row, IS THE sha256 OF THE DUMP (.gsa) THAT Qxb6613892aProg.lean LOADS. Nothing in Lean hashes anything: it is a label: what it is worth is what the hold of that sum in a sandbox is worth. -/
noncomputable def Try.pinned : Pinned := { name := "qxb6613892a", sum := "86a521ac02b8c6ab1c0902de833b927c972b668765958b927da37bf3fa33afd8", checked := Try.checked }
namespace Rows
def none {H : Type} : Left H := { results := [], args := [] }

/-- 'zzlaws_internal_jsonobject_b1.FnIsDigitWindowOfTen': WHATEVER THE INPUT: true; the input reads as it did. -/
def fnIsDigitWindowOfTenSpec : ChangeSpec := { name := "fnIsDigitWindowOfTen", fn := fun _ => fun
  | [d] => { results := [.lit (.bool true)], args := [d] }
  | _ => none }
def fnIsDigitWindowOfTenRow : OpenClaim := { program := "qxb6613892a", sum := "86a521ac02b8c6ab1c0902de833b927c972b668765958b927da37bf3fa33afd8", func := "example.com/duo-rank/duo-rank/zzlaws_internal_jsonobject_b1.FnIsDigitWindowOfTen", spec := "fnIsDigitWindowOfTen", apart := false }
def FnIsDigitWindowOfTenSaid : Prop := fnIsDigitWindowOfTenRow.holds Try.pinned (OpenSpec.ofChange fnIsDigitWindowOfTenSpec)

/-- ITS FALSE NEIGHBOUR: 'it returns false'. Refute it at one input. -/
def fnIsDigitWindowOfTenWrong : ChangeSpec := { name := "fnIsDigitWindowOfTen", fn := fun _ => fun
  | [d] => { results := [.lit (.bool false)], args := [d] }
  | _ => none }
def FnIsDigitWindowOfTenWrongFalsely : Prop := fnIsDigitWindowOfTenRow.holds Try.pinned (OpenSpec.ofChange fnIsDigitWindowOfTenWrong)

end Rows
end Go.Proofs.Qxb6613892a
