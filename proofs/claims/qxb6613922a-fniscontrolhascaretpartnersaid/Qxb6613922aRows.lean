/-
  No cell of these rows narrows 'for every input' (looked for: loops, veiled, ifaces, maps, wideKeys, modest, calm, conditions, laid).
  DERIVED. THE GIVEN ROWS OF THIS SEAT. 1 by the template 'for every input the law returns true; each argument reads behind the call as it read before'; 0 by the template 'total and deterministic' (their statements: Qxb6613922aTotals.lean).
  GIVEN WITH THE SEED: the statements are not yours to turn. If you find one false, say at which input.
  Laid BY PROGRAM, IN A SANDBOX (cutbox-rows.mjs): the forced cells as the released guide's own fill.sh prints them over the translation ac47b9403f0f7bdb… (all of the seat's roots in one cut). By AI agents, Wed Nov 11 2026. No macro, syntax, notation, axiom, sorry.
-/
import Derived.Test.Qxb6613922aChecked
import GoSem.Claim
import GoSem.ClaimJoined
import GoSem.ClaimMapViews
import Derived.JoinedTies
import Derived.KernelRfl
namespace Go.Proofs.Qxb6613922a
/- THE CELL 'sum', in the pinned program and in every row, IS THE sha256 OF THE DUMP (.gsa) THAT Qxb6613922aProg.lean LOADS. Nothing in Lean hashes anything: it is a label: what it is worth is what the hold of that sum in a sandbox is worth. -/
noncomputable def Try.pinned : Pinned := { name := "qxb6613922a", sum := "ac47b9403f0f7bdb125449c39bdd46538c4af05ffbd692ae25ceb5f3530f1b6c", checked := Try.checked }
namespace Rows
def none {H : Type} : Left H := { results := [], args := [] }

/-- 'zzlaws_internal_lineproto_b1.FnIsControlHasCaretPartner': WHATEVER THE INPUT: true; the input reads as it did. -/
def fnIsControlHasCaretPartnerSpec : ChangeSpec := { name := "fnIsControlHasCaretPartner", fn := fun _ => fun
  | [d] => { results := [.lit (.bool true)], args := [d] }
  | _ => none }
def fnIsControlHasCaretPartnerRow : OpenClaim := { program := "qxb6613922a", sum := "ac47b9403f0f7bdb125449c39bdd46538c4af05ffbd692ae25ceb5f3530f1b6c", func := "example.com/linewright/linewright/zzlaws_internal_lineproto_b1.FnIsControlHasCaretPartner", spec := "fnIsControlHasCaretPartner", apart := false }
def FnIsControlHasCaretPartnerSaid : Prop := fnIsControlHasCaretPartnerRow.holds Try.pinned (OpenSpec.ofChange fnIsControlHasCaretPartnerSpec)

/-- ITS FALSE NEIGHBOUR: 'it returns false'. Refute it at one input. -/
def fnIsControlHasCaretPartnerWrong : ChangeSpec := { name := "fnIsControlHasCaretPartner", fn := fun _ => fun
  | [d] => { results := [.lit (.bool false)], args := [d] }
  | _ => none }
def FnIsControlHasCaretPartnerWrongFalsely : Prop := fnIsControlHasCaretPartnerRow.holds Try.pinned (OpenSpec.ofChange fnIsControlHasCaretPartnerWrong)

end Rows
end Go.Proofs.Qxb6613922a
