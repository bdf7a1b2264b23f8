/-
  No cell of these rows narrows 'for every input' (looked for: loops, veiled, ifaces, maps, wideKeys, modest, calm, conditions, laid).
  DERIVED. THE GIVEN ROWS OF THIS SEAT. 2 by the template 'for every input the law returns true; each argument reads behind the call as it read before'; 0 by the template 'total and deterministic' (their statements: Qxb6614064aTotals.lean).
  GIVEN WITH THE SEED: the statements are not yours to turn. If you find one false, say at which input.
  Laid BY PROGRAM, IN A SANDBOX (cutbox-rows.mjs): the forced cells as the released guide's own fill.sh prints them over the translation 5ec71fb5115668e8… (all of the seat's roots in one cut). By AI agents, Wed Nov 11 2026. No macro, syntax, notation, axiom, sorry.
-/
import Derived.Test.Qxb6614064aChecked
import GoSem.Claim
import GoSem.ClaimJoined
import GoSem.ClaimMapViews
import Derived.JoinedTies
import Derived.KernelRfl
namespace Go.Proofs.Qxb6614064a
/- THE CELL 'sum', in the pinned program and in every row, IS THE sha256 OF THE DUMP (.gsa) THAT Qxb6614064aProg.lean LOADS. Nothing in Lean hashes anything: it is a label: what it is worth is what the hold of that sum in a sandbox is worth. -/
noncomputable def Try.pinned : Pinned := { name := "qxb6614064a", sum := "5ec71fb5115668e87ce793cfcf0eb269783fe0f0c2521e761702f74592c3e423", checked := Try.checked }
namespace Rows
def none {H : Type} : Left H := { results := [], args := [] }

/-- 'zzlaws_root_b1.FnEachExtensionSplitsIntoPairsAndJoins': WHATEVER THE INPUT: true; the input reads as it did. -/
def fnEachExtensionSplitsIntoPairsAndJoinsSpec : ChangeSpec := { name := "fnEachExtensionSplitsIntoPairsAndJoins", fn := fun _ => fun
  | [d1, d2] => { results := [.lit (.bool true)], args := [d1, d2] }
  | _ => none }
def fnEachExtensionSplitsIntoPairsAndJoinsRow : OpenClaim := { program := "qxb6614064a", sum := "5ec71fb5115668e87ce793cfcf0eb269783fe0f0c2521e761702f74592c3e423", func := "example.com/descant/descant/zzlaws_root_b1.FnEachExtensionSplitsIntoPairsAndJoins", spec := "fnEachExtensionSplitsIntoPairsAndJoins", unfollowed := true, recurses := true, apart := false }
def FnEachExtensionSplitsIntoPairsAndJoinsSaid : Prop := fnEachExtensionSplitsIntoPairsAndJoinsRow.holds Try.pinned (OpenSpec.ofChange fnEachExtensionSplitsIntoPairsAndJoinsSpec)

/-- ITS FALSE NEIGHBOUR: 'it returns false'. Refute it at one input. -/
def fnEachExtensionSplitsIntoPairsAndJoinsWrong : ChangeSpec := { name := "fnEachExtensionSplitsIntoPairsAndJoins", fn := fun _ => fun
  | [d1, d2] => { results := [.lit (.bool false)], args := [d1, d2] }
  | _ => none }
def FnEachExtensionSplitsIntoPairsAndJoinsWrongFalsely : Prop := fnEachExtensionSplitsIntoPairsAndJoinsRow.holds Try.pinned (OpenSpec.ofChange fnEachExtensionSplitsIntoPairsAndJoinsWrong)

/-- 'zzlaws_root_b1.FnEachExtensionPairsOneMoreWord': WHATEVER THE INPUT: true; the input reads as it did. -/
def fnEachExtensionPairsOneMoreWordSpec : ChangeSpec := { name := "fnEachExtensionPairsOneMoreWord", fn := fun _ => fun
  | [d1, d2] => { results := [.lit (.bool true)], args := [d1, d2] }
  | _ => none }
def fnEachExtensionPairsOneMoreWordRow : OpenClaim := { program := "qxb6614064a", sum := "5ec71fb5115668e87ce793cfcf0eb269783fe0f0c2521e761702f74592c3e423", func := "example.com/descant/descant/zzlaws_root_b1.FnEachExtensionPairsOneMoreWord", spec := "fnEachExtensionPairsOneMoreWord", unfollowed := true, recurses := true, apart := false }
def FnEachExtensionPairsOneMoreWordSaid : Prop := fnEachExtensionPairsOneMoreWordRow.holds Try.pinned (OpenSpec.ofChange fnEachExtensionPairsOneMoreWordSpec)

/-- ITS FALSE NEIGHBOUR: 'it returns false'. Refute it at one input. -/
def fnEachExtensionPairsOneMoreWordWrong : ChangeSpec := { name := "fnEachExtensionPairsOneMoreWord", fn := fun _ => fun
  | [d1, d2] => { results := [.lit (.bool false)], args := [d1, d2] }
  | _ => none }
def FnEachExtensionPairsOneMoreWordWrongFalsely : Prop := fnEachExtensionPairsOneMoreWordRow.holds Try.pinned (OpenSpec.ofChange fnEachExtensionPairsOneMoreWordWrong)

end Rows
end Go.Proofs.Qxb6614064a
