/-
  No cell of these rows narrows 'for every input' (looked for: loops, veiled, ifaces, maps, wideKeys, modest, calm, conditions, laid).
  DERIVED. THE GIVEN ROWS OF THIS SEAT. 2 by the template 'for every input the law returns true; each argument reads behind the call as it read before'; 0 by the template 'total and deterministic' (their statements: Qxb6613861aTotals.lean).
  GIVEN WITH THE SEED: the statements are not yours to turn. If you find one false, say at which input.
  Laid BY PROGRAM, IN A SANDBOX (cutbox-rows.mjs): the forced cells as the released guide's own fill.sh prints them over the translation 68b6f81589328137… (all of the seat's roots in one cut). By AI agents, Wed Nov 11 2026. No macro, syntax, notation, axiom, sorry.
-/
import Derived.Test.Qxb6613861aChecked
import GoSem.Claim
import GoSem.ClaimJoined
import GoSem.ClaimMapViews
import Derived.JoinedTies
import Derived.KernelRfl
namespace Go.Proofs.Qxb6613861a
/- THE CELL 'sum', in the pinned program and in every row, IS THE sha256 OF THE DUMP (.gsa) THAT Qxb6613861aProg.lean LOADS. Nothing in Lean hashes anything: it is a label: what it is worth is what the hold of that sum in a sandbox is worth. -/
noncomputable def Try.pinned : Pinned := { name := "qxb6613861a", sum := "68b6f81589328137e08193f7af6117eb26066de8d1d406abb6d1d9514e3dfb9a", checked := Try.checked }
namespace Rows
def none {H : Type} : Left H := { results := [], args := [] }

/-- 'zzlaws_root_b1.FnSmGuaranteedIsLoyalDiameter': WHATEVER THE INPUT: true; the input reads as it did. -/
def fnSmGuaranteedIsLoyalDiameterSpec : ChangeSpec := { name := "fnSmGuaranteedIsLoyalDiameter", fn := fun _ => fun
  | [d1, d2, d3, d4, d5] => { results := [.lit (.bool true)], args := [d1, d2, d3, d4, d5] }
  | _ => none }
def fnSmGuaranteedIsLoyalDiameterRow : OpenClaim := { program := "qxb6613861a", sum := "68b6f81589328137e08193f7af6117eb26066de8d1d406abb6d1d9514e3dfb9a", func := "envoy-accord.example/accord/zzlaws_root_b1.FnSmGuaranteedIsLoyalDiameter", spec := "fnSmGuaranteedIsLoyalDiameter", apart := false }
def FnSmGuaranteedIsLoyalDiameterSaid : Prop := fnSmGuaranteedIsLoyalDiameterRow.holds Try.pinned (OpenSpec.ofChange fnSmGuaranteedIsLoyalDiameterSpec)

/-- ITS FALSE NEIGHBOUR: 'it returns false'. Refute it at one input. -/
def fnSmGuaranteedIsLoyalDiameterWrong : ChangeSpec := { name := "fnSmGuaranteedIsLoyalDiameter", fn := fun _ => fun
  | [d1, d2, d3, d4, d5] => { results := [.lit (.bool false)], args := [d1, d2, d3, d4, d5] }
  | _ => none }
def FnSmGuaranteedIsLoyalDiameterWrongFalsely : Prop := fnSmGuaranteedIsLoyalDiameterRow.holds Try.pinned (OpenSpec.ofChange fnSmGuaranteedIsLoyalDiameterWrong)

/-- 'zzlaws_root_b1.FnSmGuaranteedLeastRounds': WHATEVER THE INPUT: true; the input reads as it did. -/
def fnSmGuaranteedLeastRoundsSpec : ChangeSpec := { name := "fnSmGuaranteedLeastRounds", fn := fun _ => fun
  | [d1, d2, d3, d4] => { results := [.lit (.bool true)], args := [d1, d2, d3, d4] }
  | _ => none }
def fnSmGuaranteedLeastRoundsRow : OpenClaim := { program := "qxb6613861a", sum := "68b6f81589328137e08193f7af6117eb26066de8d1d406abb6d1d9514e3dfb9a", func := "envoy-accord.example/accord/zzlaws_root_b1.FnSmGuaranteedLeastRounds", spec := "fnSmGuaranteedLeastRounds", apart := false }
def FnSmGuaranteedLeastRoundsSaid : Prop := fnSmGuaranteedLeastRoundsRow.holds Try.pinned (OpenSpec.ofChange fnSmGuaranteedLeastRoundsSpec)

/-- ITS FALSE NEIGHBOUR: 'it returns false'. Refute it at one input. -/
def fnSmGuaranteedLeastRoundsWrong : ChangeSpec := { name := "fnSmGuaranteedLeastRounds", fn := fun _ => fun
  | [d1, d2, d3, d4] => { results := [.lit (.bool false)], args := [d1, d2, d3, d4] }
  | _ => none }
def FnSmGuaranteedLeastRoundsWrongFalsely : Prop := fnSmGuaranteedLeastRoundsRow.holds Try.pinned (OpenSpec.ofChange fnSmGuaranteedLeastRoundsWrong)

end Rows
end Go.Proofs.Qxb6613861a
