/-
  No cell of these rows narrows 'for every input' (looked for: loops, veiled, ifaces, maps, wideKeys, modest, calm, conditions, laid).
  DERIVED. THE GIVEN ROWS OF THIS SEAT. 2 by the template 'for every input the law returns true; each argument reads behind the call as it read before'; 0 by the template 'total and deterministic' (their statements: Qxb6628763aTotals.lean).
  GIVEN WITH THE SEED: the statements are not yours to turn. If you find one false, say at which input.
  Laid BY PROGRAM, IN A SANDBOX (cutbox-rows.mjs): the forced cells as the released guide's own fill.sh prints them over the translation ca28174adeb02bb8… (all of the seat's roots in one cut). By AI agents, Wed Nov 11 2026. No macro, syntax, notation, axiom, sorry.
-/
import Derived.Test.Qxb6628763aChecked
import GoSem.Claim
import GoSem.ClaimJoined
import GoSem.ClaimMapViews
import Derived.JoinedTies
import Derived.KernelRfl
namespace Go.Proofs.Qxb6628763a
/- THE CELL 'sum', in the pinned program and in every row, IS THE sha256 OF THE DUMP (.gsa) THAT Qxb6628763aProg.lean LOADS. Nothing in Lean hashes anything: it is a label: what it is worth is what the hold of that sum in a sandbox is worth. -/
noncomputable def Try.pinned : Pinned := { name := "qxb6628763a", sum := "ca28174adeb02bb89ab3fdc53609585b6e6c1a90d83830cbaacf732f4a5419ea", checked := Try.checked }
namespace Rows
def none {H : Type} : Left H := { results := [], args := [] }

/-- 'zzlaws_internal_fields_b1.FnRemoveLeavesExactlyTheDifference': WHATEVER THE INPUT: true; the input reads as it did. -/
def fnRemoveLeavesExactlyTheDifferenceSpec : ChangeSpec := { name := "fnRemoveLeavesExactlyTheDifference", fn := fun _ => fun
  | [d1, d2] => { results := [.lit (.bool true)], args := [d1, d2] }
  | _ => none }
def fnRemoveLeavesExactlyTheDifferenceRow : OpenClaim := { program := "qxb6628763a", sum := "ca28174adeb02bb89ab3fdc53609585b6e6c1a90d83830cbaacf732f4a5419ea", func := "example.com/mangrove/mangrove/zzlaws_internal_fields_b1.FnRemoveLeavesExactlyTheDifference", spec := "fnRemoveLeavesExactlyTheDifference", recurses := true, apart := false }
def FnRemoveLeavesExactlyTheDifferenceSaid : Prop := fnRemoveLeavesExactlyTheDifferenceRow.holds Try.pinned (OpenSpec.ofChange fnRemoveLeavesExactlyTheDifferenceSpec)

/-- ITS FALSE NEIGHBOUR: 'it returns false'. Refute it at one input. -/
def fnRemoveLeavesExactlyTheDifferenceWrong : ChangeSpec := { name := "fnRemoveLeavesExactlyTheDifference", fn := fun _ => fun
  | [d1, d2] => { results := [.lit (.bool false)], args := [d1, d2] }
  | _ => none }
def FnRemoveLeavesExactlyTheDifferenceWrongFalsely : Prop := fnRemoveLeavesExactlyTheDifferenceRow.holds Try.pinned (OpenSpec.ofChange fnRemoveLeavesExactlyTheDifferenceWrong)

/-- 'zzlaws_internal_fields_b1.FnRemoveSparesItsArgumentAndEmptiesItself': WHATEVER THE INPUT: true; the input reads as it did. -/
def fnRemoveSparesItsArgumentAndEmptiesItselfSpec : ChangeSpec := { name := "fnRemoveSparesItsArgumentAndEmptiesItself", fn := fun _ => fun
  | [d1, d2] => { results := [.lit (.bool true)], args := [d1, d2] }
  | _ => none }
def fnRemoveSparesItsArgumentAndEmptiesItselfRow : OpenClaim := { program := "qxb6628763a", sum := "ca28174adeb02bb89ab3fdc53609585b6e6c1a90d83830cbaacf732f4a5419ea", func := "example.com/mangrove/mangrove/zzlaws_internal_fields_b1.FnRemoveSparesItsArgumentAndEmptiesItself", spec := "fnRemoveSparesItsArgumentAndEmptiesItself", recurses := true, apart := false }
def FnRemoveSparesItsArgumentAndEmptiesItselfSaid : Prop := fnRemoveSparesItsArgumentAndEmptiesItselfRow.holds Try.pinned (OpenSpec.ofChange fnRemoveSparesItsArgumentAndEmptiesItselfSpec)

/-- ITS FALSE NEIGHBOUR: 'it returns false'. Refute it at one input. -/
def fnRemoveSparesItsArgumentAndEmptiesItselfWrong : ChangeSpec := { name := "fnRemoveSparesItsArgumentAndEmptiesItself", fn := fun _ => fun
  | [d1, d2] => { results := [.lit (.bool false)], args := [d1, d2] }
  | _ => none }
def FnRemoveSparesItsArgumentAndEmptiesItselfWrongFalsely : Prop := fnRemoveSparesItsArgumentAndEmptiesItselfRow.holds Try.pinned (OpenSpec.ofChange fnRemoveSparesItsArgumentAndEmptiesItselfWrong)

end Rows
end Go.Proofs.Qxb6628763a
