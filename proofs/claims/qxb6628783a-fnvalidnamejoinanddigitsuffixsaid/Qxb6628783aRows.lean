/-
  No cell of these rows narrows 'for every input' (looked for: loops, veiled, ifaces, maps, wideKeys, modest, calm, conditions, laid).
  DERIVED. THE GIVEN ROWS OF THIS SEAT. 2 by the template 'for every input the law returns true; each argument reads behind the call as it read before'; 0 by the template 'total and deterministic' (their statements: Qxb6628783aTotals.lean).
  GIVEN WITH THE SEED: the statements are not yours to turn. If you find one false, say at which input.
  Laid BY PROGRAM, IN A SANDBOX (cutbox-rows.mjs): the forced cells as the released guide's own fill.sh prints them over the translation 40130796d3b92768… (all of the seat's roots in one cut). By AI agents, Wed Nov 11 2026. No macro, syntax, notation, axiom, sorry.
-/
import Derived.Test.Qxb6628783aChecked
import GoSem.Claim
import GoSem.ClaimJoined
import GoSem.ClaimMapViews
import Derived.JoinedTies
import Derived.KernelRfl
namespace Go.Proofs.Qxb6628783a
/- THE CELL 'sum', in the pinned program and in every row, IS THE sha256 OF THE DUMP (.gsa) THAT Qxb6628783aProg.lean LOADS. Nothing in Lean hashes anything: it is a label: what it is worth is what the hold of that sum in a sandbox is worth. -/
noncomputable def Try.pinned : Pinned := { name := "qxb6628783a", sum := "40130796d3b9276874518566d495e28cb322d323b4e355a138795ae8db6adc6d", checked := Try.checked }
namespace Rows
def none {H : Type} : Left H := { results := [], args := [] }

/-- 'zzlaws_proto_b1.FnValidNameIsByteLocal': WHATEVER THE INPUT: true; the input reads as it did. -/
def fnValidNameIsByteLocalSpec : ChangeSpec := { name := "fnValidNameIsByteLocal", fn := fun _ => fun
  | [d] => { results := [.lit (.bool true)], args := [d] }
  | _ => none }
def fnValidNameIsByteLocalRow : OpenClaim := { program := "qxb6628783a", sum := "40130796d3b9276874518566d495e28cb322d323b4e355a138795ae8db6adc6d", func := "example.com/frond/frond/zzlaws_proto_b1.FnValidNameIsByteLocal", spec := "fnValidNameIsByteLocal", apart := false }
def FnValidNameIsByteLocalSaid : Prop := fnValidNameIsByteLocalRow.holds Try.pinned (OpenSpec.ofChange fnValidNameIsByteLocalSpec)

/-- ITS FALSE NEIGHBOUR: 'it returns false'. Refute it at one input. -/
def fnValidNameIsByteLocalWrong : ChangeSpec := { name := "fnValidNameIsByteLocal", fn := fun _ => fun
  | [d] => { results := [.lit (.bool false)], args := [d] }
  | _ => none }
def FnValidNameIsByteLocalWrongFalsely : Prop := fnValidNameIsByteLocalRow.holds Try.pinned (OpenSpec.ofChange fnValidNameIsByteLocalWrong)

/-- 'zzlaws_proto_b1.FnValidNameJoinAndDigitSuffix': WHATEVER THE INPUT: true; the input reads as it did. -/
def fnValidNameJoinAndDigitSuffixSpec : ChangeSpec := { name := "fnValidNameJoinAndDigitSuffix", fn := fun _ => fun
  | [d1, d2] => { results := [.lit (.bool true)], args := [d1, d2] }
  | _ => none }
def fnValidNameJoinAndDigitSuffixRow : OpenClaim := { program := "qxb6628783a", sum := "40130796d3b9276874518566d495e28cb322d323b4e355a138795ae8db6adc6d", func := "example.com/frond/frond/zzlaws_proto_b1.FnValidNameJoinAndDigitSuffix", spec := "fnValidNameJoinAndDigitSuffix", apart := false }
def FnValidNameJoinAndDigitSuffixSaid : Prop := fnValidNameJoinAndDigitSuffixRow.holds Try.pinned (OpenSpec.ofChange fnValidNameJoinAndDigitSuffixSpec)

/-- ITS FALSE NEIGHBOUR: 'it returns false'. Refute it at one input. -/
def fnValidNameJoinAndDigitSuffixWrong : ChangeSpec := { name := "fnValidNameJoinAndDigitSuffix", fn := fun _ => fun
  | [d1, d2] => { results := [.lit (.bool false)], args := [d1, d2] }
  | _ => none }
def FnValidNameJoinAndDigitSuffixWrongFalsely : Prop := fnValidNameJoinAndDigitSuffixRow.holds Try.pinned (OpenSpec.ofChange fnValidNameJoinAndDigitSuffixWrong)

end Rows
end Go.Proofs.Qxb6628783a
