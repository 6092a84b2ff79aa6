/-
  No cell of these rows narrows 'for every input' (looked for: loops, veiled, ifaces, maps, wideKeys, modest, calm, conditions, laid).
  DERIVED. THE GIVEN ROWS OF THIS SEAT. 2 by the template 'for every input the law returns true; each argument reads behind the call as it read before'; 0 by the template 'total and deterministic' (their statements: Qxb6628736aTotals.lean).
  GIVEN WITH THE SEED: the statements are not yours to turn. If you find one false, say at which input.
  Laid BY PROGRAM, IN A SANDBOX (cutbox-rows.mjs): the forced cells as the released guide's own fill.sh prints them over the translation 564facfb92835f29… (all of the seat's roots in one cut). By AI agents, Wed Nov 11 2026. No macro, syntax, notation, axiom, sorry.
-/
import Derived.Test.Qxb6628736aChecked
import GoSem.Claim
import GoSem.ClaimJoined
import GoSem.ClaimMapViews
import Derived.JoinedTies
import Derived.KernelRfl
namespace Go.Proofs.Qxb6628736a
/- THE CELL 'sum', in the pinned program and in every row, IS THE sha256 OF THE DUMP (.gsa) THAT Qxb6628736aProg.lean LOADS. Nothing in Lean hashes anything: it is a label: what it is worth is what the hold of that sum in a sandbox is worth. -/
noncomputable def Try.pinned : Pinned := { name := "qxb6628736a", sum := "564facfb92835f29ae5a36e7accd162d4229038b7cb39229d08588b105d3f4c1", checked := Try.checked }
namespace Rows
def none {H : Type} : Left H := { results := [], args := [] }

/-- 'zzlaws_internal_wire_b1.FnAppendCountsCutAndDecode': WHATEVER THE INPUT: true; the input reads as it did. -/
def fnAppendCountsCutAndDecodeSpec : ChangeSpec := { name := "fnAppendCountsCutAndDecode", fn := fun _ => fun
  | [d1, d2, d3, d4] => { results := [.lit (.bool true)], args := [d1, d2, d3, d4] }
  | _ => none }
def fnAppendCountsCutAndDecodeRow : OpenClaim := { program := "qxb6628736a", sum := "564facfb92835f29ae5a36e7accd162d4229038b7cb39229d08588b105d3f4c1", func := "example.com/tocsin/tocsin/zzlaws_internal_wire_b1.FnAppendCountsCutAndDecode", spec := "fnAppendCountsCutAndDecode", apart := false }
def FnAppendCountsCutAndDecodeSaid : Prop := fnAppendCountsCutAndDecodeRow.holds Try.pinned (OpenSpec.ofChange fnAppendCountsCutAndDecodeSpec)

/-- ITS FALSE NEIGHBOUR: 'it returns false'. Refute it at one input. -/
def fnAppendCountsCutAndDecodeWrong : ChangeSpec := { name := "fnAppendCountsCutAndDecode", fn := fun _ => fun
  | [d1, d2, d3, d4] => { results := [.lit (.bool false)], args := [d1, d2, d3, d4] }
  | _ => none }
def FnAppendCountsCutAndDecodeWrongFalsely : Prop := fnAppendCountsCutAndDecodeRow.holds Try.pinned (OpenSpec.ofChange fnAppendCountsCutAndDecodeWrong)

/-- 'zzlaws_internal_wire_b1.FnAppendCountsSkipIsRemoval': WHATEVER THE INPUT: true; the input reads as it did. -/
def fnAppendCountsSkipIsRemovalSpec : ChangeSpec := { name := "fnAppendCountsSkipIsRemoval", fn := fun _ => fun
  | [d1, d2, d3] => { results := [.lit (.bool true)], args := [d1, d2, d3] }
  | _ => none }
def fnAppendCountsSkipIsRemovalRow : OpenClaim := { program := "qxb6628736a", sum := "564facfb92835f29ae5a36e7accd162d4229038b7cb39229d08588b105d3f4c1", func := "example.com/tocsin/tocsin/zzlaws_internal_wire_b1.FnAppendCountsSkipIsRemoval", spec := "fnAppendCountsSkipIsRemoval", apart := false }
def FnAppendCountsSkipIsRemovalSaid : Prop := fnAppendCountsSkipIsRemovalRow.holds Try.pinned (OpenSpec.ofChange fnAppendCountsSkipIsRemovalSpec)

/-- ITS FALSE NEIGHBOUR: 'it returns false'. Refute it at one input. -/
def fnAppendCountsSkipIsRemovalWrong : ChangeSpec := { name := "fnAppendCountsSkipIsRemoval", fn := fun _ => fun
  | [d1, d2, d3] => { results := [.lit (.bool false)], args := [d1, d2, d3] }
  | _ => none }
def FnAppendCountsSkipIsRemovalWrongFalsely : Prop := fnAppendCountsSkipIsRemovalRow.holds Try.pinned (OpenSpec.ofChange fnAppendCountsSkipIsRemovalWrong)

end Rows
end Go.Proofs.Qxb6628736a
