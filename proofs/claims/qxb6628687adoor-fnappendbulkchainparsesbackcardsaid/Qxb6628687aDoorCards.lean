/-
  DERIVED. GIVEN WITH THE SEED: THE CARDS: each row of Qxb6628687aDoorRows.lean that lists a variable, with what it lists TIED to the program's text (the seventh form; the later family's looks); each row that meets fmt, with fmt's text TOLD by the authors' own Lean function (tested against real Go, not proved from fmt's source: count such statements apart). THE CARD IS WHAT COUNTS. Prove the row's statement (the work); the ties are given (Qxb6628687aDoorTie.lean); close each card by the builder's one call (the guide's Derived/Test/ToyasCard.lean, 'card_holds'). Laid BY PROGRAM, IN A SANDBOX (cutbox-door.mjs). By AI agents, Wed Nov 11 2026. No macro, syntax, notation, axiom, sorry.
-/
import Derived.Test.Qxb6628687aDoorRows
import GoSem.ClaimSeven
namespace Go.Proofs.Qxb6628687aDoor
namespace Rows

/-- THE TIED CARD OF 'zzlaws_pkg_resp_b1.FnAppendBulkChainParsesBack'. -/
def fnAppendBulkChainParsesBackCard : Claim7 := { stood := { row := fnAppendBulkChainParsesBackRow, standIns := [], harness := (true, "df1c27f10727530fcd49b9b217402a196834f6a013d1792d5afc7e77d2a8a98a"), looks := false }, kinds := [], alts := [], laidByText := true, laidKinds := [.data, .data, .data], laidTests := true, laidLooks := .later }
def FnAppendBulkChainParsesBackCardSaid : Prop := Claim7.holds Tryd.pinned (.plain (OpenSpec.ofChange fnAppendBulkChainParsesBackSpec)) fnAppendBulkChainParsesBackCard

/-- THE TIED CARD OF 'zzlaws_pkg_resp_b1.FnAppendBulkContextFreeAndPrefixFree'. -/
def fnAppendBulkContextFreeAndPrefixFreeCard : Claim7 := { stood := { row := fnAppendBulkContextFreeAndPrefixFreeRow, standIns := [], harness := (true, "df1c27f10727530fcd49b9b217402a196834f6a013d1792d5afc7e77d2a8a98a"), looks := false }, kinds := [], alts := [], laidByText := true, laidKinds := [.data, .data, .data], laidTests := true, laidLooks := .later }
def FnAppendBulkContextFreeAndPrefixFreeCardSaid : Prop := Claim7.holds Tryd.pinned (.plain (OpenSpec.ofChange fnAppendBulkContextFreeAndPrefixFreeSpec)) fnAppendBulkContextFreeAndPrefixFreeCard
end Rows
end Go.Proofs.Qxb6628687aDoor
