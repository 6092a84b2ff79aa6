/-
  SEAT b6628687aD. THE NAME OF THE TABLE OF POWERS OF TEN, read off the given row (so that no text of this seat writes it out).
-/
import Derived.Test.Qxb6628687aDoorRows
namespace Go.Proofs

/-- The first of the row's named variables. -/
abbrev Tryd.tabName : String := Qxb6628687aDoor.Rows.fnAppendBulkChainParsesBackRow.named.headD ""

end Go.Proofs
