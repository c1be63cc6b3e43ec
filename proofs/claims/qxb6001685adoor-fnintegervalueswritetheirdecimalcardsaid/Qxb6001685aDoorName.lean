import Derived.Test.Qxb6001685aDoorRows
namespace Go.Proofs.Qxb6001685aDoor

/-- The name of the table of the powers of ten, off the given row. -/
def powName : String := match Rows.fnIntegerValuesWriteTheirDecimalRow.named with
  | a :: _ => a
  | [] => ""

end Go.Proofs.Qxb6001685aDoor
