import Derived.Test.Qxb6615721aFmtRows
namespace Go.Proofs.Qxb6615721aFmt

/-- The name of the table of powers of ten, as the rows list it. -/
def powName : String := (Rows.fnIsDigitAcceptsExactlyTheTenDigitsAppendWritesRow.named).headD ""

end Go.Proofs.Qxb6615721aFmt
