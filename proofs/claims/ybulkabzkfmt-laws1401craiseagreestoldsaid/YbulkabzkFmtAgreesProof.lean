/- LawS1401CRaiseAgrees: the last step. -/
import Derived.Test.YbulkabzkFmtBuild
import Derived.Test.YbulkabzkFmtAgreesRow
namespace Go.Proofs.YbulkabzkFmt

theorem agrees_proved : Rows.LawS1401CRaiseAgreesToldSaid := agrees_of build_any

end Go.Proofs.YbulkabzkFmt
