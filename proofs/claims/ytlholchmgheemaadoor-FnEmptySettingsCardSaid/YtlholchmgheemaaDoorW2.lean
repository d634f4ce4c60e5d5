import Derived.Test.YtlholchmgheemaaDoorW1
namespace Go.Proofs.YtlholchmgheemaaDoor
set_option linter.unusedVariables false
set_option linter.unusedSimpArgs false
open Go.RowKit

end Go.Proofs.YtlholchmgheemaaDoor
