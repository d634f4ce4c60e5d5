import Derived.Test.YtlholchmgheemaaDoorW4
import Derived.Test.YtlholchmgheemaaDoorP
namespace Go.Proofs.YtlholchmgheemaaDoor
set_option linter.unusedVariables false
set_option linter.unusedSimpArgs false
open Go.RowKit

end Go.Proofs.YtlholchmgheemaaDoor
