import Derived.Test.YtibcegbacnjmfaaDoorW6
import Derived.Deep.RegionWith
namespace Go.Proofs.YtibcegbacnjmfaaDoor
set_option linter.unusedVariables false
set_option linter.unusedSimpArgs false
open Go.RowKit

end Go.Proofs.YtibcegbacnjmfaaDoor
