import Derived.Test.YtibcegbacnjmfaaGreatDoorRow
import Derived.Test.YtibcegbacnjmfaaGreatDoorP
import Derived.Deep.RegionWith
import Derived.Deep.RegionLaw
import Derived.Laws.BitsLemmas
import Derived.Deep.DeepCutAuto
namespace Go.Proofs.YtibcegbacnjmfaaGreatDoor
set_option linter.unusedVariables false
set_option linter.unusedSimpArgs false
open Go.RowKit

end Go.Proofs.YtibcegbacnjmfaaGreatDoor
