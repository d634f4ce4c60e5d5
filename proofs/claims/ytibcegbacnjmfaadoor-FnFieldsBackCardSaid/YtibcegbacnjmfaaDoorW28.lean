import Derived.Test.YtibcegbacnjmfaaDoorRow
import Derived.Test.YtibcegbacnjmfaaDoorW14
import Derived.Test.YtibcegbacnjmfaaDoorP
import Derived.Lib.AppendStr
import Derived.Laws.OwnMore
namespace Go.Proofs.YtibcegbacnjmfaaDoor
set_option linter.unusedVariables false
set_option linter.unusedSimpArgs false
open Go.RowKit

set_option maxHeartbeats 400000 in
theorem LastIndex1_any (s : ByteArray) (c : UInt8) (w : World) (hs : s.size ≤ 35184372088832) :
    Calls Tryd.prog 66 #[.string s, .string ⟨#[c]⟩] w fun e w' => e = .returned (.int .i64 (NU.lastIdx c (L s))) ∧ w = w' := by
  go_enter Tryd.func66, Tryd.ntmps66
  go_wp2_with (go_at_call 78; refine (LastIndexByteString_any _ c _ hs).mono ?_; rintro e w' ⟨rfl, rfl⟩)
  go_ret
  exact ⟨rfl, rfl⟩
end Go.Proofs.YtibcegbacnjmfaaDoor
