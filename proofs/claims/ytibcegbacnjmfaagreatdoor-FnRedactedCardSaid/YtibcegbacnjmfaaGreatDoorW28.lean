import Derived.Test.YtibcegbacnjmfaaGreatDoorRow
import Derived.Test.YtibcegbacnjmfaaGreatDoorW14
import Derived.Test.YtibcegbacnjmfaaGreatDoorP
import Derived.Lib.AppendStr
import Derived.Laws.OwnMore
namespace Go.Proofs.YtibcegbacnjmfaaGreatDoor
set_option linter.unusedVariables false
set_option linter.unusedSimpArgs false
open Go.RowKit

set_option maxHeartbeats 400000 in
theorem LastIndex1_any (s : ByteArray) (c : UInt8) (w : World) (hs : s.size ≤ 35184372088832) :
    Calls Tryz.prog 70 #[.string s, .string ⟨#[c]⟩] w fun e w' => e = .returned (.int .i64 (NU.lastIdx c (L s))) ∧ w = w' := by
  go_enter Tryz.func70, Tryz.ntmps70
  go_wp2_with (go_at_call 82; refine (LastIndexByteString_any _ c _ hs).mono ?_; rintro e w' ⟨rfl, rfl⟩)
  go_ret
  exact ⟨rfl, rfl⟩
end Go.Proofs.YtibcegbacnjmfaaGreatDoor
