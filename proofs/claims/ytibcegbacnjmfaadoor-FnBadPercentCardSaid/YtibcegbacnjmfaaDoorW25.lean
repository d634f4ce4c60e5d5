import Derived.Test.YtibcegbacnjmfaaDoorBrow
import Derived.Test.YtibcegbacnjmfaaDoorW22
import Derived.Test.YtibcegbacnjmfaaDoorW23
namespace Go.Proofs.YtibcegbacnjmfaaDoor
set_option linter.unusedVariables false
set_option linter.unusedSimpArgs false
open Go.RowKit

theorem plus_step (s : ByteArray) (k : Nat) (h : k < s.size) : NU.plus ((L s).take (k + 1)) ++ (L s).drop (k + 1) = NU.plus ((L s).take k) ++ (if s[k] == 43 then 32 else s[k]) :: (L s).drop (k + 1) := by
  have e1 : (L s).take (k + 1) = (L s).take k ++ [s[k]] := by
    rw [List.take_succ_eq_append_getElem (by rw [L_length]; exact h)]; rfl
  rw [e1]; simp [NU.plus]
theorem plus_len (l : List UInt8) : (NU.plus l).length = l.length := by simp [NU.plus]

end Go.Proofs.YtibcegbacnjmfaaDoor
