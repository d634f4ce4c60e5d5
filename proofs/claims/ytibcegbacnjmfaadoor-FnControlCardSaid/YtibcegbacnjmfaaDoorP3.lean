/-
  Plain Lean: where a scheme ends.
-/
import Derived.Test.YtibcegbacnjmfaaDoorP2
namespace NU
set_option linter.unusedVariables false
set_option linter.unusedSimpArgs false
theorem gsc_nil (i : Nat) : gsc i [] = -1 := rfl
theorem gsc_alpha {c : UInt8} (i : Nat) (r : Bytes) (h : isAlpha c = true) : gsc i (c :: r) = gsc (i + 1) r := by rw [gsc, if_pos h]
theorem gsc_digit {c : UInt8} (i : Nat) (r : Bytes) (h : isAlpha c = false) (h' : (isDigit c || mem [43, 45, 46] c) = true) (hi : i ≠ 0) : gsc i (c :: r) = gsc (i + 1) r := by
  rw [gsc, if_neg (by simp [h]), if_pos h', if_neg hi]
theorem gsc_digit0 {c : UInt8} (r : Bytes) (h : isAlpha c = false) (h' : (isDigit c || mem [43, 45, 46] c) = true) : gsc 0 (c :: r) = -1 := by
  rw [gsc, if_neg (by simp [h]), if_pos h', if_pos rfl]
theorem gsc_colon (i : Nat) (r : Bytes) (hi : i ≠ 0) : gsc i (58 :: r) = i := by
  rw [gsc, if_neg (by decide), if_neg (by decide), if_pos rfl, if_neg hi]
theorem gsc_colon0 (r : Bytes) : gsc 0 (58 :: r) = -2 := by
  rw [gsc, if_neg (by decide), if_neg (by decide), if_pos rfl, if_pos rfl]
theorem gsc_other {c : UInt8} (i : Nat) (r : Bytes) (h : isAlpha c = false) (h' : (isDigit c || mem [43, 45, 46] c) = false) (hc : c ≠ 58) : gsc i (c :: r) = -1 := by
  rw [gsc, if_neg (by simp [h]), if_neg (by simp at h'; simp [h']), if_neg hc]
end NU
