import Derived.Test.YtibcegbacnjmfaaDoorW3
import Derived.Test.YtibcegbacnjmfaaDoorP2
namespace Go.Proofs.YtibcegbacnjmfaaDoor
set_option linter.unusedVariables false
set_option linter.unusedSimpArgs false
open Go.RowKit

theorem empty_iff (s : ByteArray) : (s.toList = []) ↔ L s = [] := by rw [Lib.toList_data]
theorem size_take (s : ByteArray) (k : Nat) (h : k ≤ s.size) : (mk ((L s).take k)).size = k := by rw [mk_size, List.length_take, L_length]; omega
theorem mk_get (l : List UInt8) (k : Nat) (h : k < (mk l).size) : (mk l)[k] = l[k]'(by rw [mk_size] at h; exact h) := rfl

theorem min_drop (t : ByteArray) (i : Nat) (h : i ≤ t.size) : L (t.extract (if (t.size : Int) < (i : Int) + 1 then (t.size : Int) else (i : Int) + 1).toNat t.size) = (L t).drop (i + 1) := by
  rw [ext_from, L_mk]
  split
  · rw [show ((t.size : Int)).toNat = t.size by omega, drop_end t t.size (Nat.le_refl _), drop_end t (i + 1) (by omega)]
  · rw [show ((i : Int) + 1).toNat = i + 1 by omega]
theorem size_L {s : ByteArray} {l : List UInt8} (h : L s = l) : s.size = l.length := by rw [← L_length, h]

end Go.Proofs.YtibcegbacnjmfaaDoor
